import JvmDerived
import JvmDerived.Pilot.@@N@@Statement
import JvmDerived.Pilot.@@N@@Code
set_option linter.unusedVariables false
set_option linter.unusedSimpArgs false
namespace Jvm.RoadKit
open Sem ClassFile Op Lib Jvm.Stand Jvm.Free Jvm.LawKit
section New
variable {p : Program} {l : Launch} {e : Env} {R : Room} {s : State} {m : MethodId} {args : Array Value} {below : List Frame} {meth : Method} {c : Code} {T : State} {locs : List Loc} {cells slots : Nat}
theorem retI (X : Stand p l e R s m args below meth c T locs cells slots) (hx : p.tables.exec = Jvm.exec) {pc : Nat} {Ls : Array Slot} {z : Int32} {rest : List Value} (hret : meth.sig.returnType = some .int) (hd : decode c.code pc = .ok (.ireturn, 1)) {fs : List Frame}
    (hl : ∀ (f : JFrame) (acts : List Action), f.method = m → f.locked = none → f.entered = [] → (doReturn e (T.setTop f) acts (some (.int z))).1 = T.setFrames fs) : Steps p.tables e below (T.setTop (mkF m pc Ls (.int z :: rest))) (T.setFrames fs) := by
  have hm' : T.vm.method? m = some meth := X.method'
  have hn : narrow .int (.int z) = .int z := rfl
  show Steps p.tables e below (T.setTop { method := m, pc := pc, locals := Ls, stack := _ :: rest, locked := none }) _
  jvm_step X.here [X.here.top, hx, hd, hm', hret, hn]
  first | (intro acts; rw [hl _ acts rfl rfl rfl]) | rw [hl _ _ rfl rfl rfl]
  exact Steps.refl _
theorem retJ (X : Stand p l e R s m args below meth c T locs cells slots) (hx : p.tables.exec = Jvm.exec) {pc : Nat} {Ls : Array Slot} {z : Int64} {rest : List Value} (hret : meth.sig.returnType = some .long) (hd : decode c.code pc = .ok (.lreturn, 1)) {fs : List Frame}
    (hl : ∀ (f : JFrame) (acts : List Action), f.method = m → f.locked = none → f.entered = [] → (doReturn e (T.setTop f) acts (some (.long z))).1 = T.setFrames fs) : Steps p.tables e below (T.setTop (mkF m pc Ls (.long z :: rest))) (T.setFrames fs) := by
  have hm' : T.vm.method? m = some meth := X.method'
  have hn : narrow .long (.long z) = .long z := rfl
  show Steps p.tables e below (T.setTop { method := m, pc := pc, locals := Ls, stack := _ :: rest, locked := none }) _
  jvm_step X.here [X.here.top, hx, hd, hm', hret, hn]
  first | (intro acts; rw [hl _ acts rfl rfl rfl]) | rw [hl _ _ rfl rfl rfl]
  exact Steps.refl _
theorem retR (X : Stand p l e R s m args below meth c T locs cells slots) (hx : p.tables.exec = Jvm.exec) {pc : Nat} {Ls : Array Slot} {v : Value} {rest : List Value} (hv : v.isRef = true) {ty : FieldType} (hret : meth.sig.returnType = some ty) (ht : ty.isReference = true) (hd : decode c.code pc = .ok (.areturn, 1)) {fs : List Frame}
    (hl : ∀ (f : JFrame) (acts : List Action), f.method = m → f.locked = none → f.entered = [] → (doReturn e (T.setTop f) acts (some v)).1 = T.setFrames fs) : Steps p.tables e below (T.setTop (mkF m pc Ls (v :: rest))) (T.setFrames fs) := by
  have hm' : T.vm.method? m = some meth := X.method'
  show Steps p.tables e below (T.setTop { method := m, pc := pc, locals := Ls, stack := _ :: rest, locked := none }) _
  jvm_step X.here [X.here.top, hx, hd, hm', hret, hv, ht]
  first | (intro acts; rw [hl _ acts rfl rfl rfl]) | rw [hl _ _ rfl rfl rfl]
  exact Steps.refl _
end New
end Jvm.RoadKit
namespace Jvm.Pilot.@@N@@
open Jvm Jvm.ClassFile Sem Op Lib Jvm.Free Jvm.Stand Jvm.LawKit Jvm.RoadKit Bundle Jvm.Pilot.@@N@@.Jvm.D
/-- from the state 'cur' on is enough -/
def own_Pre (p : Program) (e : Env) (below : List Frame) (start cur : State) : Prop := ∀ t, Steps p.tables e below cur t → Steps p.tables e below start t
/-- an array of ints (bytes, chars, booleans): its length z, its components ws (at least so many) -/
def own_AI (Z : State) (h : Heap) (a : Addr) (k : ClassId) (ty : FieldType) (z : Int32) (ws : List Int32) : Prop := Arv Z h a k ty z (ws.map Value.int) (.int 0) ∧ z.toNatClampNeg ≤ ws.length
def own_AJ (Z : State) (h : Heap) (a : Addr) (k : ClassId) (ty : FieldType) (z : Int32) (ws : List Int64) : Prop := Arv Z h a k ty z (ws.map Value.long) (.long 0) ∧ z.toNatClampNeg ≤ ws.length
section OwnA
variable {Z : State} {h h' : Heap} {a b : Addr} {k : ClassId} {ty : FieldType} {z : Int32} {ws : List Int32} {wl : List Int64} {sl : Nat} {v : Value} {L : List Addr}
theorem own_AI.lt (F : own_AI Z h a k ty z ws) : a < h.size := Arv.lt F.1
theorem own_AI.ext (F : own_AI Z h a k ty z ws) (E : Ext h h') : own_AI Z h' a k ty z ws := ⟨Arv.ext F.1 E, F.2⟩
theorem own_AI.other (F : own_AI Z h b k ty z ws) (W : Wr h h' a sl v) (q : b ≠ a) : own_AI Z h' b k ty z ws := ⟨Arv.other F.1 W q, F.2⟩
theorem own_AI.keep (F : own_AI Z h a k ty z ws) (K : Keep h h' L) (q : a ∉ L) : own_AI Z h' a k ty z ws := ⟨Arv.keep F.1 K q, F.2⟩
theorem own_AJ.lt (F : own_AJ Z h a k ty z wl) : a < h.size := Arv.lt F.1
theorem own_AJ.ext (F : own_AJ Z h a k ty z wl) (E : Ext h h') : own_AJ Z h' a k ty z wl := ⟨Arv.ext F.1 E, F.2⟩
theorem own_AJ.other (F : own_AJ Z h b k ty z wl) (W : Wr h h' a sl v) (q : b ≠ a) : own_AJ Z h' b k ty z wl := ⟨Arv.other F.1 W q, F.2⟩
theorem own_AJ.keep (F : own_AJ Z h a k ty z wl) (K : Keep h h' L) (q : a ∉ L) : own_AJ Z h' a k ty z wl := ⟨Arv.keep F.1 K q, F.2⟩
theorem own_AI.new (n : Nat) (A : Arr Z h a (newA k ty z) ty) (q : ¬ z < 0) (hn : z.toNatClampNeg ≤ n) (hd : defaultValue ty = .int 0) : own_AI Z h a k ty z (List.replicate n (0 : Int32)) := by
  have := Arv.new A q
  rw [hd] at this
  have r := this.pad (pad_rep [] (.int 0) n)
  exact ⟨by simpa [List.map_replicate] using r, by simpa using hn⟩
theorem own_AJ.new (n : Nat) (A : Arr Z h a (newA k ty z) ty) (q : ¬ z < 0) (hn : z.toNatClampNeg ≤ n) (hd : defaultValue ty = .long 0) : own_AJ Z h a k ty z (List.replicate n (0 : Int64)) := by
  have := Arv.new A q
  rw [hd] at this
  have r := this.pad (pad_rep [] (.long 0) n)
  exact ⟨by simpa [List.map_replicate] using r, by simpa using hn⟩
theorem own_getI (ws : List Int32) (i : Nat) : (ws.map Value.int).getD i (.int 0) = .int (ws.getD i 0) := by
  simp only [List.getD_eq_getElem?_getD, List.getElem?_map]
  cases ws[i]? <;> rfl
theorem own_getJ (ws : List Int64) (i : Nat) : (ws.map Value.long).getD i (.long 0) = .long (ws.getD i 0) := by
  simp only [List.getD_eq_getElem?_getD, List.getElem?_map]
  cases ws[i]? <;> rfl
theorem own_AI.at (F : own_AI Z h a k ty z ws) {j : Int32} (q : ¬ j < 0 ∧ j < z) : ∃ cl : Cell, Arr Z h a cl ty ∧ ¬ (j < 0 ∨ cl.slots.size ≤ j.toNatClampNeg) ∧ cl.slots[j.toNatClampNeg]? = some (.int (ws.getD j.toNatClampNeg 0)) := by
  obtain ⟨⟨cl, A, -, S, -, H, -⟩, -⟩ := F
  have hin := inb_of S q
  exact ⟨cl, A, hin, H.at hin (own_getI _ _)⟩
theorem own_AJ.at (F : own_AJ Z h a k ty z wl) {j : Int32} (q : ¬ j < 0 ∧ j < z) : ∃ cl : Cell, Arr Z h a cl ty ∧ ¬ (j < 0 ∨ cl.slots.size ≤ j.toNatClampNeg) ∧ cl.slots[j.toNatClampNeg]? = some (.long (wl.getD j.toNatClampNeg 0)) := by
  obtain ⟨⟨cl, A, -, S, -, H, -⟩, -⟩ := F
  have hin := inb_of S q
  exact ⟨cl, A, hin, H.at hin (own_getJ _ _)⟩
theorem own_AI.arr (F : own_AI Z h a k ty z ws) {j : Int32} (q : ¬ j < 0 ∧ j < z) : ∃ cl : Cell, Arr Z h a cl ty ∧ ¬ (j < 0 ∨ cl.slots.size ≤ j.toNatClampNeg) ∧ ∀ (h' : Heap) (x : Int32), fits ty (.int x) = true → Wr h h' a j.toNatClampNeg (.int x) → own_AI Z h' a k ty z (ws.set j.toNatClampNeg x) := by
  obtain ⟨⟨cl, A, q1, S, q3, H, G⟩, ln⟩ := F
  have hin := inb_of S q
  refine ⟨cl, A, hin, fun h' x hv W => ?_⟩
  have hl : j.toNatClampNeg < ws.length := by
    rcases Nat.lt_or_ge j.toNatClampNeg ws.length with u | u
    · exact u
    · exact absurd (Or.inr (by omega)) hin
  have := Arv.set A q1 S q3 H G hv W _ rfl (by simpa using hl)
  rw [← List.map_set] at this
  exact ⟨this, by simpa using ln⟩
theorem own_AJ.arr (F : own_AJ Z h a k ty z wl) {j : Int32} (q : ¬ j < 0 ∧ j < z) : ∃ cl : Cell, Arr Z h a cl ty ∧ ¬ (j < 0 ∨ cl.slots.size ≤ j.toNatClampNeg) ∧ ∀ (h' : Heap) (x : Int64), fits ty (.long x) = true → Wr h h' a j.toNatClampNeg (.long x) → own_AJ Z h' a k ty z (wl.set j.toNatClampNeg x) := by
  obtain ⟨⟨cl, A, q1, S, q3, H, G⟩, ln⟩ := F
  have hin := inb_of S q
  refine ⟨cl, A, hin, fun h' x hv W => ?_⟩
  have hl : j.toNatClampNeg < wl.length := by
    rcases Nat.lt_or_ge j.toNatClampNeg wl.length with u | u
    · exact u
    · exact absurd (Or.inr (by omega)) hin
  have := Arv.set A q1 S q3 H G hv W _ rfl (by simpa using hl)
  rw [← List.map_set] at this
  exact ⟨this, by simpa using ln⟩
theorem own_AI.len (F : own_AI Z h a k ty z ws) : ∃ cl : Cell, Arr Z h a cl ty ∧ cl.slots.size = z.toNatClampNeg ∧ ¬ z < 0 := by
  obtain ⟨⟨cl, A, -, S, q3, -, -⟩, -⟩ := F
  exact ⟨cl, A, S, q3⟩
theorem own_AJ.len (F : own_AJ Z h a k ty z wl) : ∃ cl : Cell, Arr Z h a cl ty ∧ cl.slots.size = z.toNatClampNeg ∧ ¬ z < 0 := by
  obtain ⟨⟨cl, A, -, S, q3, -, -⟩, -⟩ := F
  exact ⟨cl, A, S, q3⟩
end OwnA
/-- a private method selects itself, where another method of its class is known to be no interface's -/
theorem own_selp {s : State} {args args' : Array Value} {y z : MethodName} (hz : (Cond.selects z.cls z z).before args s = true) (hc : z.cls = y.cls) (hpriv : s.PrivateAt y) (hinst : (Cond.instanceMethod y).before args s = true) (hy : y.cls ≠ "java/lang/invoke/MethodHandle" ∧ y.cls ≠ "java/lang/invoke/VarHandle") : (Cond.selects y.cls y y).before args s = true := by
  obtain ⟨c2, r2, m2, -, -, q3, -, kP, hkP, hkPi⟩ := Cond.selects_spec hz
  have hf := findClass_of_methodNamed q3
  rw [hc] at hf
  exact selects_self_of_private hf hkP hkPi hpriv hinst hy
/-- what holds of every byte -/
theorem own_bytes {P : Int32 → Prop} (H : ∀ i : Fin 256, P (Int32.ofInt ((i.1 : Int) - 128))) (x : Int32) : P x.toInt8.toInt32 := by
  obtain ⟨-, h1, h2⟩ := c_i2b x
  have e : x.toInt8.toInt32 = Int32.ofInt (((⟨(x.toInt8.toInt32.toInt + 128).toNat, by omega⟩ : Fin 256).1 : Int) - 128) := by
    apply Int32.toInt_inj.mp
    show _ = (Int32.ofInt (((x.toInt8.toInt32.toInt + 128).toNat : Int) - 128)).toInt
    rw [Int32.toInt_ofInt_of_le (by omega) (by omega)]
    omega
  rw [e]
  exact H _


theorem d1_0 : decode prog_53_method_1_code 0 = .ok (.aload_n 0, 1) := by decide +kernel
theorem d1_1 : decode prog_53_method_1_code 1 = .ok (.invokespecial 1, 3) := by decide +kernel
theorem d1_4 : decode prog_53_method_1_code 4 = .ok (.iload_n 1, 1) := by decide +kernel
theorem d1_5 : decode prog_53_method_1_code 5 = .ok (.ifCond .ge 17, 3) := by decide +kernel
theorem d1_22 : decode prog_53_method_1_code 22 = .ok (.lload_n 2, 1) := by decide +kernel
theorem d1_23 : decode prog_53_method_1_code 23 = .ok (.lconst 0, 1) := by decide +kernel
theorem d1_24 : decode prog_53_method_1_code 24 = .ok (.lcmp, 1) := by decide +kernel
theorem d1_25 : decode prog_53_method_1_code 25 = .ok (.ifCond .ge 17, 3) := by decide +kernel
theorem d1_42 : decode prog_53_method_1_code 42 = .ok (.aload_n 0, 1) := by decide +kernel
theorem d1_43 : decode prog_53_method_1_code 43 = .ok (.iload_n 1, 1) := by decide +kernel
theorem d1_44 : decode prog_53_method_1_code 44 = .ok (.putfield 19, 3) := by decide +kernel
theorem d1_47 : decode prog_53_method_1_code 47 = .ok (.aload_n 0, 1) := by decide +kernel
theorem d1_48 : decode prog_53_method_1_code 48 = .ok (.lload_n 2, 1) := by decide +kernel
theorem d1_49 : decode prog_53_method_1_code 49 = .ok (.putfield 25, 3) := by decide +kernel
theorem d1_52 : decode prog_53_method_1_code 52 = .ok (.return_, 1) := by decide +kernel
theorem pn_0 : plainName "dev/stint/http/RetryPolicy" = true := by first | (simp [plainName, overriddenIn]; done) | decide +kernel
theorem ef_1 (m : MethodId) (a0 : Addr) (p1 : Int32) (q2 : Int64) : entryFrame m #[(.ref a0), (.int p1), (.long q2)] 4 = mkF m 0 #[.val (.ref a0), .val (.int p1), .val (.long q2), .second] [] := by first | (simp [entryFrame, mkF, argsToLocals, Value.category]; done) | rfl
def Q1 (Z : State) (a0 : Addr) (p1 : Int32) (q2 : Int64) (h0 : Heap) (n0 : Nat) (v : Option Value) (h : Heap) (L : List Loc) : Prop := v = none ∧ Fr n0 L ∧ Keep h0 h [a0] ∧ Exa Z h a0 "dev/stint/http/RetryPolicy" ∧ Fld Z h a0 "dev/stint/http/RetryPolicy" "backoffMillis" "J" (.long q2)
set_option maxRecDepth 65536 in
set_option maxHeartbeats 40000000 in
theorem rm1 (l : Launch) (Z : State) (aw : Array Value) (hw : ∀ d ∈ tables_1, d.before aw Z = true) (wq : List Jvm.Cond) (a0 : Addr) (p1 : Int32) (q2 : Int64) (h0 : Heap) (n0 : Nat) (Z0 : n0 ≤ h0.size) (E_a0 : Exa Z h0 a0 "dev/stint/http/RetryPolicy") (F_a0_retries : Fld Z h0 a0 "dev/stint/http/RetryPolicy" "retries" "I" (.int (0 : Int32))) (F_a0_backoffMillis : Fld Z h0 a0 "dev/stint/http/RetryPolicy" "backoffMillis" "J" (.long (0 : Int64))) (g_a0 : n0 ≤ a0) (hp : ¬ p1 < (0 : Int32)) (hq : ¬ q2 < (0 : Int64)) :
    MetFree l (⟨"dev/stint/http/RetryPolicy", "<init>", "(IJ)V"⟩ : MethodName) (head1 (Jvm.Cond.code (⟨"dev/stint/http/RetryPolicy", "<init>", "(IJ)V"⟩ : MethodName) prog_53_method_1_code 4 none :: wq) ({ frames := 1, cells := 0, slots := 0, locals := 12 } : Room)) (fun a U => a = #[(.ref a0), (.int p1), (.long q2)] ∧ Z.Warmed39 U.vm ∧ U.heap = h0) (fun _ _ _ _ _ => True) (fun _ U o U' => ∃ v L, o = .returned v ∧ Q1 Z a0 p1 q2 h0 n0 v U'.heap L ∧ FrameEnd U o U' L ({ frames := 1, cells := 0, slots := 0, locals := 12 } : Room).cells ({ frames := 1, cells := 0, slots := 0, locals := 12 } : Room).slots) := by
  refine MetFree.of_bodySF (plainFor_of_name pn_0) hisR ?_
  intro p e s m args below meth c s₁ Bd hml0 hP hK
  obtain ⟨rfl, hZ, hh⟩ := hP
  have hx := Bd.exec
  have hby := Bd.bytes
  have hml : c.maxLocals = 4 := hml0
  have hown : s.vm.findClass "dev/stint/http/RetryPolicy" = some m.cls := findClass_of_methodNamed Bd.named
  have hnm := (name_of_methodNamed Bd.named Bd.method).1
  have X0 : Stand p l e ({ frames := 1, cells := 0, slots := 0, locals := 12 } : Room) s m #[(.ref a0), (.int p1), (.long q2)] below meth c s₁ [] 0 0 := Stand.of_body Bd
  have e0 : s₁.heap = h0 := by rw [← hh, Bd.state]; rfl
  have N0 := Fr.nil n0
  have pre0 : own_Pre p e below (s₁.setTop (entryFrame m #[(.ref a0), (.int p1), (.long q2)] 4)) (s₁.setTop (mkF m 0 #[.val (.ref a0), .val (.int p1), .val (.long q2), .second] [])) := fun t k => castTop (ef_1 m a0 p1 q2) k
  obtain ⟨T1, X1, e1, st1⟩ := initO X0 hx hZ hown (hw _ (List.mem_of_getElem? (i := 8) rfl)) (hw _ (List.mem_of_getElem? (i := 9) rfl)) (hw _ (List.mem_of_getElem? (i := 10) rfl)) e0 (g := (mkF m 1 #[.val (.ref a0), .val (.int p1), .val (.long q2), .second] [(.ref a0)])) rfl (by rw [hml]; rfl) rfl (hb hby d1_1) (by decide) (W := 0) (by show 2 * 0 + _ ≤ _; exact Nat.le_of_eq rfl) (by decide)
  have hc5 : ¬ (p1 < (0 : Int32)) := hp
  have hc25 : ¬ (q2 < (0 : Int64)) := hq
  obtain ⟨T2, h2, X2, e2, W2, st2⟩ := putF X1 hx hZ hown (host := "") (Or.inl (hw _ (List.mem_of_getElem? (i := 11) rfl))) Via.refl e1 F_a0_retries E_a0 (Or.inr ⟨(hw _ (List.mem_of_getElem? (i := 12) rfl)), rfl, hnm⟩) (hw _ (List.mem_of_getElem? (i := 3) rfl)) (ty := .int) (by decide) rfl rfl (g := (mkF m 44 #[.val (.ref a0), .val (.int p1), .val (.long q2), .second] [(.int p1), (.ref a0)])) rfl rfl (hb hby d1_44)
  have Fw2 := F_a0_retries.same W2
  have N2 := Fr.snoc X2 N0 g_a0
  have kp3 : Keep h0 h2 [a0] := (Keep.refl h0 [a0]).wr W2 (Or.inl (List.mem_of_getElem? (i := 0) rfl))
  have f4 := (E_a0.wr W2)
  have f5 := (F_a0_backoffMillis.other W2 (Or.inr (slot_ne (Or.inr (hw _ (List.mem_of_getElem? (i := 14) rfl))) (Or.inr (hw _ (List.mem_of_getElem? (i := 12) rfl))) (by decide) (t := .long) (t' := .int) (by decide) (by decide))))
  obtain ⟨T6, h6, X6, e6, W6, st6⟩ := putF X2 hx hZ hown (host := "") (Or.inl (hw _ (List.mem_of_getElem? (i := 13) rfl))) Via.refl e2 f5 f4 (Or.inr ⟨(hw _ (List.mem_of_getElem? (i := 14) rfl)), rfl, hnm⟩) (hw _ (List.mem_of_getElem? (i := 3) rfl)) (ty := .long) (by decide) rfl rfl (g := (mkF m 49 #[.val (.ref a0), .val (.int p1), .val (.long q2), .second] [(.long q2), (.ref a0)])) rfl rfl (hb hby d1_49)
  have Fw6 := f5.same W6
  have N6 := Fr.snoc X6 N2 g_a0
  have kp7 : Keep h0 h6 [a0] := kp3.wr W6 (Or.inl (List.mem_of_getElem? (i := 0) rfl))
  obtain ⟨fs, hr, hrun, hended, hW, hsame⟩ := X6.leave (v := none) (fun _ => rfl)
  refine ⟨_, _, pre0 _ ?_, hrun, hended, _, _, rfl, ?_, ⟨_, rfl⟩, hW, hsame.mono (by decide) (by decide)⟩
  · show Steps p.tables e below (s₁.setTop (mkF m 0 #[.val (.ref a0), .val (.int p1), .val (.long q2), .second] [])) _
    refine XS.aloadN X0.here hx rfl (hb hby d1_0) rfl rfl ?_
    show Steps p.tables e below (s₁.setTop (mkF m 1 #[.val (.ref a0), .val (.int p1), .val (.long q2), .second] [(.ref a0)])) _
    refine st1 _ ?_
    show Steps p.tables e below (T1.setTop (mkF m 4 #[.val (.ref a0), .val (.int p1), .val (.long q2), .second] [])) _
    refine XS.iloadN X1.here hx rfl (hb hby d1_4) rfl ?_
    show Steps p.tables e below (T1.setTop (mkF m 5 #[.val (.ref a0), .val (.int p1), .val (.long q2), .second] [(.int p1)])) _
    refine XS.ifYes X1.here hx rfl (pc0 := 5) (pc' := 22) rfl (hb hby d1_5) rfl ((if0 _ _).trans (flt hc5).2.1) (by decide) (by decide) ?_
    show Steps p.tables e below (T1.setTop (mkF m 22 #[.val (.ref a0), .val (.int p1), .val (.long q2), .second] [])) _
    refine XS.lloadN X1.here hx rfl (hb hby d1_22) rfl ?_
    show Steps p.tables e below (T1.setTop (mkF m 23 #[.val (.ref a0), .val (.int p1), .val (.long q2), .second] [(.long q2)])) _
    refine XS.lconst X1.here hx rfl (hb hby d1_23) ?_
    show Steps p.tables e below (T1.setTop (mkF m 24 #[.val (.ref a0), .val (.int p1), .val (.long q2), .second] [(.long (0 : Int64)), (.long q2)])) _
    refine XS.lcmp X1.here hx rfl (hb hby d1_24) rfl ?_
    show Steps p.tables e below (T1.setTop (mkF m 25 #[.val (.ref a0), .val (.int p1), .val (.long q2), .second] [(.int (lcmpW q2 (0 : Int64)))])) _
    refine XS.ifYes X1.here hx rfl (pc0 := 25) (pc' := 42) rfl (hb hby d1_25) rfl ((if0 _ _).trans (flt (mt (lw_lt _ _).mp hc25)).2.1) (by decide) (by decide) ?_
    show Steps p.tables e below (T1.setTop (mkF m 42 #[.val (.ref a0), .val (.int p1), .val (.long q2), .second] [])) _
    refine XS.aloadN X1.here hx rfl (hb hby d1_42) rfl rfl ?_
    show Steps p.tables e below (T1.setTop (mkF m 43 #[.val (.ref a0), .val (.int p1), .val (.long q2), .second] [(.ref a0)])) _
    refine XS.iloadN X1.here hx rfl (hb hby d1_43) rfl ?_
    show Steps p.tables e below (T1.setTop (mkF m 44 #[.val (.ref a0), .val (.int p1), .val (.long q2), .second] [(.int p1), (.ref a0)])) _
    refine st2 _ ?_
    show Steps p.tables e below (T2.setTop (mkF m 47 #[.val (.ref a0), .val (.int p1), .val (.long q2), .second] [])) _
    refine XS.aloadN X2.here hx rfl (hb hby d1_47) rfl rfl ?_
    show Steps p.tables e below (T2.setTop (mkF m 48 #[.val (.ref a0), .val (.int p1), .val (.long q2), .second] [(.ref a0)])) _
    refine XS.lloadN X2.here hx rfl (hb hby d1_48) rfl ?_
    show Steps p.tables e below (T2.setTop (mkF m 49 #[.val (.ref a0), .val (.int p1), .val (.long q2), .second] [(.long q2), (.ref a0)])) _
    refine st6 _ ?_
    show Steps p.tables e below (T6.setTop (mkF m 52 #[.val (.ref a0), .val (.int p1), .val (.long q2), .second] [])) _
    exact X6.returnOut hx Bd.returns (hb hby d1_52) hr
  · show Q1 Z a0 p1 q2 h0 n0 _ T6.heap _
    rw [e6]
    unfold Q1
    have f8 := (f4.wr W6)
    refine ⟨rfl, N6, kp7, f8, ?_⟩
    · exact Fw6
theorem d3_0 : decode prog_53_method_3_code 0 = .ok (.iload_n 1, 1) := by decide +kernel
theorem d3_1 : decode prog_53_method_3_code 1 = .ok (.iconst 2, 1) := by decide +kernel
theorem d3_2 : decode prog_53_method_3_code 2 = .ok (.if_icmp .ge 5, 3) := by decide +kernel
theorem d3_5 : decode prog_53_method_3_code 5 = .ok (.lconst 0, 1) := by decide +kernel
theorem d3_6 : decode prog_53_method_3_code 6 = .ok (.lreturn, 1) := by decide +kernel
theorem d3_7 : decode prog_53_method_3_code 7 = .ok (.iload_n 1, 1) := by decide +kernel
theorem d3_8 : decode prog_53_method_3_code 8 = .ok (.iconst 2, 1) := by decide +kernel
theorem d3_9 : decode prog_53_method_3_code 9 = .ok (.isub, 1) := by decide +kernel
theorem d3_10 : decode prog_53_method_3_code 10 = .ok (.istore_n 2, 1) := by decide +kernel
theorem d3_11 : decode prog_53_method_3_code 11 = .ok (.iload_n 2, 1) := by decide +kernel
theorem d3_12 : decode prog_53_method_3_code 12 = .ok (.bipush 63, 2) := by decide +kernel
theorem d3_14 : decode prog_53_method_3_code 14 = .ok (.if_icmp .ge 16, 3) := by decide +kernel
theorem d3_17 : decode prog_53_method_3_code 17 = .ok (.aload_n 0, 1) := by decide +kernel
theorem d3_18 : decode prog_53_method_3_code 18 = .ok (.getfield 25, 3) := by decide +kernel
theorem d3_21 : decode prog_53_method_3_code 21 = .ok (.ldc2_w 31, 3) := by decide +kernel
theorem d3_24 : decode prog_53_method_3_code 24 = .ok (.iload_n 2, 1) := by decide +kernel
theorem d3_25 : decode prog_53_method_3_code 25 = .ok (.lshr, 1) := by decide +kernel
theorem d3_26 : decode prog_53_method_3_code 26 = .ok (.lcmp, 1) := by decide +kernel
theorem d3_27 : decode prog_53_method_3_code 27 = .ok (.ifCond .le 7, 3) := by decide +kernel
theorem d3_30 : decode prog_53_method_3_code 30 = .ok (.ldc2_w 31, 3) := by decide +kernel
theorem d3_33 : decode prog_53_method_3_code 33 = .ok (.lreturn, 1) := by decide +kernel
theorem d3_34 : decode prog_53_method_3_code 34 = .ok (.aload_n 0, 1) := by decide +kernel
theorem d3_35 : decode prog_53_method_3_code 35 = .ok (.getfield 25, 3) := by decide +kernel
theorem d3_38 : decode prog_53_method_3_code 38 = .ok (.iload_n 2, 1) := by decide +kernel
theorem d3_39 : decode prog_53_method_3_code 39 = .ok (.lshl, 1) := by decide +kernel
theorem d3_40 : decode prog_53_method_3_code 40 = .ok (.lreturn, 1) := by decide +kernel
theorem ef_3 (m : MethodId) (a0 : Addr) (p1 : Int32) : entryFrame m #[(.ref a0), (.int p1)] 3 = mkF m 0 #[.val (.ref a0), .val (.int p1), .unset] [] := by first | (simp [entryFrame, mkF, argsToLocals, Value.category]; done) | rfl
def own_f3 (p1 : Int32) (b : Int64) : Int64 := (if p1 < (2 : Int32) then (0 : Int64) else (if ((p1 - (2 : Int32))) < (63 : Int32) then (if ((9223372036854775807 : Int64) >>> (((p1 - (2 : Int32))) &&& 0x3f).toInt64) < b then (9223372036854775807 : Int64) else (b <<< (((p1 - (2 : Int32))) &&& 0x3f).toInt64)) else (9223372036854775807 : Int64)))
def Q3 (Z : State) (a0 : Addr) (p1 : Int32) (b : Int64) (h0 : Heap) (n0 : Nat) (v : Option Value) (h : Heap) (L : List Loc) : Prop := v = some (.long (own_f3 p1 b)) ∧ Fr n0 L ∧ h = h0
set_option maxRecDepth 65536 in
set_option maxHeartbeats 40000000 in
theorem rm3 (l : Launch) (Z : State) (aw : Array Value) (hw : ∀ d ∈ tables_1, d.before aw Z = true) (wq : List Jvm.Cond) (a0 : Addr) (p1 : Int32) (b : Int64) (h0 : Heap) (n0 : Nat) (Z0 : n0 ≤ h0.size) (F_a0_backoffMillis : Fld Z h0 a0 "dev/stint/http/RetryPolicy" "backoffMillis" "J" (.long b)) :
    MetFree l (⟨"dev/stint/http/RetryPolicy", "backoffMillis", "(I)J"⟩ : MethodName) (head1 (Jvm.Cond.code (⟨"dev/stint/http/RetryPolicy", "backoffMillis", "(I)J"⟩ : MethodName) prog_53_method_3_code 3 (some .long) :: wq) ({ frames := 0, cells := 0, slots := 0, locals := 0 } : Room)) (fun a U => a = #[(.ref a0), (.int p1)] ∧ Z.Warmed39 U.vm ∧ U.heap = h0) (fun _ _ _ _ _ => True) (fun _ U o U' => ∃ v L, o = .returned v ∧ Q3 Z a0 p1 b h0 n0 v U'.heap L ∧ FrameEnd U o U' L ({ frames := 0, cells := 0, slots := 0, locals := 0 } : Room).cells ({ frames := 0, cells := 0, slots := 0, locals := 0 } : Room).slots) := by
  refine MetFree.of_bodySF (plainFor_of_name pn_0) hisR ?_
  intro p e s m args below meth c s₁ Bd hml0 hP hK
  obtain ⟨rfl, hZ, hh⟩ := hP
  have hx := Bd.exec
  have hby := Bd.bytes
  have hml : c.maxLocals = 3 := hml0
  have hown : s.vm.findClass "dev/stint/http/RetryPolicy" = some m.cls := findClass_of_methodNamed Bd.named
  have hnm := (name_of_methodNamed Bd.named Bd.method).1
  have X0 : Stand p l e ({ frames := 0, cells := 0, slots := 0, locals := 0 } : Room) s m #[(.ref a0), (.int p1)] below meth c s₁ [] 0 0 := Stand.of_body Bd
  have e0 : s₁.heap = h0 := by rw [← hh, Bd.state]; rfl
  have N0 := Fr.nil n0
  have pre0 : own_Pre p e below (s₁.setTop (entryFrame m #[(.ref a0), (.int p1)] 3)) (s₁.setTop (mkF m 0 #[.val (.ref a0), .val (.int p1), .unset] [])) := fun t k => castTop (ef_3 m a0 p1) k
  have pre1 : own_Pre p e below (s₁.setTop (entryFrame m #[(.ref a0), (.int p1)] 3)) (s₁.setTop (mkF m 2 #[.val (.ref a0), .val (.int p1), .unset] [(.int (2 : Int32)), (.int p1)])) := fun t k => pre0 t (by
      show Steps p.tables e below (s₁.setTop (mkF m 0 #[.val (.ref a0), .val (.int p1), .unset] [])) _
      refine XS.iloadN X0.here hx rfl (hb hby d3_0) rfl ?_
      show Steps p.tables e below (s₁.setTop (mkF m 1 #[.val (.ref a0), .val (.int p1), .unset] [(.int p1)])) _
      refine XS.iconst X0.here hx rfl (hb hby d3_1) ?_
      exact k)
  by_cases hc2 : p1 < (2 : Int32)
  · obtain ⟨fs, hr, hrun, hended, hW, hsame⟩ := X0.leave (v := some (.long (0 : Int64))) (fun h => by rw [Bd.returns] at h; cases h)
    refine ⟨_, _, pre1 _ ?_, hrun, hended, _, _, rfl, ?_, ⟨_, rfl⟩, hW, hsame.mono (by decide) (by decide)⟩
    · show Steps p.tables e below (s₁.setTop (mkF m 2 #[.val (.ref a0), .val (.int p1), .unset] [(.int (2 : Int32)), (.int p1)])) _
      refine XS.icmpNo X0.here hx rfl (hb hby d3_2) rfl (tlt hc2).2.1 ?_
      show Steps p.tables e below (s₁.setTop (mkF m 5 #[.val (.ref a0), .val (.int p1), .unset] [])) _
      refine XS.lconst X0.here hx rfl (hb hby d3_5) ?_
      show Steps p.tables e below (s₁.setTop (mkF m 6 #[.val (.ref a0), .val (.int p1), .unset] [(.long (0 : Int64))])) _
      exact retJ X0 hx Bd.returns (hb hby d3_6) hr
    · show Q3 Z a0 p1 b h0 n0 _ s₁.heap _
      rw [e0]
      unfold Q3
      refine ⟨?_, N0, rfl⟩
      · simp only [own_f3, if_pos hc2]
  · obtain ⟨x2_11, hx2_11, pre2⟩ : ∃ z : Int32, z = (p1 - (2 : Int32)) ∧ own_Pre p e below (s₁.setTop (entryFrame m #[(.ref a0), (.int p1)] 3)) (s₁.setTop (mkF m 11 #[.val (.ref a0), .val (.int p1), .val (.int z)] [])) := ⟨_, rfl, fun t k => pre1 t (by
        show Steps p.tables e below (s₁.setTop (mkF m 2 #[.val (.ref a0), .val (.int p1), .unset] [(.int (2 : Int32)), (.int p1)])) _
        refine XS.icmpYes X0.here hx rfl (pc0 := 2) (pc' := 7) rfl (hb hby d3_2) rfl (flt hc2).2.1 (by decide) (by decide) ?_
        show Steps p.tables e below (s₁.setTop (mkF m 7 #[.val (.ref a0), .val (.int p1), .unset] [])) _
        refine XS.iloadN X0.here hx rfl (hb hby d3_7) rfl ?_
        show Steps p.tables e below (s₁.setTop (mkF m 8 #[.val (.ref a0), .val (.int p1), .unset] [(.int p1)])) _
        refine XS.iconst X0.here hx rfl (hb hby d3_8) ?_
        show Steps p.tables e below (s₁.setTop (mkF m 9 #[.val (.ref a0), .val (.int p1), .unset] [(.int (2 : Int32)), (.int p1)])) _
        refine XS.isub X0.here hx rfl (hb hby d3_9) rfl ?_
        show Steps p.tables e below (s₁.setTop (mkF m 10 #[.val (.ref a0), .val (.int p1), .unset] [(.int (p1 - (2 : Int32)))])) _
        refine XS.istoreN X0.here hx rfl (hb hby d3_10) rfl (l' := #[.val (.ref a0), .val (.int p1), .val (.int (p1 - (2 : Int32)))]) rfl ?_
        exact k)⟩
    have pre3 : own_Pre p e below (s₁.setTop (entryFrame m #[(.ref a0), (.int p1)] 3)) (s₁.setTop (mkF m 14 #[.val (.ref a0), .val (.int p1), .val (.int x2_11)] [(.int (63 : Int32)), (.int x2_11)])) := fun t k => pre2 t (by
        show Steps p.tables e below (s₁.setTop (mkF m 11 #[.val (.ref a0), .val (.int p1), .val (.int x2_11)] [])) _
        refine XS.iloadN X0.here hx rfl (hb hby d3_11) rfl ?_
        show Steps p.tables e below (s₁.setTop (mkF m 12 #[.val (.ref a0), .val (.int p1), .val (.int x2_11)] [(.int x2_11)])) _
        refine XS.bipush X0.here hx rfl (hb hby d3_12) ?_
        exact k)
    by_cases hc14 : x2_11 < (63 : Int32)
    · obtain ⟨T4, X4, e4, st4⟩ := getF X0 hx hZ hown (host := "") (Or.inl (hw _ (List.mem_of_getElem? (i := 13) rfl))) Via.refl e0 F_a0_backoffMillis (g := (mkF m 18 #[.val (.ref a0), .val (.int p1), .val (.int x2_11)] [(.ref a0)])) rfl rfl (hb hby d3_18)
      have pre5 : own_Pre p e below (s₁.setTop (entryFrame m #[(.ref a0), (.int p1)] 3)) (T4.setTop (mkF m 27 #[.val (.ref a0), .val (.int p1), .val (.int x2_11)] [(.int (lcmpW b ((9223372036854775807 : Int64) >>> (x2_11 &&& 0x3f).toInt64)))])) := fun t k => pre3 t (by
          show Steps p.tables e below (s₁.setTop (mkF m 14 #[.val (.ref a0), .val (.int p1), .val (.int x2_11)] [(.int (63 : Int32)), (.int x2_11)])) _
          refine XS.icmpNo X0.here hx rfl (hb hby d3_14) rfl (tlt hc14).2.1 ?_
          show Steps p.tables e below (s₁.setTop (mkF m 17 #[.val (.ref a0), .val (.int p1), .val (.int x2_11)] [])) _
          refine XS.aloadN X0.here hx rfl (hb hby d3_17) rfl rfl ?_
          show Steps p.tables e below (s₁.setTop (mkF m 18 #[.val (.ref a0), .val (.int p1), .val (.int x2_11)] [(.ref a0)])) _
          refine st4 _ ?_
          show Steps p.tables e below (T4.setTop (mkF m 21 #[.val (.ref a0), .val (.int p1), .val (.int x2_11)] [(.long b)])) _
          refine X4.ldc2Long hx hown (mvT hZ (hw _ (List.mem_of_getElem? (i := 20) rfl))) (g := (mkF m 21 #[.val (.ref a0), .val (.int p1), .val (.int x2_11)] [(.long b)])) rfl (hb hby d3_21) _ ?_
          show Steps p.tables e below (T4.setTop (mkF m 24 #[.val (.ref a0), .val (.int p1), .val (.int x2_11)] [(.long (9223372036854775807 : Int64)), (.long b)])) _
          refine XS.iloadN X4.here hx rfl (hb hby d3_24) rfl ?_
          show Steps p.tables e below (T4.setTop (mkF m 25 #[.val (.ref a0), .val (.int p1), .val (.int x2_11)] [(.int x2_11), (.long (9223372036854775807 : Int64)), (.long b)])) _
          refine XS.lshr X4.here hx rfl (hb hby d3_25) rfl ?_
          show Steps p.tables e below (T4.setTop (mkF m 26 #[.val (.ref a0), .val (.int p1), .val (.int x2_11)] [(.long ((9223372036854775807 : Int64) >>> (x2_11 &&& 0x3f).toInt64)), (.long b)])) _
          refine XS.lcmp X4.here hx rfl (hb hby d3_26) rfl ?_
          exact k)
      by_cases hc27 : ((9223372036854775807 : Int64) >>> (x2_11 &&& 0x3f).toInt64) < b
      · obtain ⟨fs, hr, hrun, hended, hW, hsame⟩ := X4.leave (v := some (.long (9223372036854775807 : Int64))) (fun h => by rw [Bd.returns] at h; cases h)
        refine ⟨_, _, pre5 _ ?_, hrun, hended, _, _, rfl, ?_, ⟨_, rfl⟩, hW, hsame.mono (by decide) (by decide)⟩
        · show Steps p.tables e below (T4.setTop (mkF m 27 #[.val (.ref a0), .val (.int p1), .val (.int x2_11)] [(.int (lcmpW b ((9223372036854775807 : Int64) >>> (x2_11 &&& 0x3f).toInt64)))])) _
          refine XS.ifNo X4.here hx rfl (hb hby d3_27) rfl ((if0 _ _).trans (tlt ((lw_gt _ _).mpr hc27)).2.2.2) ?_
          show Steps p.tables e below (T4.setTop (mkF m 30 #[.val (.ref a0), .val (.int p1), .val (.int x2_11)] [])) _
          refine X4.ldc2Long hx hown (mvT hZ (hw _ (List.mem_of_getElem? (i := 20) rfl))) (g := (mkF m 30 #[.val (.ref a0), .val (.int p1), .val (.int x2_11)] [])) rfl (hb hby d3_30) _ ?_
          show Steps p.tables e below (T4.setTop (mkF m 33 #[.val (.ref a0), .val (.int p1), .val (.int x2_11)] [(.long (9223372036854775807 : Int64))])) _
          exact retJ X4 hx Bd.returns (hb hby d3_33) hr
        · show Q3 Z a0 p1 b h0 n0 _ T4.heap _
          rw [e4]
          unfold Q3
          refine ⟨?_, N0, rfl⟩
          · subst hx2_11; simp only [own_f3, if_neg hc2, if_pos hc14, if_pos hc27]
      · obtain ⟨T6, X6, e6, st6⟩ := getF X4 hx hZ hown (host := "") (Or.inl (hw _ (List.mem_of_getElem? (i := 13) rfl))) Via.refl e4 F_a0_backoffMillis (g := (mkF m 35 #[.val (.ref a0), .val (.int p1), .val (.int x2_11)] [(.ref a0)])) rfl rfl (hb hby d3_35)
        obtain ⟨fs, hr, hrun, hended, hW, hsame⟩ := X6.leave (v := some (.long (b <<< (x2_11 &&& 0x3f).toInt64))) (fun h => by rw [Bd.returns] at h; cases h)
        refine ⟨_, _, pre5 _ ?_, hrun, hended, _, _, rfl, ?_, ⟨_, rfl⟩, hW, hsame.mono (by decide) (by decide)⟩
        · show Steps p.tables e below (T4.setTop (mkF m 27 #[.val (.ref a0), .val (.int p1), .val (.int x2_11)] [(.int (lcmpW b ((9223372036854775807 : Int64) >>> (x2_11 &&& 0x3f).toInt64)))])) _
          refine XS.ifYes X4.here hx rfl (pc0 := 27) (pc' := 34) rfl (hb hby d3_27) rfl ((if0 _ _).trans (flt (mt (lw_gt _ _).mp hc27)).2.2.2) (by decide) (by decide) ?_
          show Steps p.tables e below (T4.setTop (mkF m 34 #[.val (.ref a0), .val (.int p1), .val (.int x2_11)] [])) _
          refine XS.aloadN X4.here hx rfl (hb hby d3_34) rfl rfl ?_
          show Steps p.tables e below (T4.setTop (mkF m 35 #[.val (.ref a0), .val (.int p1), .val (.int x2_11)] [(.ref a0)])) _
          refine st6 _ ?_
          show Steps p.tables e below (T6.setTop (mkF m 38 #[.val (.ref a0), .val (.int p1), .val (.int x2_11)] [(.long b)])) _
          refine XS.iloadN X6.here hx rfl (hb hby d3_38) rfl ?_
          show Steps p.tables e below (T6.setTop (mkF m 39 #[.val (.ref a0), .val (.int p1), .val (.int x2_11)] [(.int x2_11), (.long b)])) _
          refine XS.lshl X6.here hx rfl (hb hby d3_39) rfl ?_
          show Steps p.tables e below (T6.setTop (mkF m 40 #[.val (.ref a0), .val (.int p1), .val (.int x2_11)] [(.long (b <<< (x2_11 &&& 0x3f).toInt64))])) _
          exact retJ X6 hx Bd.returns (hb hby d3_40) hr
        · show Q3 Z a0 p1 b h0 n0 _ T6.heap _
          rw [e6]
          unfold Q3
          refine ⟨?_, N0, rfl⟩
          · subst hx2_11; simp only [own_f3, if_neg hc2, if_pos hc14, if_neg hc27]
    · obtain ⟨fs, hr, hrun, hended, hW, hsame⟩ := X0.leave (v := some (.long (9223372036854775807 : Int64))) (fun h => by rw [Bd.returns] at h; cases h)
      refine ⟨_, _, pre3 _ ?_, hrun, hended, _, _, rfl, ?_, ⟨_, rfl⟩, hW, hsame.mono (by decide) (by decide)⟩
      · show Steps p.tables e below (s₁.setTop (mkF m 14 #[.val (.ref a0), .val (.int p1), .val (.int x2_11)] [(.int (63 : Int32)), (.int x2_11)])) _
        refine XS.icmpYes X0.here hx rfl (pc0 := 14) (pc' := 30) rfl (hb hby d3_14) rfl (flt hc14).2.1 (by decide) (by decide) ?_
        show Steps p.tables e below (s₁.setTop (mkF m 30 #[.val (.ref a0), .val (.int p1), .val (.int x2_11)] [])) _
        refine X0.ldc2Long hx hown (mvT hZ (hw _ (List.mem_of_getElem? (i := 20) rfl))) (g := (mkF m 30 #[.val (.ref a0), .val (.int p1), .val (.int x2_11)] [])) rfl (hb hby d3_30) _ ?_
        show Steps p.tables e below (s₁.setTop (mkF m 33 #[.val (.ref a0), .val (.int p1), .val (.int x2_11)] [(.long (9223372036854775807 : Int64))])) _
        exact retJ X0 hx Bd.returns (hb hby d3_33) hr
      · show Q3 Z a0 p1 b h0 n0 _ s₁.heap _
        rw [e0]
        unfold Q3
        refine ⟨?_, N0, rfl⟩
        · subst hx2_11; simp only [own_f3, if_neg hc2, if_neg hc14]
theorem d4_0 : decode method_2_code 0 = .ok (.lload_n 0, 1) := by decide +kernel
theorem d4_1 : decode method_2_code 1 = .ok (.ldc2_w 9, 3) := by decide +kernel
theorem d4_4 : decode method_2_code 4 = .ok (.lcmp, 1) := by decide +kernel
theorem d4_5 : decode method_2_code 5 = .ok (.ifCond .le 7, 3) := by decide +kernel
theorem d4_8 : decode method_2_code 8 = .ok (.ldc2_w 11, 3) := by decide +kernel
theorem d4_11 : decode method_2_code 11 = .ok (.lreturn, 1) := by decide +kernel
theorem d4_12 : decode method_2_code 12 = .ok (.lload_n 0, 1) := by decide +kernel
theorem d4_13 : decode method_2_code 13 = .ok (.ldc2_w 13, 3) := by decide +kernel
theorem d4_16 : decode method_2_code 16 = .ok (.lmul, 1) := by decide +kernel
theorem d4_17 : decode method_2_code 17 = .ok (.lreturn, 1) := by decide +kernel
theorem pn_1 : plainName "dev/stint/http/RetryPolicyBackoffMillisPinLaw" = true := by first | (simp [plainName, overriddenIn]; done) | decide +kernel
theorem ef_4 (m : MethodId) (q0 : Int64) : entryFrame m #[(.long q0)] 2 = mkF m 0 #[.val (.long q0), .second] [] := by first | (simp [entryFrame, mkF, argsToLocals, Value.category]; done) | rfl
def own_f4 (q0 : Int64) : Int64 := (if (4611686018427387903 : Int64) < q0 then (9223372036854775807 : Int64) else (q0 * (2 : Int64)))
def Q4 (Z : State) (q0 : Int64) (h0 : Heap) (n0 : Nat) (v : Option Value) (h : Heap) (L : List Loc) : Prop := v = some (.long (own_f4 q0)) ∧ Fr n0 L ∧ h = h0
set_option maxRecDepth 65536 in
set_option maxHeartbeats 40000000 in
theorem rm4 (l : Launch) (Z : State) (aw : Array Value) (hw : ∀ d ∈ tables_1, d.before aw Z = true) (wq : List Jvm.Cond) (q0 : Int64) (h0 : Heap) (n0 : Nat) (Z0 : n0 ≤ h0.size) :
    MetFree l (⟨"dev/stint/http/RetryPolicyBackoffMillisPinLaw", "saturatedDouble", "(J)J"⟩ : MethodName) (head1 (Jvm.Cond.code (⟨"dev/stint/http/RetryPolicyBackoffMillisPinLaw", "saturatedDouble", "(J)J"⟩ : MethodName) method_2_code 2 (some .long) :: wq) ({ frames := 0, cells := 0, slots := 0, locals := 0 } : Room)) (fun a U => a = #[(.long q0)] ∧ Z.Warmed39 U.vm ∧ U.heap = h0) (fun _ _ _ _ _ => True) (fun _ U o U' => ∃ v L, o = .returned v ∧ Q4 Z q0 h0 n0 v U'.heap L ∧ FrameEnd U o U' L ({ frames := 0, cells := 0, slots := 0, locals := 0 } : Room).cells ({ frames := 0, cells := 0, slots := 0, locals := 0 } : Room).slots) := by
  refine MetFree.of_bodySF (plainFor_of_name pn_1) hisR ?_
  intro p e s m args below meth c s₁ Bd hml0 hP hK
  obtain ⟨rfl, hZ, hh⟩ := hP
  have hx := Bd.exec
  have hby := Bd.bytes
  have hml : c.maxLocals = 2 := hml0
  have hown : s.vm.findClass "dev/stint/http/RetryPolicyBackoffMillisPinLaw" = some m.cls := findClass_of_methodNamed Bd.named
  have hnm := (name_of_methodNamed Bd.named Bd.method).1
  have X0 : Stand p l e ({ frames := 0, cells := 0, slots := 0, locals := 0 } : Room) s m #[(.long q0)] below meth c s₁ [] 0 0 := Stand.of_body Bd
  have e0 : s₁.heap = h0 := by rw [← hh, Bd.state]; rfl
  have N0 := Fr.nil n0
  have pre0 : own_Pre p e below (s₁.setTop (entryFrame m #[(.long q0)] 2)) (s₁.setTop (mkF m 0 #[.val (.long q0), .second] [])) := fun t k => castTop (ef_4 m q0) k
  have pre1 : own_Pre p e below (s₁.setTop (entryFrame m #[(.long q0)] 2)) (s₁.setTop (mkF m 5 #[.val (.long q0), .second] [(.int (lcmpW q0 (4611686018427387903 : Int64)))])) := fun t k => pre0 t (by
      show Steps p.tables e below (s₁.setTop (mkF m 0 #[.val (.long q0), .second] [])) _
      refine XS.lloadN X0.here hx rfl (hb hby d4_0) rfl ?_
      show Steps p.tables e below (s₁.setTop (mkF m 1 #[.val (.long q0), .second] [(.long q0)])) _
      refine X0.ldc2Long hx hown (mvT hZ (hw _ (List.mem_of_getElem? (i := 25) rfl))) (g := (mkF m 1 #[.val (.long q0), .second] [(.long q0)])) rfl (hb hby d4_1) _ ?_
      show Steps p.tables e below (s₁.setTop (mkF m 4 #[.val (.long q0), .second] [(.long (4611686018427387903 : Int64)), (.long q0)])) _
      refine XS.lcmp X0.here hx rfl (hb hby d4_4) rfl ?_
      exact k)
  by_cases hc5 : (4611686018427387903 : Int64) < q0
  · obtain ⟨fs, hr, hrun, hended, hW, hsame⟩ := X0.leave (v := some (.long (9223372036854775807 : Int64))) (fun h => by rw [Bd.returns] at h; cases h)
    refine ⟨_, _, pre1 _ ?_, hrun, hended, _, _, rfl, ?_, ⟨_, rfl⟩, hW, hsame.mono (by decide) (by decide)⟩
    · show Steps p.tables e below (s₁.setTop (mkF m 5 #[.val (.long q0), .second] [(.int (lcmpW q0 (4611686018427387903 : Int64)))])) _
      refine XS.ifNo X0.here hx rfl (hb hby d4_5) rfl ((if0 _ _).trans (tlt ((lw_gt _ _).mpr hc5)).2.2.2) ?_
      show Steps p.tables e below (s₁.setTop (mkF m 8 #[.val (.long q0), .second] [])) _
      refine X0.ldc2Long hx hown (mvT hZ (hw _ (List.mem_of_getElem? (i := 1) rfl))) (g := (mkF m 8 #[.val (.long q0), .second] [])) rfl (hb hby d4_8) _ ?_
      show Steps p.tables e below (s₁.setTop (mkF m 11 #[.val (.long q0), .second] [(.long (9223372036854775807 : Int64))])) _
      exact retJ X0 hx Bd.returns (hb hby d4_11) hr
    · show Q4 Z q0 h0 n0 _ s₁.heap _
      rw [e0]
      unfold Q4
      refine ⟨?_, N0, rfl⟩
      · simp only [own_f4, if_pos hc5]
  · obtain ⟨fs, hr, hrun, hended, hW, hsame⟩ := X0.leave (v := some (.long (q0 * (2 : Int64)))) (fun h => by rw [Bd.returns] at h; cases h)
    refine ⟨_, _, pre1 _ ?_, hrun, hended, _, _, rfl, ?_, ⟨_, rfl⟩, hW, hsame.mono (by decide) (by decide)⟩
    · show Steps p.tables e below (s₁.setTop (mkF m 5 #[.val (.long q0), .second] [(.int (lcmpW q0 (4611686018427387903 : Int64)))])) _
      refine XS.ifYes X0.here hx rfl (pc0 := 5) (pc' := 12) rfl (hb hby d4_5) rfl ((if0 _ _).trans (flt (mt (lw_gt _ _).mp hc5)).2.2.2) (by decide) (by decide) ?_
      show Steps p.tables e below (s₁.setTop (mkF m 12 #[.val (.long q0), .second] [])) _
      refine XS.lloadN X0.here hx rfl (hb hby d4_12) rfl ?_
      show Steps p.tables e below (s₁.setTop (mkF m 13 #[.val (.long q0), .second] [(.long q0)])) _
      refine X0.ldc2Long hx hown (mvT hZ (hw _ (List.mem_of_getElem? (i := 26) rfl))) (g := (mkF m 13 #[.val (.long q0), .second] [(.long q0)])) rfl (hb hby d4_13) _ ?_
      show Steps p.tables e below (s₁.setTop (mkF m 16 #[.val (.long q0), .second] [(.long (2 : Int64)), (.long q0)])) _
      refine XS.lmul X0.here hx rfl (hb hby d4_16) rfl ?_
      show Steps p.tables e below (s₁.setTop (mkF m 17 #[.val (.long q0), .second] [(.long (q0 * (2 : Int64)))])) _
      exact retJ X0 hx Bd.returns (hb hby d4_17) hr
    · show Q4 Z q0 h0 n0 _ s₁.heap _
      rw [e0]
      unfold Q4
      refine ⟨?_, N0, rfl⟩
      · simp only [own_f4, if_neg hc5]
theorem pd_0 : parseMethodDescriptor "(IJ)V" = some ⟨[.int, .long], none⟩ := by decide +kernel
theorem pd_1 : parseMethodDescriptor "(I)J" = some ⟨[.int], some .long⟩ := by decide +kernel
theorem pd_2 : parseMethodDescriptor "(J)J" = some ⟨[.long], some .long⟩ := by decide +kernel
theorem ef_0 (m : MethodId) (p0 : Int32) (q1 : Int64) (p2 : Int32) (p3 : Int32) : entryFrame m #[(.int p0), (.long q1), (.int p2), (.int p3)] maxLocals = mkF m 0 #[.val (.int p0), .val (.long q1), .second, .val (.int p2), .val (.int p3), .unset, .unset, .unset, .unset, .unset, .unset, .unset, .unset] [] := by first | (simp [entryFrame, mkF, argsToLocals, Value.category, maxLocals]; done) | rfl
theorem own_a5 (p : Int32) : ¬ (p &&& (2147483647 : Int32)) < (0 : Int32) := by
  have := c_mask p 2147483647 31 (by decide) (by decide)
  rw [Int32.lt_iff_toInt_lt, this]
  show ¬ _ < (0 : Int)
  omega
theorem own_b6 (x : Int64) (q : Int32) : ¬ (((x &&& (9223372036854775807 : Int64))).toUInt64 >>> (q &&& 0x3f).toInt64.toUInt64).toInt64 < (0 : Int64) := by
  have h := c_maskL x 9223372036854775807 63 (by decide) (by decide)
  generalize x &&& (9223372036854775807 : Int64) = y at *
  obtain ⟨k, hk⟩ : ∃ k, q.toBitVec.toNat % 64 = k := ⟨_, rfl⟩
  rcases Nat.eq_zero_or_pos k with h0 | h0
  · obtain ⟨s1, -⟩ := sm64 q k hk
    have e : (y.toUInt64 >>> (q &&& 0x3f).toInt64.toUInt64).toInt64 = y := by
      apply Int64.toBitVec_inj.mp
      show y.toBitVec >>> ((q &&& 0x3f).toInt64.toBitVec % 64#64) = y.toBitVec
      rw [s1, h0]
      simp
    rw [e, Int64.lt_iff_toInt_lt]
    show ¬ _ < (0 : Int)
    omega
  · have := c_lushr y q k hk h0
    rw [Int64.lt_iff_toInt_lt, this]
    show ¬ _ < (0 : Int)
    have p2 : (0 : Int) < ((2 ^ k : Nat) : Int) := by exact_mod_cast Nat.pow_pos (by decide)
    have := Int.ediv_nonneg (a := y.toInt % 18446744073709551616) (b := ((2 ^ k : Nat) : Int)) (by omega) (by omega)
    omega
theorem own_shr (b : Int64) (d : Int32) (k : Nat) (hd : d.toInt = (k : Int)) (hk : k < 63) (hb : 0 ≤ b.toInt) :
    (((9223372036854775807 : Int64) >>> (d &&& 0x3f).toInt64 < b) ↔ 9223372036854775807 < b.toInt * ((2 ^ k : Nat) : Int)) ∧ (b.toInt * ((2 ^ k : Nat) : Int) ≤ 9223372036854775807 → (b <<< (d &&& 0x3f).toInt64).toInt = b.toInt * ((2 ^ k : Nat) : Int)) := by
  have hn : d.toBitVec.toNat % 64 = k := by
    have e : d.toBitVec.toInt = (k : Int) := hd
    rw [BitVec.toInt_eq_toNat_cond] at e
    have := d.toBitVec.isLt
    split at e <;> omega
  have p2 : (0 : Int) < ((2 ^ k : Nat) : Int) := by exact_mod_cast Nat.pow_pos (by decide)
  refine ⟨?_, fun h => ?_⟩
  · have s := c_lshr 9223372036854775807 d k hn
    rw [Int64.lt_iff_toInt_lt, s]
    have e : (9223372036854775807 : Int64).toInt = 9223372036854775807 := rfl
    rw [e]
    exact Int.ediv_lt_iff_lt_mul p2
  · have s := c_lshl b d k hn
    have r := rng64 (b <<< (d &&& 0x3f).toInt64)
    have z := Int.mul_nonneg hb (Int.le_of_lt p2)
    omega
theorem own_p1 (p : Int32) (b : Int64) (h : p < (2 : Int32)) : own_f3 p b = (0 : Int64) := by
  unfold own_f3; rw [if_pos h]
theorem own_d2 (p : Int32) (h : ¬ p < (2 : Int32)) : (p - (2 : Int32)).toInt = p.toInt - 2 ∧ 0 ≤ p.toInt - 2 := by
  rw [Int32.lt_iff_toInt_lt] at h
  have e : (2 : Int32).toInt = 2 := rfl
  have := c_isub p 2
  have r := rng32 (p - 2)
  have r' := rng32 p
  omega
/-- what the method returns, over the integers -/
theorem own_v (p : Int32) (b : Int64) (hb : ¬ b < (0 : Int64)) (h : ¬ p < (2 : Int32)) :
    (63 ≤ p.toInt - 2 → (own_f3 p b).toInt = 9223372036854775807) ∧ ∀ k : Nat, p.toInt - 2 = (k : Int) → k < 63 → (own_f3 p b).toInt = if 9223372036854775807 < b.toInt * ((2 ^ k : Nat) : Int) then 9223372036854775807 else b.toInt * ((2 ^ k : Nat) : Int) := by
  obtain ⟨e1, e2⟩ := own_d2 p h
  have hb' : 0 ≤ b.toInt := by rw [Int64.lt_iff_toInt_lt] at hb; have e : (0 : Int64).toInt = 0 := rfl; omega
  have e63 : (63 : Int32).toInt = 63 := rfl
  unfold own_f3
  rw [if_neg h]
  refine ⟨fun q => ?_, fun k hk hk' => ?_⟩
  · rw [if_neg (by rw [Int32.lt_iff_toInt_lt]; omega)]; rfl
  · rw [if_pos (by rw [Int32.lt_iff_toInt_lt]; omega)]
    obtain ⟨s1, s2⟩ := own_shr b (p - 2) k (by omega) hk' hb'
    by_cases q : 9223372036854775807 < b.toInt * ((2 ^ k : Nat) : Int)
    · rw [if_pos (s1.mpr q), if_pos q]; rfl
    · rw [if_neg (mt s1.mp q), if_neg q]; exact s2 (by omega)
theorem own_p2 (b : Int64) (hb : ¬ b < (0 : Int64)) : own_f3 (2 : Int32) b = b := by
  apply Int64.toInt_inj.mp
  rw [(own_v 2 b hb (by decide)).2 0 rfl (by decide)]
  have := rng64 b
  rw [if_neg (by omega)]
  omega
theorem own_p3 (p : Int32) (b : Int64) (hb : ¬ b < (0 : Int64)) (h : ¬ p < (2 : Int32)) : ¬ own_f3 p b < (0 : Int64) := by
  obtain ⟨v1, v2⟩ := own_v p b hb h
  have hb' : 0 ≤ b.toInt := by rw [Int64.lt_iff_toInt_lt] at hb; have e : (0 : Int64).toInt = 0 := rfl; omega
  rw [Int64.lt_iff_toInt_lt]
  show ¬ _ < (0 : Int)
  obtain ⟨-, e2⟩ := own_d2 p h
  by_cases q : 63 ≤ p.toInt - 2
  · rw [v1 q]; decide
  · rw [v2 (p.toInt - 2).toNat (by omega) (by omega)]
    have p2 : (0 : Int) < ((2 ^ (p.toInt - 2).toNat : Nat) : Int) := by exact_mod_cast Nat.pow_pos (by decide)
    have z := Int.mul_nonneg hb' (Int.le_of_lt p2)
    split <;> omega
theorem own_f4v (x : Int64) (h : 0 ≤ x.toInt) : (own_f4 x).toInt = if 4611686018427387903 < x.toInt then 9223372036854775807 else 2 * x.toInt := by
  have e : (4611686018427387903 : Int64).toInt = 4611686018427387903 := rfl
  unfold own_f4
  by_cases q : 4611686018427387903 < x.toInt
  · rw [if_pos q, if_pos (by rw [Int64.lt_iff_toInt_lt]; omega)]; rfl
  · rw [if_neg q, if_neg (by rw [Int64.lt_iff_toInt_lt]; omega)]
    have := c_lmul x 2
    have e2 : (2 : Int64).toInt = 2 := rfl
    rw [e2] at this
    have r := rng64 (x * 2)
    omega
theorem own_p4 (p : Int32) (b : Int64) (hb : ¬ b < (0 : Int64)) (h : ¬ p < (2 : Int32)) (h2 : ¬ p = (2 : Int32)) (h3 : ¬ b = (0 : Int64) ∨ ¬ (64 : Int32) < p) : own_f3 p b = own_f4 (own_f3 (p - (1 : Int32)) b) := by
  obtain ⟨v1, v2⟩ := own_v p b hb h
  have hb' : 0 ≤ b.toInt := by rw [Int64.lt_iff_toInt_lt] at hb; have e : (0 : Int64).toInt = 0 := rfl; omega
  have e2 : (2 : Int32).toInt = 2 := rfl
  have e1 : (1 : Int32).toInt = 1 := rfl
  have e64 : (64 : Int32).toInt = 64 := rfl
  have h' := h
  rw [Int32.lt_iff_toInt_lt] at h'
  have h2' : ¬ p.toInt = 2 := fun q => h2 (Int32.toInt_inj.mp (by rw [q]; rfl))
  have cs := c_isub p 1
  have r1 := rng32 (p - 1)
  have r2 := rng32 p
  have em : (p - (1 : Int32)).toInt = p.toInt - 1 := by omega
  have hm : ¬ (p - (1 : Int32)) < (2 : Int32) := by rw [Int32.lt_iff_toInt_lt]; omega
  obtain ⟨w1, w2⟩ := own_v (p - 1) b hb hm
  have nn := own_p3 (p - 1) b hb hm
  rw [Int64.lt_iff_toInt_lt] at nn
  have e0 : (0 : Int64).toInt = 0 := rfl
  apply Int64.toInt_inj.mp
  rw [own_f4v _ (by omega)]
  have hz : b.toInt = 0 → b = 0 := fun q => Int64.toInt_inj.mp (by rw [q]; rfl)
  by_cases q : 63 ≤ p.toInt - 2
  · rw [v1 q]
    by_cases q' : 63 ≤ p.toInt - 1 - 2
    · rw [w1 (by omega)]; decide
    · have hb1 : 1 ≤ b.toInt := by
        rcases h3 with h3 | h3
        · rcases (by omega : b.toInt < 1 ∨ 1 ≤ b.toInt) with u | u
          · exact absurd (hz (by omega)) h3
          · exact u
        · rw [Int32.lt_iff_toInt_lt] at h3; omega
      rw [w2 62 (by omega) (by decide)]
      have ep : ((2 ^ 62 : Nat) : Int) = 4611686018427387904 := by decide
      rw [ep]
      split
      · rw [if_pos (by omega)]
      · rw [if_pos (by omega)]
  · obtain ⟨k, hk⟩ : ∃ k : Nat, p.toInt - 2 = (k : Int) + 1 := ⟨(p.toInt - 3).toNat, by omega⟩
    rw [v2 (k + 1) (by omega) (by omega), w2 k (by omega) (by omega)]
    have ep : ((2 ^ (k + 1) : Nat) : Int) = 2 * ((2 ^ k : Nat) : Int) := by rw [Nat.pow_succ]; push_cast; omega
    have em2 : b.toInt * ((2 ^ (k + 1) : Nat) : Int) = 2 * (b.toInt * ((2 ^ k : Nat) : Int)) := by rw [ep, Int.mul_left_comm]
    rw [em2]
    generalize b.toInt * ((2 ^ k : Nat) : Int) = c
    split <;> split <;> split <;> omega

def Q0 (Z : State) (p0 : Int32) (q1 : Int64) (p2 : Int32) (p3 : Int32) (h0 : Heap) (n0 : Nat) (v : Option Value) (h : Heap) (L : List Loc) : Prop := v = some (.int (1 : Int32)) ∧ Fr n0 L
set_option maxRecDepth 65536 in
set_option maxHeartbeats 40000000 in
theorem rm0 (l : Launch) (Z : State) (aw : Array Value) (hw : ∀ d ∈ tables_1, d.before aw Z = true) (wq : List Jvm.Cond) (p0 : Int32) (q1 : Int64) (p2 : Int32) (p3 : Int32) (h0 : Heap) (n0 : Nat) (Z0 : n0 ≤ h0.size) :
    MetFree l x (head1 (Jvm.Cond.code x code maxLocals ret :: wq) room_1) (fun a U => a = #[(.int p0), (.long q1), (.int p2), (.int p3)] ∧ Z.Warmed39 U.vm ∧ U.heap = h0) (fun _ _ _ _ _ => True) (fun _ U o U' => ∃ v L, o = .returned v ∧ Q0 Z p0 q1 p2 p3 h0 n0 v U'.heap L ∧ FrameEnd U o U' L 1 2) := by
  refine MetFree.of_bodySF (plainFor_of_name pn_1) hisR ?_
  intro p e s m args below meth c s₁ Bd hml0 hP hK
  obtain ⟨rfl, hZ, hh⟩ := hP
  have hx := Bd.exec
  have hby := Bd.bytes
  have hml : c.maxLocals = 13 := hml0
  have hown : s.vm.findClass "dev/stint/http/RetryPolicyBackoffMillisPinLaw" = some m.cls := findClass_of_methodNamed Bd.named
  have hnm := (name_of_methodNamed Bd.named Bd.method).1
  have X0 : Stand p l e room_1 s m #[(.int p0), (.long q1), (.int p2), (.int p3)] below meth c s₁ [] 0 0 := Stand.of_body Bd
  have e0 : s₁.heap = h0 := by rw [← hh, Bd.state]; rfl
  have N0 := Fr.nil n0
  have pre0 : own_Pre p e below (s₁.setTop (entryFrame m #[(.int p0), (.long q1), (.int p2), (.int p3)] maxLocals)) (s₁.setTop (mkF m 0 #[.val (.int p0), .val (.long q1), .second, .val (.int p2), .val (.int p3), .unset, .unset, .unset, .unset, .unset, .unset, .unset, .unset] [])) := fun t k => castTop (ef_0 m p0 q1 p2 p3) k
  obtain ⟨x5_6, hx5_6, pre1⟩ : ∃ z : Int32, z = (p0 &&& (2147483647 : Int32)) ∧ own_Pre p e below (s₁.setTop (entryFrame m #[(.int p0), (.long q1), (.int p2), (.int p3)] maxLocals)) (s₁.setTop (mkF m 6 #[.val (.int p0), .val (.long q1), .second, .val (.int p2), .val (.int p3), .val (.int z), .unset, .unset, .unset, .unset, .unset, .unset, .unset] [])) := ⟨_, rfl, fun t k => pre0 t (by
      show Steps p.tables e below (s₁.setTop (mkF m 0 #[.val (.int p0), .val (.long q1), .second, .val (.int p2), .val (.int p3), .unset, .unset, .unset, .unset, .unset, .unset, .unset, .unset] [])) _
      refine XS.iloadN X0.here hx rfl (hb hby at_0) rfl ?_
      show Steps p.tables e below (s₁.setTop (mkF m 1 #[.val (.int p0), .val (.long q1), .second, .val (.int p2), .val (.int p3), .unset, .unset, .unset, .unset, .unset, .unset, .unset, .unset] [(.int p0)])) _
      refine X0.ldcInt hx hown (mvT hZ (hw _ (List.mem_of_getElem? (i := 0) rfl))) (g := (mkF m 1 #[.val (.int p0), .val (.long q1), .second, .val (.int p2), .val (.int p3), .unset, .unset, .unset, .unset, .unset, .unset, .unset, .unset] [(.int p0)])) rfl (hb hby at_1) _ ?_
      show Steps p.tables e below (s₁.setTop (mkF m 3 #[.val (.int p0), .val (.long q1), .second, .val (.int p2), .val (.int p3), .unset, .unset, .unset, .unset, .unset, .unset, .unset, .unset] [(.int (2147483647 : Int32)), (.int p0)])) _
      refine XS.iand X0.here hx rfl (hb hby at_3) rfl ?_
      show Steps p.tables e below (s₁.setTop (mkF m 4 #[.val (.int p0), .val (.long q1), .second, .val (.int p2), .val (.int p3), .unset, .unset, .unset, .unset, .unset, .unset, .unset, .unset] [(.int (p0 &&& (2147483647 : Int32)))])) _
      refine XS.istore X0.here hx rfl (hb hby at_4) rfl (l' := #[.val (.int p0), .val (.long q1), .second, .val (.int p2), .val (.int p3), .val (.int (p0 &&& (2147483647 : Int32))), .unset, .unset, .unset, .unset, .unset, .unset, .unset]) rfl ?_
      exact k)⟩
  obtain ⟨x6_18, hx6_18, pre2⟩ : ∃ z : Int64, z = (((q1 &&& (9223372036854775807 : Int64))).toUInt64 >>> ((p2 &&& (63 : Int32)) &&& 0x3f).toInt64.toUInt64).toInt64 ∧ own_Pre p e below (s₁.setTop (entryFrame m #[(.int p0), (.long q1), (.int p2), (.int p3)] maxLocals)) (s₁.setTop (mkF m 18 #[.val (.int p0), .val (.long q1), .second, .val (.int p2), .val (.int p3), .val (.int x5_6), .val (.long z), .second, .unset, .unset, .unset, .unset, .unset] [])) := ⟨_, rfl, fun t k => pre1 t (by
      show Steps p.tables e below (s₁.setTop (mkF m 6 #[.val (.int p0), .val (.long q1), .second, .val (.int p2), .val (.int p3), .val (.int x5_6), .unset, .unset, .unset, .unset, .unset, .unset, .unset] [])) _
      refine XS.lloadN X0.here hx rfl (hb hby at_6) rfl ?_
      show Steps p.tables e below (s₁.setTop (mkF m 7 #[.val (.int p0), .val (.long q1), .second, .val (.int p2), .val (.int p3), .val (.int x5_6), .unset, .unset, .unset, .unset, .unset, .unset, .unset] [(.long q1)])) _
      refine X0.ldc2Long hx hown (mvT hZ (hw _ (List.mem_of_getElem? (i := 1) rfl))) (g := (mkF m 7 #[.val (.int p0), .val (.long q1), .second, .val (.int p2), .val (.int p3), .val (.int x5_6), .unset, .unset, .unset, .unset, .unset, .unset, .unset] [(.long q1)])) rfl (hb hby at_7) _ ?_
      show Steps p.tables e below (s₁.setTop (mkF m 10 #[.val (.int p0), .val (.long q1), .second, .val (.int p2), .val (.int p3), .val (.int x5_6), .unset, .unset, .unset, .unset, .unset, .unset, .unset] [(.long (9223372036854775807 : Int64)), (.long q1)])) _
      refine XS.land X0.here hx rfl (hb hby at_10) rfl ?_
      show Steps p.tables e below (s₁.setTop (mkF m 11 #[.val (.int p0), .val (.long q1), .second, .val (.int p2), .val (.int p3), .val (.int x5_6), .unset, .unset, .unset, .unset, .unset, .unset, .unset] [(.long (q1 &&& (9223372036854775807 : Int64)))])) _
      refine XS.iloadN X0.here hx rfl (hb hby at_11) rfl ?_
      show Steps p.tables e below (s₁.setTop (mkF m 12 #[.val (.int p0), .val (.long q1), .second, .val (.int p2), .val (.int p3), .val (.int x5_6), .unset, .unset, .unset, .unset, .unset, .unset, .unset] [(.int p2), (.long (q1 &&& (9223372036854775807 : Int64)))])) _
      refine XS.bipush X0.here hx rfl (hb hby at_12) ?_
      show Steps p.tables e below (s₁.setTop (mkF m 14 #[.val (.int p0), .val (.long q1), .second, .val (.int p2), .val (.int p3), .val (.int x5_6), .unset, .unset, .unset, .unset, .unset, .unset, .unset] [(.int (63 : Int32)), (.int p2), (.long (q1 &&& (9223372036854775807 : Int64)))])) _
      refine XS.iand X0.here hx rfl (hb hby at_14) rfl ?_
      show Steps p.tables e below (s₁.setTop (mkF m 15 #[.val (.int p0), .val (.long q1), .second, .val (.int p2), .val (.int p3), .val (.int x5_6), .unset, .unset, .unset, .unset, .unset, .unset, .unset] [(.int (p2 &&& (63 : Int32))), (.long (q1 &&& (9223372036854775807 : Int64)))])) _
      refine XS.lushr X0.here hx rfl (hb hby at_15) rfl ?_
      show Steps p.tables e below (s₁.setTop (mkF m 16 #[.val (.int p0), .val (.long q1), .second, .val (.int p2), .val (.int p3), .val (.int x5_6), .unset, .unset, .unset, .unset, .unset, .unset, .unset] [(.long (((q1 &&& (9223372036854775807 : Int64))).toUInt64 >>> ((p2 &&& (63 : Int32)) &&& 0x3f).toInt64.toUInt64).toInt64)])) _
      refine XS.lstore X0.here hx rfl (hb hby at_16) rfl (l' := #[.val (.int p0), .val (.long q1), .second, .val (.int p2), .val (.int p3), .val (.int x5_6), .val (.long (((q1 &&& (9223372036854775807 : Int64))).toUInt64 >>> ((p2 &&& (63 : Int32)) &&& 0x3f).toInt64.toUInt64).toInt64), .second, .unset, .unset, .unset, .unset, .unset]) rfl ?_
      exact k)⟩
  have hb6 : ¬ x6_18 < (0 : Int64) := by rw [hx6_18]; exact own_b6 _ _
  obtain ⟨T3, h3, X3, e3, E3, A3, D3, -, st3⟩ := newO X0 hx hZ hown (hw _ (List.mem_of_getElem? (i := 2) rfl)) (hw _ (List.mem_of_getElem? (i := 3) rfl)) (hw _ (List.mem_of_getElem? (i := 4) rfl)) e0 (g := (mkF m 18 #[.val (.int p0), .val (.long q1), .second, .val (.int p2), .val (.int p3), .val (.int x5_6), .val (.long x6_18), .second, .unset, .unset, .unset, .unset, .unset] [])) rfl (hb hby at_18) (by decide) (by decide)
  obtain ⟨b3, gq3⟩ : ∃ z, z = (h0).size := ⟨_, rfl⟩
  rw [← gq3] at A3 D3 st3
  have g_b3 : n0 ≤ b3 := Nat.le_trans Z0 (Nat.le_of_eq gq3.symm)
  have F_b3_retries : Fld Z h3 b3 "dev/stint/http/RetryPolicy" "retries" "I" (.int (0 : Int32)) := D3 (Or.inr (hw _ (List.mem_of_getElem? (i := 12) rfl))) (ty := .int) (by decide)
  have F_b3_backoffMillis : Fld Z h3 b3 "dev/stint/http/RetryPolicy" "backoffMillis" "J" (.long (0 : Int64)) := D3 (Or.inr (hw _ (List.mem_of_getElem? (i := 14) rfl))) (ty := .long) (by decide)
  have z5 : n0 ≤ (h3).size := (Nat.le_trans Z0 E3.1)
  obtain ⟨_, _, ⟨T4, L4, k4, n4⟩, -, X4, ⟨Lc4, hQ4, l4, y4, z4⟩, st4⟩ := X3.specialBack hx (y := (⟨"dev/stint/http/RetryPolicy", "<init>", "(IJ)V"⟩ : MethodName)) rfl hown (mvT hZ (hw _ (List.mem_of_getElem? (i := 5) rfl))) (mvT hZ (hw _ (List.mem_of_getElem? (i := 6) rfl))) (mvT hZ (hw _ (List.mem_of_getElem? (i := 7) rfl))) (by decide) (backOf (W := 1) (rm1 l Z aw hw [] (b3) (x5_6) (x6_18) (h3) n0 z5 A3 F_b3_retries F_b3_backoffMillis g_b3 (by rw [hx5_6]; exact own_a5 _) hb6) hZ (hw _ (List.mem_of_getElem? (i := 7) rfl)) (hw _ (List.mem_of_getElem? (i := 4) rfl)) (by decide) (by decide)) (g := (mkF m 26 #[.val (.int p0), .val (.long q1), .second, .val (.int p2), .val (.int p3), .val (.int x5_6), .val (.long x6_18), .second, .unset, .unset, .unset, .unset, .unset] [(.long x6_18), (.int x5_6), (.ref b3), (.ref b3)])) rfl (by rw [hml]; rfl) (Steps.refl _) (a := b3) (argsL := [(.int x5_6), (.long x6_18)]) (rest := [(.ref b3)]) (lenOf pd_0 rfl) rfl (by show 2 * 0 + _ ≤ _; exact Nat.le_of_eq rfl) (hb hby at_26) (fun _ _ => ⟨rfl, e3, (by decide : 1 + 0 ≤ _), (by decide : 2 + 0 ≤ _)⟩)
  dsimp only [Pt.U, Pt.locs, Pt.cells, Pt.slots] at X4 l4 y4 z4 st4 hQ4
  subst l4 y4 z4
  obtain ⟨rfl, Nq4, K4, po4_0, po4_1⟩ := hQ4
  have N4 := Fr.app N0 Nq4
  have z7 : n0 ≤ (T4.heap).size := (Nat.le_trans z5 K4.1)
  obtain ⟨cq6, kq6, q6a, q6b, q6c⟩ := isOf hZ rfl po4_0
  obtain ⟨_, _, ⟨T6, L6, k6, n6⟩, -, X6, ⟨Lc6, hQ6, l6, y6, z6⟩, st6⟩ := X4.virtualBack hx (y := (⟨"dev/stint/http/RetryPolicy", "backoffMillis", "(I)J"⟩ : MethodName)) (z := (⟨"dev/stint/http/RetryPolicy", "backoffMillis", "(I)J"⟩ : MethodName)) hown (mvT hZ (hw _ (List.mem_of_getElem? (i := 15) rfl))) (mvT hZ (hw _ (List.mem_of_getElem? (i := 16) rfl))) (notFace_of_selects (args := #[]) (mvT hZ (hw _ (List.mem_of_getElem? (i := 18) rfl)))) (mvT hZ (hw _ (List.mem_of_getElem? (i := 18) rfl))) (mvT hZ (hw _ (List.mem_of_getElem? (i := 17) rfl))) (by decide) (backOf (W := 0) (rm3 l Z aw hw [] (b3) (p3) (x6_18) (T4.heap) n0 z7 po4_1) hZ (hw _ (List.mem_of_getElem? (i := 19) rfl)) (hw _ (List.mem_of_getElem? (i := 4) rfl)) (by decide) (by decide)) q6a q6c (g := (mkF m 35 #[.val (.int p0), .val (.long q1), .second, .val (.int p2), .val (.int p3), .val (.int x5_6), .val (.long x6_18), .second, .val (.ref b3), .unset, .unset, .unset, .unset] [(.int p3), (.ref b3)])) rfl (by rw [hml]; rfl) (Steps.refl _) (argsL := [(.int p3)]) (rest := []) (lenOf pd_1 rfl) rfl (by show 2 * 0 + _ ≤ _; exact Nat.le_of_eq rfl) (hb hby at_35) (fun _ _ => ⟨rfl, rfl, (by decide : 1 + 0 ≤ _), (by decide : 2 + 0 ≤ _)⟩)
  dsimp only [Pt.U, Pt.locs, Pt.cells, Pt.slots] at X6 l6 y6 z6 st6 hQ6
  subst l6 y6 z6
  obtain ⟨rfl, Nq6, eq6⟩ := hQ6
  have N6 := Fr.app N4 Nq6
  obtain ⟨x9_40, hx9_40, pre8⟩ : ∃ z : Int64, z = (own_f3 p3 x6_18) ∧ own_Pre p e below (s₁.setTop (entryFrame m #[(.int p0), (.long q1), (.int p2), (.int p3)] maxLocals)) (T6.setTop (mkF m 40 #[.val (.int p0), .val (.long q1), .second, .val (.int p2), .val (.int p3), .val (.int x5_6), .val (.long x6_18), .second, .val (.ref b3), .val (.long z), .second, .unset, .unset] [])) := ⟨_, rfl, fun t k => pre2 t (by
      show Steps p.tables e below (s₁.setTop (mkF m 18 #[.val (.int p0), .val (.long q1), .second, .val (.int p2), .val (.int p3), .val (.int x5_6), .val (.long x6_18), .second, .unset, .unset, .unset, .unset, .unset] [])) _
      refine st3 _ ?_
      show Steps p.tables e below (T3.setTop (mkF m 21 #[.val (.int p0), .val (.long q1), .second, .val (.int p2), .val (.int p3), .val (.int x5_6), .val (.long x6_18), .second, .unset, .unset, .unset, .unset, .unset] [(.ref b3)])) _
      refine XS.dup X3.here hx rfl (hb hby at_21) rfl rfl ?_
      show Steps p.tables e below (T3.setTop (mkF m 22 #[.val (.int p0), .val (.long q1), .second, .val (.int p2), .val (.int p3), .val (.int x5_6), .val (.long x6_18), .second, .unset, .unset, .unset, .unset, .unset] [(.ref b3), (.ref b3)])) _
      refine XS.iload X3.here hx rfl (hb hby at_22) rfl ?_
      show Steps p.tables e below (T3.setTop (mkF m 24 #[.val (.int p0), .val (.long q1), .second, .val (.int p2), .val (.int p3), .val (.int x5_6), .val (.long x6_18), .second, .unset, .unset, .unset, .unset, .unset] [(.int x5_6), (.ref b3), (.ref b3)])) _
      refine XS.lload X3.here hx rfl (hb hby at_24) rfl ?_
      show Steps p.tables e below (T3.setTop (mkF m 26 #[.val (.int p0), .val (.long q1), .second, .val (.int p2), .val (.int p3), .val (.int x5_6), .val (.long x6_18), .second, .unset, .unset, .unset, .unset, .unset] [(.long x6_18), (.int x5_6), (.ref b3), (.ref b3)])) _
      refine st4.trans ?_
      show Steps p.tables e below (T4.setTop (mkF m 29 #[.val (.int p0), .val (.long q1), .second, .val (.int p2), .val (.int p3), .val (.int x5_6), .val (.long x6_18), .second, .unset, .unset, .unset, .unset, .unset] [(.ref b3)])) _
      refine XS.astore X4.here hx rfl (hb hby at_29) rfl rfl (l' := #[.val (.int p0), .val (.long q1), .second, .val (.int p2), .val (.int p3), .val (.int x5_6), .val (.long x6_18), .second, .val (.ref b3), .unset, .unset, .unset, .unset]) rfl ?_
      show Steps p.tables e below (T4.setTop (mkF m 31 #[.val (.int p0), .val (.long q1), .second, .val (.int p2), .val (.int p3), .val (.int x5_6), .val (.long x6_18), .second, .val (.ref b3), .unset, .unset, .unset, .unset] [])) _
      refine XS.aload X4.here hx rfl (hb hby at_31) rfl rfl ?_
      show Steps p.tables e below (T4.setTop (mkF m 33 #[.val (.int p0), .val (.long q1), .second, .val (.int p2), .val (.int p3), .val (.int x5_6), .val (.long x6_18), .second, .val (.ref b3), .unset, .unset, .unset, .unset] [(.ref b3)])) _
      refine XS.iload X4.here hx rfl (hb hby at_33) rfl ?_
      show Steps p.tables e below (T4.setTop (mkF m 35 #[.val (.int p0), .val (.long q1), .second, .val (.int p2), .val (.int p3), .val (.int x5_6), .val (.long x6_18), .second, .val (.ref b3), .unset, .unset, .unset, .unset] [(.int p3), (.ref b3)])) _
      refine st6.trans ?_
      show Steps p.tables e below (T6.setTop (mkF m 38 #[.val (.int p0), .val (.long q1), .second, .val (.int p2), .val (.int p3), .val (.int x5_6), .val (.long x6_18), .second, .val (.ref b3), .unset, .unset, .unset, .unset] [(.long (own_f3 p3 x6_18))])) _
      refine XS.lstore X6.here hx rfl (hb hby at_38) rfl (l' := #[.val (.int p0), .val (.long q1), .second, .val (.int p2), .val (.int p3), .val (.int x5_6), .val (.long x6_18), .second, .val (.ref b3), .val (.long (own_f3 p3 x6_18)), .second, .unset, .unset]) rfl ?_
      exact k)⟩
  have pre9 : own_Pre p e below (s₁.setTop (entryFrame m #[(.int p0), (.long q1), (.int p2), (.int p3)] maxLocals)) (T6.setTop (mkF m 43 #[.val (.int p0), .val (.long q1), .second, .val (.int p2), .val (.int p3), .val (.int x5_6), .val (.long x6_18), .second, .val (.ref b3), .val (.long x9_40), .second, .unset, .unset] [(.int (2 : Int32)), (.int p3)])) := fun t k => pre8 t (by
      show Steps p.tables e below (T6.setTop (mkF m 40 #[.val (.int p0), .val (.long q1), .second, .val (.int p2), .val (.int p3), .val (.int x5_6), .val (.long x6_18), .second, .val (.ref b3), .val (.long x9_40), .second, .unset, .unset] [])) _
      refine XS.iload X6.here hx rfl (hb hby at_40) rfl ?_
      show Steps p.tables e below (T6.setTop (mkF m 42 #[.val (.int p0), .val (.long q1), .second, .val (.int p2), .val (.int p3), .val (.int x5_6), .val (.long x6_18), .second, .val (.ref b3), .val (.long x9_40), .second, .unset, .unset] [(.int p3)])) _
      refine XS.iconst X6.here hx rfl (hb hby at_42) ?_
      exact k)
  by_cases hc43 : p3 < (2 : Int32)
  · have hc50 : (x9_40 = (0 : Int64)) := by rw [hx9_40]; exact own_p1 _ _ hc43
    obtain ⟨fs, hr, hrun, hended, hW, hsame⟩ := X6.leave (v := some (.int (1 : Int32))) (fun h => by rw [Bd.returns] at h; cases h)
    refine ⟨_, _, pre9 _ ?_, hrun, hended, _, _, rfl, ?_, ⟨_, rfl⟩, hW, hsame.mono (by decide) (by decide)⟩
    · show Steps p.tables e below (T6.setTop (mkF m 43 #[.val (.int p0), .val (.long q1), .second, .val (.int p2), .val (.int p3), .val (.int x5_6), .val (.long x6_18), .second, .val (.ref b3), .val (.long x9_40), .second, .unset, .unset] [(.int (2 : Int32)), (.int p3)])) _
      refine XS.icmpNo X6.here hx rfl (hb hby at_43) rfl (tlt hc43).2.1 ?_
      show Steps p.tables e below (T6.setTop (mkF m 46 #[.val (.int p0), .val (.long q1), .second, .val (.int p2), .val (.int p3), .val (.int x5_6), .val (.long x6_18), .second, .val (.ref b3), .val (.long x9_40), .second, .unset, .unset] [])) _
      refine XS.lload X6.here hx rfl (hb hby at_46) rfl ?_
      show Steps p.tables e below (T6.setTop (mkF m 48 #[.val (.int p0), .val (.long q1), .second, .val (.int p2), .val (.int p3), .val (.int x5_6), .val (.long x6_18), .second, .val (.ref b3), .val (.long x9_40), .second, .unset, .unset] [(.long x9_40)])) _
      refine XS.lconst X6.here hx rfl (hb hby at_48) ?_
      show Steps p.tables e below (T6.setTop (mkF m 49 #[.val (.int p0), .val (.long q1), .second, .val (.int p2), .val (.int p3), .val (.int x5_6), .val (.long x6_18), .second, .val (.ref b3), .val (.long x9_40), .second, .unset, .unset] [(.long (0 : Int64)), (.long x9_40)])) _
      refine XS.lcmp X6.here hx rfl (hb hby at_49) rfl ?_
      show Steps p.tables e below (T6.setTop (mkF m 50 #[.val (.int p0), .val (.long q1), .second, .val (.int p2), .val (.int p3), .val (.int x5_6), .val (.long x6_18), .second, .val (.ref b3), .val (.long x9_40), .second, .unset, .unset] [(.int (lcmpW x9_40 (0 : Int64)))])) _
      refine XS.ifNo X6.here hx rfl (hb hby at_50) rfl ((if0 _ _).trans (teq ((lw_eq _ _).mpr hc50)).2) ?_
      show Steps p.tables e below (T6.setTop (mkF m 53 #[.val (.int p0), .val (.long q1), .second, .val (.int p2), .val (.int p3), .val (.int x5_6), .val (.long x6_18), .second, .val (.ref b3), .val (.long x9_40), .second, .unset, .unset] [])) _
      refine XS.iconst X6.here hx rfl (hb hby at_53) ?_
      show Steps p.tables e below (T6.setTop (mkF m 54 #[.val (.int p0), .val (.long q1), .second, .val (.int p2), .val (.int p3), .val (.int x5_6), .val (.long x6_18), .second, .val (.ref b3), .val (.long x9_40), .second, .unset, .unset] [(.int (1 : Int32))])) _
      refine XS.goto X6.here hx rfl (pc0 := 54) (pc' := 58) rfl (hb hby at_54) (by decide) (by decide) ?_
      show Steps p.tables e below (T6.setTop (mkF m 58 #[.val (.int p0), .val (.long q1), .second, .val (.int p2), .val (.int p3), .val (.int x5_6), .val (.long x6_18), .second, .val (.ref b3), .val (.long x9_40), .second, .unset, .unset] [(.int (1 : Int32))])) _
      exact retN X6 hx (t := .boolean) Bd.returns (by simp) (hb hby at_58) hr
    · show Q0 Z p0 q1 p2 p3 h0 n0 _ T6.heap _
      rw [eq6]
      unfold Q0
      refine ⟨rfl, N6⟩
  · have pre10 : own_Pre p e below (s₁.setTop (entryFrame m #[(.int p0), (.long q1), (.int p2), (.int p3)] maxLocals)) (T6.setTop (mkF m 62 #[.val (.int p0), .val (.long q1), .second, .val (.int p2), .val (.int p3), .val (.int x5_6), .val (.long x6_18), .second, .val (.ref b3), .val (.long x9_40), .second, .unset, .unset] [(.int (2 : Int32)), (.int p3)])) := fun t k => pre9 t (by
        show Steps p.tables e below (T6.setTop (mkF m 43 #[.val (.int p0), .val (.long q1), .second, .val (.int p2), .val (.int p3), .val (.int x5_6), .val (.long x6_18), .second, .val (.ref b3), .val (.long x9_40), .second, .unset, .unset] [(.int (2 : Int32)), (.int p3)])) _
        refine XS.icmpYes X6.here hx rfl (pc0 := 43) (pc' := 59) rfl (hb hby at_43) rfl (flt hc43).2.1 (by decide) (by decide) ?_
        show Steps p.tables e below (T6.setTop (mkF m 59 #[.val (.int p0), .val (.long q1), .second, .val (.int p2), .val (.int p3), .val (.int x5_6), .val (.long x6_18), .second, .val (.ref b3), .val (.long x9_40), .second, .unset, .unset] [])) _
        refine XS.iload X6.here hx rfl (hb hby at_59) rfl ?_
        show Steps p.tables e below (T6.setTop (mkF m 61 #[.val (.int p0), .val (.long q1), .second, .val (.int p2), .val (.int p3), .val (.int x5_6), .val (.long x6_18), .second, .val (.ref b3), .val (.long x9_40), .second, .unset, .unset] [(.int p3)])) _
        refine XS.iconst X6.here hx rfl (hb hby at_61) ?_
        exact k)
    by_cases hc62 : p3 = (2 : Int32)
    · have hc70 : (x9_40 = x6_18) := by rw [hx9_40, hc62]; exact own_p2 _ hb6
      obtain ⟨fs, hr, hrun, hended, hW, hsame⟩ := X6.leave (v := some (.int (1 : Int32))) (fun h => by rw [Bd.returns] at h; cases h)
      refine ⟨_, _, pre10 _ ?_, hrun, hended, _, _, rfl, ?_, ⟨_, rfl⟩, hW, hsame.mono (by decide) (by decide)⟩
      · show Steps p.tables e below (T6.setTop (mkF m 62 #[.val (.int p0), .val (.long q1), .second, .val (.int p2), .val (.int p3), .val (.int x5_6), .val (.long x6_18), .second, .val (.ref b3), .val (.long x9_40), .second, .unset, .unset] [(.int (2 : Int32)), (.int p3)])) _
        refine XS.icmpNo X6.here hx rfl (hb hby at_62) rfl (teq hc62).2 ?_
        show Steps p.tables e below (T6.setTop (mkF m 65 #[.val (.int p0), .val (.long q1), .second, .val (.int p2), .val (.int p3), .val (.int x5_6), .val (.long x6_18), .second, .val (.ref b3), .val (.long x9_40), .second, .unset, .unset] [])) _
        refine XS.lload X6.here hx rfl (hb hby at_65) rfl ?_
        show Steps p.tables e below (T6.setTop (mkF m 67 #[.val (.int p0), .val (.long q1), .second, .val (.int p2), .val (.int p3), .val (.int x5_6), .val (.long x6_18), .second, .val (.ref b3), .val (.long x9_40), .second, .unset, .unset] [(.long x9_40)])) _
        refine XS.lload X6.here hx rfl (hb hby at_67) rfl ?_
        show Steps p.tables e below (T6.setTop (mkF m 69 #[.val (.int p0), .val (.long q1), .second, .val (.int p2), .val (.int p3), .val (.int x5_6), .val (.long x6_18), .second, .val (.ref b3), .val (.long x9_40), .second, .unset, .unset] [(.long x6_18), (.long x9_40)])) _
        refine XS.lcmp X6.here hx rfl (hb hby at_69) rfl ?_
        show Steps p.tables e below (T6.setTop (mkF m 70 #[.val (.int p0), .val (.long q1), .second, .val (.int p2), .val (.int p3), .val (.int x5_6), .val (.long x6_18), .second, .val (.ref b3), .val (.long x9_40), .second, .unset, .unset] [(.int (lcmpW x9_40 x6_18))])) _
        refine XS.ifNo X6.here hx rfl (hb hby at_70) rfl ((if0 _ _).trans (teq ((lw_eq _ _).mpr hc70)).2) ?_
        show Steps p.tables e below (T6.setTop (mkF m 73 #[.val (.int p0), .val (.long q1), .second, .val (.int p2), .val (.int p3), .val (.int x5_6), .val (.long x6_18), .second, .val (.ref b3), .val (.long x9_40), .second, .unset, .unset] [])) _
        refine XS.iconst X6.here hx rfl (hb hby at_73) ?_
        show Steps p.tables e below (T6.setTop (mkF m 74 #[.val (.int p0), .val (.long q1), .second, .val (.int p2), .val (.int p3), .val (.int x5_6), .val (.long x6_18), .second, .val (.ref b3), .val (.long x9_40), .second, .unset, .unset] [(.int (1 : Int32))])) _
        refine XS.goto X6.here hx rfl (pc0 := 74) (pc' := 78) rfl (hb hby at_74) (by decide) (by decide) ?_
        show Steps p.tables e below (T6.setTop (mkF m 78 #[.val (.int p0), .val (.long q1), .second, .val (.int p2), .val (.int p3), .val (.int x5_6), .val (.long x6_18), .second, .val (.ref b3), .val (.long x9_40), .second, .unset, .unset] [(.int (1 : Int32))])) _
        exact retN X6 hx (t := .boolean) Bd.returns (by simp) (hb hby at_78) hr
      · show Q0 Z p0 q1 p2 p3 h0 n0 _ T6.heap _
        rw [eq6]
        unfold Q0
        refine ⟨rfl, N6⟩
    · have pre11 : own_Pre p e below (s₁.setTop (entryFrame m #[(.int p0), (.long q1), (.int p2), (.int p3)] maxLocals)) (T6.setTop (mkF m 83 #[.val (.int p0), .val (.long q1), .second, .val (.int p2), .val (.int p3), .val (.int x5_6), .val (.long x6_18), .second, .val (.ref b3), .val (.long x9_40), .second, .unset, .unset] [(.int (lcmpW x6_18 (0 : Int64)))])) := fun t k => pre10 t (by
          show Steps p.tables e below (T6.setTop (mkF m 62 #[.val (.int p0), .val (.long q1), .second, .val (.int p2), .val (.int p3), .val (.int x5_6), .val (.long x6_18), .second, .val (.ref b3), .val (.long x9_40), .second, .unset, .unset] [(.int (2 : Int32)), (.int p3)])) _
          refine XS.icmpYes X6.here hx rfl (pc0 := 62) (pc' := 79) rfl (hb hby at_62) rfl (feq hc62).2 (by decide) (by decide) ?_
          show Steps p.tables e below (T6.setTop (mkF m 79 #[.val (.int p0), .val (.long q1), .second, .val (.int p2), .val (.int p3), .val (.int x5_6), .val (.long x6_18), .second, .val (.ref b3), .val (.long x9_40), .second, .unset, .unset] [])) _
          refine XS.lload X6.here hx rfl (hb hby at_79) rfl ?_
          show Steps p.tables e below (T6.setTop (mkF m 81 #[.val (.int p0), .val (.long q1), .second, .val (.int p2), .val (.int p3), .val (.int x5_6), .val (.long x6_18), .second, .val (.ref b3), .val (.long x9_40), .second, .unset, .unset] [(.long x6_18)])) _
          refine XS.lconst X6.here hx rfl (hb hby at_81) ?_
          show Steps p.tables e below (T6.setTop (mkF m 82 #[.val (.int p0), .val (.long q1), .second, .val (.int p2), .val (.int p3), .val (.int x5_6), .val (.long x6_18), .second, .val (.ref b3), .val (.long x9_40), .second, .unset, .unset] [(.long (0 : Int64)), (.long x6_18)])) _
          refine XS.lcmp X6.here hx rfl (hb hby at_82) rfl ?_
          exact k)
      by_cases hc83 : x6_18 = (0 : Int64)
      · have pre12 : own_Pre p e below (s₁.setTop (entryFrame m #[(.int p0), (.long q1), (.int p2), (.int p3)] maxLocals)) (T6.setTop (mkF m 90 #[.val (.int p0), .val (.long q1), .second, .val (.int p2), .val (.int p3), .val (.int x5_6), .val (.long x6_18), .second, .val (.ref b3), .val (.long x9_40), .second, .unset, .unset] [(.int (64 : Int32)), (.int p3)])) := fun t k => pre11 t (by
            show Steps p.tables e below (T6.setTop (mkF m 83 #[.val (.int p0), .val (.long q1), .second, .val (.int p2), .val (.int p3), .val (.int x5_6), .val (.long x6_18), .second, .val (.ref b3), .val (.long x9_40), .second, .unset, .unset] [(.int (lcmpW x6_18 (0 : Int64)))])) _
            refine XS.ifNo X6.here hx rfl (hb hby at_83) rfl ((if0 _ _).trans (teq ((lw_eq _ _).mpr hc83)).2) ?_
            show Steps p.tables e below (T6.setTop (mkF m 86 #[.val (.int p0), .val (.long q1), .second, .val (.int p2), .val (.int p3), .val (.int x5_6), .val (.long x6_18), .second, .val (.ref b3), .val (.long x9_40), .second, .unset, .unset] [])) _
            refine XS.iload X6.here hx rfl (hb hby at_86) rfl ?_
            show Steps p.tables e below (T6.setTop (mkF m 88 #[.val (.int p0), .val (.long q1), .second, .val (.int p2), .val (.int p3), .val (.int x5_6), .val (.long x6_18), .second, .val (.ref b3), .val (.long x9_40), .second, .unset, .unset] [(.int p3)])) _
            refine XS.bipush X6.here hx rfl (hb hby at_88) ?_
            exact k)
        by_cases hc90 : (64 : Int32) < p3
        · have hc97 : ¬ (x9_40 < (0 : Int64)) := by rw [hx9_40]; exact own_p3 _ _ hb6 hc43
          obtain ⟨fs, hr, hrun, hended, hW, hsame⟩ := X6.leave (v := some (.int (1 : Int32))) (fun h => by rw [Bd.returns] at h; cases h)
          refine ⟨_, _, pre12 _ ?_, hrun, hended, _, _, rfl, ?_, ⟨_, rfl⟩, hW, hsame.mono (by decide) (by decide)⟩
          · show Steps p.tables e below (T6.setTop (mkF m 90 #[.val (.int p0), .val (.long q1), .second, .val (.int p2), .val (.int p3), .val (.int x5_6), .val (.long x6_18), .second, .val (.ref b3), .val (.long x9_40), .second, .unset, .unset] [(.int (64 : Int32)), (.int p3)])) _
            refine XS.icmpNo X6.here hx rfl (hb hby at_90) rfl (tlt hc90).2.2.2 ?_
            show Steps p.tables e below (T6.setTop (mkF m 93 #[.val (.int p0), .val (.long q1), .second, .val (.int p2), .val (.int p3), .val (.int x5_6), .val (.long x6_18), .second, .val (.ref b3), .val (.long x9_40), .second, .unset, .unset] [])) _
            refine XS.lload X6.here hx rfl (hb hby at_93) rfl ?_
            show Steps p.tables e below (T6.setTop (mkF m 95 #[.val (.int p0), .val (.long q1), .second, .val (.int p2), .val (.int p3), .val (.int x5_6), .val (.long x6_18), .second, .val (.ref b3), .val (.long x9_40), .second, .unset, .unset] [(.long x9_40)])) _
            refine XS.lconst X6.here hx rfl (hb hby at_95) ?_
            show Steps p.tables e below (T6.setTop (mkF m 96 #[.val (.int p0), .val (.long q1), .second, .val (.int p2), .val (.int p3), .val (.int x5_6), .val (.long x6_18), .second, .val (.ref b3), .val (.long x9_40), .second, .unset, .unset] [(.long (0 : Int64)), (.long x9_40)])) _
            refine XS.lcmp X6.here hx rfl (hb hby at_96) rfl ?_
            show Steps p.tables e below (T6.setTop (mkF m 97 #[.val (.int p0), .val (.long q1), .second, .val (.int p2), .val (.int p3), .val (.int x5_6), .val (.long x6_18), .second, .val (.ref b3), .val (.long x9_40), .second, .unset, .unset] [(.int (lcmpW x9_40 (0 : Int64)))])) _
            refine XS.ifNo X6.here hx rfl (hb hby at_97) rfl ((if0 _ _).trans (flt (mt (lw_lt _ _).mp hc97)).1) ?_
            show Steps p.tables e below (T6.setTop (mkF m 100 #[.val (.int p0), .val (.long q1), .second, .val (.int p2), .val (.int p3), .val (.int x5_6), .val (.long x6_18), .second, .val (.ref b3), .val (.long x9_40), .second, .unset, .unset] [])) _
            refine XS.iconst X6.here hx rfl (hb hby at_100) ?_
            show Steps p.tables e below (T6.setTop (mkF m 101 #[.val (.int p0), .val (.long q1), .second, .val (.int p2), .val (.int p3), .val (.int x5_6), .val (.long x6_18), .second, .val (.ref b3), .val (.long x9_40), .second, .unset, .unset] [(.int (1 : Int32))])) _
            refine XS.goto X6.here hx rfl (pc0 := 101) (pc' := 105) rfl (hb hby at_101) (by decide) (by decide) ?_
            show Steps p.tables e below (T6.setTop (mkF m 105 #[.val (.int p0), .val (.long q1), .second, .val (.int p2), .val (.int p3), .val (.int x5_6), .val (.long x6_18), .second, .val (.ref b3), .val (.long x9_40), .second, .unset, .unset] [(.int (1 : Int32))])) _
            exact retN X6 hx (t := .boolean) Bd.returns (by simp) (hb hby at_105) hr
          · show Q0 Z p0 q1 p2 p3 h0 n0 _ T6.heap _
            rw [eq6]
            unfold Q0
            refine ⟨rfl, N6⟩
        · obtain ⟨cq13, kq13, q13a, q13b, q13c⟩ := isOf hZ eq6 po4_0
          obtain ⟨_, _, ⟨T13, L13, k13, n13⟩, -, X13, ⟨Lc13, hQ13, l13, y13, z13⟩, st13⟩ := X6.virtualBack hx (y := (⟨"dev/stint/http/RetryPolicy", "backoffMillis", "(I)J"⟩ : MethodName)) (z := (⟨"dev/stint/http/RetryPolicy", "backoffMillis", "(I)J"⟩ : MethodName)) hown (mvT hZ (hw _ (List.mem_of_getElem? (i := 15) rfl))) (mvT hZ (hw _ (List.mem_of_getElem? (i := 16) rfl))) (notFace_of_selects (args := #[]) (mvT hZ (hw _ (List.mem_of_getElem? (i := 18) rfl)))) (mvT hZ (hw _ (List.mem_of_getElem? (i := 18) rfl))) (mvT hZ (hw _ (List.mem_of_getElem? (i := 17) rfl))) (by decide) (backOf (W := 0) (rm3 l Z aw hw [] (b3) ((p3 - (1 : Int32))) (x6_18) (T4.heap) n0 z7 po4_1) hZ (hw _ (List.mem_of_getElem? (i := 19) rfl)) (hw _ (List.mem_of_getElem? (i := 4) rfl)) (by decide) (by decide)) q13a q13c (g := (mkF m 112 #[.val (.int p0), .val (.long q1), .second, .val (.int p2), .val (.int p3), .val (.int x5_6), .val (.long x6_18), .second, .val (.ref b3), .val (.long x9_40), .second, .unset, .unset] [(.int (p3 - (1 : Int32))), (.ref b3)])) rfl (by rw [hml]; rfl) (Steps.refl _) (argsL := [(.int (p3 - (1 : Int32)))]) (rest := []) (lenOf pd_1 rfl) rfl (by show 2 * 0 + _ ≤ _; exact Nat.le_of_eq rfl) (hb hby at_112) (fun _ _ => ⟨rfl, eq6, (by decide : 1 + 0 ≤ _), (by decide : 2 + 0 ≤ _)⟩)
          dsimp only [Pt.U, Pt.locs, Pt.cells, Pt.slots] at X13 l13 y13 z13 st13 hQ13
          subst l13 y13 z13
          obtain ⟨rfl, Nq13, eq13⟩ := hQ13
          have N13 := Fr.app N6 Nq13
          obtain ⟨x11_117, hx11_117, pre14⟩ : ∃ z : Int64, z = (own_f3 ((p3 - (1 : Int32))) x6_18) ∧ own_Pre p e below (s₁.setTop (entryFrame m #[(.int p0), (.long q1), (.int p2), (.int p3)] maxLocals)) (T13.setTop (mkF m 117 #[.val (.int p0), .val (.long q1), .second, .val (.int p2), .val (.int p3), .val (.int x5_6), .val (.long x6_18), .second, .val (.ref b3), .val (.long x9_40), .second, .val (.long z), .second] [])) := ⟨_, rfl, fun t k => pre12 t (by
              show Steps p.tables e below (T6.setTop (mkF m 90 #[.val (.int p0), .val (.long q1), .second, .val (.int p2), .val (.int p3), .val (.int x5_6), .val (.long x6_18), .second, .val (.ref b3), .val (.long x9_40), .second, .unset, .unset] [(.int (64 : Int32)), (.int p3)])) _
              refine XS.icmpYes X6.here hx rfl (pc0 := 90) (pc' := 106) rfl (hb hby at_90) rfl (flt hc90).2.2.2 (by decide) (by decide) ?_
              show Steps p.tables e below (T6.setTop (mkF m 106 #[.val (.int p0), .val (.long q1), .second, .val (.int p2), .val (.int p3), .val (.int x5_6), .val (.long x6_18), .second, .val (.ref b3), .val (.long x9_40), .second, .unset, .unset] [])) _
              refine XS.aload X6.here hx rfl (hb hby at_106) rfl rfl ?_
              show Steps p.tables e below (T6.setTop (mkF m 108 #[.val (.int p0), .val (.long q1), .second, .val (.int p2), .val (.int p3), .val (.int x5_6), .val (.long x6_18), .second, .val (.ref b3), .val (.long x9_40), .second, .unset, .unset] [(.ref b3)])) _
              refine XS.iload X6.here hx rfl (hb hby at_108) rfl ?_
              show Steps p.tables e below (T6.setTop (mkF m 110 #[.val (.int p0), .val (.long q1), .second, .val (.int p2), .val (.int p3), .val (.int x5_6), .val (.long x6_18), .second, .val (.ref b3), .val (.long x9_40), .second, .unset, .unset] [(.int p3), (.ref b3)])) _
              refine XS.iconst X6.here hx rfl (hb hby at_110) ?_
              show Steps p.tables e below (T6.setTop (mkF m 111 #[.val (.int p0), .val (.long q1), .second, .val (.int p2), .val (.int p3), .val (.int x5_6), .val (.long x6_18), .second, .val (.ref b3), .val (.long x9_40), .second, .unset, .unset] [(.int (1 : Int32)), (.int p3), (.ref b3)])) _
              refine XS.isub X6.here hx rfl (hb hby at_111) rfl ?_
              show Steps p.tables e below (T6.setTop (mkF m 112 #[.val (.int p0), .val (.long q1), .second, .val (.int p2), .val (.int p3), .val (.int x5_6), .val (.long x6_18), .second, .val (.ref b3), .val (.long x9_40), .second, .unset, .unset] [(.int (p3 - (1 : Int32))), (.ref b3)])) _
              refine st13.trans ?_
              show Steps p.tables e below (T13.setTop (mkF m 115 #[.val (.int p0), .val (.long q1), .second, .val (.int p2), .val (.int p3), .val (.int x5_6), .val (.long x6_18), .second, .val (.ref b3), .val (.long x9_40), .second, .unset, .unset] [(.long (own_f3 ((p3 - (1 : Int32))) x6_18))])) _
              refine XS.lstore X13.here hx rfl (hb hby at_115) rfl (l' := #[.val (.int p0), .val (.long q1), .second, .val (.int p2), .val (.int p3), .val (.int x5_6), .val (.long x6_18), .second, .val (.ref b3), .val (.long x9_40), .second, .val (.long (own_f3 ((p3 - (1 : Int32))) x6_18)), .second]) rfl ?_
              exact k)⟩
          obtain ⟨_, _, ⟨T15, L15, k15, n15⟩, -, X15, ⟨Lc15, hQ15, l15, y15, z15⟩, st15⟩ := Jvm.LawKit.callS X13 hx (y := (⟨"dev/stint/http/RetryPolicyBackoffMillisPinLaw", "saturatedDouble", "(J)J"⟩ : MethodName)) hown (mvT hZ (hw _ (List.mem_of_getElem? (i := 21) rfl))) (mvT hZ (hw _ (List.mem_of_getElem? (i := 22) rfl))) (mvT hZ (hw _ (List.mem_of_getElem? (i := 23) rfl))) (mvT hZ (hw _ (List.mem_of_getElem? (i := 24) rfl))) (by decide) (backOf (W := 2) (rm4 l Z aw hw [] (x11_117) (T4.heap) n0 z7) hZ (hw _ (List.mem_of_getElem? (i := 24) rfl)) (hw _ (List.mem_of_getElem? (i := 23) rfl)) (by decide) (by decide)) (g := (mkF m 121 #[.val (.int p0), .val (.long q1), .second, .val (.int p2), .val (.int p3), .val (.int x5_6), .val (.long x6_18), .second, .val (.ref b3), .val (.long x9_40), .second, .val (.long x11_117), .second] [(.long x11_117), (.long x9_40)])) rfl (by rw [hml]; rfl) (argsL := [(.long x11_117)]) (rest := [(.long x9_40)]) (lenOf pd_2 rfl) rfl (by show 2 * 0 + _ ≤ _; exact Nat.le_of_eq rfl) (hb hby at_121) (fun _ _ => ⟨rfl, eq13, (by decide : 1 + 0 ≤ _), (by decide : 2 + 0 ≤ _)⟩)
          dsimp only [Pt.U, Pt.locs, Pt.cells, Pt.slots] at X15 l15 y15 z15 st15 hQ15
          subst l15 y15 z15
          obtain ⟨rfl, Nq15, eq15⟩ := hQ15
          have N15 := Fr.app N13 Nq15
          have hc125 : (x9_40 = (own_f4 x11_117)) := by rw [hx9_40, hx11_117]; exact own_p4 _ _ hb6 hc43 hc62 (Or.inr hc90)
          obtain ⟨fs, hr, hrun, hended, hW, hsame⟩ := X15.leave (v := some (.int (1 : Int32))) (fun h => by rw [Bd.returns] at h; cases h)
          refine ⟨_, _, pre14 _ ?_, hrun, hended, _, _, rfl, ?_, ⟨_, rfl⟩, hW, hsame.mono (by decide) (by decide)⟩
          · show Steps p.tables e below (T13.setTop (mkF m 117 #[.val (.int p0), .val (.long q1), .second, .val (.int p2), .val (.int p3), .val (.int x5_6), .val (.long x6_18), .second, .val (.ref b3), .val (.long x9_40), .second, .val (.long x11_117), .second] [])) _
            refine XS.lload X13.here hx rfl (hb hby at_117) rfl ?_
            show Steps p.tables e below (T13.setTop (mkF m 119 #[.val (.int p0), .val (.long q1), .second, .val (.int p2), .val (.int p3), .val (.int x5_6), .val (.long x6_18), .second, .val (.ref b3), .val (.long x9_40), .second, .val (.long x11_117), .second] [(.long x9_40)])) _
            refine XS.lload X13.here hx rfl (hb hby at_119) rfl ?_
            show Steps p.tables e below (T13.setTop (mkF m 121 #[.val (.int p0), .val (.long q1), .second, .val (.int p2), .val (.int p3), .val (.int x5_6), .val (.long x6_18), .second, .val (.ref b3), .val (.long x9_40), .second, .val (.long x11_117), .second] [(.long x11_117), (.long x9_40)])) _
            refine st15 _ ?_
            show Steps p.tables e below (T15.setTop (mkF m 124 #[.val (.int p0), .val (.long q1), .second, .val (.int p2), .val (.int p3), .val (.int x5_6), .val (.long x6_18), .second, .val (.ref b3), .val (.long x9_40), .second, .val (.long x11_117), .second] [(.long (own_f4 x11_117)), (.long x9_40)])) _
            refine XS.lcmp X15.here hx rfl (hb hby at_124) rfl ?_
            show Steps p.tables e below (T15.setTop (mkF m 125 #[.val (.int p0), .val (.long q1), .second, .val (.int p2), .val (.int p3), .val (.int x5_6), .val (.long x6_18), .second, .val (.ref b3), .val (.long x9_40), .second, .val (.long x11_117), .second] [(.int (lcmpW x9_40 (own_f4 x11_117)))])) _
            refine XS.ifNo X15.here hx rfl (hb hby at_125) rfl ((if0 _ _).trans (teq ((lw_eq _ _).mpr hc125)).2) ?_
            show Steps p.tables e below (T15.setTop (mkF m 128 #[.val (.int p0), .val (.long q1), .second, .val (.int p2), .val (.int p3), .val (.int x5_6), .val (.long x6_18), .second, .val (.ref b3), .val (.long x9_40), .second, .val (.long x11_117), .second] [])) _
            refine XS.iconst X15.here hx rfl (hb hby at_128) ?_
            show Steps p.tables e below (T15.setTop (mkF m 129 #[.val (.int p0), .val (.long q1), .second, .val (.int p2), .val (.int p3), .val (.int x5_6), .val (.long x6_18), .second, .val (.ref b3), .val (.long x9_40), .second, .val (.long x11_117), .second] [(.int (1 : Int32))])) _
            refine XS.goto X15.here hx rfl (pc0 := 129) (pc' := 133) rfl (hb hby at_129) (by decide) (by decide) ?_
            show Steps p.tables e below (T15.setTop (mkF m 133 #[.val (.int p0), .val (.long q1), .second, .val (.int p2), .val (.int p3), .val (.int x5_6), .val (.long x6_18), .second, .val (.ref b3), .val (.long x9_40), .second, .val (.long x11_117), .second] [(.int (1 : Int32))])) _
            exact retN X15 hx (t := .boolean) Bd.returns (by simp) (hb hby at_133) hr
          · show Q0 Z p0 q1 p2 p3 h0 n0 _ T15.heap _
            rw [eq15]
            unfold Q0
            refine ⟨rfl, N15⟩
      · obtain ⟨cq16, kq16, q16a, q16b, q16c⟩ := isOf hZ eq6 po4_0
        obtain ⟨_, _, ⟨T16, L16, k16, n16⟩, -, X16, ⟨Lc16, hQ16, l16, y16, z16⟩, st16⟩ := X6.virtualBack hx (y := (⟨"dev/stint/http/RetryPolicy", "backoffMillis", "(I)J"⟩ : MethodName)) (z := (⟨"dev/stint/http/RetryPolicy", "backoffMillis", "(I)J"⟩ : MethodName)) hown (mvT hZ (hw _ (List.mem_of_getElem? (i := 15) rfl))) (mvT hZ (hw _ (List.mem_of_getElem? (i := 16) rfl))) (notFace_of_selects (args := #[]) (mvT hZ (hw _ (List.mem_of_getElem? (i := 18) rfl)))) (mvT hZ (hw _ (List.mem_of_getElem? (i := 18) rfl))) (mvT hZ (hw _ (List.mem_of_getElem? (i := 17) rfl))) (by decide) (backOf (W := 0) (rm3 l Z aw hw [] (b3) ((p3 - (1 : Int32))) (x6_18) (T4.heap) n0 z7 po4_1) hZ (hw _ (List.mem_of_getElem? (i := 19) rfl)) (hw _ (List.mem_of_getElem? (i := 4) rfl)) (by decide) (by decide)) q16a q16c (g := (mkF m 112 #[.val (.int p0), .val (.long q1), .second, .val (.int p2), .val (.int p3), .val (.int x5_6), .val (.long x6_18), .second, .val (.ref b3), .val (.long x9_40), .second, .unset, .unset] [(.int (p3 - (1 : Int32))), (.ref b3)])) rfl (by rw [hml]; rfl) (Steps.refl _) (argsL := [(.int (p3 - (1 : Int32)))]) (rest := []) (lenOf pd_1 rfl) rfl (by show 2 * 0 + _ ≤ _; exact Nat.le_of_eq rfl) (hb hby at_112) (fun _ _ => ⟨rfl, eq6, (by decide : 1 + 0 ≤ _), (by decide : 2 + 0 ≤ _)⟩)
        dsimp only [Pt.U, Pt.locs, Pt.cells, Pt.slots] at X16 l16 y16 z16 st16 hQ16
        subst l16 y16 z16
        obtain ⟨rfl, Nq16, eq16⟩ := hQ16
        have N16 := Fr.app N6 Nq16
        obtain ⟨x11_117, hx11_117, pre17⟩ : ∃ z : Int64, z = (own_f3 ((p3 - (1 : Int32))) x6_18) ∧ own_Pre p e below (s₁.setTop (entryFrame m #[(.int p0), (.long q1), (.int p2), (.int p3)] maxLocals)) (T16.setTop (mkF m 117 #[.val (.int p0), .val (.long q1), .second, .val (.int p2), .val (.int p3), .val (.int x5_6), .val (.long x6_18), .second, .val (.ref b3), .val (.long x9_40), .second, .val (.long z), .second] [])) := ⟨_, rfl, fun t k => pre11 t (by
            show Steps p.tables e below (T6.setTop (mkF m 83 #[.val (.int p0), .val (.long q1), .second, .val (.int p2), .val (.int p3), .val (.int x5_6), .val (.long x6_18), .second, .val (.ref b3), .val (.long x9_40), .second, .unset, .unset] [(.int (lcmpW x6_18 (0 : Int64)))])) _
            refine XS.ifYes X6.here hx rfl (pc0 := 83) (pc' := 106) rfl (hb hby at_83) rfl ((if0 _ _).trans (feq (mt (lw_eq _ _).mp hc83)).2) (by decide) (by decide) ?_
            show Steps p.tables e below (T6.setTop (mkF m 106 #[.val (.int p0), .val (.long q1), .second, .val (.int p2), .val (.int p3), .val (.int x5_6), .val (.long x6_18), .second, .val (.ref b3), .val (.long x9_40), .second, .unset, .unset] [])) _
            refine XS.aload X6.here hx rfl (hb hby at_106) rfl rfl ?_
            show Steps p.tables e below (T6.setTop (mkF m 108 #[.val (.int p0), .val (.long q1), .second, .val (.int p2), .val (.int p3), .val (.int x5_6), .val (.long x6_18), .second, .val (.ref b3), .val (.long x9_40), .second, .unset, .unset] [(.ref b3)])) _
            refine XS.iload X6.here hx rfl (hb hby at_108) rfl ?_
            show Steps p.tables e below (T6.setTop (mkF m 110 #[.val (.int p0), .val (.long q1), .second, .val (.int p2), .val (.int p3), .val (.int x5_6), .val (.long x6_18), .second, .val (.ref b3), .val (.long x9_40), .second, .unset, .unset] [(.int p3), (.ref b3)])) _
            refine XS.iconst X6.here hx rfl (hb hby at_110) ?_
            show Steps p.tables e below (T6.setTop (mkF m 111 #[.val (.int p0), .val (.long q1), .second, .val (.int p2), .val (.int p3), .val (.int x5_6), .val (.long x6_18), .second, .val (.ref b3), .val (.long x9_40), .second, .unset, .unset] [(.int (1 : Int32)), (.int p3), (.ref b3)])) _
            refine XS.isub X6.here hx rfl (hb hby at_111) rfl ?_
            show Steps p.tables e below (T6.setTop (mkF m 112 #[.val (.int p0), .val (.long q1), .second, .val (.int p2), .val (.int p3), .val (.int x5_6), .val (.long x6_18), .second, .val (.ref b3), .val (.long x9_40), .second, .unset, .unset] [(.int (p3 - (1 : Int32))), (.ref b3)])) _
            refine st16.trans ?_
            show Steps p.tables e below (T16.setTop (mkF m 115 #[.val (.int p0), .val (.long q1), .second, .val (.int p2), .val (.int p3), .val (.int x5_6), .val (.long x6_18), .second, .val (.ref b3), .val (.long x9_40), .second, .unset, .unset] [(.long (own_f3 ((p3 - (1 : Int32))) x6_18))])) _
            refine XS.lstore X16.here hx rfl (hb hby at_115) rfl (l' := #[.val (.int p0), .val (.long q1), .second, .val (.int p2), .val (.int p3), .val (.int x5_6), .val (.long x6_18), .second, .val (.ref b3), .val (.long x9_40), .second, .val (.long (own_f3 ((p3 - (1 : Int32))) x6_18)), .second]) rfl ?_
            exact k)⟩
        obtain ⟨_, _, ⟨T18, L18, k18, n18⟩, -, X18, ⟨Lc18, hQ18, l18, y18, z18⟩, st18⟩ := Jvm.LawKit.callS X16 hx (y := (⟨"dev/stint/http/RetryPolicyBackoffMillisPinLaw", "saturatedDouble", "(J)J"⟩ : MethodName)) hown (mvT hZ (hw _ (List.mem_of_getElem? (i := 21) rfl))) (mvT hZ (hw _ (List.mem_of_getElem? (i := 22) rfl))) (mvT hZ (hw _ (List.mem_of_getElem? (i := 23) rfl))) (mvT hZ (hw _ (List.mem_of_getElem? (i := 24) rfl))) (by decide) (backOf (W := 2) (rm4 l Z aw hw [] (x11_117) (T4.heap) n0 z7) hZ (hw _ (List.mem_of_getElem? (i := 24) rfl)) (hw _ (List.mem_of_getElem? (i := 23) rfl)) (by decide) (by decide)) (g := (mkF m 121 #[.val (.int p0), .val (.long q1), .second, .val (.int p2), .val (.int p3), .val (.int x5_6), .val (.long x6_18), .second, .val (.ref b3), .val (.long x9_40), .second, .val (.long x11_117), .second] [(.long x11_117), (.long x9_40)])) rfl (by rw [hml]; rfl) (argsL := [(.long x11_117)]) (rest := [(.long x9_40)]) (lenOf pd_2 rfl) rfl (by show 2 * 0 + _ ≤ _; exact Nat.le_of_eq rfl) (hb hby at_121) (fun _ _ => ⟨rfl, eq16, (by decide : 1 + 0 ≤ _), (by decide : 2 + 0 ≤ _)⟩)
        dsimp only [Pt.U, Pt.locs, Pt.cells, Pt.slots] at X18 l18 y18 z18 st18 hQ18
        subst l18 y18 z18
        obtain ⟨rfl, Nq18, eq18⟩ := hQ18
        have N18 := Fr.app N16 Nq18
        have hc125 : (x9_40 = (own_f4 x11_117)) := by rw [hx9_40, hx11_117]; exact own_p4 _ _ hb6 hc43 hc62 (Or.inl hc83)
        obtain ⟨fs, hr, hrun, hended, hW, hsame⟩ := X18.leave (v := some (.int (1 : Int32))) (fun h => by rw [Bd.returns] at h; cases h)
        refine ⟨_, _, pre17 _ ?_, hrun, hended, _, _, rfl, ?_, ⟨_, rfl⟩, hW, hsame.mono (by decide) (by decide)⟩
        · show Steps p.tables e below (T16.setTop (mkF m 117 #[.val (.int p0), .val (.long q1), .second, .val (.int p2), .val (.int p3), .val (.int x5_6), .val (.long x6_18), .second, .val (.ref b3), .val (.long x9_40), .second, .val (.long x11_117), .second] [])) _
          refine XS.lload X16.here hx rfl (hb hby at_117) rfl ?_
          show Steps p.tables e below (T16.setTop (mkF m 119 #[.val (.int p0), .val (.long q1), .second, .val (.int p2), .val (.int p3), .val (.int x5_6), .val (.long x6_18), .second, .val (.ref b3), .val (.long x9_40), .second, .val (.long x11_117), .second] [(.long x9_40)])) _
          refine XS.lload X16.here hx rfl (hb hby at_119) rfl ?_
          show Steps p.tables e below (T16.setTop (mkF m 121 #[.val (.int p0), .val (.long q1), .second, .val (.int p2), .val (.int p3), .val (.int x5_6), .val (.long x6_18), .second, .val (.ref b3), .val (.long x9_40), .second, .val (.long x11_117), .second] [(.long x11_117), (.long x9_40)])) _
          refine st18 _ ?_
          show Steps p.tables e below (T18.setTop (mkF m 124 #[.val (.int p0), .val (.long q1), .second, .val (.int p2), .val (.int p3), .val (.int x5_6), .val (.long x6_18), .second, .val (.ref b3), .val (.long x9_40), .second, .val (.long x11_117), .second] [(.long (own_f4 x11_117)), (.long x9_40)])) _
          refine XS.lcmp X18.here hx rfl (hb hby at_124) rfl ?_
          show Steps p.tables e below (T18.setTop (mkF m 125 #[.val (.int p0), .val (.long q1), .second, .val (.int p2), .val (.int p3), .val (.int x5_6), .val (.long x6_18), .second, .val (.ref b3), .val (.long x9_40), .second, .val (.long x11_117), .second] [(.int (lcmpW x9_40 (own_f4 x11_117)))])) _
          refine XS.ifNo X18.here hx rfl (hb hby at_125) rfl ((if0 _ _).trans (teq ((lw_eq _ _).mpr hc125)).2) ?_
          show Steps p.tables e below (T18.setTop (mkF m 128 #[.val (.int p0), .val (.long q1), .second, .val (.int p2), .val (.int p3), .val (.int x5_6), .val (.long x6_18), .second, .val (.ref b3), .val (.long x9_40), .second, .val (.long x11_117), .second] [])) _
          refine XS.iconst X18.here hx rfl (hb hby at_128) ?_
          show Steps p.tables e below (T18.setTop (mkF m 129 #[.val (.int p0), .val (.long q1), .second, .val (.int p2), .val (.int p3), .val (.int x5_6), .val (.long x6_18), .second, .val (.ref b3), .val (.long x9_40), .second, .val (.long x11_117), .second] [(.int (1 : Int32))])) _
          refine XS.goto X18.here hx rfl (pc0 := 129) (pc' := 133) rfl (hb hby at_129) (by decide) (by decide) ?_
          show Steps p.tables e below (T18.setTop (mkF m 133 #[.val (.int p0), .val (.long q1), .second, .val (.int p2), .val (.int p3), .val (.int x5_6), .val (.long x6_18), .second, .val (.ref b3), .val (.long x9_40), .second, .val (.long x11_117), .second] [(.int (1 : Int32))])) _
          exact retN X18 hx (t := .boolean) Bd.returns (by simp) (hb hby at_133) hr
        · show Q0 Z p0 q1 p2 p3 h0 n0 _ T18.heap _
          rw [eq18]
          unfold Q0
          refine ⟨rfl, N18⟩
set_option maxRecDepth 65536 in
set_option maxHeartbeats 40000000 in
theorem comes_1 {Post : Tables → Env → Array Value → State → Outcome → State → Prop} (hpost : ∀ tb e args s v u, (limb_1_1.after args s (.returned v) u = true ∧ limb_1_2.after args s (.returned v) u = true ∧ True) → FrameEnd s (.returned v) u (Jvm.fieldLocs frame_1_writes args s ++ Jvm.arrayLocs frame_1_arrays args s ++ Jvm.staticLocs frame_1_statics s) 16 128 → Post tb e args s (.returned v) u) :
    ArmFor flags0 classFile x code maxLocals ret World_1 tables_1 room_1 Calls_1 rest_1 Pre_1 Post := by
  intro l hfl _ _ p e ha hc hk s m args below hf hA hF happ hP
  obtain ⟨hcalls, hrest, hpre⟩ := hP
  obtain ⟨-, -, -, hnamed, -, -, -, hat⟩ := (Spec.applies_iff hf).mp happ
  obtain ⟨hg, hn⟩ := and_e (Cond.before_iff.mp (show (Jvm.Cond.and given_1 narrow_1).before args s = true from hpre))
  obtain ⟨gv1, gv2⟩ := and_e hg
  obtain ⟨gv3, gv4⟩ := and_e gv2
  obtain ⟨gv5, gv6⟩ := and_e gv4
  obtain ⟨gv7, gv8⟩ := and_e gv6
  obtain ⟨w0, w1, w2, w3, rfl⟩ : ∃ w0 w1 w2 w3 : Value, args = #[w0, w1, w2, w3] := by
    have hs : args.size = 4 := by simpa [Cond.value, given_1] using gv1
    obtain ⟨L⟩ := args
    match L, hs with
    | [w0, w1, w2, w3], _ => exact ⟨w0, w1, w2, w3, rfl⟩
  have hw := fun d (hd : d ∈ tables_1) => atoms_spec (ws := Jvm.Cond.code x code maxLocals ret :: tables_1) hat d (List.mem_cons_of_mem _ hd)
  obtain ⟨i0, ei0⟩ := is_v gv3
  obtain rfl : w0 = (.int i0) := Option.some.inj ei0
  obtain ⟨i1, ei1⟩ := isL_v gv5
  obtain rfl : w1 = (.long i1) := Option.some.inj ei1
  obtain ⟨i2, ei2⟩ := is_v gv7
  obtain rfl : w2 = (.int i2) := Option.some.inj ei2
  obtain ⟨i3, ei3⟩ := is_v gv8
  obtain rfl : w3 = (.int i3) := Option.some.inj ei3
  obtain ⟨n, o, h1, h2, h3, _, L, rfl, ⟨rfl, N⟩, hq⟩ := rm0 l s _ hw tables_1 i0 i1 i2 i3 s.heap s.heap.size (Nat.le_refl _) p e ha hc hk s m _ below hf ((Spec.applies_iff_loose hf).mp happ).1 ⟨rfl, State.Warmed39.refl s, rfl⟩ trivial
  refine ⟨n, _, h1, h2, h3, hpost _ _ _ _ _ _ ⟨Cond.after_iff.mpr rfl, Cond.after_iff.mpr (eq_i res_at (Term.int_eval (1)) rfl), trivial⟩ ⟨hq.1, hq.2.1, (hq.2.2.sift fun y hy => Or.inr (N y hy)).mono (by decide) (by decide)⟩⟩
theorem main_1_1 : Claimed_1_1 := comes_1 fun _ _ _ _ _ _ h hF => ⟨h.1, hF⟩
theorem main_1_2 : Claimed_1_2 := comes_1 fun _ _ _ _ _ _ h hF => ⟨h.2.1, hF⟩
end Jvm.Pilot.@@N@@
namespace Jvm.Pilot.@@N@@
open Jvm Jvm.ClassFile Sem Op Lib Jvm.Free Jvm.Stand Jvm.Pilot.@@N@@.Jvm.D
/-! MADE BY PROGRAM (witnessworld.py) out of the Statement's table words and the real class files: 9 classes; the members and pool entries that the words name. The judged class is class 1, her method 2. -/
namespace start1
open Jvm.ClassFile
def u (s : String) : CpInfo := .utf8 (stringToUtf16 s)
/-- a pool by its gaps: so many unusable entries, then the entry; so many at the end -/
def gap : Nat → List CpInfo → List CpInfo
  | 0, r => r
  | n + 1, r => .unusable :: gap n r
def poolList (es : List (Nat × CpInfo)) (last : Nat) : List CpInfo := es.foldr (fun e r => gap e.1 (e.2 :: r)) (gap last [])
def pool (es : List (Nat × CpInfo)) (last : Nat) : Array CpInfo := ⟨poolList es last⟩
def fileOf (pool : Array CpInfo) (this : Nat) (attrs : Array Attribute := #[]) (ms : Array MethodInfo := #[]) (fl : Nat := 33) (sup : Nat := 0) (ifs : Array Nat := #[]) (fds : Array FieldInfo := #[]) : ClassFile where
  minorVersion := 0
  majorVersion := 65
  constantPool := pool
  accessFlags := fl
  thisClass := this
  superClass := sup
  interfaces := ifs
  fields := fds
  methods := ms
  attributes := attrs
def plain (name : String) (sup : Option ClassId) : Class where
  name := name
  kind := .ordinary
  loader := none
  accessFlags := 33
  super := sup
  interfaces := #[]
  cf := none
  fields := #[]
  methods := #[]
  instanceTypes := #[]
  staticTypes := #[]
  resolved := #[]
  callSites := []
  init := .initialized
  statics := none
  mirror := none

def pool0 : Array CpInfo := pool [(5, u "<init>"), (0, u "()V"), (1, .class_ 10), (1, u "java/lang/Object")] 113

def k0c0 : Code := { maxStack := 0, maxLocals := 1, code := object_method_1_code, exceptionTable := #[], attributes := #[] }
def k0m0 : Method := { name := "<init>", desc := "()V", sig := { parameters := [], returnType := none }, accessFlags := 1, code := some k0c0 }
/-- java/lang/Object -/
def k0 : Class := { plain "java/lang/Object" none with
  accessFlags := 33
  interfaces := #[]
  cf := some (fileOf pool0 8 #[] #[{ accessFlags := 1, nameIndex := 5, descriptorIndex := 6, attributes := #[] }] 33 0 #[] #[])
  fields := #[]
  methods := #[k0m0]
  instanceTypes := #[]
  staticTypes := #[]
  resolved := Array.replicate 124 none
  statics := none }

def pool1 : Array CpInfo := pool [(2, .class_ 4), (1, u "java/lang/Object"), (0, u "<init>"), (0, u "()V"), (2, .long 4611686018427387903), (1, .long 9223372036854775807), (1, .long 2), (1, .integer 2147483647), (0, .class_ 17), (0, u "dev/stint/http/RetryPolicy"), (0, .methodref 16 19), (0, .nameAndType 5 20), (0, u "(IJ)V"), (0, .methodref 16 22), (0, .nameAndType 23 24), (0, u "backoffMillis"), (0, u "(I)J"), (0, .methodref 26 27), (0, .class_ 28), (0, .nameAndType 29 30), (0, u "dev/stint/http/RetryPolicyBackoffMillisPinLaw"), (0, u "saturatedDouble"), (0, u "(J)J"), (3, u "law"), (0, u "(IJII)Z")] 2

def k1m0 : Method := { name := "<init>", desc := "()V", sig := { parameters := [], returnType := none }, accessFlags := 2, code := none }
def k1c1 : Code := { maxStack := 4, maxLocals := 2, code := method_2_code, exceptionTable := #[], attributes := #[] }
def k1m1 : Method := { name := "saturatedDouble", desc := "(J)J", sig := { parameters := [.long], returnType := some .long }, accessFlags := 10, code := some k1c1 }
def k1c2 : Code := { maxStack := 5, maxLocals := 13, code := code, exceptionTable := #[], attributes := #[] }
def k1m2 : Method := { name := "law", desc := "(IJII)Z", sig := { parameters := [.int, .long, .int, .int], returnType := some .boolean }, accessFlags := 9, code := some k1c2 }
/-- dev/stint/http/RetryPolicyBackoffMillisPinLaw -/
def k1 : Class := { plain "dev/stint/http/RetryPolicyBackoffMillisPinLaw" (some 0) with
  accessFlags := 49
  interfaces := #[]
  cf := some (fileOf pool1 26 #[] #[{ accessFlags := 2, nameIndex := 5, descriptorIndex := 6, attributes := #[] }, { accessFlags := 10, nameIndex := 29, descriptorIndex := 30, attributes := #[] }, { accessFlags := 9, nameIndex := 34, descriptorIndex := 35, attributes := #[] }] 49 2 #[] #[])
  fields := #[]
  methods := #[k1m0, k1m1, k1m2]
  instanceTypes := #[]
  staticTypes := #[]
  resolved := Array.replicate 38 none
  statics := none }

def pool2 : Array CpInfo := pool [(1, .methodref 2 3), (0, .class_ 4), (0, .nameAndType 5 6), (0, u "java/lang/Object"), (0, u "<init>"), (0, u "()V"), (12, .fieldref 20 21), (0, .class_ 22), (0, .nameAndType 23 24), (0, u "dev/stint/http/RetryPolicy"), (0, u "retries"), (0, u "I"), (0, .fieldref 20 26), (0, .nameAndType 27 28), (0, u "backoffMillis"), (0, u "J"), (2, .long 9223372036854775807), (3, u "RETRYABLE_STATUSES"), (0, u "Ljava/util/Set;"), (56, u "IDEMPOTENT_METHODS"), (46, u "IDEMPOTENCY_KEY"), (0, u "Ljava/lang/String;"), (4, u "(IJ)V"), (4, u "(I)J")] 52

def k2c0 : Code := { maxStack := 4, maxLocals := 4, code := prog_53_method_1_code, exceptionTable := #[], attributes := #[] }
def k2m0 : Method := { name := "<init>", desc := "(IJ)V", sig := { parameters := [.int, .long], returnType := none }, accessFlags := 1, code := some k2c0 }
def k2c1 : Code := { maxStack := 5, maxLocals := 3, code := prog_53_method_3_code, exceptionTable := #[], attributes := #[] }
def k2m1 : Method := { name := "backoffMillis", desc := "(I)J", sig := { parameters := [.int], returnType := some .long }, accessFlags := 1, code := some k2c1 }
/-- dev/stint/http/RetryPolicy -/
def k2 : Class := { plain "dev/stint/http/RetryPolicy" (some 0) with
  accessFlags := 49
  interfaces := #[]
  cf := some (fileOf pool2 20 #[] #[{ accessFlags := 1, nameIndex := 5, descriptorIndex := 146, attributes := #[] }, { accessFlags := 1, nameIndex := 27, descriptorIndex := 151, attributes := #[] }] 49 2 #[] #[{ accessFlags := 25, nameIndex := 140, descriptorIndex := 141, attributes := #[] }, { accessFlags := 26, nameIndex := 93, descriptorIndex := 36, attributes := #[] }, { accessFlags := 26, nameIndex := 35, descriptorIndex := 36, attributes := #[] }, { accessFlags := 18, nameIndex := 23, descriptorIndex := 24, attributes := #[] }, { accessFlags := 18, nameIndex := 27, descriptorIndex := 28, attributes := #[] }])
  fields := #[{ name := "IDEMPOTENCY_KEY", type := (.object "java/lang/String"), accessFlags := 25, slot := 0, constantValue := 0 }, { name := "IDEMPOTENT_METHODS", type := (.object "java/util/Set"), accessFlags := 26, slot := 1, constantValue := 0 }, { name := "RETRYABLE_STATUSES", type := (.object "java/util/Set"), accessFlags := 26, slot := 2, constantValue := 0 }, { name := "retries", type := .int, accessFlags := 18, slot := 0, constantValue := 0 }, { name := "backoffMillis", type := .long, accessFlags := 18, slot := 1, constantValue := 0 }]
  methods := #[k2m0, k2m1]
  instanceTypes := #[.int, .long]
  staticTypes := #[(.object "java/lang/String"), (.object "java/util/Set"), (.object "java/util/Set")]
  resolved := Array.replicate 204 none
  statics := none }

def pool3 : Array CpInfo := pool [(1, u "java/lang/Cloneable"), (0, .class_ 1), (0, u "java/lang/Object"), (0, .class_ 3)] 3

/-- java/lang/Cloneable -/
def k3 : Class := { plain "java/lang/Cloneable" (some 0) with
  accessFlags := 1537
  interfaces := #[]
  cf := some (fileOf pool3 2 #[] #[] 1537 4 #[] #[])
  fields := #[]
  methods := #[]
  instanceTypes := #[]
  staticTypes := #[]
  resolved := Array.replicate 8 none
  statics := none }

def pool4 : Array CpInfo := pool [(1, u "java/io/Serializable"), (0, .class_ 1), (0, u "java/lang/Object"), (0, .class_ 3)] 3

/-- java/io/Serializable -/
def k4 : Class := { plain "java/io/Serializable" (some 0) with
  accessFlags := 1537
  interfaces := #[]
  cf := some (fileOf pool4 2 #[] #[] 1537 4 #[] #[])
  fields := #[]
  methods := #[]
  instanceTypes := #[]
  staticTypes := #[]
  resolved := Array.replicate 8 none
  statics := none }

/-- the primitive byte -/
def k5 : Class := { plain "byte" none with kind := .primitive 'B', accessFlags := 0x411 }
/-- [B -/
def k6 : Class := { plain "[B" (some 0) with kind := .array 5 .byte, interfaces := #[3, 4], accessFlags := 1041 }

/-- the primitive int -/
def k7 : Class := { plain "int" none with kind := .primitive 'I', accessFlags := 0x411 }
/-- [I -/
def k8 : Class := { plain "[I" (some 0) with kind := .array 7 .int, interfaces := #[3, 4], accessFlags := 1041 }

def heap : Heap := #[]
def classes : Array Class := #[k0, k1, k2, k3, k4, k5, k6, k7, k8]
def interned : List (Array UInt16 × Addr) := []
def slotsUsed : Nat := 0
def theMethod : MethodId := ⟨1, 2⟩
def args0 : Array Value := #[.int 5, .long 7, .int 2, .int 3]
def aboutOver (below : List Frame) : State where
  vm := { classes := classes, interned := interned.toArray }
  heap := heap
  slotsUsed := slotsUsed
  threads := #[{ frames := .invoking theMethod args0 :: below }]
def below0 : List Frame := [.native { method := ⟨0, 0⟩, args := #[] }]
def about1 : State := aboutOver below0
def p0 : Program := .bare "" "" ""
def e0 : Env := launch0.env 0 0 0
theorem w_frames : about1.frames = Frame.invoking theMethod args0 :: below0 := rfl
set_option maxRecDepth 65536 in
theorem w_args : argsFit about1.vm theMethod args0 = true := by decide +kernel
set_option maxRecDepth 65536 in
theorem w_heap : heapFits about1 = true := by decide +kernel
set_option maxRecDepth 65536 in
theorem w_runnable : about1.curStatus? = some .runnable := by decide +kernel
set_option maxRecDepth 65536 in
theorem w_alone : about1.alone = true := by decide +kernel
set_option maxRecDepth 65536 in
theorem w_named : about1.methodNamed? x = some theMethod := by decide +kernel
set_option maxRecDepth 65536 in
theorem w_hears : about1.hears theMethod below0 = true := by decide +kernel
set_option maxRecDepth 65536 in
theorem w_ripe : about1.ripe theMethod args0 below0 = true := by decide +kernel
theorem w_running : about1.status = .running := rfl
set_option maxRecDepth 65536 in
theorem w_room : about1.hasRoom e0.platform room_1 = true :=
  launch0.hasRoom_least _ room_1 (by decide +kernel) (by decide +kernel) (by decide +kernel) (by decide +kernel) (by decide +kernel) (by decide +kernel)
theorem allAtoms_all (ts : List Jvm.Cond) (a : Array Jvm.Value) (st : Jvm.State) : (allAtoms ts).before a st = ts.all (fun c => c.before a st) := by
  induction ts with
  | nil => rfl
  | cons c t ih =>
    show (Jvm.Cond.and c (allAtoms t)).before a st = _
    rw [Jvm.Cond.before_and, ih, List.all_cons]
def words1 : List Jvm.Cond := Jvm.Cond.code x code maxLocals ret :: tables_1
/-- a 'code' word, met by the world's own term for the bytes: nothing is compared byte by byte -/
theorem code_word {y : MethodName} {bytes : ByteArray} {mx : Nat} {rt : Option FieldType} {a : Array Value} {s : State} {m : MethodId} {meth : Method} {c : Code} (h1 : s.methodNamed? y = some m) (h2 : s.vm.method? m = some meth) (h3 : meth.code = some c) (h4 : c.code = bytes)
    (h5 : (c.maxLocals == mx && c.exceptionTable.isEmpty && decide (c.maxStack ≤ mostOperands) && decide (meth.sig.returnType = rt) && !meth.locks && decide (parseMethodDescriptor y.desc = some meth.sig)) = true) : (Jvm.Cond.code y bytes mx rt).before a s = true := by
  simp only [Bool.and_eq_true, beq_iff_eq, Bool.not_eq_true', decide_eq_true_eq] at h5
  obtain ⟨⟨⟨⟨⟨g1, g2⟩, g3⟩, g4⟩, g5⟩, g6⟩ := h5
  simp [Cond.before, Cond.holds, Cond.value, h1, h2, h3, h4, g1, g2, g3, g4, g5, g6]
def isCode : Jvm.Cond → Bool
  | .code _ _ _ _ => true
  | _ => false
theorem all_split {L : List Jvm.Cond} {P : Jvm.Cond → Bool} (h1 : L.all (fun c => isCode c || P c) = true) (h2 : ∀ c ∈ L.filter isCode, P c = true) : L.all P = true := by
  refine List.all_eq_true.mpr fun c hc => ?_
  have h := List.all_eq_true.mp h1 c hc
  rcases Bool.eq_false_or_eq_true (isCode c) with hi | hi
  · exact h2 c (List.mem_filter.mpr ⟨hc, hi⟩)
  · simpa [hi] using h
set_option maxRecDepth 65536 in
theorem w_c0 : (Jvm.Cond.code x code maxLocals ret).before args0 about1 = true := code_word (m := ⟨1, 2⟩) (meth := k1m2) (c := k1c2) (by decide +kernel) rfl rfl rfl (by decide +kernel)
set_option maxRecDepth 65536 in
theorem w_c1 : (Jvm.Cond.code ({ cls := "dev/stint/http/RetryPolicy", name := "<init>", desc := "(IJ)V" } : Jvm.MethodName) prog_53_method_1_code (4 : Nat) (Option.none : Option Jvm.ClassFile.FieldType)).before args0 about1 = true := code_word (m := ⟨2, 0⟩) (meth := k2m0) (c := k2c0) (by decide +kernel) rfl rfl rfl (by decide +kernel)
set_option maxRecDepth 65536 in
theorem w_c2 : (Jvm.Cond.code ({ cls := "java/lang/Object", name := "<init>", desc := "()V" } : Jvm.MethodName) object_method_1_code (1 : Nat) (Option.none : Option Jvm.ClassFile.FieldType)).before args0 about1 = true := code_word (m := ⟨0, 0⟩) (meth := k0m0) (c := k0c0) (by decide +kernel) rfl rfl rfl (by decide +kernel)
set_option maxRecDepth 65536 in
theorem w_c3 : (Jvm.Cond.code ({ cls := "dev/stint/http/RetryPolicy", name := "backoffMillis", desc := "(I)J" } : Jvm.MethodName) prog_53_method_3_code (3 : Nat) (Option.some Jvm.ClassFile.FieldType.long)).before args0 about1 = true := code_word (m := ⟨2, 1⟩) (meth := k2m1) (c := k2c1) (by decide +kernel) rfl rfl rfl (by decide +kernel)
set_option maxRecDepth 65536 in
theorem w_c4 : (Jvm.Cond.code ({ cls := "dev/stint/http/RetryPolicyBackoffMillisPinLaw", name := "saturatedDouble", desc := "(J)J" } : Jvm.MethodName) method_2_code (2 : Nat) (Option.some Jvm.ClassFile.FieldType.long)).before args0 about1 = true := code_word (m := ⟨1, 1⟩) (meth := k1m1) (c := k1c1) (by decide +kernel) rfl rfl rfl (by decide +kernel)
def codes1 : List Jvm.Cond := [Jvm.Cond.code x code maxLocals ret, Jvm.Cond.code ({ cls := "dev/stint/http/RetryPolicy", name := "<init>", desc := "(IJ)V" } : Jvm.MethodName) prog_53_method_1_code (4 : Nat) (Option.none : Option Jvm.ClassFile.FieldType), Jvm.Cond.code ({ cls := "java/lang/Object", name := "<init>", desc := "()V" } : Jvm.MethodName) object_method_1_code (1 : Nat) (Option.none : Option Jvm.ClassFile.FieldType), Jvm.Cond.code ({ cls := "dev/stint/http/RetryPolicy", name := "backoffMillis", desc := "(I)J" } : Jvm.MethodName) prog_53_method_3_code (3 : Nat) (Option.some Jvm.ClassFile.FieldType.long), Jvm.Cond.code ({ cls := "dev/stint/http/RetryPolicyBackoffMillisPinLaw", name := "saturatedDouble", desc := "(J)J" } : Jvm.MethodName) method_2_code (2 : Nat) (Option.some Jvm.ClassFile.FieldType.long)]
set_option maxRecDepth 65536 in
theorem codes_eq : words1.filter isCode = codes1 := rfl
theorem w_codes : ∀ c ∈ words1.filter isCode, c.before args0 about1 = true := by
  rw [codes_eq]
  intro c hc
  simp only [codes1, List.mem_cons, List.not_mem_nil, or_false] at hc
  rcases hc with rfl | rfl | rfl | rfl | rfl
  · exact w_c0
  · exact w_c1
  · exact w_c2
  · exact w_c3
  · exact w_c4
set_option maxRecDepth 65536 in
theorem w_t1 : (words1.take 24).all (fun c => isCode c || c.before args0 about1) = true := by decide +kernel
set_option maxRecDepth 65536 in
theorem w_t2 : (words1.drop 24).all (fun c => isCode c || c.before args0 about1) = true := by decide +kernel
theorem w_tables : (allAtoms (Jvm.Cond.code x code maxLocals ret :: tables_1)).before args0 about1 = true := by
  rw [allAtoms_all]
  show words1.all (fun c => c.before args0 about1) = true
  refine all_split ?_ w_codes
  rw [← List.take_append_drop 24 words1, List.all_append, w_t1, w_t2]
  rfl
set_option maxRecDepth 65536 in
theorem w_case : (Jvm.Cond.and given_1 narrow_1).before args0 about1 = true := by decide +kernel
theorem w_applies : (headSpec (Jvm.Cond.code x code maxLocals ret :: tables_1) room_1).applies x e0.platform about1 = true :=
  (Spec.applies_iff w_frames).mpr ⟨w_running, w_runnable, w_alone, w_named, w_hears, w_ripe, w_room, w_tables⟩
theorem atStart : AtStart classFile x code maxLocals ret World_1 tables_1 room_1 Calls_1 rest_1 Pre_1 launch0 p0 e0 about1 theMethod args0 below0 :=
  ⟨lists_1, trivial, launch0.admits_env _ _ _, launch0.least_env, fairChoices_fair.cas, fairChoices_fair.clock, w_frames, w_args, w_heap, w_applies, trivial, trivial, w_case⟩
end start1
theorem witness_1 : WitnessClaimed_1 := ⟨start1.p0, start1.e0, start1.about1, start1.theMethod, start1.args0, start1.below0, start1.atStart⟩
end Jvm.Pilot.@@N@@
