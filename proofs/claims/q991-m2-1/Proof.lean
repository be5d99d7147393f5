import JvmDerived
import JvmDerived.Pilot.@@N@@Statement
import JvmDerived.Pilot.@@N@@Code
set_option linter.unusedVariables false
set_option linter.unusedSimpArgs false
namespace Jvm.RoadKit
open Sem ClassFile Op Lib Jvm.Stand Jvm.Free Jvm.LawKit
section New
variable {p : Program} {l : Launch} {e : Env} {R : Room} {s : State} {m : MethodId} {args : Array Value} {below : List Frame} {meth : Method} {c : Code} {T : State} {locs : List Loc} {cells slots : Nat}
theorem retI (X : Stand p l e R s m args below meth c T locs cells slots) (hx : p.tables.exec = Jvm.exec) {pc : Nat} {Ls : Array Slot} {z : Int32} {rest : List Value} (hret : meth.sig.returnType = some .int) (hd : decode c.code pc = .ok (.ireturn, 1)) {fs : List Frame}
    (hl : ∀ (f : JFrame) (acts : List Action), f.method = m → f.locked = none → f.entered = [] → (doReturn e (T.setTop f) acts (some (.int z))).1 = T.setFrames fs) : Steps p.tables e below (T.setTop (mkF m pc Ls (.int z :: rest))) (T.setFrames fs) := by
  have hm' : T.vm.method? m = some meth := X.method'
  have hn : narrow .int (.int z) = .int z := rfl
  show Steps p.tables e below (T.setTop { method := m, pc := pc, locals := Ls, stack := _ :: rest, locked := none }) _
  jvm_step X.here [X.here.top, hx, hd, hm', hret, hn]
  first | (intro acts; rw [hl _ acts rfl rfl rfl]) | rw [hl _ _ rfl rfl rfl]
  exact Steps.refl _
theorem retJ (X : Stand p l e R s m args below meth c T locs cells slots) (hx : p.tables.exec = Jvm.exec) {pc : Nat} {Ls : Array Slot} {z : Int64} {rest : List Value} (hret : meth.sig.returnType = some .long) (hd : decode c.code pc = .ok (.lreturn, 1)) {fs : List Frame}
    (hl : ∀ (f : JFrame) (acts : List Action), f.method = m → f.locked = none → f.entered = [] → (doReturn e (T.setTop f) acts (some (.long z))).1 = T.setFrames fs) : Steps p.tables e below (T.setTop (mkF m pc Ls (.long z :: rest))) (T.setFrames fs) := by
  have hm' : T.vm.method? m = some meth := X.method'
  have hn : narrow .long (.long z) = .long z := rfl
  show Steps p.tables e below (T.setTop { method := m, pc := pc, locals := Ls, stack := _ :: rest, locked := none }) _
  jvm_step X.here [X.here.top, hx, hd, hm', hret, hn]
  first | (intro acts; rw [hl _ acts rfl rfl rfl]) | rw [hl _ _ rfl rfl rfl]
  exact Steps.refl _
theorem retR (X : Stand p l e R s m args below meth c T locs cells slots) (hx : p.tables.exec = Jvm.exec) {pc : Nat} {Ls : Array Slot} {v : Value} {rest : List Value} (hv : v.isRef = true) {ty : FieldType} (hret : meth.sig.returnType = some ty) (ht : ty.isReference = true) (hd : decode c.code pc = .ok (.areturn, 1)) {fs : List Frame}
    (hl : ∀ (f : JFrame) (acts : List Action), f.method = m → f.locked = none → f.entered = [] → (doReturn e (T.setTop f) acts (some v)).1 = T.setFrames fs) : Steps p.tables e below (T.setTop (mkF m pc Ls (v :: rest))) (T.setFrames fs) := by
  have hm' : T.vm.method? m = some meth := X.method'
  show Steps p.tables e below (T.setTop { method := m, pc := pc, locals := Ls, stack := _ :: rest, locked := none }) _
  jvm_step X.here [X.here.top, hx, hd, hm', hret, hv, ht]
  first | (intro acts; rw [hl _ acts rfl rfl rfl]) | rw [hl _ _ rfl rfl rfl]
  exact Steps.refl _
end New
end Jvm.RoadKit
namespace Jvm.Pilot.@@N@@
open Jvm Jvm.ClassFile Sem Op Lib Jvm.Free Jvm.Stand Jvm.LawKit Jvm.RoadKit Bundle Jvm.Pilot.@@N@@.Jvm.D
/-- from the state 'cur' on is enough -/
def own_Pre (p : Program) (e : Env) (below : List Frame) (start cur : State) : Prop := ∀ t, Steps p.tables e below cur t → Steps p.tables e below start t
/-- an array of ints (bytes, chars, booleans): its length z, its components ws (at least so many) -/
def own_AI (Z : State) (h : Heap) (a : Addr) (k : ClassId) (ty : FieldType) (z : Int32) (ws : List Int32) : Prop := Arv Z h a k ty z (ws.map Value.int) (.int 0) ∧ z.toNatClampNeg ≤ ws.length
def own_AJ (Z : State) (h : Heap) (a : Addr) (k : ClassId) (ty : FieldType) (z : Int32) (ws : List Int64) : Prop := Arv Z h a k ty z (ws.map Value.long) (.long 0) ∧ z.toNatClampNeg ≤ ws.length
section OwnA
variable {Z : State} {h h' : Heap} {a b : Addr} {k : ClassId} {ty : FieldType} {z : Int32} {ws : List Int32} {wl : List Int64} {sl : Nat} {v : Value} {L : List Addr}
theorem own_AI.lt (F : own_AI Z h a k ty z ws) : a < h.size := Arv.lt F.1
theorem own_AI.ext (F : own_AI Z h a k ty z ws) (E : Ext h h') : own_AI Z h' a k ty z ws := ⟨Arv.ext F.1 E, F.2⟩
theorem own_AI.other (F : own_AI Z h b k ty z ws) (W : Wr h h' a sl v) (q : b ≠ a) : own_AI Z h' b k ty z ws := ⟨Arv.other F.1 W q, F.2⟩
theorem own_AI.keep (F : own_AI Z h a k ty z ws) (K : Keep h h' L) (q : a ∉ L) : own_AI Z h' a k ty z ws := ⟨Arv.keep F.1 K q, F.2⟩
theorem own_AJ.lt (F : own_AJ Z h a k ty z wl) : a < h.size := Arv.lt F.1
theorem own_AJ.ext (F : own_AJ Z h a k ty z wl) (E : Ext h h') : own_AJ Z h' a k ty z wl := ⟨Arv.ext F.1 E, F.2⟩
theorem own_AJ.other (F : own_AJ Z h b k ty z wl) (W : Wr h h' a sl v) (q : b ≠ a) : own_AJ Z h' b k ty z wl := ⟨Arv.other F.1 W q, F.2⟩
theorem own_AJ.keep (F : own_AJ Z h a k ty z wl) (K : Keep h h' L) (q : a ∉ L) : own_AJ Z h' a k ty z wl := ⟨Arv.keep F.1 K q, F.2⟩
theorem own_AI.new (n : Nat) (A : Arr Z h a (newA k ty z) ty) (q : ¬ z < 0) (hn : z.toNatClampNeg ≤ n) (hd : defaultValue ty = .int 0) : own_AI Z h a k ty z (List.replicate n (0 : Int32)) := by
  have := Arv.new A q
  rw [hd] at this
  have r := this.pad (pad_rep [] (.int 0) n)
  exact ⟨by simpa [List.map_replicate] using r, by simpa using hn⟩
theorem own_AJ.new (n : Nat) (A : Arr Z h a (newA k ty z) ty) (q : ¬ z < 0) (hn : z.toNatClampNeg ≤ n) (hd : defaultValue ty = .long 0) : own_AJ Z h a k ty z (List.replicate n (0 : Int64)) := by
  have := Arv.new A q
  rw [hd] at this
  have r := this.pad (pad_rep [] (.long 0) n)
  exact ⟨by simpa [List.map_replicate] using r, by simpa using hn⟩
theorem own_getI (ws : List Int32) (i : Nat) : (ws.map Value.int).getD i (.int 0) = .int (ws.getD i 0) := by
  simp only [List.getD_eq_getElem?_getD, List.getElem?_map]
  cases ws[i]? <;> rfl
theorem own_getJ (ws : List Int64) (i : Nat) : (ws.map Value.long).getD i (.long 0) = .long (ws.getD i 0) := by
  simp only [List.getD_eq_getElem?_getD, List.getElem?_map]
  cases ws[i]? <;> rfl
theorem own_AI.at (F : own_AI Z h a k ty z ws) {j : Int32} (q : ¬ j < 0 ∧ j < z) : ∃ cl : Cell, Arr Z h a cl ty ∧ ¬ (j < 0 ∨ cl.slots.size ≤ j.toNatClampNeg) ∧ cl.slots[j.toNatClampNeg]? = some (.int (ws.getD j.toNatClampNeg 0)) := by
  obtain ⟨⟨cl, A, -, S, -, H, -⟩, -⟩ := F
  have hin := inb_of S q
  exact ⟨cl, A, hin, H.at hin (own_getI _ _)⟩
theorem own_AJ.at (F : own_AJ Z h a k ty z wl) {j : Int32} (q : ¬ j < 0 ∧ j < z) : ∃ cl : Cell, Arr Z h a cl ty ∧ ¬ (j < 0 ∨ cl.slots.size ≤ j.toNatClampNeg) ∧ cl.slots[j.toNatClampNeg]? = some (.long (wl.getD j.toNatClampNeg 0)) := by
  obtain ⟨⟨cl, A, -, S, -, H, -⟩, -⟩ := F
  have hin := inb_of S q
  exact ⟨cl, A, hin, H.at hin (own_getJ _ _)⟩
theorem own_AI.arr (F : own_AI Z h a k ty z ws) {j : Int32} (q : ¬ j < 0 ∧ j < z) : ∃ cl : Cell, Arr Z h a cl ty ∧ ¬ (j < 0 ∨ cl.slots.size ≤ j.toNatClampNeg) ∧ ∀ (h' : Heap) (x : Int32), fits ty (.int x) = true → Wr h h' a j.toNatClampNeg (.int x) → own_AI Z h' a k ty z (ws.set j.toNatClampNeg x) := by
  obtain ⟨⟨cl, A, q1, S, q3, H, G⟩, ln⟩ := F
  have hin := inb_of S q
  refine ⟨cl, A, hin, fun h' x hv W => ?_⟩
  have hl : j.toNatClampNeg < ws.length := by
    rcases Nat.lt_or_ge j.toNatClampNeg ws.length with u | u
    · exact u
    · exact absurd (Or.inr (by omega)) hin
  have := Arv.set A q1 S q3 H G hv W _ rfl (by simpa using hl)
  rw [← List.map_set] at this
  exact ⟨this, by simpa using ln⟩
theorem own_AJ.arr (F : own_AJ Z h a k ty z wl) {j : Int32} (q : ¬ j < 0 ∧ j < z) : ∃ cl : Cell, Arr Z h a cl ty ∧ ¬ (j < 0 ∨ cl.slots.size ≤ j.toNatClampNeg) ∧ ∀ (h' : Heap) (x : Int64), fits ty (.long x) = true → Wr h h' a j.toNatClampNeg (.long x) → own_AJ Z h' a k ty z (wl.set j.toNatClampNeg x) := by
  obtain ⟨⟨cl, A, q1, S, q3, H, G⟩, ln⟩ := F
  have hin := inb_of S q
  refine ⟨cl, A, hin, fun h' x hv W => ?_⟩
  have hl : j.toNatClampNeg < wl.length := by
    rcases Nat.lt_or_ge j.toNatClampNeg wl.length with u | u
    · exact u
    · exact absurd (Or.inr (by omega)) hin
  have := Arv.set A q1 S q3 H G hv W _ rfl (by simpa using hl)
  rw [← List.map_set] at this
  exact ⟨this, by simpa using ln⟩
theorem own_AI.len (F : own_AI Z h a k ty z ws) : ∃ cl : Cell, Arr Z h a cl ty ∧ cl.slots.size = z.toNatClampNeg ∧ ¬ z < 0 := by
  obtain ⟨⟨cl, A, -, S, q3, -, -⟩, -⟩ := F
  exact ⟨cl, A, S, q3⟩
theorem own_AJ.len (F : own_AJ Z h a k ty z wl) : ∃ cl : Cell, Arr Z h a cl ty ∧ cl.slots.size = z.toNatClampNeg ∧ ¬ z < 0 := by
  obtain ⟨⟨cl, A, -, S, q3, -, -⟩, -⟩ := F
  exact ⟨cl, A, S, q3⟩
end OwnA
/-- a private method selects itself, where another method of its class is known to be no interface's -/
theorem own_selp {s : State} {args : Array Value} {y z : MethodName} (hz : (Cond.selects z.cls z z).before args s = true) (hc : z.cls = y.cls) (hpriv : s.PrivateAt y) (hinst : (Cond.instanceMethod y).before args s = true) (hy : y.cls ≠ "java/lang/invoke/MethodHandle" ∧ y.cls ≠ "java/lang/invoke/VarHandle") : (Cond.selects y.cls y y).before args s = true := by
  obtain ⟨c2, r2, m2, -, -, q3, -, kP, hkP, hkPi⟩ := Cond.selects_spec hz
  have hf := findClass_of_methodNamed q3
  rw [hc] at hf
  exact selects_self_of_private hf hkP hkPi hpriv hinst hy
/-- what holds of every byte -/
theorem own_bytes {P : Int32 → Prop} (H : ∀ i : Fin 256, P (Int32.ofInt ((i.1 : Int) - 128))) (x : Int32) : P x.toInt8.toInt32 := by
  obtain ⟨-, h1, h2⟩ := c_i2b x
  have e : x.toInt8.toInt32 = Int32.ofInt (((⟨(x.toInt8.toInt32.toInt + 128).toNat, by omega⟩ : Fin 256).1 : Int) - 128) := by
    apply Int32.toInt_inj.mp
    show _ = (Int32.ofInt (((x.toInt8.toInt32.toInt + 128).toNat : Int) - 128)).toInt
    rw [Int32.toInt_ofInt_of_le (by omega) (by omega)]
    omega
  rw [e]
  exact H _


theorem d2_0 : decode method_2_code 0 = .ok (.lload_n 0, 1) := by decide +kernel
theorem d2_1 : decode method_2_code 1 = .ok (.ldc2_w 7, 3) := by decide +kernel
theorem d2_4 : decode method_2_code 4 = .ok (.land, 1) := by decide +kernel
theorem d2_5 : decode method_2_code 5 = .ok (.l2i, 1) := by decide +kernel
theorem d2_6 : decode method_2_code 6 = .ok (.istore_n 2, 1) := by decide +kernel
theorem d2_7 : decode method_2_code 7 = .ok (.iload_n 2, 1) := by decide +kernel
theorem d2_8 : decode method_2_code 8 = .ok (.ifCond .ne 6, 3) := by decide +kernel
theorem d2_11 : decode method_2_code 11 = .ok (.bipush 10, 2) := by decide +kernel
theorem d2_13 : decode method_2_code 13 = .ok (.ireturn, 1) := by decide +kernel
theorem d2_14 : decode method_2_code 14 = .ok (.iload_n 2, 1) := by decide +kernel
theorem d2_15 : decode method_2_code 15 = .ok (.iconst 1, 1) := by decide +kernel
theorem d2_16 : decode method_2_code 16 = .ok (.if_icmp .ne 6, 3) := by decide +kernel
theorem d2_19 : decode method_2_code 19 = .ok (.bipush 13, 2) := by decide +kernel
theorem d2_21 : decode method_2_code 21 = .ok (.ireturn, 1) := by decide +kernel
theorem d2_22 : decode method_2_code 22 = .ok (.lload_n 0, 1) := by decide +kernel
theorem d2_23 : decode method_2_code 23 = .ok (.iconst 2, 1) := by decide +kernel
theorem d2_24 : decode method_2_code 24 = .ok (.lushr, 1) := by decide +kernel
theorem d2_25 : decode method_2_code 25 = .ok (.ldc2_w 9, 3) := by decide +kernel
theorem d2_28 : decode method_2_code 28 = .ok (.land, 1) := by decide +kernel
theorem d2_29 : decode method_2_code 29 = .ok (.l2i, 1) := by decide +kernel
theorem d2_30 : decode method_2_code 30 = .ok (.i2c, 1) := by decide +kernel
theorem d2_31 : decode method_2_code 31 = .ok (.ireturn, 1) := by decide +kernel
theorem pn_0 : plainName "com/example/trawl/trawl/dtd/TextPositionPassPinLaw" = true := by first | (simp [plainName, overriddenIn]; done) | decide +kernel
theorem ef_2 (m : MethodId) (q0 : Int64) : entryFrame m #[(.long q0)] 3 = mkF m 0 #[.val (.long q0), .second, .unset] [] := by first | (simp [entryFrame, mkF, argsToLocals, Value.category]; done) | rfl
def own_f2 (q0 : Int64) : Int32 := (if (((q0 &&& (3 : Int64))).toInt32) = (0 : Int32) then (10 : Int32) else (if (((q0 &&& (3 : Int64))).toInt32) = (1 : Int32) then (13 : Int32) else (nar .char (((((q0).toUInt64 >>> ((2 : Int32) &&& 0x3f).toInt64.toUInt64).toInt64 &&& (255 : Int64))).toInt32).toUInt32.toUInt16.toUInt32.toInt32)))
def Q2 (Z : State) (q0 : Int64) (h0 : Heap) (n0 : Nat) (v : Option Value) (h : Heap) (L : List Loc) : Prop := v = some (.int (own_f2 q0)) ∧ Fr n0 L ∧ h = h0
set_option maxRecDepth 65536 in
set_option maxHeartbeats 40000000 in
theorem rm2 (l : Launch) (Z : State) (aw : Array Value) (hw : ∀ d ∈ tables_1, d.before aw Z = true) (wq : List Jvm.Cond) (q0 : Int64) (h0 : Heap) (n0 : Nat) (Z0 : n0 ≤ h0.size) :
    MetFree l (⟨"com/example/trawl/trawl/dtd/TextPositionPassPinLaw", "decode", "(J)C"⟩ : MethodName) (head1 (Jvm.Cond.code (⟨"com/example/trawl/trawl/dtd/TextPositionPassPinLaw", "decode", "(J)C"⟩ : MethodName) method_2_code 3 (some .char) :: wq) ({ frames := 0, cells := 0, slots := 0, locals := 0 } : Room)) (fun a U => a = #[(.long q0)] ∧ Z.Warmed39 U.vm ∧ U.heap = h0) (fun _ _ _ _ _ => True) (fun _ U o U' => ∃ v L, o = .returned v ∧ Q2 Z q0 h0 n0 v U'.heap L ∧ FrameEnd U o U' L ({ frames := 0, cells := 0, slots := 0, locals := 0 } : Room).cells ({ frames := 0, cells := 0, slots := 0, locals := 0 } : Room).slots) := by
  refine MetFree.of_bodySF (plainFor_of_name pn_0) hisR ?_
  intro p e s m args below meth c s₁ Bd hml0 hP hK
  obtain ⟨rfl, hZ, hh⟩ := hP
  have hx := Bd.exec
  have hby := Bd.bytes
  have hml : c.maxLocals = 3 := hml0
  have hown : s.vm.findClass "com/example/trawl/trawl/dtd/TextPositionPassPinLaw" = some m.cls := findClass_of_methodNamed Bd.named
  have hnm := (name_of_methodNamed Bd.named Bd.method).1
  have X0 : Stand p l e ({ frames := 0, cells := 0, slots := 0, locals := 0 } : Room) s m #[(.long q0)] below meth c s₁ [] 0 0 := Stand.of_body Bd
  have e0 : s₁.heap = h0 := by rw [← hh, Bd.state]; rfl
  have N0 := Fr.nil n0
  have pre0 : own_Pre p e below (s₁.setTop (entryFrame m #[(.long q0)] 3)) (s₁.setTop (mkF m 0 #[.val (.long q0), .second, .unset] [])) := fun t k => castTop (ef_2 m q0) k
  obtain ⟨x2_7, hx2_7, pre1⟩ : ∃ z : Int32, z = ((q0 &&& (3 : Int64))).toInt32 ∧ own_Pre p e below (s₁.setTop (entryFrame m #[(.long q0)] 3)) (s₁.setTop (mkF m 7 #[.val (.long q0), .second, .val (.int z)] [])) := ⟨_, rfl, fun t k => pre0 t (by
      show Steps p.tables e below (s₁.setTop (mkF m 0 #[.val (.long q0), .second, .unset] [])) _
      refine XS.lloadN X0.here hx rfl (hb hby d2_0) rfl ?_
      refine X0.ldc2Long hx hown (mvT hZ (hw _ (List.mem_of_getElem? (i := 9) rfl))) (g := (mkF m 1 #[.val (.long q0), .second, .unset] [(.long q0)])) rfl (hb hby d2_1) _ ?_
      refine XS.land X0.here hx rfl (hb hby d2_4) rfl ?_
      refine XS.l2i X0.here hx rfl (hb hby d2_5) rfl ?_
      refine XS.istoreN X0.here hx rfl (hb hby d2_6) rfl (l' := #[.val (.long q0), .second, .val (.int ((q0 &&& (3 : Int64))).toInt32)]) rfl ?_
      exact k)⟩
  have pre2 : own_Pre p e below (s₁.setTop (entryFrame m #[(.long q0)] 3)) (s₁.setTop (mkF m 8 #[.val (.long q0), .second, .val (.int x2_7)] [(.int x2_7)])) := fun t k => pre1 t (by
      show Steps p.tables e below (s₁.setTop (mkF m 7 #[.val (.long q0), .second, .val (.int x2_7)] [])) _
      refine XS.iloadN X0.here hx rfl (hb hby d2_7) rfl ?_
      exact k)
  by_cases hc8 : x2_7 = (0 : Int32)
  · obtain ⟨fs, hr, hrun, hended, hW, hsame⟩ := X0.leave (v := some (.int (10 : Int32))) (fun h => by rw [Bd.returns] at h; cases h)
    refine ⟨_, _, pre2 _ ?_, hrun, hended, _, _, rfl, ?_, ⟨_, rfl⟩, hW, hsame.mono (by decide) (by decide)⟩
    · show Steps p.tables e below (s₁.setTop (mkF m 8 #[.val (.long q0), .second, .val (.int x2_7)] [(.int x2_7)])) _
      refine XS.ifNo X0.here hx rfl (hb hby d2_8) rfl ((if0 _ _).trans (teq hc8).2) ?_
      refine XS.bipush X0.here hx rfl (hb hby d2_11) ?_
      show Steps p.tables e below (s₁.setTop (mkF m 13 #[.val (.long q0), .second, .val (.int x2_7)] [(.int (10 : Int32))])) _
      exact retN X0 hx (t := .char) Bd.returns (by simp) (hb hby d2_13) hr
    · show Q2 Z q0 h0 n0 _ s₁.heap _
      rw [e0]
      unfold Q2
      refine ⟨?_, N0, rfl⟩
      · subst hx2_7; simp only [own_f2, if_pos hc8]
  · have pre3 : own_Pre p e below (s₁.setTop (entryFrame m #[(.long q0)] 3)) (s₁.setTop (mkF m 16 #[.val (.long q0), .second, .val (.int x2_7)] [(.int (1 : Int32)), (.int x2_7)])) := fun t k => pre2 t (by
        show Steps p.tables e below (s₁.setTop (mkF m 8 #[.val (.long q0), .second, .val (.int x2_7)] [(.int x2_7)])) _
        refine XS.ifYes X0.here hx rfl (pc0 := 8) (pc' := 14) rfl (hb hby d2_8) rfl ((if0 _ _).trans (feq hc8).2) (by decide) (by decide) ?_
        refine XS.iloadN X0.here hx rfl (hb hby d2_14) rfl ?_
        refine XS.iconst X0.here hx rfl (hb hby d2_15) ?_
        exact k)
    by_cases hc16 : x2_7 = (1 : Int32)
    · obtain ⟨fs, hr, hrun, hended, hW, hsame⟩ := X0.leave (v := some (.int (13 : Int32))) (fun h => by rw [Bd.returns] at h; cases h)
      refine ⟨_, _, pre3 _ ?_, hrun, hended, _, _, rfl, ?_, ⟨_, rfl⟩, hW, hsame.mono (by decide) (by decide)⟩
      · show Steps p.tables e below (s₁.setTop (mkF m 16 #[.val (.long q0), .second, .val (.int x2_7)] [(.int (1 : Int32)), (.int x2_7)])) _
        refine XS.icmpNo X0.here hx rfl (hb hby d2_16) rfl (teq hc16).2 ?_
        refine XS.bipush X0.here hx rfl (hb hby d2_19) ?_
        show Steps p.tables e below (s₁.setTop (mkF m 21 #[.val (.long q0), .second, .val (.int x2_7)] [(.int (13 : Int32))])) _
        exact retN X0 hx (t := .char) Bd.returns (by simp) (hb hby d2_21) hr
      · show Q2 Z q0 h0 n0 _ s₁.heap _
        rw [e0]
        unfold Q2
        refine ⟨?_, N0, rfl⟩
        · subst hx2_7; simp only [own_f2, if_neg hc8, if_pos hc16]
    · obtain ⟨fs, hr, hrun, hended, hW, hsame⟩ := X0.leave (v := some (.int (nar .char (((((q0).toUInt64 >>> ((2 : Int32) &&& 0x3f).toInt64.toUInt64).toInt64 &&& (255 : Int64))).toInt32).toUInt32.toUInt16.toUInt32.toInt32))) (fun h => by rw [Bd.returns] at h; cases h)
      refine ⟨_, _, pre3 _ ?_, hrun, hended, _, _, rfl, ?_, ⟨_, rfl⟩, hW, hsame.mono (by decide) (by decide)⟩
      · show Steps p.tables e below (s₁.setTop (mkF m 16 #[.val (.long q0), .second, .val (.int x2_7)] [(.int (1 : Int32)), (.int x2_7)])) _
        refine XS.icmpYes X0.here hx rfl (pc0 := 16) (pc' := 22) rfl (hb hby d2_16) rfl (feq hc16).2 (by decide) (by decide) ?_
        refine XS.lloadN X0.here hx rfl (hb hby d2_22) rfl ?_
        refine XS.iconst X0.here hx rfl (hb hby d2_23) ?_
        refine XS.lushr X0.here hx rfl (hb hby d2_24) rfl ?_
        refine X0.ldc2Long hx hown (mvT hZ (hw _ (List.mem_of_getElem? (i := 10) rfl))) (g := (mkF m 25 #[.val (.long q0), .second, .val (.int x2_7)] [(.long ((q0).toUInt64 >>> ((2 : Int32) &&& 0x3f).toInt64.toUInt64).toInt64)])) rfl (hb hby d2_25) _ ?_
        show Steps p.tables e below (s₁.setTop (mkF m 28 #[.val (.long q0), .second, .val (.int x2_7)] [(.long (255 : Int64)), (.long ((q0).toUInt64 >>> ((2 : Int32) &&& 0x3f).toInt64.toUInt64).toInt64)])) _
        refine XS.land X0.here hx rfl (hb hby d2_28) rfl ?_
        refine XS.l2i X0.here hx rfl (hb hby d2_29) rfl ?_
        refine XS.i2c X0.here hx rfl (hb hby d2_30) rfl ?_
        show Steps p.tables e below (s₁.setTop (mkF m 31 #[.val (.long q0), .second, .val (.int x2_7)] [(.int (((((q0).toUInt64 >>> ((2 : Int32) &&& 0x3f).toInt64.toUInt64).toInt64 &&& (255 : Int64))).toInt32).toUInt32.toUInt16.toUInt32.toInt32)])) _
        exact retN X0 hx (t := .char) Bd.returns (by simp) (hb hby d2_31) hr
      · show Q2 Z q0 h0 n0 _ s₁.heap _
        rw [e0]
        unfold Q2
        refine ⟨?_, N0, rfl⟩
        · subst hx2_7; simp only [own_f2, if_neg hc8, if_neg hc16]
theorem d1_0 : decode method_3_code 0 = .ok (.lload_n 0, 1) := by decide +kernel
theorem d1_1 : decode method_3_code 1 = .ok (.bipush 10, 2) := by decide +kernel
theorem d1_3 : decode method_3_code 3 = .ok (.iload_n 2, 1) := by decide +kernel
theorem d1_4 : decode method_3_code 4 = .ok (.imul, 1) := by decide +kernel
theorem d1_5 : decode method_3_code 5 = .ok (.lushr, 1) := by decide +kernel
theorem d1_6 : decode method_3_code 6 = .ok (.ldc2_w 11, 3) := by decide +kernel
theorem d1_9 : decode method_3_code 9 = .ok (.land, 1) := by decide +kernel
theorem d1_10 : decode method_3_code 10 = .ok (.invokestatic 13, 3) := by decide +kernel
theorem d1_13 : decode method_3_code 13 = .ok (.ireturn, 1) := by decide +kernel
theorem pd_0 : parseMethodDescriptor "(J)C" = some ⟨[.long], some .char⟩ := by decide +kernel
theorem ef_1 (m : MethodId) (q0 : Int64) (p1 : Int32) : entryFrame m #[(.long q0), (.int p1)] 3 = mkF m 0 #[.val (.long q0), .second, .val (.int p1)] [] := by first | (simp [entryFrame, mkF, argsToLocals, Value.category]; done) | rfl
def own_f1 (q0 : Int64) (p1 : Int32) : Int32 := (nar .char (own_f2 ((((q0).toUInt64 >>> (((10 : Int32) * p1) &&& 0x3f).toInt64.toUInt64).toInt64 &&& (1023 : Int64)))))
def Q1 (Z : State) (q0 : Int64) (p1 : Int32) (h0 : Heap) (n0 : Nat) (v : Option Value) (h : Heap) (L : List Loc) : Prop := v = some (.int (own_f1 q0 p1)) ∧ Fr n0 L ∧ h = h0
set_option maxRecDepth 65536 in
set_option maxHeartbeats 40000000 in
theorem rm1 (l : Launch) (Z : State) (aw : Array Value) (hw : ∀ d ∈ tables_1, d.before aw Z = true) (wq : List Jvm.Cond) (q0 : Int64) (p1 : Int32) (h0 : Heap) (n0 : Nat) (Z0 : n0 ≤ h0.size) :
    MetFree l (⟨"com/example/trawl/trawl/dtd/TextPositionPassPinLaw", "ch", "(JI)C"⟩ : MethodName) (head1 (Jvm.Cond.code (⟨"com/example/trawl/trawl/dtd/TextPositionPassPinLaw", "ch", "(JI)C"⟩ : MethodName) method_3_code 3 (some .char) :: wq) ({ frames := 1, cells := 0, slots := 0, locals := 14 } : Room)) (fun a U => a = #[(.long q0), (.int p1)] ∧ Z.Warmed39 U.vm ∧ U.heap = h0) (fun _ _ _ _ _ => True) (fun _ U o U' => ∃ v L, o = .returned v ∧ Q1 Z q0 p1 h0 n0 v U'.heap L ∧ FrameEnd U o U' L ({ frames := 1, cells := 0, slots := 0, locals := 14 } : Room).cells ({ frames := 1, cells := 0, slots := 0, locals := 14 } : Room).slots) := by
  refine MetFree.of_bodySF (plainFor_of_name pn_0) hisR ?_
  intro p e s m args below meth c s₁ Bd hml0 hP hK
  obtain ⟨rfl, hZ, hh⟩ := hP
  have hx := Bd.exec
  have hby := Bd.bytes
  have hml : c.maxLocals = 3 := hml0
  have hown : s.vm.findClass "com/example/trawl/trawl/dtd/TextPositionPassPinLaw" = some m.cls := findClass_of_methodNamed Bd.named
  have hnm := (name_of_methodNamed Bd.named Bd.method).1
  have X0 : Stand p l e ({ frames := 1, cells := 0, slots := 0, locals := 14 } : Room) s m #[(.long q0), (.int p1)] below meth c s₁ [] 0 0 := Stand.of_body Bd
  have e0 : s₁.heap = h0 := by rw [← hh, Bd.state]; rfl
  have N0 := Fr.nil n0
  have pre0 : own_Pre p e below (s₁.setTop (entryFrame m #[(.long q0), (.int p1)] 3)) (s₁.setTop (mkF m 0 #[.val (.long q0), .second, .val (.int p1)] [])) := fun t k => castTop (ef_1 m q0 p1) k
  obtain ⟨_, _, ⟨T1, L1, k1, n1⟩, -, X1, ⟨Lc1, hQ1, l1, y1, z1⟩, st1⟩ := Jvm.LawKit.callS X0 hx (y := (⟨"com/example/trawl/trawl/dtd/TextPositionPassPinLaw", "decode", "(J)C"⟩ : MethodName)) hown (mvT hZ (hw _ (List.mem_of_getElem? (i := 6) rfl))) (mvT hZ (hw _ (List.mem_of_getElem? (i := 7) rfl))) (mvT hZ (hw _ (List.mem_of_getElem? (i := 3) rfl))) (mvT hZ (hw _ (List.mem_of_getElem? (i := 8) rfl))) (by decide) (backOf (W := 0) (rm2 l Z aw hw [] ((((q0).toUInt64 >>> (((10 : Int32) * p1) &&& 0x3f).toInt64.toUInt64).toInt64 &&& (1023 : Int64))) (h0) n0 Z0) hZ (hw _ (List.mem_of_getElem? (i := 8) rfl)) (hw _ (List.mem_of_getElem? (i := 3) rfl)) (by decide) (by decide)) (g := (mkF m 10 #[.val (.long q0), .second, .val (.int p1)] [(.long (((q0).toUInt64 >>> (((10 : Int32) * p1) &&& 0x3f).toInt64.toUInt64).toInt64 &&& (1023 : Int64)))])) rfl (by rw [hml]; rfl) (argsL := [(.long (((q0).toUInt64 >>> (((10 : Int32) * p1) &&& 0x3f).toInt64.toUInt64).toInt64 &&& (1023 : Int64)))]) (rest := []) (lenOf pd_0 rfl) rfl (by show 2 * 0 + _ ≤ _; exact Nat.le_of_eq rfl) (hb hby d1_10) (fun _ _ => ⟨rfl, e0, (by decide : 0 + 0 ≤ _), (by decide : 0 + 0 ≤ _)⟩)
  dsimp only [Pt.U, Pt.locs, Pt.cells, Pt.slots] at X1 l1 y1 z1 st1 hQ1
  subst l1 y1 z1
  obtain ⟨rfl, Nq1, eq1⟩ := hQ1
  have N1 := Fr.app N0 Nq1
  obtain ⟨fs, hr, hrun, hended, hW, hsame⟩ := X1.leave (v := some (.int (nar .char (own_f2 ((((q0).toUInt64 >>> (((10 : Int32) * p1) &&& 0x3f).toInt64.toUInt64).toInt64 &&& (1023 : Int64))))))) (fun h => by rw [Bd.returns] at h; cases h)
  refine ⟨_, _, pre0 _ ?_, hrun, hended, _, _, rfl, ?_, ⟨_, rfl⟩, hW, hsame.mono (by decide) (by decide)⟩
  · show Steps p.tables e below (s₁.setTop (mkF m 0 #[.val (.long q0), .second, .val (.int p1)] [])) _
    refine XS.lloadN X0.here hx rfl (hb hby d1_0) rfl ?_
    refine XS.bipush X0.here hx rfl (hb hby d1_1) ?_
    refine XS.iloadN X0.here hx rfl (hb hby d1_3) rfl ?_
    refine XS.imul X0.here hx rfl (hb hby d1_4) rfl ?_
    refine XS.lushr X0.here hx rfl (hb hby d1_5) rfl ?_
    show Steps p.tables e below (s₁.setTop (mkF m 6 #[.val (.long q0), .second, .val (.int p1)] [(.long ((q0).toUInt64 >>> (((10 : Int32) * p1) &&& 0x3f).toInt64.toUInt64).toInt64)])) _
    refine X0.ldc2Long hx hown (mvT hZ (hw _ (List.mem_of_getElem? (i := 5) rfl))) (g := (mkF m 6 #[.val (.long q0), .second, .val (.int p1)] [(.long ((q0).toUInt64 >>> (((10 : Int32) * p1) &&& 0x3f).toInt64.toUInt64).toInt64)])) rfl (hb hby d1_6) _ ?_
    refine XS.land X0.here hx rfl (hb hby d1_9) rfl ?_
    refine st1 _ ?_
    show Steps p.tables e below (T1.setTop (mkF m 13 #[.val (.long q0), .second, .val (.int p1)] [(.int (own_f2 ((((q0).toUInt64 >>> (((10 : Int32) * p1) &&& 0x3f).toInt64.toUInt64).toInt64 &&& (1023 : Int64)))))])) _
    exact retN X1 hx (t := .char) Bd.returns (by simp) (hb hby d1_13) hr
  · show Q1 Z q0 p1 h0 n0 _ T1.heap _
    rw [eq1]
    unfold Q1
    refine ⟨?_, N1, rfl⟩
    · simp only [own_f1]
theorem d3_0 : decode prog_22_method_1_code 0 = .ok (.aload_n 0, 1) := by decide +kernel
theorem d3_1 : decode prog_22_method_1_code 1 = .ok (.invokespecial 1, 3) := by decide +kernel
theorem d3_4 : decode prog_22_method_1_code 4 = .ok (.aload_n 0, 1) := by decide +kernel
theorem d3_5 : decode prog_22_method_1_code 5 = .ok (.iconst 1, 1) := by decide +kernel
theorem d3_6 : decode prog_22_method_1_code 6 = .ok (.putfield 7, 3) := by decide +kernel
theorem d3_9 : decode prog_22_method_1_code 9 = .ok (.return_, 1) := by decide +kernel
theorem pn_1 : plainName "com/example/trawl/trawl/dtd/TextPosition" = true := by first | (simp [plainName, overriddenIn]; done) | decide +kernel
theorem ef_3 (m : MethodId) (a0 : Addr) : entryFrame m #[(.ref a0)] 1 = mkF m 0 #[.val (.ref a0)] [] := by first | (simp [entryFrame, mkF, argsToLocals, Value.category]; done) | rfl
def Q3 (Z : State) (a0 : Addr) (h0 : Heap) (n0 : Nat) (v : Option Value) (h : Heap) (L : List Loc) : Prop := v = none ∧ Fr n0 L ∧ Keep h0 h [a0] ∧ Exa Z h a0 "com/example/trawl/trawl/dtd/TextPosition" ∧ Fld Z h a0 "com/example/trawl/trawl/dtd/TextPosition" "line" "I" (.int (1 : Int32)) ∧ Fld Z h a0 "com/example/trawl/trawl/dtd/TextPosition" "passed" "J" (.long (0 : Int64)) ∧ Fld Z h a0 "com/example/trawl/trawl/dtd/TextPosition" "lineStart" "J" (.long (0 : Int64)) ∧ Fld Z h a0 "com/example/trawl/trawl/dtd/TextPosition" "afterCarriageReturn" "Z" (.int (0 : Int32))
set_option maxRecDepth 65536 in
set_option maxHeartbeats 40000000 in
theorem rm3 (l : Launch) (Z : State) (aw : Array Value) (hw : ∀ d ∈ tables_1, d.before aw Z = true) (wq : List Jvm.Cond) (a0 : Addr) (h0 : Heap) (n0 : Nat) (Z0 : n0 ≤ h0.size) (E_a0 : Exa Z h0 a0 "com/example/trawl/trawl/dtd/TextPosition") (F_a0_line : Fld Z h0 a0 "com/example/trawl/trawl/dtd/TextPosition" "line" "I" (.int (0 : Int32))) (F_a0_passed : Fld Z h0 a0 "com/example/trawl/trawl/dtd/TextPosition" "passed" "J" (.long (0 : Int64))) (F_a0_lineStart : Fld Z h0 a0 "com/example/trawl/trawl/dtd/TextPosition" "lineStart" "J" (.long (0 : Int64))) (F_a0_afterCarriageReturn : Fld Z h0 a0 "com/example/trawl/trawl/dtd/TextPosition" "afterCarriageReturn" "Z" (.int (0 : Int32))) (g_a0 : n0 ≤ a0) :
    MetFree l (⟨"com/example/trawl/trawl/dtd/TextPosition", "<init>", "()V"⟩ : MethodName) (head1 (Jvm.Cond.code (⟨"com/example/trawl/trawl/dtd/TextPosition", "<init>", "()V"⟩ : MethodName) prog_22_method_1_code 1 none :: wq) ({ frames := 1, cells := 0, slots := 0, locals := 12 } : Room)) (fun a U => a = #[(.ref a0)] ∧ Z.Warmed39 U.vm ∧ U.heap = h0) (fun _ _ _ _ _ => True) (fun _ U o U' => ∃ v L, o = .returned v ∧ Q3 Z a0 h0 n0 v U'.heap L ∧ FrameEnd U o U' L ({ frames := 1, cells := 0, slots := 0, locals := 12 } : Room).cells ({ frames := 1, cells := 0, slots := 0, locals := 12 } : Room).slots) := by
  refine MetFree.of_bodySF (plainFor_of_name pn_1) hisR ?_
  intro p e s m args below meth c s₁ Bd hml0 hP hK
  obtain ⟨rfl, hZ, hh⟩ := hP
  have hx := Bd.exec
  have hby := Bd.bytes
  have hml : c.maxLocals = 1 := hml0
  have hown : s.vm.findClass "com/example/trawl/trawl/dtd/TextPosition" = some m.cls := findClass_of_methodNamed Bd.named
  have hnm := (name_of_methodNamed Bd.named Bd.method).1
  have X0 : Stand p l e ({ frames := 1, cells := 0, slots := 0, locals := 12 } : Room) s m #[(.ref a0)] below meth c s₁ [] 0 0 := Stand.of_body Bd
  have e0 : s₁.heap = h0 := by rw [← hh, Bd.state]; rfl
  have N0 := Fr.nil n0
  have pre0 : own_Pre p e below (s₁.setTop (entryFrame m #[(.ref a0)] 1)) (s₁.setTop (mkF m 0 #[.val (.ref a0)] [])) := fun t k => castTop (ef_3 m a0) k
  obtain ⟨T1, X1, e1, st1⟩ := initO X0 hx hZ hown (hw _ (List.mem_of_getElem? (i := 17) rfl)) (hw _ (List.mem_of_getElem? (i := 18) rfl)) (hw _ (List.mem_of_getElem? (i := 19) rfl)) e0 (g := (mkF m 1 #[.val (.ref a0)] [(.ref a0)])) rfl (by rw [hml]; rfl) rfl (hb hby d3_1) (by decide) (W := 0) (by show 2 * 0 + _ ≤ _; exact Nat.le_of_eq rfl) (by decide)
  obtain ⟨T2, h2, X2, e2, W2, st2⟩ := putF X1 hx hZ hown (host := "") (Or.inl (hw _ (List.mem_of_getElem? (i := 20) rfl))) Via.refl e1 F_a0_line E_a0 (Or.inl (hw _ (List.mem_of_getElem? (i := 21) rfl))) (hw _ (List.mem_of_getElem? (i := 12) rfl)) (ty := .int) (by decide) rfl rfl (g := (mkF m 6 #[.val (.ref a0)] [(.int (1 : Int32)), (.ref a0)])) rfl rfl (hb hby d3_6)
  have Fw2 := F_a0_line.same W2
  have N2 := Fr.snoc X2 N0 g_a0
  have kp3 : Keep h0 h2 [a0] := (Keep.refl h0 [a0]).wr W2 (Or.inl (List.mem_of_getElem? (i := 0) rfl))
  obtain ⟨fs, hr, hrun, hended, hW, hsame⟩ := X2.leave (v := none) (fun _ => rfl)
  refine ⟨_, _, pre0 _ ?_, hrun, hended, _, _, rfl, ?_, ⟨_, rfl⟩, hW, hsame.mono (by decide) (by decide)⟩
  · show Steps p.tables e below (s₁.setTop (mkF m 0 #[.val (.ref a0)] [])) _
    refine XS.aloadN X0.here hx rfl (hb hby d3_0) rfl rfl ?_
    refine st1 _ ?_
    refine XS.aloadN X1.here hx rfl (hb hby d3_4) rfl rfl ?_
    refine XS.iconst X1.here hx rfl (hb hby d3_5) ?_
    refine st2 _ ?_
    show Steps p.tables e below (T2.setTop (mkF m 9 #[.val (.ref a0)] [])) _
    exact X2.returnOut hx Bd.returns (hb hby d3_9) hr
  · show Q3 Z a0 h0 n0 _ T2.heap _
    rw [e2]
    unfold Q3
    have f4 := (E_a0.wr W2)
    have f5 := (F_a0_passed.other W2 (Or.inr (slot_ne (Or.inl (hw _ (List.mem_of_getElem? (i := 36) rfl))) (Or.inl (hw _ (List.mem_of_getElem? (i := 21) rfl))) (by decide) (t := .long) (t' := .int) (by decide) (by decide))))
    have f6 := (F_a0_lineStart.other W2 (Or.inr (slot_ne (Or.inl (hw _ (List.mem_of_getElem? (i := 38) rfl))) (Or.inl (hw _ (List.mem_of_getElem? (i := 21) rfl))) (by decide) (t := .long) (t' := .int) (by decide) (by decide))))
    have f7 := (F_a0_afterCarriageReturn.other W2 (Or.inr (slot_ne (Or.inl (hw _ (List.mem_of_getElem? (i := 48) rfl))) (Or.inl (hw _ (List.mem_of_getElem? (i := 21) rfl))) (by decide) (t := .boolean) (t' := .int) (by decide) (by decide))))
    refine ⟨rfl, N2, kp3, f4, ?_, ?_, ?_, ?_⟩
    · exact Fw2
    · exact f5
    · exact f6
    · exact f7
theorem d6_0 : decode prog_22_method_4_code 0 = .ok (.aload_n 0, 1) := by decide +kernel
theorem d6_1 : decode prog_22_method_4_code 1 = .ok (.getfield 7, 3) := by decide +kernel
theorem d6_4 : decode prog_22_method_4_code 4 = .ok (.ireturn, 1) := by decide +kernel
theorem ef_6 (m : MethodId) (a0 : Addr) : entryFrame m #[(.ref a0)] 1 = mkF m 0 #[.val (.ref a0)] [] := by first | (simp [entryFrame, mkF, argsToLocals, Value.category]; done) | rfl
def Q6 (Z : State) (a0 : Addr) (ln : Int32) (h0 : Heap) (n0 : Nat) (v : Option Value) (h : Heap) (L : List Loc) : Prop := v = some (.int ln) ∧ Fr n0 L ∧ h = h0
set_option maxRecDepth 65536 in
set_option maxHeartbeats 40000000 in
theorem rm6 (l : Launch) (Z : State) (aw : Array Value) (hw : ∀ d ∈ tables_1, d.before aw Z = true) (wq : List Jvm.Cond) (a0 : Addr) (ln : Int32) (h0 : Heap) (n0 : Nat) (Z0 : n0 ≤ h0.size) (F_a0_line : Fld Z h0 a0 "com/example/trawl/trawl/dtd/TextPosition" "line" "I" (.int ln)) :
    MetFree l (⟨"com/example/trawl/trawl/dtd/TextPosition", "line", "()I"⟩ : MethodName) (head1 (Jvm.Cond.code (⟨"com/example/trawl/trawl/dtd/TextPosition", "line", "()I"⟩ : MethodName) prog_22_method_4_code 1 (some .int) :: wq) ({ frames := 0, cells := 0, slots := 0, locals := 0 } : Room)) (fun a U => a = #[(.ref a0)] ∧ Z.Warmed39 U.vm ∧ U.heap = h0) (fun _ _ _ _ _ => True) (fun _ U o U' => ∃ v L, o = .returned v ∧ Q6 Z a0 ln h0 n0 v U'.heap L ∧ FrameEnd U o U' L ({ frames := 0, cells := 0, slots := 0, locals := 0 } : Room).cells ({ frames := 0, cells := 0, slots := 0, locals := 0 } : Room).slots) := by
  refine MetFree.of_bodySF (plainFor_of_name pn_1) hisR ?_
  intro p e s m args below meth c s₁ Bd hml0 hP hK
  obtain ⟨rfl, hZ, hh⟩ := hP
  have hx := Bd.exec
  have hby := Bd.bytes
  have hml : c.maxLocals = 1 := hml0
  have hown : s.vm.findClass "com/example/trawl/trawl/dtd/TextPosition" = some m.cls := findClass_of_methodNamed Bd.named
  have hnm := (name_of_methodNamed Bd.named Bd.method).1
  have X0 : Stand p l e ({ frames := 0, cells := 0, slots := 0, locals := 0 } : Room) s m #[(.ref a0)] below meth c s₁ [] 0 0 := Stand.of_body Bd
  have e0 : s₁.heap = h0 := by rw [← hh, Bd.state]; rfl
  have N0 := Fr.nil n0
  have pre0 : own_Pre p e below (s₁.setTop (entryFrame m #[(.ref a0)] 1)) (s₁.setTop (mkF m 0 #[.val (.ref a0)] [])) := fun t k => castTop (ef_6 m a0) k
  obtain ⟨T1, X1, e1, st1⟩ := getF X0 hx hZ hown (host := "") (Or.inl (hw _ (List.mem_of_getElem? (i := 20) rfl))) Via.refl e0 F_a0_line (g := (mkF m 1 #[.val (.ref a0)] [(.ref a0)])) rfl rfl (hb hby d6_1)
  obtain ⟨fs, hr, hrun, hended, hW, hsame⟩ := X1.leave (v := some (.int ln)) (fun h => by rw [Bd.returns] at h; cases h)
  refine ⟨_, _, pre0 _ ?_, hrun, hended, _, _, rfl, ?_, ⟨_, rfl⟩, hW, hsame.mono (by decide) (by decide)⟩
  · show Steps p.tables e below (s₁.setTop (mkF m 0 #[.val (.ref a0)] [])) _
    refine XS.aloadN X0.here hx rfl (hb hby d6_0) rfl rfl ?_
    refine st1 _ ?_
    show Steps p.tables e below (T1.setTop (mkF m 4 #[.val (.ref a0)] [(.int ln)])) _
    exact retI X1 hx Bd.returns (hb hby d6_4) hr
  · show Q6 Z a0 ln h0 n0 _ T1.heap _
    rw [e1]
    unfold Q6
    refine ⟨rfl, N0, rfl⟩
theorem d7_0 : decode prog_22_method_5_code 0 = .ok (.aload_n 0, 1) := by decide +kernel
theorem d7_1 : decode prog_22_method_5_code 1 = .ok (.getfield 14, 3) := by decide +kernel
theorem d7_4 : decode prog_22_method_5_code 4 = .ok (.aload_n 0, 1) := by decide +kernel
theorem d7_5 : decode prog_22_method_5_code 5 = .ok (.getfield 18, 3) := by decide +kernel
theorem d7_8 : decode prog_22_method_5_code 8 = .ok (.lsub, 1) := by decide +kernel
theorem d7_9 : decode prog_22_method_5_code 9 = .ok (.l2i, 1) := by decide +kernel
theorem d7_10 : decode prog_22_method_5_code 10 = .ok (.iconst 1, 1) := by decide +kernel
theorem d7_11 : decode prog_22_method_5_code 11 = .ok (.iadd, 1) := by decide +kernel
theorem d7_12 : decode prog_22_method_5_code 12 = .ok (.ireturn, 1) := by decide +kernel
theorem ef_7 (m : MethodId) (a0 : Addr) : entryFrame m #[(.ref a0)] 1 = mkF m 0 #[.val (.ref a0)] [] := by first | (simp [entryFrame, mkF, argsToLocals, Value.category]; done) | rfl
def own_f7 (ps : Int64) (ls : Int64) : Int32 := (((ps - ls)).toInt32 + (1 : Int32))
def Q7 (Z : State) (a0 : Addr) (ps : Int64) (ls : Int64) (h0 : Heap) (n0 : Nat) (v : Option Value) (h : Heap) (L : List Loc) : Prop := v = some (.int (own_f7 ps ls)) ∧ Fr n0 L ∧ h = h0
set_option maxRecDepth 65536 in
set_option maxHeartbeats 40000000 in
theorem rm7 (l : Launch) (Z : State) (aw : Array Value) (hw : ∀ d ∈ tables_1, d.before aw Z = true) (wq : List Jvm.Cond) (a0 : Addr) (ps : Int64) (ls : Int64) (h0 : Heap) (n0 : Nat) (Z0 : n0 ≤ h0.size) (F_a0_passed : Fld Z h0 a0 "com/example/trawl/trawl/dtd/TextPosition" "passed" "J" (.long ps)) (F_a0_lineStart : Fld Z h0 a0 "com/example/trawl/trawl/dtd/TextPosition" "lineStart" "J" (.long ls)) :
    MetFree l (⟨"com/example/trawl/trawl/dtd/TextPosition", "column", "()I"⟩ : MethodName) (head1 (Jvm.Cond.code (⟨"com/example/trawl/trawl/dtd/TextPosition", "column", "()I"⟩ : MethodName) prog_22_method_5_code 1 (some .int) :: wq) ({ frames := 0, cells := 0, slots := 0, locals := 0 } : Room)) (fun a U => a = #[(.ref a0)] ∧ Z.Warmed39 U.vm ∧ U.heap = h0) (fun _ _ _ _ _ => True) (fun _ U o U' => ∃ v L, o = .returned v ∧ Q7 Z a0 ps ls h0 n0 v U'.heap L ∧ FrameEnd U o U' L ({ frames := 0, cells := 0, slots := 0, locals := 0 } : Room).cells ({ frames := 0, cells := 0, slots := 0, locals := 0 } : Room).slots) := by
  refine MetFree.of_bodySF (plainFor_of_name pn_1) hisR ?_
  intro p e s m args below meth c s₁ Bd hml0 hP hK
  obtain ⟨rfl, hZ, hh⟩ := hP
  have hx := Bd.exec
  have hby := Bd.bytes
  have hml : c.maxLocals = 1 := hml0
  have hown : s.vm.findClass "com/example/trawl/trawl/dtd/TextPosition" = some m.cls := findClass_of_methodNamed Bd.named
  have hnm := (name_of_methodNamed Bd.named Bd.method).1
  have X0 : Stand p l e ({ frames := 0, cells := 0, slots := 0, locals := 0 } : Room) s m #[(.ref a0)] below meth c s₁ [] 0 0 := Stand.of_body Bd
  have e0 : s₁.heap = h0 := by rw [← hh, Bd.state]; rfl
  have N0 := Fr.nil n0
  have pre0 : own_Pre p e below (s₁.setTop (entryFrame m #[(.ref a0)] 1)) (s₁.setTop (mkF m 0 #[.val (.ref a0)] [])) := fun t k => castTop (ef_7 m a0) k
  obtain ⟨T1, X1, e1, st1⟩ := getF X0 hx hZ hown (host := "") (Or.inl (hw _ (List.mem_of_getElem? (i := 35) rfl))) Via.refl e0 F_a0_passed (g := (mkF m 1 #[.val (.ref a0)] [(.ref a0)])) rfl rfl (hb hby d7_1)
  obtain ⟨T2, X2, e2, st2⟩ := getF X1 hx hZ hown (host := "") (Or.inl (hw _ (List.mem_of_getElem? (i := 37) rfl))) Via.refl e1 F_a0_lineStart (g := (mkF m 5 #[.val (.ref a0)] [(.ref a0), (.long ps)])) rfl rfl (hb hby d7_5)
  obtain ⟨fs, hr, hrun, hended, hW, hsame⟩ := X2.leave (v := some (.int (((ps - ls)).toInt32 + (1 : Int32)))) (fun h => by rw [Bd.returns] at h; cases h)
  refine ⟨_, _, pre0 _ ?_, hrun, hended, _, _, rfl, ?_, ⟨_, rfl⟩, hW, hsame.mono (by decide) (by decide)⟩
  · show Steps p.tables e below (s₁.setTop (mkF m 0 #[.val (.ref a0)] [])) _
    refine XS.aloadN X0.here hx rfl (hb hby d7_0) rfl rfl ?_
    refine st1 _ ?_
    refine XS.aloadN X1.here hx rfl (hb hby d7_4) rfl rfl ?_
    refine st2 _ ?_
    refine XS.lsub X2.here hx rfl (hb hby d7_8) rfl ?_
    show Steps p.tables e below (T2.setTop (mkF m 9 #[.val (.ref a0)] [(.long (ps - ls))])) _
    refine XS.l2i X2.here hx rfl (hb hby d7_9) rfl ?_
    refine XS.iconst X2.here hx rfl (hb hby d7_10) ?_
    refine XS.iadd X2.here hx rfl (hb hby d7_11) rfl ?_
    show Steps p.tables e below (T2.setTop (mkF m 12 #[.val (.ref a0)] [(.int (((ps - ls)).toInt32 + (1 : Int32)))])) _
    exact retI X2 hx Bd.returns (hb hby d7_12) hr
  · show Q7 Z a0 ps ls h0 n0 _ T2.heap _
    rw [e2]
    unfold Q7
    refine ⟨?_, N0, rfl⟩
    · simp only [own_f7]
theorem d10_0 : decode method_4_code 0 = .ok (.iload_n 0, 1) := by decide +kernel
theorem d10_1 : decode method_4_code 1 = .ok (.bipush 8, 2) := by decide +kernel
theorem d10_3 : decode method_4_code 3 = .ok (.iushr, 1) := by decide +kernel
theorem d10_4 : decode method_4_code 4 = .ok (.istore_n 2, 1) := by decide +kernel
theorem d10_5 : decode method_4_code 5 = .ok (.iload_n 0, 1) := by decide +kernel
theorem d10_6 : decode method_4_code 6 = .ok (.iconst 1, 1) := by decide +kernel
theorem d10_7 : decode method_4_code 7 = .ok (.iushr, 1) := by decide +kernel
theorem d10_8 : decode method_4_code 8 = .ok (.bipush 127, 2) := by decide +kernel
theorem d10_10 : decode method_4_code 10 = .ok (.iand, 1) := by decide +kernel
theorem d10_11 : decode method_4_code 11 = .ok (.istore_n 3, 1) := by decide +kernel
theorem d10_12 : decode method_4_code 12 = .ok (.iload_n 0, 1) := by decide +kernel
theorem d10_13 : decode method_4_code 13 = .ok (.iconst 1, 1) := by decide +kernel
theorem d10_14 : decode method_4_code 14 = .ok (.iand, 1) := by decide +kernel
theorem d10_15 : decode method_4_code 15 = .ok (.ifCond .eq 7, 3) := by decide +kernel
theorem d10_18 : decode method_4_code 18 = .ok (.iconst 1, 1) := by decide +kernel
theorem d10_19 : decode method_4_code 19 = .ok (.goto 4, 3) := by decide +kernel
theorem d10_22 : decode method_4_code 22 = .ok (.iconst 0, 1) := by decide +kernel
theorem d10_23 : decode method_4_code 23 = .ok (.istore 4, 2) := by decide +kernel
theorem d10_25 : decode method_4_code 25 = .ok (.iload_n 1, 1) := by decide +kernel
theorem d10_26 : decode method_4_code 26 = .ok (.bipush 13, 2) := by decide +kernel
theorem d10_28 : decode method_4_code 28 = .ok (.if_icmp .ne 12, 3) := by decide +kernel
theorem d10_31 : decode method_4_code 31 = .ok (.iload_n 2, 1) := by decide +kernel
theorem d10_32 : decode method_4_code 32 = .ok (.iconst 1, 1) := by decide +kernel
theorem d10_33 : decode method_4_code 33 = .ok (.iadd, 1) := by decide +kernel
theorem d10_34 : decode method_4_code 34 = .ok (.istore_n 2, 1) := by decide +kernel
theorem d10_35 : decode method_4_code 35 = .ok (.iconst 1, 1) := by decide +kernel
theorem d10_36 : decode method_4_code 36 = .ok (.istore_n 3, 1) := by decide +kernel
theorem d10_37 : decode method_4_code 37 = .ok (.goto 27, 3) := by decide +kernel
theorem d10_40 : decode method_4_code 40 = .ok (.iload_n 1, 1) := by decide +kernel
theorem d10_41 : decode method_4_code 41 = .ok (.bipush 10, 2) := by decide +kernel
theorem d10_43 : decode method_4_code 43 = .ok (.if_icmp .ne 17, 3) := by decide +kernel
theorem d10_46 : decode method_4_code 46 = .ok (.iload 4, 2) := by decide +kernel
theorem d10_48 : decode method_4_code 48 = .ok (.ifCond .ne 7, 3) := by decide +kernel
theorem d10_51 : decode method_4_code 51 = .ok (.iload_n 2, 1) := by decide +kernel
theorem d10_52 : decode method_4_code 52 = .ok (.iconst 1, 1) := by decide +kernel
theorem d10_53 : decode method_4_code 53 = .ok (.iadd, 1) := by decide +kernel
theorem d10_54 : decode method_4_code 54 = .ok (.istore_n 2, 1) := by decide +kernel
theorem d10_55 : decode method_4_code 55 = .ok (.iconst 1, 1) := by decide +kernel
theorem d10_56 : decode method_4_code 56 = .ok (.istore_n 3, 1) := by decide +kernel
theorem d10_57 : decode method_4_code 57 = .ok (.goto 7, 3) := by decide +kernel
theorem d10_60 : decode method_4_code 60 = .ok (.iload_n 3, 1) := by decide +kernel
theorem d10_61 : decode method_4_code 61 = .ok (.iconst 1, 1) := by decide +kernel
theorem d10_62 : decode method_4_code 62 = .ok (.iadd, 1) := by decide +kernel
theorem d10_63 : decode method_4_code 63 = .ok (.istore_n 3, 1) := by decide +kernel
theorem d10_64 : decode method_4_code 64 = .ok (.iload_n 2, 1) := by decide +kernel
theorem d10_65 : decode method_4_code 65 = .ok (.bipush 8, 2) := by decide +kernel
theorem d10_67 : decode method_4_code 67 = .ok (.ishl, 1) := by decide +kernel
theorem d10_68 : decode method_4_code 68 = .ok (.iload_n 3, 1) := by decide +kernel
theorem d10_69 : decode method_4_code 69 = .ok (.iconst 1, 1) := by decide +kernel
theorem d10_70 : decode method_4_code 70 = .ok (.ishl, 1) := by decide +kernel
theorem d10_71 : decode method_4_code 71 = .ok (.ior, 1) := by decide +kernel
theorem d10_72 : decode method_4_code 72 = .ok (.iload_n 1, 1) := by decide +kernel
theorem d10_73 : decode method_4_code 73 = .ok (.bipush 13, 2) := by decide +kernel
theorem d10_75 : decode method_4_code 75 = .ok (.if_icmp .ne 7, 3) := by decide +kernel
theorem d10_78 : decode method_4_code 78 = .ok (.iconst 1, 1) := by decide +kernel
theorem d10_79 : decode method_4_code 79 = .ok (.goto 4, 3) := by decide +kernel
theorem d10_82 : decode method_4_code 82 = .ok (.iconst 0, 1) := by decide +kernel
theorem d10_83 : decode method_4_code 83 = .ok (.ior, 1) := by decide +kernel
theorem d10_84 : decode method_4_code 84 = .ok (.ireturn, 1) := by decide +kernel
theorem ef_10 (m : MethodId) (p0 : Int32) (p1 : Int32) : entryFrame m #[(.int p0), (.int p1)] 5 = mkF m 0 #[.val (.int p0), .val (.int p1), .unset, .unset, .unset] [] := by first | (simp [entryFrame, mkF, argsToLocals, Value.category]; done) | rfl
def own_m10_23_s0 (v0 : Int32) : Int32 := (if (v0 &&& (1 : Int32)) = (0 : Int32) then (0 : Int32) else (1 : Int32))
def own_m10_55_l2 (v0 : Int32) (v1 : Int32) : Int32 := (if v0 = (0 : Int32) then ((v1 + (1 : Int32))) else v1)
def own_m10_64_l2 (v0 : Int32) (v1 : Int32) (v2 : Int32) : Int32 := (if v0 = (13 : Int32) then ((v1 + (1 : Int32))) else (if v0 = (10 : Int32) then ((own_m10_55_l2 v2 v1)) else v1))
def own_m10_64_l3 (v0 : Int32) (v1 : Int32) : Int32 := (if v0 = (13 : Int32) then (1 : Int32) else (if v0 = (10 : Int32) then (1 : Int32) else ((v1 + (1 : Int32)))))
def own_m10_83_s0 (v0 : Int32) : Int32 := (if v0 = (13 : Int32) then (1 : Int32) else (0 : Int32))
def own_f10 (p0 : Int32) (p1 : Int32) : Int32 := (((((own_m10_64_l2 p1 (((p0).toUInt32 >>> ((8 : Int32) &&& 31).toUInt32).toInt32) ((own_m10_23_s0 p0)))) <<< ((8 : Int32) &&& 31)) ||| (((own_m10_64_l3 p1 ((((p0).toUInt32 >>> ((1 : Int32) &&& 31).toUInt32).toInt32 &&& (127 : Int32))))) <<< ((1 : Int32) &&& 31))) ||| ((own_m10_83_s0 p1)))
def Q10 (Z : State) (p0 : Int32) (p1 : Int32) (h0 : Heap) (n0 : Nat) (v : Option Value) (h : Heap) (L : List Loc) : Prop := v = some (.int (own_f10 p0 p1)) ∧ Fr n0 L ∧ h = h0
set_option maxRecDepth 65536 in
set_option maxHeartbeats 40000000 in
theorem rm10 (l : Launch) (Z : State) (aw : Array Value) (hw : ∀ d ∈ tables_1, d.before aw Z = true) (wq : List Jvm.Cond) (p0 : Int32) (p1 : Int32) (h0 : Heap) (n0 : Nat) (Z0 : n0 ≤ h0.size) :
    MetFree l (⟨"com/example/trawl/trawl/dtd/TextPositionPassPinLaw", "step", "(IC)I"⟩ : MethodName) (head1 (Jvm.Cond.code (⟨"com/example/trawl/trawl/dtd/TextPositionPassPinLaw", "step", "(IC)I"⟩ : MethodName) method_4_code 5 (some .int) :: wq) ({ frames := 0, cells := 0, slots := 0, locals := 0 } : Room)) (fun a U => a = #[(.int p0), (.int p1)] ∧ Z.Warmed39 U.vm ∧ U.heap = h0) (fun _ _ _ _ _ => True) (fun _ U o U' => ∃ v L, o = .returned v ∧ Q10 Z p0 p1 h0 n0 v U'.heap L ∧ FrameEnd U o U' L ({ frames := 0, cells := 0, slots := 0, locals := 0 } : Room).cells ({ frames := 0, cells := 0, slots := 0, locals := 0 } : Room).slots) := by
  refine MetFree.of_bodySF (plainFor_of_name pn_0) hisR ?_
  intro p e s m args below meth c s₁ Bd hml0 hP hK
  obtain ⟨rfl, hZ, hh⟩ := hP
  have hx := Bd.exec
  have hby := Bd.bytes
  have hml : c.maxLocals = 5 := hml0
  have hown : s.vm.findClass "com/example/trawl/trawl/dtd/TextPositionPassPinLaw" = some m.cls := findClass_of_methodNamed Bd.named
  have hnm := (name_of_methodNamed Bd.named Bd.method).1
  have X0 : Stand p l e ({ frames := 0, cells := 0, slots := 0, locals := 0 } : Room) s m #[(.int p0), (.int p1)] below meth c s₁ [] 0 0 := Stand.of_body Bd
  have e0 : s₁.heap = h0 := by rw [← hh, Bd.state]; rfl
  have N0 := Fr.nil n0
  have pre0 : own_Pre p e below (s₁.setTop (entryFrame m #[(.int p0), (.int p1)] 5)) (s₁.setTop (mkF m 0 #[.val (.int p0), .val (.int p1), .unset, .unset, .unset] [])) := fun t k => castTop (ef_10 m p0 p1) k
  obtain ⟨x2_5, hx2_5, pre1⟩ : ∃ z : Int32, z = ((p0).toUInt32 >>> ((8 : Int32) &&& 31).toUInt32).toInt32 ∧ own_Pre p e below (s₁.setTop (entryFrame m #[(.int p0), (.int p1)] 5)) (s₁.setTop (mkF m 5 #[.val (.int p0), .val (.int p1), .val (.int z), .unset, .unset] [])) := ⟨_, rfl, fun t k => pre0 t (by
      show Steps p.tables e below (s₁.setTop (mkF m 0 #[.val (.int p0), .val (.int p1), .unset, .unset, .unset] [])) _
      refine XS.iloadN X0.here hx rfl (hb hby d10_0) rfl ?_
      refine XS.bipush X0.here hx rfl (hb hby d10_1) ?_
      refine XS.iushr X0.here hx rfl (hb hby d10_3) rfl ?_
      refine XS.istoreN X0.here hx rfl (hb hby d10_4) rfl (l' := #[.val (.int p0), .val (.int p1), .val (.int ((p0).toUInt32 >>> ((8 : Int32) &&& 31).toUInt32).toInt32), .unset, .unset]) rfl ?_
      exact k)⟩
  obtain ⟨x3_12, hx3_12, pre2⟩ : ∃ z : Int32, z = (((p0).toUInt32 >>> ((1 : Int32) &&& 31).toUInt32).toInt32 &&& (127 : Int32)) ∧ own_Pre p e below (s₁.setTop (entryFrame m #[(.int p0), (.int p1)] 5)) (s₁.setTop (mkF m 12 #[.val (.int p0), .val (.int p1), .val (.int x2_5), .val (.int z), .unset] [])) := ⟨_, rfl, fun t k => pre1 t (by
      show Steps p.tables e below (s₁.setTop (mkF m 5 #[.val (.int p0), .val (.int p1), .val (.int x2_5), .unset, .unset] [])) _
      refine XS.iloadN X0.here hx rfl (hb hby d10_5) rfl ?_
      refine XS.iconst X0.here hx rfl (hb hby d10_6) ?_
      refine XS.iushr X0.here hx rfl (hb hby d10_7) rfl ?_
      refine XS.bipush X0.here hx rfl (hb hby d10_8) ?_
      refine XS.iand X0.here hx rfl (hb hby d10_10) rfl ?_
      show Steps p.tables e below (s₁.setTop (mkF m 11 #[.val (.int p0), .val (.int p1), .val (.int x2_5), .unset, .unset] [(.int (((p0).toUInt32 >>> ((1 : Int32) &&& 31).toUInt32).toInt32 &&& (127 : Int32)))])) _
      refine XS.istoreN X0.here hx rfl (hb hby d10_11) rfl (l' := #[.val (.int p0), .val (.int p1), .val (.int x2_5), .val (.int (((p0).toUInt32 >>> ((1 : Int32) &&& 31).toUInt32).toInt32 &&& (127 : Int32))), .unset]) rfl ?_
      exact k)⟩
  have pre5 : own_Pre p e below (s₁.setTop (entryFrame m #[(.int p0), (.int p1)] 5)) (s₁.setTop (mkF m 15 #[.val (.int p0), .val (.int p1), .val (.int x2_5), .val (.int x3_12), .unset] [(.int (p0 &&& (1 : Int32)))])) := fun t k => pre2 t (by
      show Steps p.tables e below (s₁.setTop (mkF m 12 #[.val (.int p0), .val (.int p1), .val (.int x2_5), .val (.int x3_12), .unset] [])) _
      refine XS.iloadN X0.here hx rfl (hb hby d10_12) rfl ?_
      refine XS.iconst X0.here hx rfl (hb hby d10_13) ?_
      refine XS.iand X0.here hx rfl (hb hby d10_14) rfl ?_
      exact k)
  obtain ⟨m23_s0, hm23_s0, pre4⟩ : ∃ (m23_s0 : Int32), m23_s0 = (own_m10_23_s0 p0) ∧ own_Pre p e below (s₁.setTop (entryFrame m #[(.int p0), (.int p1)] 5)) (s₁.setTop (mkF m 23 #[.val (.int p0), .val (.int p1), .val (.int x2_5), .val (.int x3_12), .unset] [(.int m23_s0)])) := by
    by_cases hc15 : (p0 &&& (1 : Int32)) = (0 : Int32)
    · have pre6 : own_Pre p e below (s₁.setTop (entryFrame m #[(.int p0), (.int p1)] 5)) (s₁.setTop (mkF m 23 #[.val (.int p0), .val (.int p1), .val (.int x2_5), .val (.int x3_12), .unset] [(.int (0 : Int32))])) := fun t k => pre5 t (by
          show Steps p.tables e below (s₁.setTop (mkF m 15 #[.val (.int p0), .val (.int p1), .val (.int x2_5), .val (.int x3_12), .unset] [(.int (p0 &&& (1 : Int32)))])) _
          refine XS.ifYes X0.here hx rfl (pc0 := 15) (pc' := 22) rfl (hb hby d10_15) rfl ((if0 _ _).trans (teq hc15).1) (by decide) (by decide) ?_
          refine XS.iconst X0.here hx rfl (hb hby d10_22) ?_
          exact k)
      refine ⟨_, ?_, pre6⟩
      all_goals (first | (simp only [own_m10_23_s0, if_pos hc15]; done) | (simp [own_m10_23_s0, if_pos hc15]; done))
    · have pre7 : own_Pre p e below (s₁.setTop (entryFrame m #[(.int p0), (.int p1)] 5)) (s₁.setTop (mkF m 23 #[.val (.int p0), .val (.int p1), .val (.int x2_5), .val (.int x3_12), .unset] [(.int (1 : Int32))])) := fun t k => pre5 t (by
          show Steps p.tables e below (s₁.setTop (mkF m 15 #[.val (.int p0), .val (.int p1), .val (.int x2_5), .val (.int x3_12), .unset] [(.int (p0 &&& (1 : Int32)))])) _
          refine XS.ifNo X0.here hx rfl (hb hby d10_15) rfl ((if0 _ _).trans (feq hc15).1) ?_
          refine XS.iconst X0.here hx rfl (hb hby d10_18) ?_
          refine XS.goto X0.here hx rfl (pc0 := 19) (pc' := 23) rfl (hb hby d10_19) (by decide) (by decide) ?_
          exact k)
      refine ⟨_, ?_, pre7⟩
      all_goals (first | (simp only [own_m10_23_s0, if_neg hc15]; done) | (simp [own_m10_23_s0, if_neg hc15]; done))
  have pre10 : own_Pre p e below (s₁.setTop (entryFrame m #[(.int p0), (.int p1)] 5)) (s₁.setTop (mkF m 28 #[.val (.int p0), .val (.int p1), .val (.int x2_5), .val (.int x3_12), .val (.int m23_s0)] [(.int (13 : Int32)), (.int p1)])) := fun t k => pre4 t (by
      show Steps p.tables e below (s₁.setTop (mkF m 23 #[.val (.int p0), .val (.int p1), .val (.int x2_5), .val (.int x3_12), .unset] [(.int m23_s0)])) _
      refine XS.istore X0.here hx rfl (hb hby d10_23) rfl (l' := #[.val (.int p0), .val (.int p1), .val (.int x2_5), .val (.int x3_12), .val (.int m23_s0)]) rfl ?_
      refine XS.iloadN X0.here hx rfl (hb hby d10_25) rfl ?_
      refine XS.bipush X0.here hx rfl (hb hby d10_26) ?_
      exact k)
  obtain ⟨m64_l2, m64_l3, hm64_l2, hm64_l3, pre9⟩ : ∃ (m64_l2 : Int32) (m64_l3 : Int32), m64_l2 = (own_m10_64_l2 p1 x2_5 m23_s0) ∧ m64_l3 = (own_m10_64_l3 p1 x3_12) ∧ own_Pre p e below (s₁.setTop (entryFrame m #[(.int p0), (.int p1)] 5)) (s₁.setTop (mkF m 64 #[.val (.int p0), .val (.int p1), .val (.int m64_l2), .val (.int m64_l3), .val (.int m23_s0)] [])) := by
    by_cases hc28 : p1 = (13 : Int32)
    · obtain ⟨x2_35, hx2_35, pre11⟩ : ∃ z : Int32, z = (x2_5 + (1 : Int32)) ∧ own_Pre p e below (s₁.setTop (entryFrame m #[(.int p0), (.int p1)] 5)) (s₁.setTop (mkF m 35 #[.val (.int p0), .val (.int p1), .val (.int z), .val (.int x3_12), .val (.int m23_s0)] [])) := ⟨_, rfl, fun t k => pre10 t (by
          show Steps p.tables e below (s₁.setTop (mkF m 28 #[.val (.int p0), .val (.int p1), .val (.int x2_5), .val (.int x3_12), .val (.int m23_s0)] [(.int (13 : Int32)), (.int p1)])) _
          refine XS.icmpNo X0.here hx rfl (hb hby d10_28) rfl (teq hc28).2 ?_
          refine XS.iloadN X0.here hx rfl (hb hby d10_31) rfl ?_
          refine XS.iconst X0.here hx rfl (hb hby d10_32) ?_
          refine XS.iadd X0.here hx rfl (hb hby d10_33) rfl ?_
          refine XS.istoreN X0.here hx rfl (hb hby d10_34) rfl (l' := #[.val (.int p0), .val (.int p1), .val (.int (x2_5 + (1 : Int32))), .val (.int x3_12), .val (.int m23_s0)]) rfl ?_
          exact k)⟩
      have pre12 : own_Pre p e below (s₁.setTop (entryFrame m #[(.int p0), (.int p1)] 5)) (s₁.setTop (mkF m 64 #[.val (.int p0), .val (.int p1), .val (.int x2_35), .val (.int (1 : Int32)), .val (.int m23_s0)] [])) := fun t k => pre11 t (by
          show Steps p.tables e below (s₁.setTop (mkF m 35 #[.val (.int p0), .val (.int p1), .val (.int x2_35), .val (.int x3_12), .val (.int m23_s0)] [])) _
          refine XS.iconst X0.here hx rfl (hb hby d10_35) ?_
          refine XS.istoreN X0.here hx rfl (hb hby d10_36) rfl (l' := #[.val (.int p0), .val (.int p1), .val (.int x2_35), .val (.int (1 : Int32)), .val (.int m23_s0)]) rfl ?_
          refine XS.goto X0.here hx rfl (pc0 := 37) (pc' := 64) rfl (hb hby d10_37) (by decide) (by decide) ?_
          exact k)
      refine ⟨_, _, ?_, ?_, pre12⟩
      all_goals (subst hx2_35; first | (simp only [own_m10_64_l2, own_m10_64_l3, if_pos hc28]; done) | (simp [own_m10_64_l2, own_m10_64_l3, if_pos hc28]; done))
    · have pre13 : own_Pre p e below (s₁.setTop (entryFrame m #[(.int p0), (.int p1)] 5)) (s₁.setTop (mkF m 43 #[.val (.int p0), .val (.int p1), .val (.int x2_5), .val (.int x3_12), .val (.int m23_s0)] [(.int (10 : Int32)), (.int p1)])) := fun t k => pre10 t (by
          show Steps p.tables e below (s₁.setTop (mkF m 28 #[.val (.int p0), .val (.int p1), .val (.int x2_5), .val (.int x3_12), .val (.int m23_s0)] [(.int (13 : Int32)), (.int p1)])) _
          refine XS.icmpYes X0.here hx rfl (pc0 := 28) (pc' := 40) rfl (hb hby d10_28) rfl (feq hc28).2 (by decide) (by decide) ?_
          refine XS.iloadN X0.here hx rfl (hb hby d10_40) rfl ?_
          refine XS.bipush X0.here hx rfl (hb hby d10_41) ?_
          exact k)
      by_cases hc43 : p1 = (10 : Int32)
      · have pre16 : own_Pre p e below (s₁.setTop (entryFrame m #[(.int p0), (.int p1)] 5)) (s₁.setTop (mkF m 48 #[.val (.int p0), .val (.int p1), .val (.int x2_5), .val (.int x3_12), .val (.int m23_s0)] [(.int m23_s0)])) := fun t k => pre13 t (by
            show Steps p.tables e below (s₁.setTop (mkF m 43 #[.val (.int p0), .val (.int p1), .val (.int x2_5), .val (.int x3_12), .val (.int m23_s0)] [(.int (10 : Int32)), (.int p1)])) _
            refine XS.icmpNo X0.here hx rfl (hb hby d10_43) rfl (teq hc43).2 ?_
            refine XS.iload X0.here hx rfl (hb hby d10_46) rfl ?_
            exact k)
        obtain ⟨m55_l2, hm55_l2, pre15⟩ : ∃ (m55_l2 : Int32), m55_l2 = (own_m10_55_l2 m23_s0 x2_5) ∧ own_Pre p e below (s₁.setTop (entryFrame m #[(.int p0), (.int p1)] 5)) (s₁.setTop (mkF m 55 #[.val (.int p0), .val (.int p1), .val (.int m55_l2), .val (.int x3_12), .val (.int m23_s0)] [])) := by
          by_cases hc48 : m23_s0 = (0 : Int32)
          · obtain ⟨x2_55, hx2_55, pre17⟩ : ∃ z : Int32, z = (x2_5 + (1 : Int32)) ∧ own_Pre p e below (s₁.setTop (entryFrame m #[(.int p0), (.int p1)] 5)) (s₁.setTop (mkF m 55 #[.val (.int p0), .val (.int p1), .val (.int z), .val (.int x3_12), .val (.int m23_s0)] [])) := ⟨_, rfl, fun t k => pre16 t (by
                show Steps p.tables e below (s₁.setTop (mkF m 48 #[.val (.int p0), .val (.int p1), .val (.int x2_5), .val (.int x3_12), .val (.int m23_s0)] [(.int m23_s0)])) _
                refine XS.ifNo X0.here hx rfl (hb hby d10_48) rfl ((if0 _ _).trans (teq hc48).2) ?_
                refine XS.iloadN X0.here hx rfl (hb hby d10_51) rfl ?_
                refine XS.iconst X0.here hx rfl (hb hby d10_52) ?_
                refine XS.iadd X0.here hx rfl (hb hby d10_53) rfl ?_
                refine XS.istoreN X0.here hx rfl (hb hby d10_54) rfl (l' := #[.val (.int p0), .val (.int p1), .val (.int (x2_5 + (1 : Int32))), .val (.int x3_12), .val (.int m23_s0)]) rfl ?_
                exact k)⟩
            refine ⟨_, ?_, pre17⟩
            all_goals (subst hx2_55; first | (simp only [own_m10_55_l2, if_pos hc48]; done) | (simp [own_m10_55_l2, if_pos hc48]; done))
          · have pre18 : own_Pre p e below (s₁.setTop (entryFrame m #[(.int p0), (.int p1)] 5)) (s₁.setTop (mkF m 55 #[.val (.int p0), .val (.int p1), .val (.int x2_5), .val (.int x3_12), .val (.int m23_s0)] [])) := fun t k => pre16 t (by
                show Steps p.tables e below (s₁.setTop (mkF m 48 #[.val (.int p0), .val (.int p1), .val (.int x2_5), .val (.int x3_12), .val (.int m23_s0)] [(.int m23_s0)])) _
                refine XS.ifYes X0.here hx rfl (pc0 := 48) (pc' := 55) rfl (hb hby d10_48) rfl ((if0 _ _).trans (feq hc48).2) (by decide) (by decide) ?_
                exact k)
            refine ⟨_, ?_, pre18⟩
            all_goals (first | (simp only [own_m10_55_l2, if_neg hc48]; done) | (simp [own_m10_55_l2, if_neg hc48]; done))
        have pre19 : own_Pre p e below (s₁.setTop (entryFrame m #[(.int p0), (.int p1)] 5)) (s₁.setTop (mkF m 64 #[.val (.int p0), .val (.int p1), .val (.int m55_l2), .val (.int (1 : Int32)), .val (.int m23_s0)] [])) := fun t k => pre15 t (by
            show Steps p.tables e below (s₁.setTop (mkF m 55 #[.val (.int p0), .val (.int p1), .val (.int m55_l2), .val (.int x3_12), .val (.int m23_s0)] [])) _
            refine XS.iconst X0.here hx rfl (hb hby d10_55) ?_
            refine XS.istoreN X0.here hx rfl (hb hby d10_56) rfl (l' := #[.val (.int p0), .val (.int p1), .val (.int m55_l2), .val (.int (1 : Int32)), .val (.int m23_s0)]) rfl ?_
            refine XS.goto X0.here hx rfl (pc0 := 57) (pc' := 64) rfl (hb hby d10_57) (by decide) (by decide) ?_
            exact k)
        refine ⟨_, _, ?_, ?_, pre19⟩
        all_goals (subst hm55_l2; first | (simp only [own_m10_64_l2, own_m10_64_l3, if_neg hc28, if_pos hc43]; done) | (simp [own_m10_64_l2, own_m10_64_l3, if_neg hc28, if_pos hc43]; done))
      · obtain ⟨x3_64, hx3_64, pre20⟩ : ∃ z : Int32, z = (x3_12 + (1 : Int32)) ∧ own_Pre p e below (s₁.setTop (entryFrame m #[(.int p0), (.int p1)] 5)) (s₁.setTop (mkF m 64 #[.val (.int p0), .val (.int p1), .val (.int x2_5), .val (.int z), .val (.int m23_s0)] [])) := ⟨_, rfl, fun t k => pre13 t (by
            show Steps p.tables e below (s₁.setTop (mkF m 43 #[.val (.int p0), .val (.int p1), .val (.int x2_5), .val (.int x3_12), .val (.int m23_s0)] [(.int (10 : Int32)), (.int p1)])) _
            refine XS.icmpYes X0.here hx rfl (pc0 := 43) (pc' := 60) rfl (hb hby d10_43) rfl (feq hc43).2 (by decide) (by decide) ?_
            refine XS.iloadN X0.here hx rfl (hb hby d10_60) rfl ?_
            refine XS.iconst X0.here hx rfl (hb hby d10_61) ?_
            refine XS.iadd X0.here hx rfl (hb hby d10_62) rfl ?_
            refine XS.istoreN X0.here hx rfl (hb hby d10_63) rfl (l' := #[.val (.int p0), .val (.int p1), .val (.int x2_5), .val (.int (x3_12 + (1 : Int32))), .val (.int m23_s0)]) rfl ?_
            exact k)⟩
        refine ⟨_, _, ?_, ?_, pre20⟩
        all_goals (subst hx3_64; first | (simp only [own_m10_64_l2, own_m10_64_l3, if_neg hc28, if_neg hc43]; done) | (simp [own_m10_64_l2, own_m10_64_l3, if_neg hc28, if_neg hc43]; done))
  have pre23 : own_Pre p e below (s₁.setTop (entryFrame m #[(.int p0), (.int p1)] 5)) (s₁.setTop (mkF m 75 #[.val (.int p0), .val (.int p1), .val (.int m64_l2), .val (.int m64_l3), .val (.int m23_s0)] [(.int (13 : Int32)), (.int p1), (.int ((m64_l2 <<< ((8 : Int32) &&& 31)) ||| (m64_l3 <<< ((1 : Int32) &&& 31))))])) := fun t k => pre9 t (by
      show Steps p.tables e below (s₁.setTop (mkF m 64 #[.val (.int p0), .val (.int p1), .val (.int m64_l2), .val (.int m64_l3), .val (.int m23_s0)] [])) _
      refine XS.iloadN X0.here hx rfl (hb hby d10_64) rfl ?_
      refine XS.bipush X0.here hx rfl (hb hby d10_65) ?_
      refine XS.ishl X0.here hx rfl (hb hby d10_67) rfl ?_
      refine XS.iloadN X0.here hx rfl (hb hby d10_68) rfl ?_
      refine XS.iconst X0.here hx rfl (hb hby d10_69) ?_
      show Steps p.tables e below (s₁.setTop (mkF m 70 #[.val (.int p0), .val (.int p1), .val (.int m64_l2), .val (.int m64_l3), .val (.int m23_s0)] [(.int (1 : Int32)), (.int m64_l3), (.int (m64_l2 <<< ((8 : Int32) &&& 31)))])) _
      refine XS.ishl X0.here hx rfl (hb hby d10_70) rfl ?_
      refine XS.ior X0.here hx rfl (hb hby d10_71) rfl ?_
      refine XS.iloadN X0.here hx rfl (hb hby d10_72) rfl ?_
      refine XS.bipush X0.here hx rfl (hb hby d10_73) ?_
      exact k)
  obtain ⟨m83_s0, hm83_s0, pre22⟩ : ∃ (m83_s0 : Int32), m83_s0 = (own_m10_83_s0 p1) ∧ own_Pre p e below (s₁.setTop (entryFrame m #[(.int p0), (.int p1)] 5)) (s₁.setTop (mkF m 83 #[.val (.int p0), .val (.int p1), .val (.int m64_l2), .val (.int m64_l3), .val (.int m23_s0)] [(.int m83_s0), (.int ((m64_l2 <<< ((8 : Int32) &&& 31)) ||| (m64_l3 <<< ((1 : Int32) &&& 31))))])) := by
    by_cases hc75 : p1 = (13 : Int32)
    · have pre24 : own_Pre p e below (s₁.setTop (entryFrame m #[(.int p0), (.int p1)] 5)) (s₁.setTop (mkF m 83 #[.val (.int p0), .val (.int p1), .val (.int m64_l2), .val (.int m64_l3), .val (.int m23_s0)] [(.int (1 : Int32)), (.int ((m64_l2 <<< ((8 : Int32) &&& 31)) ||| (m64_l3 <<< ((1 : Int32) &&& 31))))])) := fun t k => pre23 t (by
          show Steps p.tables e below (s₁.setTop (mkF m 75 #[.val (.int p0), .val (.int p1), .val (.int m64_l2), .val (.int m64_l3), .val (.int m23_s0)] [(.int (13 : Int32)), (.int p1), (.int ((m64_l2 <<< ((8 : Int32) &&& 31)) ||| (m64_l3 <<< ((1 : Int32) &&& 31))))])) _
          refine XS.icmpNo X0.here hx rfl (hb hby d10_75) rfl (teq hc75).2 ?_
          refine XS.iconst X0.here hx rfl (hb hby d10_78) ?_
          refine XS.goto X0.here hx rfl (pc0 := 79) (pc' := 83) rfl (hb hby d10_79) (by decide) (by decide) ?_
          exact k)
      refine ⟨_, ?_, pre24⟩
      all_goals (first | (simp only [own_m10_83_s0, if_pos hc75]; done) | (simp [own_m10_83_s0, if_pos hc75]; done))
    · have pre25 : own_Pre p e below (s₁.setTop (entryFrame m #[(.int p0), (.int p1)] 5)) (s₁.setTop (mkF m 83 #[.val (.int p0), .val (.int p1), .val (.int m64_l2), .val (.int m64_l3), .val (.int m23_s0)] [(.int (0 : Int32)), (.int ((m64_l2 <<< ((8 : Int32) &&& 31)) ||| (m64_l3 <<< ((1 : Int32) &&& 31))))])) := fun t k => pre23 t (by
          show Steps p.tables e below (s₁.setTop (mkF m 75 #[.val (.int p0), .val (.int p1), .val (.int m64_l2), .val (.int m64_l3), .val (.int m23_s0)] [(.int (13 : Int32)), (.int p1), (.int ((m64_l2 <<< ((8 : Int32) &&& 31)) ||| (m64_l3 <<< ((1 : Int32) &&& 31))))])) _
          refine XS.icmpYes X0.here hx rfl (pc0 := 75) (pc' := 82) rfl (hb hby d10_75) rfl (feq hc75).2 (by decide) (by decide) ?_
          refine XS.iconst X0.here hx rfl (hb hby d10_82) ?_
          exact k)
      refine ⟨_, ?_, pre25⟩
      all_goals (first | (simp only [own_m10_83_s0, if_neg hc75]; done) | (simp [own_m10_83_s0, if_neg hc75]; done))
  obtain ⟨fs, hr, hrun, hended, hW, hsame⟩ := X0.leave (v := some (.int (((m64_l2 <<< ((8 : Int32) &&& 31)) ||| (m64_l3 <<< ((1 : Int32) &&& 31))) ||| m83_s0))) (fun h => by rw [Bd.returns] at h; cases h)
  refine ⟨_, _, pre22 _ ?_, hrun, hended, _, _, rfl, ?_, ⟨_, rfl⟩, hW, hsame.mono (by decide) (by decide)⟩
  · show Steps p.tables e below (s₁.setTop (mkF m 83 #[.val (.int p0), .val (.int p1), .val (.int m64_l2), .val (.int m64_l3), .val (.int m23_s0)] [(.int m83_s0), (.int ((m64_l2 <<< ((8 : Int32) &&& 31)) ||| (m64_l3 <<< ((1 : Int32) &&& 31))))])) _
    refine XS.ior X0.here hx rfl (hb hby d10_83) rfl ?_
    show Steps p.tables e below (s₁.setTop (mkF m 84 #[.val (.int p0), .val (.int p1), .val (.int m64_l2), .val (.int m64_l3), .val (.int m23_s0)] [(.int (((m64_l2 <<< ((8 : Int32) &&& 31)) ||| (m64_l3 <<< ((1 : Int32) &&& 31))) ||| m83_s0))])) _
    exact retI X0 hx Bd.returns (hb hby d10_84) hr
  · show Q10 Z p0 p1 h0 n0 _ s₁.heap _
    rw [e0]
    unfold Q10
    refine ⟨?_, N0, rfl⟩
    · subst hm83_s0 hm64_l3 hm64_l2 hm23_s0 hx3_12 hx2_5; simp only [own_f10]
theorem d9_0 : decode method_5_code 0 = .ok (.iload_n 0, 1) := by decide +kernel
theorem d9_1 : decode method_5_code 1 = .ok (.istore 4, 2) := by decide +kernel
theorem d9_3 : decode method_5_code 3 = .ok (.iload_n 3, 1) := by decide +kernel
theorem d9_4 : decode method_5_code 4 = .ok (.ifCond .le 13, 3) := by decide +kernel
theorem d9_7 : decode method_5_code 7 = .ok (.iload 4, 2) := by decide +kernel
theorem d9_9 : decode method_5_code 9 = .ok (.aload_n 1, 1) := by decide +kernel
theorem d9_10 : decode method_5_code 10 = .ok (.iload_n 2, 1) := by decide +kernel
theorem d9_11 : decode method_5_code 11 = .ok (.caload, 1) := by decide +kernel
theorem d9_12 : decode method_5_code 12 = .ok (.invokestatic 19, 3) := by decide +kernel
theorem d9_15 : decode method_5_code 15 = .ok (.istore 4, 2) := by decide +kernel
theorem d9_17 : decode method_5_code 17 = .ok (.iload_n 3, 1) := by decide +kernel
theorem d9_18 : decode method_5_code 18 = .ok (.iconst 1, 1) := by decide +kernel
theorem d9_19 : decode method_5_code 19 = .ok (.if_icmp .le 15, 3) := by decide +kernel
theorem d9_22 : decode method_5_code 22 = .ok (.iload 4, 2) := by decide +kernel
theorem d9_24 : decode method_5_code 24 = .ok (.aload_n 1, 1) := by decide +kernel
theorem d9_25 : decode method_5_code 25 = .ok (.iload_n 2, 1) := by decide +kernel
theorem d9_26 : decode method_5_code 26 = .ok (.iconst 1, 1) := by decide +kernel
theorem d9_27 : decode method_5_code 27 = .ok (.iadd, 1) := by decide +kernel
theorem d9_28 : decode method_5_code 28 = .ok (.caload, 1) := by decide +kernel
theorem d9_29 : decode method_5_code 29 = .ok (.invokestatic 19, 3) := by decide +kernel
theorem d9_32 : decode method_5_code 32 = .ok (.istore 4, 2) := by decide +kernel
theorem d9_34 : decode method_5_code 34 = .ok (.iload 4, 2) := by decide +kernel
theorem d9_36 : decode method_5_code 36 = .ok (.ireturn, 1) := by decide +kernel
theorem pd_1 : parseMethodDescriptor "(IC)I" = some ⟨[.int, .char], some .int⟩ := by decide +kernel
theorem ef_9 (m : MethodId) (p0 : Int32) (a1 : Addr) (p2 : Int32) (p3 : Int32) : entryFrame m #[(.int p0), (.ref a1), (.int p2), (.int p3)] 5 = mkF m 0 #[.val (.int p0), .val (.ref a1), .val (.int p2), .val (.int p3), .unset] [] := by first | (simp [entryFrame, mkF, argsToLocals, Value.category]; done) | rfl
def own_f9 (p0 : Int32) (p2 : Int32) (p3 : Int32) (ws : List Int32) : Int32 := (if (0 : Int32) < p3 then (if (1 : Int32) < p3 then ((own_f10 ((own_f10 p0 ((ws.getD (p2).toNatClampNeg (0 : Int32))))) ((ws.getD ((p2 + (1 : Int32))).toNatClampNeg (0 : Int32))))) else ((own_f10 p0 ((ws.getD (p2).toNatClampNeg (0 : Int32)))))) else (if (1 : Int32) < p3 then ((own_f10 p0 ((ws.getD ((p2 + (1 : Int32))).toNatClampNeg (0 : Int32))))) else p0))
def Q9 (Z : State) (p0 : Int32) (a1 : Addr) (p2 : Int32) (p3 : Int32) (k : ClassId) (z : Int32) (ws : List Int32) (h0 : Heap) (n0 : Nat) (v : Option Value) (h : Heap) (L : List Loc) : Prop := v = some (.int (own_f9 p0 p2 p3 ws)) ∧ Fr n0 L ∧ h = h0
set_option maxRecDepth 65536 in
set_option maxHeartbeats 40000000 in
theorem rm9 (l : Launch) (Z : State) (aw : Array Value) (hw : ∀ d ∈ tables_1, d.before aw Z = true) (wq : List Jvm.Cond) (p0 : Int32) (a1 : Addr) (p2 : Int32) (p3 : Int32) (k : ClassId) (z : Int32) (ws : List Int32) (h0 : Heap) (n0 : Nat) (Z0 : n0 ≤ h0.size) (V_a1 : own_AI Z h0 a1 k .char z ws) (hj0 : (0 : Int32) < p3 → ¬ p2 < 0 ∧ p2 < z) (hj1 : (1 : Int32) < p3 → ¬ (p2 + (1 : Int32)) < 0 ∧ (p2 + (1 : Int32)) < z) :
    MetFree l (⟨"com/example/trawl/trawl/dtd/TextPositionPassPinLaw", "stepN", "(I[CII)I"⟩ : MethodName) (head1 (Jvm.Cond.code (⟨"com/example/trawl/trawl/dtd/TextPositionPassPinLaw", "stepN", "(I[CII)I"⟩ : MethodName) method_5_code 5 (some .int) :: wq) ({ frames := 1, cells := 0, slots := 0, locals := 16 } : Room)) (fun a U => a = #[(.int p0), (.ref a1), (.int p2), (.int p3)] ∧ Z.Warmed39 U.vm ∧ U.heap = h0) (fun _ _ _ _ _ => True) (fun _ U o U' => ∃ v L, o = .returned v ∧ Q9 Z p0 a1 p2 p3 k z ws h0 n0 v U'.heap L ∧ FrameEnd U o U' L ({ frames := 1, cells := 0, slots := 0, locals := 16 } : Room).cells ({ frames := 1, cells := 0, slots := 0, locals := 16 } : Room).slots) := by
  refine MetFree.of_bodySF (plainFor_of_name pn_0) hisR ?_
  intro p e s m args below meth c s₁ Bd hml0 hP hK
  obtain ⟨rfl, hZ, hh⟩ := hP
  have hx := Bd.exec
  have hby := Bd.bytes
  have hml : c.maxLocals = 5 := hml0
  have hown : s.vm.findClass "com/example/trawl/trawl/dtd/TextPositionPassPinLaw" = some m.cls := findClass_of_methodNamed Bd.named
  have hnm := (name_of_methodNamed Bd.named Bd.method).1
  have X0 : Stand p l e ({ frames := 1, cells := 0, slots := 0, locals := 16 } : Room) s m #[(.int p0), (.ref a1), (.int p2), (.int p3)] below meth c s₁ [] 0 0 := Stand.of_body Bd
  have e0 : s₁.heap = h0 := by rw [← hh, Bd.state]; rfl
  have N0 := Fr.nil n0
  have pre0 : own_Pre p e below (s₁.setTop (entryFrame m #[(.int p0), (.ref a1), (.int p2), (.int p3)] 5)) (s₁.setTop (mkF m 0 #[.val (.int p0), .val (.ref a1), .val (.int p2), .val (.int p3), .unset] [])) := fun t k => castTop (ef_9 m p0 a1 p2 p3) k
  have pre1 : own_Pre p e below (s₁.setTop (entryFrame m #[(.int p0), (.ref a1), (.int p2), (.int p3)] 5)) (s₁.setTop (mkF m 4 #[.val (.int p0), .val (.ref a1), .val (.int p2), .val (.int p3), .val (.int p0)] [(.int p3)])) := fun t k => pre0 t (by
      show Steps p.tables e below (s₁.setTop (mkF m 0 #[.val (.int p0), .val (.ref a1), .val (.int p2), .val (.int p3), .unset] [])) _
      refine XS.iloadN X0.here hx rfl (hb hby d9_0) rfl ?_
      refine XS.istore X0.here hx rfl (hb hby d9_1) rfl (l' := #[.val (.int p0), .val (.ref a1), .val (.int p2), .val (.int p3), .val (.int p0)]) rfl ?_
      refine XS.iloadN X0.here hx rfl (hb hby d9_3) rfl ?_
      exact k)
  by_cases hc4 : (0 : Int32) < p3
  · obtain ⟨cl2, Ar2, hin2, hat2⟩ := own_AI.at V_a1 (j := p2) (hj0 hc4)
    obtain ⟨_, _, ⟨T3, L3, k3, n3⟩, -, X3, ⟨Lc3, hQ3, l3, y3, z3⟩, st3⟩ := Jvm.LawKit.callS X0 hx (y := (⟨"com/example/trawl/trawl/dtd/TextPositionPassPinLaw", "step", "(IC)I"⟩ : MethodName)) hown (mvT hZ (hw _ (List.mem_of_getElem? (i := 49) rfl))) (mvT hZ (hw _ (List.mem_of_getElem? (i := 50) rfl))) (mvT hZ (hw _ (List.mem_of_getElem? (i := 3) rfl))) (mvT hZ (hw _ (List.mem_of_getElem? (i := 51) rfl))) (by decide) (backOf (W := 0) (rm10 l Z aw hw [] (p0) ((ws.getD (p2).toNatClampNeg (0 : Int32))) (h0) n0 Z0) hZ (hw _ (List.mem_of_getElem? (i := 51) rfl)) (hw _ (List.mem_of_getElem? (i := 3) rfl)) (by decide) (by decide)) (g := (mkF m 12 #[.val (.int p0), .val (.ref a1), .val (.int p2), .val (.int p3), .val (.int p0)] [(.int (ws.getD (p2).toNatClampNeg (0 : Int32))), (.int p0)])) rfl (by rw [hml]; rfl) (argsL := [(.int p0), (.int (ws.getD (p2).toNatClampNeg (0 : Int32)))]) (rest := []) (lenOf pd_1 rfl) rfl (by show 2 * 0 + _ ≤ _; exact Nat.le_of_eq rfl) (hb hby d9_12) (fun _ _ => ⟨rfl, e0, (by decide : 0 + 0 ≤ _), (by decide : 0 + 0 ≤ _)⟩)
    dsimp only [Pt.U, Pt.locs, Pt.cells, Pt.slots] at X3 l3 y3 z3 st3 hQ3
    subst l3 y3 z3
    obtain ⟨rfl, Nq3, eq3⟩ := hQ3
    have N3 := Fr.app N0 Nq3
    obtain ⟨x4_17, hx4_17, pre4⟩ : ∃ z : Int32, z = (own_f10 p0 ((ws.getD (p2).toNatClampNeg (0 : Int32)))) ∧ own_Pre p e below (s₁.setTop (entryFrame m #[(.int p0), (.ref a1), (.int p2), (.int p3)] 5)) (T3.setTop (mkF m 17 #[.val (.int p0), .val (.ref a1), .val (.int p2), .val (.int p3), .val (.int z)] [])) := ⟨_, rfl, fun t k => pre1 t (by
        show Steps p.tables e below (s₁.setTop (mkF m 4 #[.val (.int p0), .val (.ref a1), .val (.int p2), .val (.int p3), .val (.int p0)] [(.int p3)])) _
        refine XS.ifNo X0.here hx rfl (hb hby d9_4) rfl ((if0 _ _).trans (tlt hc4).2.2.2) ?_
        refine XS.iload X0.here hx rfl (hb hby d9_7) rfl ?_
        refine XS.aloadN X0.here hx rfl (hb hby d9_9) rfl rfl ?_
        refine XS.iloadN X0.here hx rfl (hb hby d9_10) rfl ?_
        refine X0.caload hx (j := p2) (v := (.int (ws.getD (p2).toNatClampNeg (0 : Int32)))) (by rw [e0]; exact Ar2.1) (State.isArrayOf_alike hZ.alike Ar2.2.1) Ar2.2.2 hin2 hat2 (g := (mkF m 11 #[.val (.int p0), .val (.ref a1), .val (.int p2), .val (.int p3), .val (.int p0)] [(.int p2), (.ref a1), (.int p0)])) rfl rfl (hb hby d9_11) _ ?_
        show Steps p.tables e below (s₁.setTop (mkF m 12 #[.val (.int p0), .val (.ref a1), .val (.int p2), .val (.int p3), .val (.int p0)] [(.int (ws.getD (p2).toNatClampNeg (0 : Int32))), (.int p0)])) _
        refine st3 _ ?_
        refine XS.istore X3.here hx rfl (hb hby d9_15) rfl (l' := #[.val (.int p0), .val (.ref a1), .val (.int p2), .val (.int p3), .val (.int (own_f10 p0 ((ws.getD (p2).toNatClampNeg (0 : Int32)))))]) rfl ?_
        exact k)⟩
    have pre5 : own_Pre p e below (s₁.setTop (entryFrame m #[(.int p0), (.ref a1), (.int p2), (.int p3)] 5)) (T3.setTop (mkF m 19 #[.val (.int p0), .val (.ref a1), .val (.int p2), .val (.int p3), .val (.int x4_17)] [(.int (1 : Int32)), (.int p3)])) := fun t k => pre4 t (by
        show Steps p.tables e below (T3.setTop (mkF m 17 #[.val (.int p0), .val (.ref a1), .val (.int p2), .val (.int p3), .val (.int x4_17)] [])) _
        refine XS.iloadN X3.here hx rfl (hb hby d9_17) rfl ?_
        refine XS.iconst X3.here hx rfl (hb hby d9_18) ?_
        exact k)
    by_cases hc19 : (1 : Int32) < p3
    · obtain ⟨cl6, Ar6, hin6, hat6⟩ := own_AI.at V_a1 (j := (p2 + (1 : Int32))) (hj1 hc19)
      obtain ⟨_, _, ⟨T7, L7, k7, n7⟩, -, X7, ⟨Lc7, hQ7, l7, y7, z7⟩, st7⟩ := Jvm.LawKit.callS X3 hx (y := (⟨"com/example/trawl/trawl/dtd/TextPositionPassPinLaw", "step", "(IC)I"⟩ : MethodName)) hown (mvT hZ (hw _ (List.mem_of_getElem? (i := 49) rfl))) (mvT hZ (hw _ (List.mem_of_getElem? (i := 50) rfl))) (mvT hZ (hw _ (List.mem_of_getElem? (i := 3) rfl))) (mvT hZ (hw _ (List.mem_of_getElem? (i := 51) rfl))) (by decide) (backOf (W := 0) (rm10 l Z aw hw [] (x4_17) ((ws.getD ((p2 + (1 : Int32))).toNatClampNeg (0 : Int32))) (h0) n0 Z0) hZ (hw _ (List.mem_of_getElem? (i := 51) rfl)) (hw _ (List.mem_of_getElem? (i := 3) rfl)) (by decide) (by decide)) (g := (mkF m 29 #[.val (.int p0), .val (.ref a1), .val (.int p2), .val (.int p3), .val (.int x4_17)] [(.int (ws.getD ((p2 + (1 : Int32))).toNatClampNeg (0 : Int32))), (.int x4_17)])) rfl (by rw [hml]; rfl) (argsL := [(.int x4_17), (.int (ws.getD ((p2 + (1 : Int32))).toNatClampNeg (0 : Int32)))]) (rest := []) (lenOf pd_1 rfl) rfl (by show 2 * 0 + _ ≤ _; exact Nat.le_of_eq rfl) (hb hby d9_29) (fun _ _ => ⟨rfl, eq3, (by decide : 0 + 0 ≤ _), (by decide : 0 + 0 ≤ _)⟩)
      dsimp only [Pt.U, Pt.locs, Pt.cells, Pt.slots] at X7 l7 y7 z7 st7 hQ7
      subst l7 y7 z7
      obtain ⟨rfl, Nq7, eq7⟩ := hQ7
      have N7 := Fr.app N3 Nq7
      obtain ⟨x4_34, hx4_34, pre8⟩ : ∃ z : Int32, z = (own_f10 x4_17 ((ws.getD ((p2 + (1 : Int32))).toNatClampNeg (0 : Int32)))) ∧ own_Pre p e below (s₁.setTop (entryFrame m #[(.int p0), (.ref a1), (.int p2), (.int p3)] 5)) (T7.setTop (mkF m 34 #[.val (.int p0), .val (.ref a1), .val (.int p2), .val (.int p3), .val (.int z)] [])) := ⟨_, rfl, fun t k => pre5 t (by
          show Steps p.tables e below (T3.setTop (mkF m 19 #[.val (.int p0), .val (.ref a1), .val (.int p2), .val (.int p3), .val (.int x4_17)] [(.int (1 : Int32)), (.int p3)])) _
          refine XS.icmpNo X3.here hx rfl (hb hby d9_19) rfl (tlt hc19).2.2.2 ?_
          refine XS.iload X3.here hx rfl (hb hby d9_22) rfl ?_
          refine XS.aloadN X3.here hx rfl (hb hby d9_24) rfl rfl ?_
          refine XS.iloadN X3.here hx rfl (hb hby d9_25) rfl ?_
          refine XS.iconst X3.here hx rfl (hb hby d9_26) ?_
          show Steps p.tables e below (T3.setTop (mkF m 27 #[.val (.int p0), .val (.ref a1), .val (.int p2), .val (.int p3), .val (.int x4_17)] [(.int (1 : Int32)), (.int p2), (.ref a1), (.int x4_17)])) _
          refine XS.iadd X3.here hx rfl (hb hby d9_27) rfl ?_
          refine X3.caload hx (j := (p2 + (1 : Int32))) (v := (.int (ws.getD ((p2 + (1 : Int32))).toNatClampNeg (0 : Int32)))) (by rw [eq3]; exact Ar6.1) (State.isArrayOf_alike hZ.alike Ar6.2.1) Ar6.2.2 hin6 hat6 (g := (mkF m 28 #[.val (.int p0), .val (.ref a1), .val (.int p2), .val (.int p3), .val (.int x4_17)] [(.int (p2 + (1 : Int32))), (.ref a1), (.int x4_17)])) rfl rfl (hb hby d9_28) _ ?_
          refine st7 _ ?_
          refine XS.istore X7.here hx rfl (hb hby d9_32) rfl (l' := #[.val (.int p0), .val (.ref a1), .val (.int p2), .val (.int p3), .val (.int (own_f10 x4_17 ((ws.getD ((p2 + (1 : Int32))).toNatClampNeg (0 : Int32)))))]) rfl ?_
          exact k)⟩
      obtain ⟨fs, hr, hrun, hended, hW, hsame⟩ := X7.leave (v := some (.int x4_34)) (fun h => by rw [Bd.returns] at h; cases h)
      refine ⟨_, _, pre8 _ ?_, hrun, hended, _, _, rfl, ?_, ⟨_, rfl⟩, hW, hsame.mono (by decide) (by decide)⟩
      · show Steps p.tables e below (T7.setTop (mkF m 34 #[.val (.int p0), .val (.ref a1), .val (.int p2), .val (.int p3), .val (.int x4_34)] [])) _
        refine XS.iload X7.here hx rfl (hb hby d9_34) rfl ?_
        show Steps p.tables e below (T7.setTop (mkF m 36 #[.val (.int p0), .val (.ref a1), .val (.int p2), .val (.int p3), .val (.int x4_34)] [(.int x4_34)])) _
        exact retI X7 hx Bd.returns (hb hby d9_36) hr
      · show Q9 Z p0 a1 p2 p3 k z ws h0 n0 _ T7.heap _
        rw [eq7]
        unfold Q9
        refine ⟨?_, N7, rfl⟩
        · subst hx4_34 hx4_17; simp only [own_f9, if_pos hc4, if_pos hc19]
    · obtain ⟨fs, hr, hrun, hended, hW, hsame⟩ := X3.leave (v := some (.int x4_17)) (fun h => by rw [Bd.returns] at h; cases h)
      refine ⟨_, _, pre5 _ ?_, hrun, hended, _, _, rfl, ?_, ⟨_, rfl⟩, hW, hsame.mono (by decide) (by decide)⟩
      · show Steps p.tables e below (T3.setTop (mkF m 19 #[.val (.int p0), .val (.ref a1), .val (.int p2), .val (.int p3), .val (.int x4_17)] [(.int (1 : Int32)), (.int p3)])) _
        refine XS.icmpYes X3.here hx rfl (pc0 := 19) (pc' := 34) rfl (hb hby d9_19) rfl (flt hc19).2.2.2 (by decide) (by decide) ?_
        refine XS.iload X3.here hx rfl (hb hby d9_34) rfl ?_
        show Steps p.tables e below (T3.setTop (mkF m 36 #[.val (.int p0), .val (.ref a1), .val (.int p2), .val (.int p3), .val (.int x4_17)] [(.int x4_17)])) _
        exact retI X3 hx Bd.returns (hb hby d9_36) hr
      · show Q9 Z p0 a1 p2 p3 k z ws h0 n0 _ T3.heap _
        rw [eq3]
        unfold Q9
        refine ⟨?_, N3, rfl⟩
        · subst hx4_17; simp only [own_f9, if_pos hc4, if_neg hc19]
  · have pre9 : own_Pre p e below (s₁.setTop (entryFrame m #[(.int p0), (.ref a1), (.int p2), (.int p3)] 5)) (s₁.setTop (mkF m 19 #[.val (.int p0), .val (.ref a1), .val (.int p2), .val (.int p3), .val (.int p0)] [(.int (1 : Int32)), (.int p3)])) := fun t k => pre1 t (by
        show Steps p.tables e below (s₁.setTop (mkF m 4 #[.val (.int p0), .val (.ref a1), .val (.int p2), .val (.int p3), .val (.int p0)] [(.int p3)])) _
        refine XS.ifYes X0.here hx rfl (pc0 := 4) (pc' := 17) rfl (hb hby d9_4) rfl ((if0 _ _).trans (flt hc4).2.2.2) (by decide) (by decide) ?_
        refine XS.iloadN X0.here hx rfl (hb hby d9_17) rfl ?_
        refine XS.iconst X0.here hx rfl (hb hby d9_18) ?_
        exact k)
    by_cases hc19 : (1 : Int32) < p3
    · obtain ⟨cl10, Ar10, hin10, hat10⟩ := own_AI.at V_a1 (j := (p2 + (1 : Int32))) (hj1 hc19)
      obtain ⟨_, _, ⟨T11, L11, k11, n11⟩, -, X11, ⟨Lc11, hQ11, l11, y11, z11⟩, st11⟩ := Jvm.LawKit.callS X0 hx (y := (⟨"com/example/trawl/trawl/dtd/TextPositionPassPinLaw", "step", "(IC)I"⟩ : MethodName)) hown (mvT hZ (hw _ (List.mem_of_getElem? (i := 49) rfl))) (mvT hZ (hw _ (List.mem_of_getElem? (i := 50) rfl))) (mvT hZ (hw _ (List.mem_of_getElem? (i := 3) rfl))) (mvT hZ (hw _ (List.mem_of_getElem? (i := 51) rfl))) (by decide) (backOf (W := 0) (rm10 l Z aw hw [] (p0) ((ws.getD ((p2 + (1 : Int32))).toNatClampNeg (0 : Int32))) (h0) n0 Z0) hZ (hw _ (List.mem_of_getElem? (i := 51) rfl)) (hw _ (List.mem_of_getElem? (i := 3) rfl)) (by decide) (by decide)) (g := (mkF m 29 #[.val (.int p0), .val (.ref a1), .val (.int p2), .val (.int p3), .val (.int p0)] [(.int (ws.getD ((p2 + (1 : Int32))).toNatClampNeg (0 : Int32))), (.int p0)])) rfl (by rw [hml]; rfl) (argsL := [(.int p0), (.int (ws.getD ((p2 + (1 : Int32))).toNatClampNeg (0 : Int32)))]) (rest := []) (lenOf pd_1 rfl) rfl (by show 2 * 0 + _ ≤ _; exact Nat.le_of_eq rfl) (hb hby d9_29) (fun _ _ => ⟨rfl, e0, (by decide : 0 + 0 ≤ _), (by decide : 0 + 0 ≤ _)⟩)
      dsimp only [Pt.U, Pt.locs, Pt.cells, Pt.slots] at X11 l11 y11 z11 st11 hQ11
      subst l11 y11 z11
      obtain ⟨rfl, Nq11, eq11⟩ := hQ11
      have N11 := Fr.app N0 Nq11
      obtain ⟨x4_34, hx4_34, pre12⟩ : ∃ z : Int32, z = (own_f10 p0 ((ws.getD ((p2 + (1 : Int32))).toNatClampNeg (0 : Int32)))) ∧ own_Pre p e below (s₁.setTop (entryFrame m #[(.int p0), (.ref a1), (.int p2), (.int p3)] 5)) (T11.setTop (mkF m 34 #[.val (.int p0), .val (.ref a1), .val (.int p2), .val (.int p3), .val (.int z)] [])) := ⟨_, rfl, fun t k => pre9 t (by
          show Steps p.tables e below (s₁.setTop (mkF m 19 #[.val (.int p0), .val (.ref a1), .val (.int p2), .val (.int p3), .val (.int p0)] [(.int (1 : Int32)), (.int p3)])) _
          refine XS.icmpNo X0.here hx rfl (hb hby d9_19) rfl (tlt hc19).2.2.2 ?_
          refine XS.iload X0.here hx rfl (hb hby d9_22) rfl ?_
          refine XS.aloadN X0.here hx rfl (hb hby d9_24) rfl rfl ?_
          refine XS.iloadN X0.here hx rfl (hb hby d9_25) rfl ?_
          refine XS.iconst X0.here hx rfl (hb hby d9_26) ?_
          show Steps p.tables e below (s₁.setTop (mkF m 27 #[.val (.int p0), .val (.ref a1), .val (.int p2), .val (.int p3), .val (.int p0)] [(.int (1 : Int32)), (.int p2), (.ref a1), (.int p0)])) _
          refine XS.iadd X0.here hx rfl (hb hby d9_27) rfl ?_
          refine X0.caload hx (j := (p2 + (1 : Int32))) (v := (.int (ws.getD ((p2 + (1 : Int32))).toNatClampNeg (0 : Int32)))) (by rw [e0]; exact Ar10.1) (State.isArrayOf_alike hZ.alike Ar10.2.1) Ar10.2.2 hin10 hat10 (g := (mkF m 28 #[.val (.int p0), .val (.ref a1), .val (.int p2), .val (.int p3), .val (.int p0)] [(.int (p2 + (1 : Int32))), (.ref a1), (.int p0)])) rfl rfl (hb hby d9_28) _ ?_
          refine st11 _ ?_
          refine XS.istore X11.here hx rfl (hb hby d9_32) rfl (l' := #[.val (.int p0), .val (.ref a1), .val (.int p2), .val (.int p3), .val (.int (own_f10 p0 ((ws.getD ((p2 + (1 : Int32))).toNatClampNeg (0 : Int32)))))]) rfl ?_
          exact k)⟩
      obtain ⟨fs, hr, hrun, hended, hW, hsame⟩ := X11.leave (v := some (.int x4_34)) (fun h => by rw [Bd.returns] at h; cases h)
      refine ⟨_, _, pre12 _ ?_, hrun, hended, _, _, rfl, ?_, ⟨_, rfl⟩, hW, hsame.mono (by decide) (by decide)⟩
      · show Steps p.tables e below (T11.setTop (mkF m 34 #[.val (.int p0), .val (.ref a1), .val (.int p2), .val (.int p3), .val (.int x4_34)] [])) _
        refine XS.iload X11.here hx rfl (hb hby d9_34) rfl ?_
        show Steps p.tables e below (T11.setTop (mkF m 36 #[.val (.int p0), .val (.ref a1), .val (.int p2), .val (.int p3), .val (.int x4_34)] [(.int x4_34)])) _
        exact retI X11 hx Bd.returns (hb hby d9_36) hr
      · show Q9 Z p0 a1 p2 p3 k z ws h0 n0 _ T11.heap _
        rw [eq11]
        unfold Q9
        refine ⟨?_, N11, rfl⟩
        · subst hx4_34; simp only [own_f9, if_neg hc4, if_pos hc19]
    · obtain ⟨fs, hr, hrun, hended, hW, hsame⟩ := X0.leave (v := some (.int p0)) (fun h => by rw [Bd.returns] at h; cases h)
      refine ⟨_, _, pre9 _ ?_, hrun, hended, _, _, rfl, ?_, ⟨_, rfl⟩, hW, hsame.mono (by decide) (by decide)⟩
      · show Steps p.tables e below (s₁.setTop (mkF m 19 #[.val (.int p0), .val (.ref a1), .val (.int p2), .val (.int p3), .val (.int p0)] [(.int (1 : Int32)), (.int p3)])) _
        refine XS.icmpYes X0.here hx rfl (pc0 := 19) (pc' := 34) rfl (hb hby d9_19) rfl (flt hc19).2.2.2 (by decide) (by decide) ?_
        refine XS.iload X0.here hx rfl (hb hby d9_34) rfl ?_
        show Steps p.tables e below (s₁.setTop (mkF m 36 #[.val (.int p0), .val (.ref a1), .val (.int p2), .val (.int p3), .val (.int p0)] [(.int p0)])) _
        exact retI X0 hx Bd.returns (hb hby d9_36) hr
      · show Q9 Z p0 a1 p2 p3 k z ws h0 n0 _ s₁.heap _
        rw [e0]
        unfold Q9
        refine ⟨?_, N0, rfl⟩
        · simp only [own_f9, if_neg hc4, if_neg hc19]
theorem d5_0 : decode method_6_code 0 = .ok (.aload_n 0, 1) := by decide +kernel
theorem d5_1 : decode method_6_code 1 = .ok (.invokevirtual 23, 3) := by decide +kernel
theorem d5_4 : decode method_6_code 4 = .ok (.iload_n 1, 1) := by decide +kernel
theorem d5_5 : decode method_6_code 5 = .ok (.bipush 8, 2) := by decide +kernel
theorem d5_7 : decode method_6_code 7 = .ok (.iushr, 1) := by decide +kernel
theorem d5_8 : decode method_6_code 8 = .ok (.if_icmp .ne 20, 3) := by decide +kernel
theorem d5_11 : decode method_6_code 11 = .ok (.aload_n 0, 1) := by decide +kernel
theorem d5_12 : decode method_6_code 12 = .ok (.invokevirtual 29, 3) := by decide +kernel
theorem d5_15 : decode method_6_code 15 = .ok (.iload_n 1, 1) := by decide +kernel
theorem d5_16 : decode method_6_code 16 = .ok (.iconst 1, 1) := by decide +kernel
theorem d5_17 : decode method_6_code 17 = .ok (.iushr, 1) := by decide +kernel
theorem d5_18 : decode method_6_code 18 = .ok (.bipush 127, 2) := by decide +kernel
theorem d5_20 : decode method_6_code 20 = .ok (.iand, 1) := by decide +kernel
theorem d5_21 : decode method_6_code 21 = .ok (.if_icmp .ne 7, 3) := by decide +kernel
theorem d5_24 : decode method_6_code 24 = .ok (.iconst 1, 1) := by decide +kernel
theorem d5_25 : decode method_6_code 25 = .ok (.goto 4, 3) := by decide +kernel
theorem d5_28 : decode method_6_code 28 = .ok (.iconst 0, 1) := by decide +kernel
theorem d5_29 : decode method_6_code 29 = .ok (.ireturn, 1) := by decide +kernel
theorem pd_2 : parseMethodDescriptor "()I" = some ⟨[], some .int⟩ := by decide +kernel
theorem ef_5 (m : MethodId) (a0 : Addr) (p1 : Int32) : entryFrame m #[(.ref a0), (.int p1)] 2 = mkF m 0 #[.val (.ref a0), .val (.int p1)] [] := by first | (simp [entryFrame, mkF, argsToLocals, Value.category]; done) | rfl
def own_f5 (p1 : Int32) (ln : Int32) (ps : Int64) (ls : Int64) : Int32 := (if ln = ((p1).toUInt32 >>> ((8 : Int32) &&& 31).toUInt32).toInt32 then (if (own_f7 ps ls) = (((p1).toUInt32 >>> ((1 : Int32) &&& 31).toUInt32).toInt32 &&& (127 : Int32)) then (1 : Int32) else (0 : Int32)) else (0 : Int32))
def Q5 (Z : State) (a0 : Addr) (p1 : Int32) (ln : Int32) (ps : Int64) (ls : Int64) (h0 : Heap) (n0 : Nat) (v : Option Value) (h : Heap) (L : List Loc) : Prop := v = some (.int (own_f5 p1 ln ps ls)) ∧ Fr n0 L ∧ h = h0
set_option maxRecDepth 65536 in
set_option maxHeartbeats 40000000 in
theorem rm5 (l : Launch) (Z : State) (aw : Array Value) (hw : ∀ d ∈ tables_1, d.before aw Z = true) (wq : List Jvm.Cond) (a0 : Addr) (p1 : Int32) (ln : Int32) (ps : Int64) (ls : Int64) (h0 : Heap) (n0 : Nat) (Z0 : n0 ≤ h0.size) (E_a0 : Exa Z h0 a0 "com/example/trawl/trawl/dtd/TextPosition") (F_a0_line : Fld Z h0 a0 "com/example/trawl/trawl/dtd/TextPosition" "line" "I" (.int ln)) (F_a0_passed : Fld Z h0 a0 "com/example/trawl/trawl/dtd/TextPosition" "passed" "J" (.long ps)) (F_a0_lineStart : Fld Z h0 a0 "com/example/trawl/trawl/dtd/TextPosition" "lineStart" "J" (.long ls)) :
    MetFree l (⟨"com/example/trawl/trawl/dtd/TextPositionPassPinLaw", "agrees", "(Lcom/example/trawl/trawl/dtd/TextPosition;I)Z"⟩ : MethodName) (head1 (Jvm.Cond.code (⟨"com/example/trawl/trawl/dtd/TextPositionPassPinLaw", "agrees", "(Lcom/example/trawl/trawl/dtd/TextPosition;I)Z"⟩ : MethodName) method_6_code 2 (some .boolean) :: wq) ({ frames := 1, cells := 0, slots := 0, locals := 12 } : Room)) (fun a U => a = #[(.ref a0), (.int p1)] ∧ Z.Warmed39 U.vm ∧ U.heap = h0) (fun _ _ _ _ _ => True) (fun _ U o U' => ∃ v L, o = .returned v ∧ Q5 Z a0 p1 ln ps ls h0 n0 v U'.heap L ∧ FrameEnd U o U' L ({ frames := 1, cells := 0, slots := 0, locals := 12 } : Room).cells ({ frames := 1, cells := 0, slots := 0, locals := 12 } : Room).slots) := by
  refine MetFree.of_bodySF (plainFor_of_name pn_0) hisR ?_
  intro p e s m args below meth c s₁ Bd hml0 hP hK
  obtain ⟨rfl, hZ, hh⟩ := hP
  have hx := Bd.exec
  have hby := Bd.bytes
  have hml : c.maxLocals = 2 := hml0
  have hown : s.vm.findClass "com/example/trawl/trawl/dtd/TextPositionPassPinLaw" = some m.cls := findClass_of_methodNamed Bd.named
  have hnm := (name_of_methodNamed Bd.named Bd.method).1
  have X0 : Stand p l e ({ frames := 1, cells := 0, slots := 0, locals := 12 } : Room) s m #[(.ref a0), (.int p1)] below meth c s₁ [] 0 0 := Stand.of_body Bd
  have e0 : s₁.heap = h0 := by rw [← hh, Bd.state]; rfl
  have N0 := Fr.nil n0
  have pre0 : own_Pre p e below (s₁.setTop (entryFrame m #[(.ref a0), (.int p1)] 2)) (s₁.setTop (mkF m 0 #[.val (.ref a0), .val (.int p1)] [])) := fun t k => castTop (ef_5 m a0 p1) k
  obtain ⟨cq1, kq1, q1a, q1b, q1c⟩ := isOf hZ e0 E_a0
  obtain ⟨_, _, ⟨T1, L1, k1, n1⟩, -, X1, ⟨Lc1, hQ1, l1, y1, z1⟩, st1⟩ := X0.virtualBack hx (y := (⟨"com/example/trawl/trawl/dtd/TextPosition", "line", "()I"⟩ : MethodName)) (z := (⟨"com/example/trawl/trawl/dtd/TextPosition", "line", "()I"⟩ : MethodName)) hown (mvT hZ (hw _ (List.mem_of_getElem? (i := 25) rfl))) (mvT hZ (hw _ (List.mem_of_getElem? (i := 26) rfl))) (notFace_of_selects (args := #[]) (mvT hZ (hw _ (List.mem_of_getElem? (i := 28) rfl)))) (mvT hZ (hw _ (List.mem_of_getElem? (i := 28) rfl))) (mvT hZ (hw _ (List.mem_of_getElem? (i := 27) rfl))) (by decide) (backOf (W := 0) (rm6 l Z aw hw [] (a0) (ln) (h0) n0 Z0 F_a0_line) hZ (hw _ (List.mem_of_getElem? (i := 29) rfl)) (hw _ (List.mem_of_getElem? (i := 13) rfl)) (by decide) (by decide)) q1a q1c (g := (mkF m 1 #[.val (.ref a0), .val (.int p1)] [(.ref a0)])) rfl (by rw [hml]; rfl) (Steps.refl _) (argsL := []) (rest := []) (lenOf pd_2 rfl) rfl (by show 2 * 0 + _ ≤ _; exact Nat.le_of_eq rfl) (hb hby d5_1) (fun _ _ => ⟨rfl, e0, (by decide : 0 + 0 ≤ _), (by decide : 0 + 0 ≤ _)⟩)
  dsimp only [Pt.U, Pt.locs, Pt.cells, Pt.slots] at X1 l1 y1 z1 st1 hQ1
  subst l1 y1 z1
  obtain ⟨rfl, Nq1, eq1⟩ := hQ1
  have N1 := Fr.app N0 Nq1
  have pre2 : own_Pre p e below (s₁.setTop (entryFrame m #[(.ref a0), (.int p1)] 2)) (T1.setTop (mkF m 8 #[.val (.ref a0), .val (.int p1)] [(.int ((p1).toUInt32 >>> ((8 : Int32) &&& 31).toUInt32).toInt32), (.int ln)])) := fun t k => pre0 t (by
      show Steps p.tables e below (s₁.setTop (mkF m 0 #[.val (.ref a0), .val (.int p1)] [])) _
      refine XS.aloadN X0.here hx rfl (hb hby d5_0) rfl rfl ?_
      refine st1.trans ?_
      refine XS.iloadN X1.here hx rfl (hb hby d5_4) rfl ?_
      refine XS.bipush X1.here hx rfl (hb hby d5_5) ?_
      refine XS.iushr X1.here hx rfl (hb hby d5_7) rfl ?_
      exact k)
  by_cases hc8 : ln = ((p1).toUInt32 >>> ((8 : Int32) &&& 31).toUInt32).toInt32
  · obtain ⟨cq3, kq3, q3a, q3b, q3c⟩ := isOf hZ eq1 E_a0
    obtain ⟨_, _, ⟨T3, L3, k3, n3⟩, -, X3, ⟨Lc3, hQ3, l3, y3, z3⟩, st3⟩ := X1.virtualBack hx (y := (⟨"com/example/trawl/trawl/dtd/TextPosition", "column", "()I"⟩ : MethodName)) (z := (⟨"com/example/trawl/trawl/dtd/TextPosition", "column", "()I"⟩ : MethodName)) hown (mvT hZ (hw _ (List.mem_of_getElem? (i := 30) rfl))) (mvT hZ (hw _ (List.mem_of_getElem? (i := 31) rfl))) (notFace_of_selects (args := #[]) (mvT hZ (hw _ (List.mem_of_getElem? (i := 33) rfl)))) (mvT hZ (hw _ (List.mem_of_getElem? (i := 33) rfl))) (mvT hZ (hw _ (List.mem_of_getElem? (i := 32) rfl))) (by decide) (backOf (W := 0) (rm7 l Z aw hw [] (a0) (ps) (ls) (h0) n0 Z0 F_a0_passed F_a0_lineStart) hZ (hw _ (List.mem_of_getElem? (i := 34) rfl)) (hw _ (List.mem_of_getElem? (i := 13) rfl)) (by decide) (by decide)) q3a q3c (g := (mkF m 12 #[.val (.ref a0), .val (.int p1)] [(.ref a0)])) rfl (by rw [hml]; rfl) (Steps.refl _) (argsL := []) (rest := []) (lenOf pd_2 rfl) rfl (by show 2 * 0 + _ ≤ _; exact Nat.le_of_eq rfl) (hb hby d5_12) (fun _ _ => ⟨rfl, eq1, (by decide : 0 + 0 ≤ _), (by decide : 0 + 0 ≤ _)⟩)
    dsimp only [Pt.U, Pt.locs, Pt.cells, Pt.slots] at X3 l3 y3 z3 st3 hQ3
    subst l3 y3 z3
    obtain ⟨rfl, Nq3, eq3⟩ := hQ3
    have N3 := Fr.app N1 Nq3
    have pre4 : own_Pre p e below (s₁.setTop (entryFrame m #[(.ref a0), (.int p1)] 2)) (T3.setTop (mkF m 21 #[.val (.ref a0), .val (.int p1)] [(.int (((p1).toUInt32 >>> ((1 : Int32) &&& 31).toUInt32).toInt32 &&& (127 : Int32))), (.int (own_f7 ps ls))])) := fun t k => pre2 t (by
        show Steps p.tables e below (T1.setTop (mkF m 8 #[.val (.ref a0), .val (.int p1)] [(.int ((p1).toUInt32 >>> ((8 : Int32) &&& 31).toUInt32).toInt32), (.int ln)])) _
        refine XS.icmpNo X1.here hx rfl (hb hby d5_8) rfl (teq hc8).2 ?_
        refine XS.aloadN X1.here hx rfl (hb hby d5_11) rfl rfl ?_
        refine st3.trans ?_
        refine XS.iloadN X3.here hx rfl (hb hby d5_15) rfl ?_
        refine XS.iconst X3.here hx rfl (hb hby d5_16) ?_
        show Steps p.tables e below (T3.setTop (mkF m 17 #[.val (.ref a0), .val (.int p1)] [(.int (1 : Int32)), (.int p1), (.int (own_f7 ps ls))])) _
        refine XS.iushr X3.here hx rfl (hb hby d5_17) rfl ?_
        refine XS.bipush X3.here hx rfl (hb hby d5_18) ?_
        refine XS.iand X3.here hx rfl (hb hby d5_20) rfl ?_
        exact k)
    by_cases hc21 : (own_f7 ps ls) = (((p1).toUInt32 >>> ((1 : Int32) &&& 31).toUInt32).toInt32 &&& (127 : Int32))
    · obtain ⟨fs, hr, hrun, hended, hW, hsame⟩ := X3.leave (v := some (.int (1 : Int32))) (fun h => by rw [Bd.returns] at h; cases h)
      refine ⟨_, _, pre4 _ ?_, hrun, hended, _, _, rfl, ?_, ⟨_, rfl⟩, hW, hsame.mono (by decide) (by decide)⟩
      · show Steps p.tables e below (T3.setTop (mkF m 21 #[.val (.ref a0), .val (.int p1)] [(.int (((p1).toUInt32 >>> ((1 : Int32) &&& 31).toUInt32).toInt32 &&& (127 : Int32))), (.int (own_f7 ps ls))])) _
        refine XS.icmpNo X3.here hx rfl (hb hby d5_21) rfl (teq hc21).2 ?_
        refine XS.iconst X3.here hx rfl (hb hby d5_24) ?_
        refine XS.goto X3.here hx rfl (pc0 := 25) (pc' := 29) rfl (hb hby d5_25) (by decide) (by decide) ?_
        show Steps p.tables e below (T3.setTop (mkF m 29 #[.val (.ref a0), .val (.int p1)] [(.int (1 : Int32))])) _
        exact retN X3 hx (t := .boolean) Bd.returns (by simp) (hb hby d5_29) hr
      · show Q5 Z a0 p1 ln ps ls h0 n0 _ T3.heap _
        rw [eq3]
        unfold Q5
        refine ⟨?_, N3, rfl⟩
        · simp only [own_f5, if_pos hc8, if_pos hc21]
    · obtain ⟨fs, hr, hrun, hended, hW, hsame⟩ := X3.leave (v := some (.int (0 : Int32))) (fun h => by rw [Bd.returns] at h; cases h)
      refine ⟨_, _, pre4 _ ?_, hrun, hended, _, _, rfl, ?_, ⟨_, rfl⟩, hW, hsame.mono (by decide) (by decide)⟩
      · show Steps p.tables e below (T3.setTop (mkF m 21 #[.val (.ref a0), .val (.int p1)] [(.int (((p1).toUInt32 >>> ((1 : Int32) &&& 31).toUInt32).toInt32 &&& (127 : Int32))), (.int (own_f7 ps ls))])) _
        refine XS.icmpYes X3.here hx rfl (pc0 := 21) (pc' := 28) rfl (hb hby d5_21) rfl (feq hc21).2 (by decide) (by decide) ?_
        refine XS.iconst X3.here hx rfl (hb hby d5_28) ?_
        show Steps p.tables e below (T3.setTop (mkF m 29 #[.val (.ref a0), .val (.int p1)] [(.int (0 : Int32))])) _
        exact retN X3 hx (t := .boolean) Bd.returns (by simp) (hb hby d5_29) hr
      · show Q5 Z a0 p1 ln ps ls h0 n0 _ T3.heap _
        rw [eq3]
        unfold Q5
        refine ⟨?_, N3, rfl⟩
        · simp only [own_f5, if_pos hc8, if_neg hc21]
  · obtain ⟨fs, hr, hrun, hended, hW, hsame⟩ := X1.leave (v := some (.int (0 : Int32))) (fun h => by rw [Bd.returns] at h; cases h)
    refine ⟨_, _, pre2 _ ?_, hrun, hended, _, _, rfl, ?_, ⟨_, rfl⟩, hW, hsame.mono (by decide) (by decide)⟩
    · show Steps p.tables e below (T1.setTop (mkF m 8 #[.val (.ref a0), .val (.int p1)] [(.int ((p1).toUInt32 >>> ((8 : Int32) &&& 31).toUInt32).toInt32), (.int ln)])) _
      refine XS.icmpYes X1.here hx rfl (pc0 := 8) (pc' := 28) rfl (hb hby d5_8) rfl (feq hc8).2 (by decide) (by decide) ?_
      refine XS.iconst X1.here hx rfl (hb hby d5_28) ?_
      show Steps p.tables e below (T1.setTop (mkF m 29 #[.val (.ref a0), .val (.int p1)] [(.int (0 : Int32))])) _
      exact retN X1 hx (t := .boolean) Bd.returns (by simp) (hb hby d5_29) hr
    · show Q5 Z a0 p1 ln ps ls h0 n0 _ T1.heap _
      rw [eq1]
      unfold Q5
      refine ⟨?_, N1, rfl⟩
      · simp only [own_f5, if_neg hc8]
theorem own_irr (x : Int32) : ¬ x < x := by rw [Int32.lt_iff_toInt_lt]; omega
theorem own_s1 {p : Int32} (h : ¬ p < (0 : Int32) ∧ p < (4 : Int32)) : 0 ≤ p.toInt ∧ p.toInt < 4 ∧ (p + (1 : Int32)).toInt = p.toInt + 1 ∧ (p + (2 : Int32)).toInt = p.toInt + 2 ∧ (p + (0 : Int32)).toInt = p.toInt ∧ (p + (1 : Int32) + (1 : Int32)).toInt = p.toInt + 2 := by
  obtain ⟨h1, h2⟩ := h
  rw [Int32.lt_iff_toInt_lt] at h1 h2
  have e0 : (0 : Int32).toInt = 0 := rfl
  have e1 : (1 : Int32).toInt = 1 := rfl
  have e2 : (2 : Int32).toInt = 2 := rfl
  have e4 : (4 : Int32).toInt = 4 := rfl
  have a0 := c_iadd p 0
  have a1 := c_iadd p 1
  have a2 := c_iadd p 2
  have a3 := c_iadd (p + 1) 1
  have r0 := rng32 (p + 0)
  have r1 := rng32 (p + 1)
  have r2 := rng32 (p + 2)
  have r3 := rng32 (p + 1 + 1)
  omega
theorem own_l01 {p q : Int32} (k : q = (0 : Int32)) (h : ¬ p < (0 : Int32) ∧ p < (4 : Int32)) : ¬ p < p + q := by
  have := own_s1 h; rw [k, Int32.lt_iff_toInt_lt]; omega
theorem own_l11 {p q : Int32} (k : q = (1 : Int32)) (h : ¬ p < (0 : Int32) ∧ p < (4 : Int32)) : p < p + q := by
  have := own_s1 h; rw [k, Int32.lt_iff_toInt_lt]; omega
theorem own_l12 {p q : Int32} (k : q = (1 : Int32)) (h : ¬ p < (0 : Int32) ∧ p < (4 : Int32)) : ¬ p + (1 : Int32) < p + q := by
  have := own_s1 h; rw [k, Int32.lt_iff_toInt_lt]; omega
theorem own_l21 {p q : Int32} (k : q = (2 : Int32)) (h : ¬ p < (0 : Int32) ∧ p < (4 : Int32)) : p < p + q := by
  have := own_s1 h; rw [k, Int32.lt_iff_toInt_lt]; omega
theorem own_l22 {p q : Int32} (k : q = (2 : Int32)) (h : ¬ p < (0 : Int32) ∧ p < (4 : Int32)) : p + (1 : Int32) < p + q := by
  have := own_s1 h; rw [k, Int32.lt_iff_toInt_lt]; omega
theorem own_l23 {p q : Int32} (k : q = (2 : Int32)) (h : ¬ p < (0 : Int32) ∧ p < (4 : Int32)) : ¬ p + (1 : Int32) + (1 : Int32) < p + q := by
  have := own_s1 h; rw [k, Int32.lt_iff_toInt_lt]; omega
theorem own_l34 {p : Int32} (h : ¬ p < (0 : Int32) ∧ p < (4 : Int32)) : p < p + (1 : Int32) := by
  have := own_s1 h; rw [Int32.lt_iff_toInt_lt]; omega
theorem own_pos1 {q : Int32} (k : q = (1 : Int32)) : (0 : Int32) < q := by rw [k]; decide
theorem own_pos2 {q : Int32} (k : q = (2 : Int32)) : (0 : Int32) < q := by rw [k]; decide
theorem own_pos22 {q : Int32} (k : q = (2 : Int32)) : (1 : Int32) < q := by rw [k]; decide
theorem own_back (p : Int32) : p + (1 : Int32) - (1 : Int32) = p := Int32.add_sub_cancel _ _
theorem own_back2 (p : Int32) : p + (2 : Int32) - (1 : Int32) = p + (1 : Int32) := by
  apply Int32.toInt_inj.mp
  have e1 : (1 : Int32).toInt = 1 := rfl
  have e2 : (2 : Int32).toInt = 2 := rfl
  have a1 := c_iadd p 1
  have a2 := c_iadd p 2
  have a3 := c_isub (p + 2) 1
  have r1 := rng32 (p + 1)
  have r2 := rng32 (p + 2)
  have r3 := rng32 (p + 2 - 1)
  omega

theorem d8_0 : decode prog_22_method_3_code 0 = .ok (.iload_n 2, 1) := by decide +kernel
theorem d8_1 : decode prog_22_method_3_code 1 = .ok (.istore 4, 2) := by decide +kernel
theorem d8_3 : decode prog_22_method_3_code 3 = .ok (.iload 4, 2) := by decide +kernel
theorem d8_5 : decode prog_22_method_3_code 5 = .ok (.iload_n 2, 1) := by decide +kernel
theorem d8_6 : decode prog_22_method_3_code 6 = .ok (.iload_n 3, 1) := by decide +kernel
theorem d8_7 : decode prog_22_method_3_code 7 = .ok (.iadd, 1) := by decide +kernel
theorem d8_8 : decode prog_22_method_3_code 8 = .ok (.if_icmp .ge 99, 3) := by decide +kernel
theorem d8_11 : decode prog_22_method_3_code 11 = .ok (.aload_n 1, 1) := by decide +kernel
theorem d8_12 : decode prog_22_method_3_code 12 = .ok (.iload 4, 2) := by decide +kernel
theorem d8_14 : decode prog_22_method_3_code 14 = .ok (.caload, 1) := by decide +kernel
theorem d8_15 : decode prog_22_method_3_code 15 = .ok (.istore 5, 2) := by decide +kernel
theorem d8_17 : decode prog_22_method_3_code 17 = .ok (.iload 5, 2) := by decide +kernel
theorem d8_19 : decode prog_22_method_3_code 19 = .ok (.bipush 10, 2) := by decide +kernel
theorem d8_21 : decode prog_22_method_3_code 21 = .ok (.if_icmp .eq 10, 3) := by decide +kernel
theorem d8_24 : decode prog_22_method_3_code 24 = .ok (.iload 5, 2) := by decide +kernel
theorem d8_26 : decode prog_22_method_3_code 26 = .ok (.bipush 13, 2) := by decide +kernel
theorem d8_28 : decode prog_22_method_3_code 28 = .ok (.if_icmp .ne 73, 3) := by decide +kernel
theorem d8_31 : decode prog_22_method_3_code 31 = .ok (.iload 4, 2) := by decide +kernel
theorem d8_33 : decode prog_22_method_3_code 33 = .ok (.iload_n 2, 1) := by decide +kernel
theorem d8_34 : decode prog_22_method_3_code 34 = .ok (.if_icmp .le 22, 3) := by decide +kernel
theorem d8_37 : decode prog_22_method_3_code 37 = .ok (.aload_n 1, 1) := by decide +kernel
theorem d8_38 : decode prog_22_method_3_code 38 = .ok (.iload 4, 2) := by decide +kernel
theorem d8_40 : decode prog_22_method_3_code 40 = .ok (.iconst 1, 1) := by decide +kernel
theorem d8_41 : decode prog_22_method_3_code 41 = .ok (.isub, 1) := by decide +kernel
theorem d8_42 : decode prog_22_method_3_code 42 = .ok (.caload, 1) := by decide +kernel
theorem d8_43 : decode prog_22_method_3_code 43 = .ok (.bipush 13, 2) := by decide +kernel
theorem d8_45 : decode prog_22_method_3_code 45 = .ok (.if_icmp .ne 7, 3) := by decide +kernel
theorem d8_48 : decode prog_22_method_3_code 48 = .ok (.iconst 1, 1) := by decide +kernel
theorem d8_49 : decode prog_22_method_3_code 49 = .ok (.goto 11, 3) := by decide +kernel
theorem d8_52 : decode prog_22_method_3_code 52 = .ok (.iconst 0, 1) := by decide +kernel
theorem d8_53 : decode prog_22_method_3_code 53 = .ok (.goto 7, 3) := by decide +kernel
theorem d8_56 : decode prog_22_method_3_code 56 = .ok (.aload_n 0, 1) := by decide +kernel
theorem d8_57 : decode prog_22_method_3_code 57 = .ok (.getfield 21, 3) := by decide +kernel
theorem d8_60 : decode prog_22_method_3_code 60 = .ok (.istore 6, 2) := by decide +kernel
theorem d8_62 : decode prog_22_method_3_code 62 = .ok (.iload 5, 2) := by decide +kernel
theorem d8_64 : decode prog_22_method_3_code 64 = .ok (.bipush 13, 2) := by decide +kernel
theorem d8_66 : decode prog_22_method_3_code 66 = .ok (.if_icmp .eq 8, 3) := by decide +kernel
theorem d8_69 : decode prog_22_method_3_code 69 = .ok (.iload 6, 2) := by decide +kernel
theorem d8_71 : decode prog_22_method_3_code 71 = .ok (.ifCond .ne 13, 3) := by decide +kernel
theorem d8_74 : decode prog_22_method_3_code 74 = .ok (.aload_n 0, 1) := by decide +kernel
theorem d8_75 : decode prog_22_method_3_code 75 = .ok (.dup, 1) := by decide +kernel
theorem d8_76 : decode prog_22_method_3_code 76 = .ok (.getfield 7, 3) := by decide +kernel
theorem d8_79 : decode prog_22_method_3_code 79 = .ok (.iconst 1, 1) := by decide +kernel
theorem d8_80 : decode prog_22_method_3_code 80 = .ok (.iadd, 1) := by decide +kernel
theorem d8_81 : decode prog_22_method_3_code 81 = .ok (.putfield 7, 3) := by decide +kernel
theorem d8_84 : decode prog_22_method_3_code 84 = .ok (.aload_n 0, 1) := by decide +kernel
theorem d8_85 : decode prog_22_method_3_code 85 = .ok (.aload_n 0, 1) := by decide +kernel
theorem d8_86 : decode prog_22_method_3_code 86 = .ok (.getfield 14, 3) := by decide +kernel
theorem d8_89 : decode prog_22_method_3_code 89 = .ok (.iload 4, 2) := by decide +kernel
theorem d8_91 : decode prog_22_method_3_code 91 = .ok (.i2l, 1) := by decide +kernel
theorem d8_92 : decode prog_22_method_3_code 92 = .ok (.ladd, 1) := by decide +kernel
theorem d8_93 : decode prog_22_method_3_code 93 = .ok (.iload_n 2, 1) := by decide +kernel
theorem d8_94 : decode prog_22_method_3_code 94 = .ok (.i2l, 1) := by decide +kernel
theorem d8_95 : decode prog_22_method_3_code 95 = .ok (.lsub, 1) := by decide +kernel
theorem d8_96 : decode prog_22_method_3_code 96 = .ok (.lconst 1, 1) := by decide +kernel
theorem d8_97 : decode prog_22_method_3_code 97 = .ok (.ladd, 1) := by decide +kernel
theorem d8_98 : decode prog_22_method_3_code 98 = .ok (.putfield 18, 3) := by decide +kernel
theorem d8_101 : decode prog_22_method_3_code 101 = .ok (.iinc 4 1, 3) := by decide +kernel
theorem d8_104 : decode prog_22_method_3_code 104 = .ok (.goto (-101), 3) := by decide +kernel
theorem d8_107 : decode prog_22_method_3_code 107 = .ok (.iload_n 3, 1) := by decide +kernel
theorem d8_108 : decode prog_22_method_3_code 108 = .ok (.ifCond .le 24, 3) := by decide +kernel
theorem d8_111 : decode prog_22_method_3_code 111 = .ok (.aload_n 0, 1) := by decide +kernel
theorem d8_112 : decode prog_22_method_3_code 112 = .ok (.aload_n 1, 1) := by decide +kernel
theorem d8_113 : decode prog_22_method_3_code 113 = .ok (.iload_n 2, 1) := by decide +kernel
theorem d8_114 : decode prog_22_method_3_code 114 = .ok (.iload_n 3, 1) := by decide +kernel
theorem d8_115 : decode prog_22_method_3_code 115 = .ok (.iadd, 1) := by decide +kernel
theorem d8_116 : decode prog_22_method_3_code 116 = .ok (.iconst 1, 1) := by decide +kernel
theorem d8_117 : decode prog_22_method_3_code 117 = .ok (.isub, 1) := by decide +kernel
theorem d8_118 : decode prog_22_method_3_code 118 = .ok (.caload, 1) := by decide +kernel
theorem d8_119 : decode prog_22_method_3_code 119 = .ok (.bipush 13, 2) := by decide +kernel
theorem d8_121 : decode prog_22_method_3_code 121 = .ok (.if_icmp .ne 7, 3) := by decide +kernel
theorem d8_124 : decode prog_22_method_3_code 124 = .ok (.iconst 1, 1) := by decide +kernel
theorem d8_125 : decode prog_22_method_3_code 125 = .ok (.goto 4, 3) := by decide +kernel
theorem d8_128 : decode prog_22_method_3_code 128 = .ok (.iconst 0, 1) := by decide +kernel
theorem d8_129 : decode prog_22_method_3_code 129 = .ok (.putfield 21, 3) := by decide +kernel
theorem d8_132 : decode prog_22_method_3_code 132 = .ok (.aload_n 0, 1) := by decide +kernel
theorem d8_133 : decode prog_22_method_3_code 133 = .ok (.dup, 1) := by decide +kernel
theorem d8_134 : decode prog_22_method_3_code 134 = .ok (.getfield 14, 3) := by decide +kernel
theorem d8_137 : decode prog_22_method_3_code 137 = .ok (.iload_n 3, 1) := by decide +kernel
theorem d8_138 : decode prog_22_method_3_code 138 = .ok (.i2l, 1) := by decide +kernel
theorem d8_139 : decode prog_22_method_3_code 139 = .ok (.ladd, 1) := by decide +kernel
theorem d8_140 : decode prog_22_method_3_code 140 = .ok (.putfield 14, 3) := by decide +kernel
theorem d8_143 : decode prog_22_method_3_code 143 = .ok (.return_, 1) := by decide +kernel
theorem ef_8 (m : MethodId) (a0 : Addr) (a1 : Addr) (p2 : Int32) (p3 : Int32) : entryFrame m #[(.ref a0), (.ref a1), (.int p2), (.int p3)] 7 = mkF m 0 #[.val (.ref a0), .val (.ref a1), .val (.int p2), .val (.int p3), .unset, .unset, .unset] [] := by first | (simp [entryFrame, mkF, argsToLocals, Value.category]; done) | rfl
def own_m8_129_s0 (v0 : List Int32) (v1 : Int32) (v2 : Int32) : Int32 := (if (v0.getD (((v1 + v2) - (1 : Int32))).toNatClampNeg (0 : Int32)) = (13 : Int32) then (1 : Int32) else (0 : Int32))
def own_m8_60_s0 (v0 : List Int32) (v1 : Int32) : Int32 := (if (v0.getD ((v1 - (1 : Int32))).toNatClampNeg (0 : Int32)) = (13 : Int32) then (1 : Int32) else (0 : Int32))
def own_p8_line (p2 : Int32) (p3 : Int32) (ws : List Int32) (ln : Int32) (cr : Int32) : Int32 := (if p3 = (0 : Int32) then ln else (if p3 = (1 : Int32) then (if ((ws.getD (p2).toNatClampNeg (0 : Int32))) = (10 : Int32) then (if cr = (0 : Int32) then (ln + (1 : Int32)) else ln) else (if ((ws.getD (p2).toNatClampNeg (0 : Int32))) = (13 : Int32) then (ln + (1 : Int32)) else ln)) else (if ((ws.getD (p2).toNatClampNeg (0 : Int32))) = (10 : Int32) then (if cr = (0 : Int32) then (if ((ws.getD (((p2 + (1 : Int32)))).toNatClampNeg (0 : Int32))) = (10 : Int32) then (if ((own_m8_60_s0 ws ((p2 + (1 : Int32))))) = (0 : Int32) then ((ln + (1 : Int32)) + (1 : Int32)) else (ln + (1 : Int32))) else (if ((ws.getD (((p2 + (1 : Int32)))).toNatClampNeg (0 : Int32))) = (13 : Int32) then ((ln + (1 : Int32)) + (1 : Int32)) else (ln + (1 : Int32)))) else (if ((ws.getD (((p2 + (1 : Int32)))).toNatClampNeg (0 : Int32))) = (10 : Int32) then (if ((own_m8_60_s0 ws ((p2 + (1 : Int32))))) = (0 : Int32) then (ln + (1 : Int32)) else ln) else (if ((ws.getD (((p2 + (1 : Int32)))).toNatClampNeg (0 : Int32))) = (13 : Int32) then (ln + (1 : Int32)) else ln))) else (if ((ws.getD (p2).toNatClampNeg (0 : Int32))) = (13 : Int32) then (if ((ws.getD (((p2 + (1 : Int32)))).toNatClampNeg (0 : Int32))) = (10 : Int32) then (if ((own_m8_60_s0 ws ((p2 + (1 : Int32))))) = (0 : Int32) then ((ln + (1 : Int32)) + (1 : Int32)) else (ln + (1 : Int32))) else (if ((ws.getD (((p2 + (1 : Int32)))).toNatClampNeg (0 : Int32))) = (13 : Int32) then ((ln + (1 : Int32)) + (1 : Int32)) else (ln + (1 : Int32)))) else (if ((ws.getD (((p2 + (1 : Int32)))).toNatClampNeg (0 : Int32))) = (10 : Int32) then (if ((own_m8_60_s0 ws ((p2 + (1 : Int32))))) = (0 : Int32) then (ln + (1 : Int32)) else ln) else (if ((ws.getD (((p2 + (1 : Int32)))).toNatClampNeg (0 : Int32))) = (13 : Int32) then (ln + (1 : Int32)) else ln))))))
def own_p8_passed (p3 : Int32) (ps : Int64) : Int64 := (ps + (p3).toInt64)
def own_p8_lineStart (p2 : Int32) (p3 : Int32) (ws : List Int32) (ps : Int64) (ls : Int64) : Int64 := (if p3 = (0 : Int32) then ls else (if p3 = (1 : Int32) then (if ((ws.getD (p2).toNatClampNeg (0 : Int32))) = (10 : Int32) then (((ps + (p2).toInt64) - (p2).toInt64) + (1 : Int64)) else (if ((ws.getD (p2).toNatClampNeg (0 : Int32))) = (13 : Int32) then (((ps + (p2).toInt64) - (p2).toInt64) + (1 : Int64)) else ls)) else (if ((ws.getD (p2).toNatClampNeg (0 : Int32))) = (10 : Int32) then (if ((ws.getD (((p2 + (1 : Int32)))).toNatClampNeg (0 : Int32))) = (10 : Int32) then (((ps + (((p2 + (1 : Int32)))).toInt64) - (p2).toInt64) + (1 : Int64)) else (if ((ws.getD (((p2 + (1 : Int32)))).toNatClampNeg (0 : Int32))) = (13 : Int32) then (((ps + (((p2 + (1 : Int32)))).toInt64) - (p2).toInt64) + (1 : Int64)) else (((ps + (p2).toInt64) - (p2).toInt64) + (1 : Int64)))) else (if ((ws.getD (p2).toNatClampNeg (0 : Int32))) = (13 : Int32) then (if ((ws.getD (((p2 + (1 : Int32)))).toNatClampNeg (0 : Int32))) = (10 : Int32) then (((ps + (((p2 + (1 : Int32)))).toInt64) - (p2).toInt64) + (1 : Int64)) else (if ((ws.getD (((p2 + (1 : Int32)))).toNatClampNeg (0 : Int32))) = (13 : Int32) then (((ps + (((p2 + (1 : Int32)))).toInt64) - (p2).toInt64) + (1 : Int64)) else (((ps + (p2).toInt64) - (p2).toInt64) + (1 : Int64)))) else (if ((ws.getD (((p2 + (1 : Int32)))).toNatClampNeg (0 : Int32))) = (10 : Int32) then (((ps + (((p2 + (1 : Int32)))).toInt64) - (p2).toInt64) + (1 : Int64)) else (if ((ws.getD (((p2 + (1 : Int32)))).toNatClampNeg (0 : Int32))) = (13 : Int32) then (((ps + (((p2 + (1 : Int32)))).toInt64) - (p2).toInt64) + (1 : Int64)) else ls))))))
def own_p8_afterCarriageReturn (p2 : Int32) (p3 : Int32) (ws : List Int32) (cr : Int32) : Int32 := (if p3 = (0 : Int32) then cr else (nar .boolean ((own_m8_129_s0 ws p2 p3))))
def Q8 (Z : State) (a0 : Addr) (a1 : Addr) (p2 : Int32) (p3 : Int32) (k : ClassId) (z : Int32) (ws : List Int32) (ln : Int32) (ps : Int64) (ls : Int64) (cr : Int32) (h0 : Heap) (n0 : Nat) (v : Option Value) (h : Heap) (L : List Loc) : Prop := v = none ∧ Fr n0 L ∧ Keep h0 h [a0] ∧ Exa Z h a0 "com/example/trawl/trawl/dtd/TextPosition" ∧ Fld Z h a0 "com/example/trawl/trawl/dtd/TextPosition" "line" "I" (.int (own_p8_line p2 p3 ws ln cr)) ∧ Fld Z h a0 "com/example/trawl/trawl/dtd/TextPosition" "passed" "J" (.long (own_p8_passed p3 ps)) ∧ Fld Z h a0 "com/example/trawl/trawl/dtd/TextPosition" "lineStart" "J" (.long (own_p8_lineStart p2 p3 ws ps ls)) ∧ Fld Z h a0 "com/example/trawl/trawl/dtd/TextPosition" "afterCarriageReturn" "Z" (.int (own_p8_afterCarriageReturn p2 p3 ws cr))
set_option maxRecDepth 65536 in
set_option maxHeartbeats 40000000 in
theorem rm8 (l : Launch) (Z : State) (aw : Array Value) (hw : ∀ d ∈ tables_1, d.before aw Z = true) (wq : List Jvm.Cond) (a0 : Addr) (a1 : Addr) (p2 : Int32) (p3 : Int32) (k : ClassId) (z : Int32) (ws : List Int32) (ln : Int32) (ps : Int64) (ls : Int64) (cr : Int32) (h0 : Heap) (n0 : Nat) (Z0 : n0 ≤ h0.size) (E_a0 : Exa Z h0 a0 "com/example/trawl/trawl/dtd/TextPosition") (V_a1 : own_AI Z h0 a1 k .char z ws) (ne_a1_a0 : a1 ≠ a0) (F_a0_line : Fld Z h0 a0 "com/example/trawl/trawl/dtd/TextPosition" "line" "I" (.int ln)) (F_a0_passed : Fld Z h0 a0 "com/example/trawl/trawl/dtd/TextPosition" "passed" "J" (.long ps)) (F_a0_lineStart : Fld Z h0 a0 "com/example/trawl/trawl/dtd/TextPosition" "lineStart" "J" (.long ls)) (F_a0_afterCarriageReturn : Fld Z h0 a0 "com/example/trawl/trawl/dtd/TextPosition" "afterCarriageReturn" "Z" (.int cr)) (g_a0 : n0 ≤ a0) (hcn : p3 = (0 : Int32) ∨ p3 = (1 : Int32) ∨ p3 = (2 : Int32)) (hrg : ¬ p2 < (0 : Int32) ∧ p2 < (4 : Int32)) (hi0 : (0 : Int32) < p3 → ¬ p2 < 0 ∧ p2 < z) (hi1 : (1 : Int32) < p3 → ¬ (p2 + (1 : Int32)) < 0 ∧ (p2 + (1 : Int32)) < z) :
    MetFree l (⟨"com/example/trawl/trawl/dtd/TextPosition", "pass", "([CII)V"⟩ : MethodName) (head1 (Jvm.Cond.code (⟨"com/example/trawl/trawl/dtd/TextPosition", "pass", "([CII)V"⟩ : MethodName) prog_22_method_3_code 7 none :: wq) ({ frames := 0, cells := 0, slots := 0, locals := 0 } : Room)) (fun a U => a = #[(.ref a0), (.ref a1), (.int p2), (.int p3)] ∧ Z.Warmed39 U.vm ∧ U.heap = h0) (fun _ _ _ _ _ => True) (fun _ U o U' => ∃ v L, o = .returned v ∧ Q8 Z a0 a1 p2 p3 k z ws ln ps ls cr h0 n0 v U'.heap L ∧ FrameEnd U o U' L ({ frames := 0, cells := 0, slots := 0, locals := 0 } : Room).cells ({ frames := 0, cells := 0, slots := 0, locals := 0 } : Room).slots) := by
  refine MetFree.of_bodySF (plainFor_of_name pn_1) hisR ?_
  intro p e s m args below meth c s₁ Bd hml0 hP hK
  obtain ⟨rfl, hZ, hh⟩ := hP
  have hx := Bd.exec
  have hby := Bd.bytes
  have hml : c.maxLocals = 7 := hml0
  have hown : s.vm.findClass "com/example/trawl/trawl/dtd/TextPosition" = some m.cls := findClass_of_methodNamed Bd.named
  have hnm := (name_of_methodNamed Bd.named Bd.method).1
  have X0 : Stand p l e ({ frames := 0, cells := 0, slots := 0, locals := 0 } : Room) s m #[(.ref a0), (.ref a1), (.int p2), (.int p3)] below meth c s₁ [] 0 0 := Stand.of_body Bd
  have e0 : s₁.heap = h0 := by rw [← hh, Bd.state]; rfl
  have N0 := Fr.nil n0
  have pre0 : own_Pre p e below (s₁.setTop (entryFrame m #[(.ref a0), (.ref a1), (.int p2), (.int p3)] 7)) (s₁.setTop (mkF m 0 #[.val (.ref a0), .val (.ref a1), .val (.int p2), .val (.int p3), .unset, .unset, .unset] [])) := fun t k => castTop (ef_8 m a0 a1 p2 p3) k
  by_cases hk0 : p3 = (0 : Int32)
  · have hc8 : ¬ (p2 < (p2 + p3)) := by exact own_l01 hk0 hrg
    have hc108 : ¬ ((0 : Int32) < p3) := by rw [hk0]; decide
    obtain ⟨T1, X1, e1, st1⟩ := getF X0 hx hZ hown (host := "") (Or.inl (hw _ (List.mem_of_getElem? (i := 35) rfl))) Via.refl e0 F_a0_passed (g := (mkF m 134 #[.val (.ref a0), .val (.ref a1), .val (.int p2), .val (.int p3), .val (.int p2), .unset, .unset] [(.ref a0), (.ref a0)])) rfl rfl (hb hby d8_134)
    obtain ⟨T2, h2, X2, e2, W2, st2⟩ := putF X1 hx hZ hown (host := "") (Or.inl (hw _ (List.mem_of_getElem? (i := 35) rfl))) Via.refl e1 F_a0_passed E_a0 (Or.inl (hw _ (List.mem_of_getElem? (i := 36) rfl))) (hw _ (List.mem_of_getElem? (i := 12) rfl)) (ty := .long) (by decide) rfl rfl (g := (mkF m 140 #[.val (.ref a0), .val (.ref a1), .val (.int p2), .val (.int p3), .val (.int p2), .unset, .unset] [(.long (ps + (p3).toInt64)), (.ref a0)])) rfl rfl (hb hby d8_140)
    have Fw2 := F_a0_passed.same W2
    have N2 := Fr.snoc X2 N0 g_a0
    have kp3 : Keep h0 h2 [a0] := (Keep.refl h0 [a0]).wr W2 (Or.inl (List.mem_of_getElem? (i := 0) rfl))
    obtain ⟨fs, hr, hrun, hended, hW, hsame⟩ := X2.leave (v := none) (fun _ => rfl)
    refine ⟨_, _, pre0 _ ?_, hrun, hended, _, _, rfl, ?_, ⟨_, rfl⟩, hW, hsame.mono (by decide) (by decide)⟩
    · show Steps p.tables e below (s₁.setTop (mkF m 0 #[.val (.ref a0), .val (.ref a1), .val (.int p2), .val (.int p3), .unset, .unset, .unset] [])) _
      refine XS.iloadN X0.here hx rfl (hb hby d8_0) rfl ?_
      refine XS.istore X0.here hx rfl (hb hby d8_1) rfl (l' := #[.val (.ref a0), .val (.ref a1), .val (.int p2), .val (.int p3), .val (.int p2), .unset, .unset]) rfl ?_
      refine XS.iload X0.here hx rfl (hb hby d8_3) rfl ?_
      refine XS.iloadN X0.here hx rfl (hb hby d8_5) rfl ?_
      refine XS.iloadN X0.here hx rfl (hb hby d8_6) rfl ?_
      show Steps p.tables e below (s₁.setTop (mkF m 7 #[.val (.ref a0), .val (.ref a1), .val (.int p2), .val (.int p3), .val (.int p2), .unset, .unset] [(.int p3), (.int p2), (.int p2)])) _
      refine XS.iadd X0.here hx rfl (hb hby d8_7) rfl ?_
      refine XS.icmpYes X0.here hx rfl (pc0 := 8) (pc' := 107) rfl (hb hby d8_8) rfl (flt hc8).2.1 (by decide) (by decide) ?_
      refine XS.iloadN X0.here hx rfl (hb hby d8_107) rfl ?_
      refine XS.ifYes X0.here hx rfl (pc0 := 108) (pc' := 132) rfl (hb hby d8_108) rfl ((if0 _ _).trans (flt hc108).2.2.2) (by decide) (by decide) ?_
      refine XS.aloadN X0.here hx rfl (hb hby d8_132) rfl rfl ?_
      show Steps p.tables e below (s₁.setTop (mkF m 133 #[.val (.ref a0), .val (.ref a1), .val (.int p2), .val (.int p3), .val (.int p2), .unset, .unset] [(.ref a0)])) _
      refine XS.dup X0.here hx rfl (hb hby d8_133) rfl rfl ?_
      refine st1 _ ?_
      refine XS.iloadN X1.here hx rfl (hb hby d8_137) rfl ?_
      refine XS.i2l X1.here hx rfl (hb hby d8_138) rfl ?_
      refine XS.ladd X1.here hx rfl (hb hby d8_139) rfl ?_
      show Steps p.tables e below (T1.setTop (mkF m 140 #[.val (.ref a0), .val (.ref a1), .val (.int p2), .val (.int p3), .val (.int p2), .unset, .unset] [(.long (ps + (p3).toInt64)), (.ref a0)])) _
      refine st2 _ ?_
      show Steps p.tables e below (T2.setTop (mkF m 143 #[.val (.ref a0), .val (.ref a1), .val (.int p2), .val (.int p3), .val (.int p2), .unset, .unset] [])) _
      exact X2.returnOut hx Bd.returns (hb hby d8_143) hr
    · show Q8 Z a0 a1 p2 p3 k z ws ln ps ls cr h0 n0 _ T2.heap _
      rw [e2]
      unfold Q8
      have f4 := (E_a0.wr W2)
      have f5 := (F_a0_line.other W2 (Or.inr (slot_ne (Or.inl (hw _ (List.mem_of_getElem? (i := 21) rfl))) (Or.inl (hw _ (List.mem_of_getElem? (i := 36) rfl))) (by decide) (t := .int) (t' := .long) (by decide) (by decide))))
      have f6 := (F_a0_lineStart.other W2 (Or.inr (slot_ne (Or.inl (hw _ (List.mem_of_getElem? (i := 38) rfl))) (Or.inl (hw _ (List.mem_of_getElem? (i := 36) rfl))) (by decide) (t := .long) (t' := .long) (by decide) (by decide))))
      have f7 := (F_a0_afterCarriageReturn.other W2 (Or.inr (slot_ne (Or.inl (hw _ (List.mem_of_getElem? (i := 48) rfl))) (Or.inl (hw _ (List.mem_of_getElem? (i := 36) rfl))) (by decide) (t := .boolean) (t' := .long) (by decide) (by decide))))
      refine ⟨rfl, N2, kp3, f4, ?_, ?_, ?_, ?_⟩
      · rw [show (own_p8_line p2 p3 ws ln cr) = ln from (by simp only [own_p8_line, if_pos hk0])]; exact f5
      · rw [show (own_p8_passed p3 ps) = (ps + (p3).toInt64) from (by simp only [own_p8_passed, if_pos hk0])]; exact Fw2
      · rw [show (own_p8_lineStart p2 p3 ws ps ls) = ls from (by simp only [own_p8_lineStart, if_pos hk0])]; exact f6
      · rw [show (own_p8_afterCarriageReturn p2 p3 ws cr) = cr from (by simp only [own_p8_afterCarriageReturn, if_pos hk0])]; exact f7
  · by_cases hk1 : p3 = (1 : Int32)
    · have hc8 : (p2 < (p2 + p3)) := by exact own_l11 hk1 hrg
      obtain ⟨cl8, Ar8, hin8, hat8⟩ := own_AI.at V_a1 (j := p2) (hi0 (own_pos1 hk1))
      obtain ⟨x5_17, hx5_17, pre9⟩ : ∃ z : Int32, z = (ws.getD (p2).toNatClampNeg (0 : Int32)) ∧ own_Pre p e below (s₁.setTop (entryFrame m #[(.ref a0), (.ref a1), (.int p2), (.int p3)] 7)) (s₁.setTop (mkF m 17 #[.val (.ref a0), .val (.ref a1), .val (.int p2), .val (.int p3), .val (.int p2), .val (.int z), .unset] [])) := ⟨_, rfl, fun t k => pre0 t (by
          show Steps p.tables e below (s₁.setTop (mkF m 0 #[.val (.ref a0), .val (.ref a1), .val (.int p2), .val (.int p3), .unset, .unset, .unset] [])) _
          refine XS.iloadN X0.here hx rfl (hb hby d8_0) rfl ?_
          refine XS.istore X0.here hx rfl (hb hby d8_1) rfl (l' := #[.val (.ref a0), .val (.ref a1), .val (.int p2), .val (.int p3), .val (.int p2), .unset, .unset]) rfl ?_
          refine XS.iload X0.here hx rfl (hb hby d8_3) rfl ?_
          refine XS.iloadN X0.here hx rfl (hb hby d8_5) rfl ?_
          refine XS.iloadN X0.here hx rfl (hb hby d8_6) rfl ?_
          show Steps p.tables e below (s₁.setTop (mkF m 7 #[.val (.ref a0), .val (.ref a1), .val (.int p2), .val (.int p3), .val (.int p2), .unset, .unset] [(.int p3), (.int p2), (.int p2)])) _
          refine XS.iadd X0.here hx rfl (hb hby d8_7) rfl ?_
          refine XS.icmpNo X0.here hx rfl (hb hby d8_8) rfl (tlt hc8).2.1 ?_
          refine XS.aloadN X0.here hx rfl (hb hby d8_11) rfl rfl ?_
          refine XS.iload X0.here hx rfl (hb hby d8_12) rfl ?_
          refine X0.caload hx (j := p2) (v := (.int (ws.getD (p2).toNatClampNeg (0 : Int32)))) (by rw [e0]; exact Ar8.1) (State.isArrayOf_alike hZ.alike Ar8.2.1) Ar8.2.2 hin8 hat8 (g := (mkF m 14 #[.val (.ref a0), .val (.ref a1), .val (.int p2), .val (.int p3), .val (.int p2), .unset, .unset] [(.int p2), (.ref a1)])) rfl rfl (hb hby d8_14) _ ?_
          show Steps p.tables e below (s₁.setTop (mkF m 15 #[.val (.ref a0), .val (.ref a1), .val (.int p2), .val (.int p3), .val (.int p2), .unset, .unset] [(.int (ws.getD (p2).toNatClampNeg (0 : Int32)))])) _
          refine XS.istore X0.here hx rfl (hb hby d8_15) rfl (l' := #[.val (.ref a0), .val (.ref a1), .val (.int p2), .val (.int p3), .val (.int p2), .val (.int (ws.getD (p2).toNatClampNeg (0 : Int32))), .unset]) rfl ?_
          exact k)⟩
      have pre10 : own_Pre p e below (s₁.setTop (entryFrame m #[(.ref a0), (.ref a1), (.int p2), (.int p3)] 7)) (s₁.setTop (mkF m 21 #[.val (.ref a0), .val (.ref a1), .val (.int p2), .val (.int p3), .val (.int p2), .val (.int x5_17), .unset] [(.int (10 : Int32)), (.int x5_17)])) := fun t k => pre9 t (by
          show Steps p.tables e below (s₁.setTop (mkF m 17 #[.val (.ref a0), .val (.ref a1), .val (.int p2), .val (.int p3), .val (.int p2), .val (.int x5_17), .unset] [])) _
          refine XS.iload X0.here hx rfl (hb hby d8_17) rfl ?_
          refine XS.bipush X0.here hx rfl (hb hby d8_19) ?_
          exact k)
      by_cases hc21 : x5_17 = (10 : Int32)
      · have hc34 : ¬ (p2 < p2) := own_irr _
        obtain ⟨T11, X11, e11, st11⟩ := getF X0 hx hZ hown (host := "") (Or.inl (hw _ (List.mem_of_getElem? (i := 47) rfl))) Via.refl e0 F_a0_afterCarriageReturn (g := (mkF m 57 #[.val (.ref a0), .val (.ref a1), .val (.int p2), .val (.int p3), .val (.int p2), .val (.int x5_17), .unset] [(.ref a0)])) rfl rfl (hb hby d8_57)
        have hc66 : ¬ (x5_17 = (13 : Int32)) := by rw [hc21]; decide
        have pre12 : own_Pre p e below (s₁.setTop (entryFrame m #[(.ref a0), (.ref a1), (.int p2), (.int p3)] 7)) (T11.setTop (mkF m 71 #[.val (.ref a0), .val (.ref a1), .val (.int p2), .val (.int p3), .val (.int p2), .val (.int x5_17), .val (.int cr)] [(.int cr)])) := fun t k => pre10 t (by
            show Steps p.tables e below (s₁.setTop (mkF m 21 #[.val (.ref a0), .val (.ref a1), .val (.int p2), .val (.int p3), .val (.int p2), .val (.int x5_17), .unset] [(.int (10 : Int32)), (.int x5_17)])) _
            refine XS.icmpYes X0.here hx rfl (pc0 := 21) (pc' := 31) rfl (hb hby d8_21) rfl (teq hc21).1 (by decide) (by decide) ?_
            refine XS.iload X0.here hx rfl (hb hby d8_31) rfl ?_
            refine XS.iloadN X0.here hx rfl (hb hby d8_33) rfl ?_
            refine XS.icmpYes X0.here hx rfl (pc0 := 34) (pc' := 56) rfl (hb hby d8_34) rfl (flt hc34).2.2.2 (by decide) (by decide) ?_
            refine XS.aloadN X0.here hx rfl (hb hby d8_56) rfl rfl ?_
            show Steps p.tables e below (s₁.setTop (mkF m 57 #[.val (.ref a0), .val (.ref a1), .val (.int p2), .val (.int p3), .val (.int p2), .val (.int x5_17), .unset] [(.ref a0)])) _
            refine st11 _ ?_
            refine XS.istore X11.here hx rfl (hb hby d8_60) rfl (l' := #[.val (.ref a0), .val (.ref a1), .val (.int p2), .val (.int p3), .val (.int p2), .val (.int x5_17), .val (.int cr)]) rfl ?_
            refine XS.iload X11.here hx rfl (hb hby d8_62) rfl ?_
            refine XS.bipush X11.here hx rfl (hb hby d8_64) ?_
            refine XS.icmpNo X11.here hx rfl (hb hby d8_66) rfl (feq hc66).1 ?_
            show Steps p.tables e below (T11.setTop (mkF m 69 #[.val (.ref a0), .val (.ref a1), .val (.int p2), .val (.int p3), .val (.int p2), .val (.int x5_17), .val (.int cr)] [])) _
            refine XS.iload X11.here hx rfl (hb hby d8_69) rfl ?_
            exact k)
        by_cases hc71 : cr = (0 : Int32)
        · obtain ⟨T13, X13, e13, st13⟩ := getF X11 hx hZ hown (host := "") (Or.inl (hw _ (List.mem_of_getElem? (i := 20) rfl))) Via.refl e11 F_a0_line (g := (mkF m 76 #[.val (.ref a0), .val (.ref a1), .val (.int p2), .val (.int p3), .val (.int p2), .val (.int x5_17), .val (.int cr)] [(.ref a0), (.ref a0)])) rfl rfl (hb hby d8_76)
          obtain ⟨T14, h14, X14, e14, W14, st14⟩ := putF X13 hx hZ hown (host := "") (Or.inl (hw _ (List.mem_of_getElem? (i := 20) rfl))) Via.refl e13 F_a0_line E_a0 (Or.inl (hw _ (List.mem_of_getElem? (i := 21) rfl))) (hw _ (List.mem_of_getElem? (i := 12) rfl)) (ty := .int) (by decide) rfl rfl (g := (mkF m 81 #[.val (.ref a0), .val (.ref a1), .val (.int p2), .val (.int p3), .val (.int p2), .val (.int x5_17), .val (.int cr)] [(.int (ln + (1 : Int32))), (.ref a0)])) rfl rfl (hb hby d8_81)
          have Fw14 := F_a0_line.same W14
          have N14 := Fr.snoc X14 N0 g_a0
          have kp15 : Keep h0 h14 [a0] := (Keep.refl h0 [a0]).wr W14 (Or.inl (List.mem_of_getElem? (i := 0) rfl))
          have f16 := (F_a0_passed.other W14 (Or.inr (slot_ne (Or.inl (hw _ (List.mem_of_getElem? (i := 36) rfl))) (Or.inl (hw _ (List.mem_of_getElem? (i := 21) rfl))) (by decide) (t := .long) (t' := .int) (by decide) (by decide))))
          obtain ⟨T17, X17, e17, st17⟩ := getF X14 hx hZ hown (host := "") (Or.inl (hw _ (List.mem_of_getElem? (i := 35) rfl))) Via.refl e14 f16 (g := (mkF m 86 #[.val (.ref a0), .val (.ref a1), .val (.int p2), .val (.int p3), .val (.int p2), .val (.int x5_17), .val (.int cr)] [(.ref a0), (.ref a0)])) rfl rfl (hb hby d8_86)
          have f18 := (E_a0.wr W14)
          have f19 := (F_a0_lineStart.other W14 (Or.inr (slot_ne (Or.inl (hw _ (List.mem_of_getElem? (i := 38) rfl))) (Or.inl (hw _ (List.mem_of_getElem? (i := 21) rfl))) (by decide) (t := .long) (t' := .int) (by decide) (by decide))))
          obtain ⟨T20, h20, X20, e20, W20, st20⟩ := putF X17 hx hZ hown (host := "") (Or.inl (hw _ (List.mem_of_getElem? (i := 37) rfl))) Via.refl e17 f19 f18 (Or.inl (hw _ (List.mem_of_getElem? (i := 38) rfl))) (hw _ (List.mem_of_getElem? (i := 12) rfl)) (ty := .long) (by decide) rfl rfl (g := (mkF m 98 #[.val (.ref a0), .val (.ref a1), .val (.int p2), .val (.int p3), .val (.int p2), .val (.int x5_17), .val (.int cr)] [(.long (((ps + (p2).toInt64) - (p2).toInt64) + (1 : Int64))), (.ref a0)])) rfl rfl (hb hby d8_98)
          have Fw20 := f19.same W20
          have N20 := Fr.snoc X20 N14 g_a0
          have kp21 : Keep h0 h20 [a0] := kp15.wr W20 (Or.inl (List.mem_of_getElem? (i := 0) rfl))
          obtain ⟨x4_104, hx4_104, pre22⟩ : ∃ z : Int32, z = (p2 + (1 : Int32)) ∧ own_Pre p e below (s₁.setTop (entryFrame m #[(.ref a0), (.ref a1), (.int p2), (.int p3)] 7)) (T20.setTop (mkF m 104 #[.val (.ref a0), .val (.ref a1), .val (.int p2), .val (.int p3), .val (.int z), .val (.int x5_17), .val (.int cr)] [])) := ⟨_, rfl, fun t k => pre12 t (by
              show Steps p.tables e below (T11.setTop (mkF m 71 #[.val (.ref a0), .val (.ref a1), .val (.int p2), .val (.int p3), .val (.int p2), .val (.int x5_17), .val (.int cr)] [(.int cr)])) _
              refine XS.ifNo X11.here hx rfl (hb hby d8_71) rfl ((if0 _ _).trans (teq hc71).2) ?_
              refine XS.aloadN X11.here hx rfl (hb hby d8_74) rfl rfl ?_
              refine XS.dup X11.here hx rfl (hb hby d8_75) rfl rfl ?_
              refine st13 _ ?_
              refine XS.iconst X13.here hx rfl (hb hby d8_79) ?_
              show Steps p.tables e below (T13.setTop (mkF m 80 #[.val (.ref a0), .val (.ref a1), .val (.int p2), .val (.int p3), .val (.int p2), .val (.int x5_17), .val (.int cr)] [(.int (1 : Int32)), (.int ln), (.ref a0)])) _
              refine XS.iadd X13.here hx rfl (hb hby d8_80) rfl ?_
              refine st14 _ ?_
              refine XS.aloadN X14.here hx rfl (hb hby d8_84) rfl rfl ?_
              refine XS.aloadN X14.here hx rfl (hb hby d8_85) rfl rfl ?_
              refine st17 _ ?_
              show Steps p.tables e below (T17.setTop (mkF m 89 #[.val (.ref a0), .val (.ref a1), .val (.int p2), .val (.int p3), .val (.int p2), .val (.int x5_17), .val (.int cr)] [(.long ps), (.ref a0)])) _
              refine XS.iload X17.here hx rfl (hb hby d8_89) rfl ?_
              refine XS.i2l X17.here hx rfl (hb hby d8_91) rfl ?_
              refine XS.ladd X17.here hx rfl (hb hby d8_92) rfl ?_
              refine XS.iloadN X17.here hx rfl (hb hby d8_93) rfl ?_
              refine XS.i2l X17.here hx rfl (hb hby d8_94) rfl ?_
              show Steps p.tables e below (T17.setTop (mkF m 95 #[.val (.ref a0), .val (.ref a1), .val (.int p2), .val (.int p3), .val (.int p2), .val (.int x5_17), .val (.int cr)] [(.long (p2).toInt64), (.long (ps + (p2).toInt64)), (.ref a0)])) _
              refine XS.lsub X17.here hx rfl (hb hby d8_95) rfl ?_
              refine XS.lconst X17.here hx rfl (hb hby d8_96) ?_
              refine XS.ladd X17.here hx rfl (hb hby d8_97) rfl ?_
              refine st20 _ ?_
              refine XS.iinc X20.here hx rfl (hb hby d8_101) rfl (l' := #[.val (.ref a0), .val (.ref a1), .val (.int p2), .val (.int p3), .val (.int (p2 + (1 : Int32))), .val (.int x5_17), .val (.int cr)]) rfl ?_
              exact k)⟩
          have hc8_2 : ¬ (x4_104 < (p2 + p3)) := by rw [hx4_104]; exact own_l12 hk1 hrg
          have hc108 : ((0 : Int32) < p3) := by rw [hk1]; decide
          have f23 := ((V_a1.other W14 ne_a1_a0).other W20 ne_a1_a0)
          obtain ⟨cl24, Ar24, hin24, hat24⟩ := own_AI.at f23 (j := ((p2 + p3) - (1 : Int32))) (by rw [hk1, own_back]; exact hi0 (own_pos1 hk1))
          have pre27 : own_Pre p e below (s₁.setTop (entryFrame m #[(.ref a0), (.ref a1), (.int p2), (.int p3)] 7)) (T20.setTop (mkF m 121 #[.val (.ref a0), .val (.ref a1), .val (.int p2), .val (.int p3), .val (.int x4_104), .val (.int x5_17), .val (.int cr)] [(.int (13 : Int32)), (.int (ws.getD (((p2 + p3) - (1 : Int32))).toNatClampNeg (0 : Int32))), (.ref a0)])) := fun t k => pre22 t (by
              show Steps p.tables e below (T20.setTop (mkF m 104 #[.val (.ref a0), .val (.ref a1), .val (.int p2), .val (.int p3), .val (.int x4_104), .val (.int x5_17), .val (.int cr)] [])) _
              refine XS.goto X20.here hx rfl (pc0 := 104) (pc' := 3) rfl (hb hby d8_104) (by decide) (by decide) ?_
              refine XS.iload X20.here hx rfl (hb hby d8_3) rfl ?_
              refine XS.iloadN X20.here hx rfl (hb hby d8_5) rfl ?_
              refine XS.iloadN X20.here hx rfl (hb hby d8_6) rfl ?_
              refine XS.iadd X20.here hx rfl (hb hby d8_7) rfl ?_
              show Steps p.tables e below (T20.setTop (mkF m 8 #[.val (.ref a0), .val (.ref a1), .val (.int p2), .val (.int p3), .val (.int x4_104), .val (.int x5_17), .val (.int cr)] [(.int (p2 + p3)), (.int x4_104)])) _
              refine XS.icmpYes X20.here hx rfl (pc0 := 8) (pc' := 107) rfl (hb hby d8_8) rfl (flt hc8_2).2.1 (by decide) (by decide) ?_
              refine XS.iloadN X20.here hx rfl (hb hby d8_107) rfl ?_
              refine XS.ifNo X20.here hx rfl (hb hby d8_108) rfl ((if0 _ _).trans (tlt hc108).2.2.2) ?_
              refine XS.aloadN X20.here hx rfl (hb hby d8_111) rfl rfl ?_
              refine XS.aloadN X20.here hx rfl (hb hby d8_112) rfl rfl ?_
              show Steps p.tables e below (T20.setTop (mkF m 113 #[.val (.ref a0), .val (.ref a1), .val (.int p2), .val (.int p3), .val (.int x4_104), .val (.int x5_17), .val (.int cr)] [(.ref a1), (.ref a0)])) _
              refine XS.iloadN X20.here hx rfl (hb hby d8_113) rfl ?_
              refine XS.iloadN X20.here hx rfl (hb hby d8_114) rfl ?_
              refine XS.iadd X20.here hx rfl (hb hby d8_115) rfl ?_
              refine XS.iconst X20.here hx rfl (hb hby d8_116) ?_
              refine XS.isub X20.here hx rfl (hb hby d8_117) rfl ?_
              show Steps p.tables e below (T20.setTop (mkF m 118 #[.val (.ref a0), .val (.ref a1), .val (.int p2), .val (.int p3), .val (.int x4_104), .val (.int x5_17), .val (.int cr)] [(.int ((p2 + p3) - (1 : Int32))), (.ref a1), (.ref a0)])) _
              refine X20.caload hx (j := ((p2 + p3) - (1 : Int32))) (v := (.int (ws.getD (((p2 + p3) - (1 : Int32))).toNatClampNeg (0 : Int32)))) (by rw [e20]; exact Ar24.1) (State.isArrayOf_alike hZ.alike Ar24.2.1) Ar24.2.2 hin24 hat24 (g := (mkF m 118 #[.val (.ref a0), .val (.ref a1), .val (.int p2), .val (.int p3), .val (.int x4_104), .val (.int x5_17), .val (.int cr)] [(.int ((p2 + p3) - (1 : Int32))), (.ref a1), (.ref a0)])) rfl rfl (hb hby d8_118) _ ?_
              refine XS.bipush X20.here hx rfl (hb hby d8_119) ?_
              exact k)
          obtain ⟨m129_s0, hm129_s0, pre26⟩ : ∃ (m129_s0 : Int32), m129_s0 = (own_m8_129_s0 ws p2 p3) ∧ own_Pre p e below (s₁.setTop (entryFrame m #[(.ref a0), (.ref a1), (.int p2), (.int p3)] 7)) (T20.setTop (mkF m 129 #[.val (.ref a0), .val (.ref a1), .val (.int p2), .val (.int p3), .val (.int x4_104), .val (.int x5_17), .val (.int cr)] [(.int m129_s0), (.ref a0)])) := by
            by_cases hc121 : (ws.getD (((p2 + p3) - (1 : Int32))).toNatClampNeg (0 : Int32)) = (13 : Int32)
            · have pre28 : own_Pre p e below (s₁.setTop (entryFrame m #[(.ref a0), (.ref a1), (.int p2), (.int p3)] 7)) (T20.setTop (mkF m 129 #[.val (.ref a0), .val (.ref a1), .val (.int p2), .val (.int p3), .val (.int x4_104), .val (.int x5_17), .val (.int cr)] [(.int (1 : Int32)), (.ref a0)])) := fun t k => pre27 t (by
                  show Steps p.tables e below (T20.setTop (mkF m 121 #[.val (.ref a0), .val (.ref a1), .val (.int p2), .val (.int p3), .val (.int x4_104), .val (.int x5_17), .val (.int cr)] [(.int (13 : Int32)), (.int (ws.getD (((p2 + p3) - (1 : Int32))).toNatClampNeg (0 : Int32))), (.ref a0)])) _
                  refine XS.icmpNo X20.here hx rfl (hb hby d8_121) rfl (teq hc121).2 ?_
                  refine XS.iconst X20.here hx rfl (hb hby d8_124) ?_
                  refine XS.goto X20.here hx rfl (pc0 := 125) (pc' := 129) rfl (hb hby d8_125) (by decide) (by decide) ?_
                  exact k)
              refine ⟨_, ?_, pre28⟩
              all_goals (first | (simp only [own_m8_129_s0, if_pos hc121]; done) | (simp [own_m8_129_s0, if_pos hc121]; done))
            · have pre29 : own_Pre p e below (s₁.setTop (entryFrame m #[(.ref a0), (.ref a1), (.int p2), (.int p3)] 7)) (T20.setTop (mkF m 129 #[.val (.ref a0), .val (.ref a1), .val (.int p2), .val (.int p3), .val (.int x4_104), .val (.int x5_17), .val (.int cr)] [(.int (0 : Int32)), (.ref a0)])) := fun t k => pre27 t (by
                  show Steps p.tables e below (T20.setTop (mkF m 121 #[.val (.ref a0), .val (.ref a1), .val (.int p2), .val (.int p3), .val (.int x4_104), .val (.int x5_17), .val (.int cr)] [(.int (13 : Int32)), (.int (ws.getD (((p2 + p3) - (1 : Int32))).toNatClampNeg (0 : Int32))), (.ref a0)])) _
                  refine XS.icmpYes X20.here hx rfl (pc0 := 121) (pc' := 128) rfl (hb hby d8_121) rfl (feq hc121).2 (by decide) (by decide) ?_
                  refine XS.iconst X20.here hx rfl (hb hby d8_128) ?_
                  exact k)
              refine ⟨_, ?_, pre29⟩
              all_goals (first | (simp only [own_m8_129_s0, if_neg hc121]; done) | (simp [own_m8_129_s0, if_neg hc121]; done))
          have f30 := (f18.wr W20)
          have f31 := ((F_a0_afterCarriageReturn.other W14 (Or.inr (slot_ne (Or.inl (hw _ (List.mem_of_getElem? (i := 48) rfl))) (Or.inl (hw _ (List.mem_of_getElem? (i := 21) rfl))) (by decide) (t := .boolean) (t' := .int) (by decide) (by decide)))).other W20 (Or.inr (slot_ne (Or.inl (hw _ (List.mem_of_getElem? (i := 48) rfl))) (Or.inl (hw _ (List.mem_of_getElem? (i := 38) rfl))) (by decide) (t := .boolean) (t' := .long) (by decide) (by decide))))
          obtain ⟨T32, h32, X32, e32, W32, st32⟩ := putFN X20 hx hZ hown (hw _ (List.mem_of_getElem? (i := 47) rfl)) Via.refl e20 f31 f30 (Or.inl (hw _ (List.mem_of_getElem? (i := 48) rfl))) (hw _ (List.mem_of_getElem? (i := 12) rfl)) (ty := .boolean) (v' := (.int (nar .boolean m129_s0))) (by decide) rfl (fits_nar_bool _) (g := (mkF m 129 #[.val (.ref a0), .val (.ref a1), .val (.int p2), .val (.int p3), .val (.int x4_104), .val (.int x5_17), .val (.int cr)] [(.int m129_s0), (.ref a0)])) rfl rfl (hb hby d8_129)
          have Fw32 := f31.same W32
          have N32 := Fr.snoc X32 N20 g_a0
          have kp33 : Keep h0 h32 [a0] := kp21.wr W32 (Or.inl (List.mem_of_getElem? (i := 0) rfl))
          have f34 := ((f16.other W20 (Or.inr (slot_ne (Or.inl (hw _ (List.mem_of_getElem? (i := 36) rfl))) (Or.inl (hw _ (List.mem_of_getElem? (i := 38) rfl))) (by decide) (t := .long) (t' := .long) (by decide) (by decide)))).other W32 (Or.inr (slot_ne (Or.inl (hw _ (List.mem_of_getElem? (i := 36) rfl))) (Or.inl (hw _ (List.mem_of_getElem? (i := 48) rfl))) (by decide) (t := .long) (t' := .boolean) (by decide) (by decide))))
          obtain ⟨T35, X35, e35, st35⟩ := getF X32 hx hZ hown (host := "") (Or.inl (hw _ (List.mem_of_getElem? (i := 35) rfl))) Via.refl e32 f34 (g := (mkF m 134 #[.val (.ref a0), .val (.ref a1), .val (.int p2), .val (.int p3), .val (.int x4_104), .val (.int x5_17), .val (.int cr)] [(.ref a0), (.ref a0)])) rfl rfl (hb hby d8_134)
          have f36 := (f30.wr W32)
          obtain ⟨T37, h37, X37, e37, W37, st37⟩ := putF X35 hx hZ hown (host := "") (Or.inl (hw _ (List.mem_of_getElem? (i := 35) rfl))) Via.refl e35 f34 f36 (Or.inl (hw _ (List.mem_of_getElem? (i := 36) rfl))) (hw _ (List.mem_of_getElem? (i := 12) rfl)) (ty := .long) (by decide) rfl rfl (g := (mkF m 140 #[.val (.ref a0), .val (.ref a1), .val (.int p2), .val (.int p3), .val (.int x4_104), .val (.int x5_17), .val (.int cr)] [(.long (ps + (p3).toInt64)), (.ref a0)])) rfl rfl (hb hby d8_140)
          have Fw37 := f34.same W37
          have N37 := Fr.snoc X37 N32 g_a0
          have kp38 : Keep h0 h37 [a0] := kp33.wr W37 (Or.inl (List.mem_of_getElem? (i := 0) rfl))
          obtain ⟨fs, hr, hrun, hended, hW, hsame⟩ := X37.leave (v := none) (fun _ => rfl)
          refine ⟨_, _, pre26 _ ?_, hrun, hended, _, _, rfl, ?_, ⟨_, rfl⟩, hW, hsame.mono (by decide) (by decide)⟩
          · show Steps p.tables e below (T20.setTop (mkF m 129 #[.val (.ref a0), .val (.ref a1), .val (.int p2), .val (.int p3), .val (.int x4_104), .val (.int x5_17), .val (.int cr)] [(.int m129_s0), (.ref a0)])) _
            refine st32 _ ?_
            refine XS.aloadN X32.here hx rfl (hb hby d8_132) rfl rfl ?_
            refine XS.dup X32.here hx rfl (hb hby d8_133) rfl rfl ?_
            refine st35 _ ?_
            refine XS.iloadN X35.here hx rfl (hb hby d8_137) rfl ?_
            show Steps p.tables e below (T35.setTop (mkF m 138 #[.val (.ref a0), .val (.ref a1), .val (.int p2), .val (.int p3), .val (.int x4_104), .val (.int x5_17), .val (.int cr)] [(.int p3), (.long ps), (.ref a0)])) _
            refine XS.i2l X35.here hx rfl (hb hby d8_138) rfl ?_
            refine XS.ladd X35.here hx rfl (hb hby d8_139) rfl ?_
            refine st37 _ ?_
            show Steps p.tables e below (T37.setTop (mkF m 143 #[.val (.ref a0), .val (.ref a1), .val (.int p2), .val (.int p3), .val (.int x4_104), .val (.int x5_17), .val (.int cr)] [])) _
            exact X37.returnOut hx Bd.returns (hb hby d8_143) hr
          · show Q8 Z a0 a1 p2 p3 k z ws ln ps ls cr h0 n0 _ T37.heap _
            rw [e37]
            unfold Q8
            have f39 := (f36.wr W37)
            have f40 := (((Fw14.other W20 (Or.inr (slot_ne (Or.inl (hw _ (List.mem_of_getElem? (i := 21) rfl))) (Or.inl (hw _ (List.mem_of_getElem? (i := 38) rfl))) (by decide) (t := .int) (t' := .long) (by decide) (by decide)))).other W32 (Or.inr (slot_ne (Or.inl (hw _ (List.mem_of_getElem? (i := 21) rfl))) (Or.inl (hw _ (List.mem_of_getElem? (i := 48) rfl))) (by decide) (t := .int) (t' := .boolean) (by decide) (by decide)))).other W37 (Or.inr (slot_ne (Or.inl (hw _ (List.mem_of_getElem? (i := 21) rfl))) (Or.inl (hw _ (List.mem_of_getElem? (i := 36) rfl))) (by decide) (t := .int) (t' := .long) (by decide) (by decide))))
            have f41 := ((Fw20.other W32 (Or.inr (slot_ne (Or.inl (hw _ (List.mem_of_getElem? (i := 38) rfl))) (Or.inl (hw _ (List.mem_of_getElem? (i := 48) rfl))) (by decide) (t := .long) (t' := .boolean) (by decide) (by decide)))).other W37 (Or.inr (slot_ne (Or.inl (hw _ (List.mem_of_getElem? (i := 38) rfl))) (Or.inl (hw _ (List.mem_of_getElem? (i := 36) rfl))) (by decide) (t := .long) (t' := .long) (by decide) (by decide))))
            have f42 := (Fw32.other W37 (Or.inr (slot_ne (Or.inl (hw _ (List.mem_of_getElem? (i := 48) rfl))) (Or.inl (hw _ (List.mem_of_getElem? (i := 36) rfl))) (by decide) (t := .boolean) (t' := .long) (by decide) (by decide))))
            refine ⟨rfl, N37, kp38, f39, ?_, ?_, ?_, ?_⟩
            · rw [show (own_p8_line p2 p3 ws ln cr) = (ln + (1 : Int32)) from (by subst hm129_s0 hx4_104 hx5_17; simp only [own_p8_line, if_neg hk0, if_pos hk1, if_pos hc21, if_pos hc71])]; exact f40
            · rw [show (own_p8_passed p3 ps) = (ps + (p3).toInt64) from (by subst hm129_s0 hx4_104 hx5_17; simp only [own_p8_passed, if_neg hk0, if_pos hk1, if_pos hc21, if_pos hc71])]; exact Fw37
            · rw [show (own_p8_lineStart p2 p3 ws ps ls) = (((ps + (p2).toInt64) - (p2).toInt64) + (1 : Int64)) from (by subst hm129_s0 hx4_104 hx5_17; simp only [own_p8_lineStart, if_neg hk0, if_pos hk1, if_pos hc21, if_pos hc71])]; exact f41
            · rw [show (own_p8_afterCarriageReturn p2 p3 ws cr) = (nar .boolean m129_s0) from (by subst hm129_s0 hx4_104 hx5_17; simp only [own_p8_afterCarriageReturn, if_neg hk0, if_pos hk1, if_pos hc21, if_pos hc71])]; exact f42
        · obtain ⟨T43, X43, e43, st43⟩ := getF X11 hx hZ hown (host := "") (Or.inl (hw _ (List.mem_of_getElem? (i := 35) rfl))) Via.refl e11 F_a0_passed (g := (mkF m 86 #[.val (.ref a0), .val (.ref a1), .val (.int p2), .val (.int p3), .val (.int p2), .val (.int x5_17), .val (.int cr)] [(.ref a0), (.ref a0)])) rfl rfl (hb hby d8_86)
          obtain ⟨T44, h44, X44, e44, W44, st44⟩ := putF X43 hx hZ hown (host := "") (Or.inl (hw _ (List.mem_of_getElem? (i := 37) rfl))) Via.refl e43 F_a0_lineStart E_a0 (Or.inl (hw _ (List.mem_of_getElem? (i := 38) rfl))) (hw _ (List.mem_of_getElem? (i := 12) rfl)) (ty := .long) (by decide) rfl rfl (g := (mkF m 98 #[.val (.ref a0), .val (.ref a1), .val (.int p2), .val (.int p3), .val (.int p2), .val (.int x5_17), .val (.int cr)] [(.long (((ps + (p2).toInt64) - (p2).toInt64) + (1 : Int64))), (.ref a0)])) rfl rfl (hb hby d8_98)
          have Fw44 := F_a0_lineStart.same W44
          have N44 := Fr.snoc X44 N0 g_a0
          have kp45 : Keep h0 h44 [a0] := (Keep.refl h0 [a0]).wr W44 (Or.inl (List.mem_of_getElem? (i := 0) rfl))
          obtain ⟨x4_104, hx4_104, pre46⟩ : ∃ z : Int32, z = (p2 + (1 : Int32)) ∧ own_Pre p e below (s₁.setTop (entryFrame m #[(.ref a0), (.ref a1), (.int p2), (.int p3)] 7)) (T44.setTop (mkF m 104 #[.val (.ref a0), .val (.ref a1), .val (.int p2), .val (.int p3), .val (.int z), .val (.int x5_17), .val (.int cr)] [])) := ⟨_, rfl, fun t k => pre12 t (by
              show Steps p.tables e below (T11.setTop (mkF m 71 #[.val (.ref a0), .val (.ref a1), .val (.int p2), .val (.int p3), .val (.int p2), .val (.int x5_17), .val (.int cr)] [(.int cr)])) _
              refine XS.ifYes X11.here hx rfl (pc0 := 71) (pc' := 84) rfl (hb hby d8_71) rfl ((if0 _ _).trans (feq hc71).2) (by decide) (by decide) ?_
              refine XS.aloadN X11.here hx rfl (hb hby d8_84) rfl rfl ?_
              refine XS.aloadN X11.here hx rfl (hb hby d8_85) rfl rfl ?_
              refine st43 _ ?_
              refine XS.iload X43.here hx rfl (hb hby d8_89) rfl ?_
              show Steps p.tables e below (T43.setTop (mkF m 91 #[.val (.ref a0), .val (.ref a1), .val (.int p2), .val (.int p3), .val (.int p2), .val (.int x5_17), .val (.int cr)] [(.int p2), (.long ps), (.ref a0)])) _
              refine XS.i2l X43.here hx rfl (hb hby d8_91) rfl ?_
              refine XS.ladd X43.here hx rfl (hb hby d8_92) rfl ?_
              refine XS.iloadN X43.here hx rfl (hb hby d8_93) rfl ?_
              refine XS.i2l X43.here hx rfl (hb hby d8_94) rfl ?_
              refine XS.lsub X43.here hx rfl (hb hby d8_95) rfl ?_
              show Steps p.tables e below (T43.setTop (mkF m 96 #[.val (.ref a0), .val (.ref a1), .val (.int p2), .val (.int p3), .val (.int p2), .val (.int x5_17), .val (.int cr)] [(.long ((ps + (p2).toInt64) - (p2).toInt64)), (.ref a0)])) _
              refine XS.lconst X43.here hx rfl (hb hby d8_96) ?_
              refine XS.ladd X43.here hx rfl (hb hby d8_97) rfl ?_
              refine st44 _ ?_
              refine XS.iinc X44.here hx rfl (hb hby d8_101) rfl (l' := #[.val (.ref a0), .val (.ref a1), .val (.int p2), .val (.int p3), .val (.int (p2 + (1 : Int32))), .val (.int x5_17), .val (.int cr)]) rfl ?_
              exact k)⟩
          have hc8_2 : ¬ (x4_104 < (p2 + p3)) := by rw [hx4_104]; exact own_l12 hk1 hrg
          have hc108 : ((0 : Int32) < p3) := by rw [hk1]; decide
          have f47 := (V_a1.other W44 ne_a1_a0)
          obtain ⟨cl48, Ar48, hin48, hat48⟩ := own_AI.at f47 (j := ((p2 + p3) - (1 : Int32))) (by rw [hk1, own_back]; exact hi0 (own_pos1 hk1))
          have pre51 : own_Pre p e below (s₁.setTop (entryFrame m #[(.ref a0), (.ref a1), (.int p2), (.int p3)] 7)) (T44.setTop (mkF m 121 #[.val (.ref a0), .val (.ref a1), .val (.int p2), .val (.int p3), .val (.int x4_104), .val (.int x5_17), .val (.int cr)] [(.int (13 : Int32)), (.int (ws.getD (((p2 + p3) - (1 : Int32))).toNatClampNeg (0 : Int32))), (.ref a0)])) := fun t k => pre46 t (by
              show Steps p.tables e below (T44.setTop (mkF m 104 #[.val (.ref a0), .val (.ref a1), .val (.int p2), .val (.int p3), .val (.int x4_104), .val (.int x5_17), .val (.int cr)] [])) _
              refine XS.goto X44.here hx rfl (pc0 := 104) (pc' := 3) rfl (hb hby d8_104) (by decide) (by decide) ?_
              refine XS.iload X44.here hx rfl (hb hby d8_3) rfl ?_
              refine XS.iloadN X44.here hx rfl (hb hby d8_5) rfl ?_
              refine XS.iloadN X44.here hx rfl (hb hby d8_6) rfl ?_
              refine XS.iadd X44.here hx rfl (hb hby d8_7) rfl ?_
              show Steps p.tables e below (T44.setTop (mkF m 8 #[.val (.ref a0), .val (.ref a1), .val (.int p2), .val (.int p3), .val (.int x4_104), .val (.int x5_17), .val (.int cr)] [(.int (p2 + p3)), (.int x4_104)])) _
              refine XS.icmpYes X44.here hx rfl (pc0 := 8) (pc' := 107) rfl (hb hby d8_8) rfl (flt hc8_2).2.1 (by decide) (by decide) ?_
              refine XS.iloadN X44.here hx rfl (hb hby d8_107) rfl ?_
              refine XS.ifNo X44.here hx rfl (hb hby d8_108) rfl ((if0 _ _).trans (tlt hc108).2.2.2) ?_
              refine XS.aloadN X44.here hx rfl (hb hby d8_111) rfl rfl ?_
              refine XS.aloadN X44.here hx rfl (hb hby d8_112) rfl rfl ?_
              show Steps p.tables e below (T44.setTop (mkF m 113 #[.val (.ref a0), .val (.ref a1), .val (.int p2), .val (.int p3), .val (.int x4_104), .val (.int x5_17), .val (.int cr)] [(.ref a1), (.ref a0)])) _
              refine XS.iloadN X44.here hx rfl (hb hby d8_113) rfl ?_
              refine XS.iloadN X44.here hx rfl (hb hby d8_114) rfl ?_
              refine XS.iadd X44.here hx rfl (hb hby d8_115) rfl ?_
              refine XS.iconst X44.here hx rfl (hb hby d8_116) ?_
              refine XS.isub X44.here hx rfl (hb hby d8_117) rfl ?_
              show Steps p.tables e below (T44.setTop (mkF m 118 #[.val (.ref a0), .val (.ref a1), .val (.int p2), .val (.int p3), .val (.int x4_104), .val (.int x5_17), .val (.int cr)] [(.int ((p2 + p3) - (1 : Int32))), (.ref a1), (.ref a0)])) _
              refine X44.caload hx (j := ((p2 + p3) - (1 : Int32))) (v := (.int (ws.getD (((p2 + p3) - (1 : Int32))).toNatClampNeg (0 : Int32)))) (by rw [e44]; exact Ar48.1) (State.isArrayOf_alike hZ.alike Ar48.2.1) Ar48.2.2 hin48 hat48 (g := (mkF m 118 #[.val (.ref a0), .val (.ref a1), .val (.int p2), .val (.int p3), .val (.int x4_104), .val (.int x5_17), .val (.int cr)] [(.int ((p2 + p3) - (1 : Int32))), (.ref a1), (.ref a0)])) rfl rfl (hb hby d8_118) _ ?_
              refine XS.bipush X44.here hx rfl (hb hby d8_119) ?_
              exact k)
          obtain ⟨m129_s0, hm129_s0, pre50⟩ : ∃ (m129_s0 : Int32), m129_s0 = (own_m8_129_s0 ws p2 p3) ∧ own_Pre p e below (s₁.setTop (entryFrame m #[(.ref a0), (.ref a1), (.int p2), (.int p3)] 7)) (T44.setTop (mkF m 129 #[.val (.ref a0), .val (.ref a1), .val (.int p2), .val (.int p3), .val (.int x4_104), .val (.int x5_17), .val (.int cr)] [(.int m129_s0), (.ref a0)])) := by
            by_cases hc121 : (ws.getD (((p2 + p3) - (1 : Int32))).toNatClampNeg (0 : Int32)) = (13 : Int32)
            · have pre52 : own_Pre p e below (s₁.setTop (entryFrame m #[(.ref a0), (.ref a1), (.int p2), (.int p3)] 7)) (T44.setTop (mkF m 129 #[.val (.ref a0), .val (.ref a1), .val (.int p2), .val (.int p3), .val (.int x4_104), .val (.int x5_17), .val (.int cr)] [(.int (1 : Int32)), (.ref a0)])) := fun t k => pre51 t (by
                  show Steps p.tables e below (T44.setTop (mkF m 121 #[.val (.ref a0), .val (.ref a1), .val (.int p2), .val (.int p3), .val (.int x4_104), .val (.int x5_17), .val (.int cr)] [(.int (13 : Int32)), (.int (ws.getD (((p2 + p3) - (1 : Int32))).toNatClampNeg (0 : Int32))), (.ref a0)])) _
                  refine XS.icmpNo X44.here hx rfl (hb hby d8_121) rfl (teq hc121).2 ?_
                  refine XS.iconst X44.here hx rfl (hb hby d8_124) ?_
                  refine XS.goto X44.here hx rfl (pc0 := 125) (pc' := 129) rfl (hb hby d8_125) (by decide) (by decide) ?_
                  exact k)
              refine ⟨_, ?_, pre52⟩
              all_goals (first | (simp only [own_m8_129_s0, if_pos hc121]; done) | (simp [own_m8_129_s0, if_pos hc121]; done))
            · have pre53 : own_Pre p e below (s₁.setTop (entryFrame m #[(.ref a0), (.ref a1), (.int p2), (.int p3)] 7)) (T44.setTop (mkF m 129 #[.val (.ref a0), .val (.ref a1), .val (.int p2), .val (.int p3), .val (.int x4_104), .val (.int x5_17), .val (.int cr)] [(.int (0 : Int32)), (.ref a0)])) := fun t k => pre51 t (by
                  show Steps p.tables e below (T44.setTop (mkF m 121 #[.val (.ref a0), .val (.ref a1), .val (.int p2), .val (.int p3), .val (.int x4_104), .val (.int x5_17), .val (.int cr)] [(.int (13 : Int32)), (.int (ws.getD (((p2 + p3) - (1 : Int32))).toNatClampNeg (0 : Int32))), (.ref a0)])) _
                  refine XS.icmpYes X44.here hx rfl (pc0 := 121) (pc' := 128) rfl (hb hby d8_121) rfl (feq hc121).2 (by decide) (by decide) ?_
                  refine XS.iconst X44.here hx rfl (hb hby d8_128) ?_
                  exact k)
              refine ⟨_, ?_, pre53⟩
              all_goals (first | (simp only [own_m8_129_s0, if_neg hc121]; done) | (simp [own_m8_129_s0, if_neg hc121]; done))
          have f54 := (E_a0.wr W44)
          have f55 := (F_a0_afterCarriageReturn.other W44 (Or.inr (slot_ne (Or.inl (hw _ (List.mem_of_getElem? (i := 48) rfl))) (Or.inl (hw _ (List.mem_of_getElem? (i := 38) rfl))) (by decide) (t := .boolean) (t' := .long) (by decide) (by decide))))
          obtain ⟨T56, h56, X56, e56, W56, st56⟩ := putFN X44 hx hZ hown (hw _ (List.mem_of_getElem? (i := 47) rfl)) Via.refl e44 f55 f54 (Or.inl (hw _ (List.mem_of_getElem? (i := 48) rfl))) (hw _ (List.mem_of_getElem? (i := 12) rfl)) (ty := .boolean) (v' := (.int (nar .boolean m129_s0))) (by decide) rfl (fits_nar_bool _) (g := (mkF m 129 #[.val (.ref a0), .val (.ref a1), .val (.int p2), .val (.int p3), .val (.int x4_104), .val (.int x5_17), .val (.int cr)] [(.int m129_s0), (.ref a0)])) rfl rfl (hb hby d8_129)
          have Fw56 := f55.same W56
          have N56 := Fr.snoc X56 N44 g_a0
          have kp57 : Keep h0 h56 [a0] := kp45.wr W56 (Or.inl (List.mem_of_getElem? (i := 0) rfl))
          have f58 := ((F_a0_passed.other W44 (Or.inr (slot_ne (Or.inl (hw _ (List.mem_of_getElem? (i := 36) rfl))) (Or.inl (hw _ (List.mem_of_getElem? (i := 38) rfl))) (by decide) (t := .long) (t' := .long) (by decide) (by decide)))).other W56 (Or.inr (slot_ne (Or.inl (hw _ (List.mem_of_getElem? (i := 36) rfl))) (Or.inl (hw _ (List.mem_of_getElem? (i := 48) rfl))) (by decide) (t := .long) (t' := .boolean) (by decide) (by decide))))
          obtain ⟨T59, X59, e59, st59⟩ := getF X56 hx hZ hown (host := "") (Or.inl (hw _ (List.mem_of_getElem? (i := 35) rfl))) Via.refl e56 f58 (g := (mkF m 134 #[.val (.ref a0), .val (.ref a1), .val (.int p2), .val (.int p3), .val (.int x4_104), .val (.int x5_17), .val (.int cr)] [(.ref a0), (.ref a0)])) rfl rfl (hb hby d8_134)
          have f60 := (f54.wr W56)
          obtain ⟨T61, h61, X61, e61, W61, st61⟩ := putF X59 hx hZ hown (host := "") (Or.inl (hw _ (List.mem_of_getElem? (i := 35) rfl))) Via.refl e59 f58 f60 (Or.inl (hw _ (List.mem_of_getElem? (i := 36) rfl))) (hw _ (List.mem_of_getElem? (i := 12) rfl)) (ty := .long) (by decide) rfl rfl (g := (mkF m 140 #[.val (.ref a0), .val (.ref a1), .val (.int p2), .val (.int p3), .val (.int x4_104), .val (.int x5_17), .val (.int cr)] [(.long (ps + (p3).toInt64)), (.ref a0)])) rfl rfl (hb hby d8_140)
          have Fw61 := f58.same W61
          have N61 := Fr.snoc X61 N56 g_a0
          have kp62 : Keep h0 h61 [a0] := kp57.wr W61 (Or.inl (List.mem_of_getElem? (i := 0) rfl))
          obtain ⟨fs, hr, hrun, hended, hW, hsame⟩ := X61.leave (v := none) (fun _ => rfl)
          refine ⟨_, _, pre50 _ ?_, hrun, hended, _, _, rfl, ?_, ⟨_, rfl⟩, hW, hsame.mono (by decide) (by decide)⟩
          · show Steps p.tables e below (T44.setTop (mkF m 129 #[.val (.ref a0), .val (.ref a1), .val (.int p2), .val (.int p3), .val (.int x4_104), .val (.int x5_17), .val (.int cr)] [(.int m129_s0), (.ref a0)])) _
            refine st56 _ ?_
            refine XS.aloadN X56.here hx rfl (hb hby d8_132) rfl rfl ?_
            refine XS.dup X56.here hx rfl (hb hby d8_133) rfl rfl ?_
            refine st59 _ ?_
            refine XS.iloadN X59.here hx rfl (hb hby d8_137) rfl ?_
            show Steps p.tables e below (T59.setTop (mkF m 138 #[.val (.ref a0), .val (.ref a1), .val (.int p2), .val (.int p3), .val (.int x4_104), .val (.int x5_17), .val (.int cr)] [(.int p3), (.long ps), (.ref a0)])) _
            refine XS.i2l X59.here hx rfl (hb hby d8_138) rfl ?_
            refine XS.ladd X59.here hx rfl (hb hby d8_139) rfl ?_
            refine st61 _ ?_
            show Steps p.tables e below (T61.setTop (mkF m 143 #[.val (.ref a0), .val (.ref a1), .val (.int p2), .val (.int p3), .val (.int x4_104), .val (.int x5_17), .val (.int cr)] [])) _
            exact X61.returnOut hx Bd.returns (hb hby d8_143) hr
          · show Q8 Z a0 a1 p2 p3 k z ws ln ps ls cr h0 n0 _ T61.heap _
            rw [e61]
            unfold Q8
            have f63 := (f60.wr W61)
            have f64 := (((F_a0_line.other W44 (Or.inr (slot_ne (Or.inl (hw _ (List.mem_of_getElem? (i := 21) rfl))) (Or.inl (hw _ (List.mem_of_getElem? (i := 38) rfl))) (by decide) (t := .int) (t' := .long) (by decide) (by decide)))).other W56 (Or.inr (slot_ne (Or.inl (hw _ (List.mem_of_getElem? (i := 21) rfl))) (Or.inl (hw _ (List.mem_of_getElem? (i := 48) rfl))) (by decide) (t := .int) (t' := .boolean) (by decide) (by decide)))).other W61 (Or.inr (slot_ne (Or.inl (hw _ (List.mem_of_getElem? (i := 21) rfl))) (Or.inl (hw _ (List.mem_of_getElem? (i := 36) rfl))) (by decide) (t := .int) (t' := .long) (by decide) (by decide))))
            have f65 := ((Fw44.other W56 (Or.inr (slot_ne (Or.inl (hw _ (List.mem_of_getElem? (i := 38) rfl))) (Or.inl (hw _ (List.mem_of_getElem? (i := 48) rfl))) (by decide) (t := .long) (t' := .boolean) (by decide) (by decide)))).other W61 (Or.inr (slot_ne (Or.inl (hw _ (List.mem_of_getElem? (i := 38) rfl))) (Or.inl (hw _ (List.mem_of_getElem? (i := 36) rfl))) (by decide) (t := .long) (t' := .long) (by decide) (by decide))))
            have f66 := (Fw56.other W61 (Or.inr (slot_ne (Or.inl (hw _ (List.mem_of_getElem? (i := 48) rfl))) (Or.inl (hw _ (List.mem_of_getElem? (i := 36) rfl))) (by decide) (t := .boolean) (t' := .long) (by decide) (by decide))))
            refine ⟨rfl, N61, kp62, f63, ?_, ?_, ?_, ?_⟩
            · rw [show (own_p8_line p2 p3 ws ln cr) = ln from (by subst hm129_s0 hx4_104 hx5_17; simp only [own_p8_line, if_neg hk0, if_pos hk1, if_pos hc21, if_neg hc71])]; exact f64
            · rw [show (own_p8_passed p3 ps) = (ps + (p3).toInt64) from (by subst hm129_s0 hx4_104 hx5_17; simp only [own_p8_passed, if_neg hk0, if_pos hk1, if_pos hc21, if_neg hc71])]; exact Fw61
            · rw [show (own_p8_lineStart p2 p3 ws ps ls) = (((ps + (p2).toInt64) - (p2).toInt64) + (1 : Int64)) from (by subst hm129_s0 hx4_104 hx5_17; simp only [own_p8_lineStart, if_neg hk0, if_pos hk1, if_pos hc21, if_neg hc71])]; exact f65
            · rw [show (own_p8_afterCarriageReturn p2 p3 ws cr) = (nar .boolean m129_s0) from (by subst hm129_s0 hx4_104 hx5_17; simp only [own_p8_afterCarriageReturn, if_neg hk0, if_pos hk1, if_pos hc21, if_neg hc71])]; exact f66
      · have pre67 : own_Pre p e below (s₁.setTop (entryFrame m #[(.ref a0), (.ref a1), (.int p2), (.int p3)] 7)) (s₁.setTop (mkF m 28 #[.val (.ref a0), .val (.ref a1), .val (.int p2), .val (.int p3), .val (.int p2), .val (.int x5_17), .unset] [(.int (13 : Int32)), (.int x5_17)])) := fun t k => pre10 t (by
            show Steps p.tables e below (s₁.setTop (mkF m 21 #[.val (.ref a0), .val (.ref a1), .val (.int p2), .val (.int p3), .val (.int p2), .val (.int x5_17), .unset] [(.int (10 : Int32)), (.int x5_17)])) _
            refine XS.icmpNo X0.here hx rfl (hb hby d8_21) rfl (feq hc21).1 ?_
            refine XS.iload X0.here hx rfl (hb hby d8_24) rfl ?_
            refine XS.bipush X0.here hx rfl (hb hby d8_26) ?_
            exact k)
        by_cases hc28 : x5_17 = (13 : Int32)
        · have hc34 : ¬ (p2 < p2) := own_irr _
          obtain ⟨T68, X68, e68, st68⟩ := getF X0 hx hZ hown (host := "") (Or.inl (hw _ (List.mem_of_getElem? (i := 47) rfl))) Via.refl e0 F_a0_afterCarriageReturn (g := (mkF m 57 #[.val (.ref a0), .val (.ref a1), .val (.int p2), .val (.int p3), .val (.int p2), .val (.int x5_17), .unset] [(.ref a0)])) rfl rfl (hb hby d8_57)
          have hc66 : (x5_17 = (13 : Int32)) := hc28
          obtain ⟨T69, X69, e69, st69⟩ := getF X68 hx hZ hown (host := "") (Or.inl (hw _ (List.mem_of_getElem? (i := 20) rfl))) Via.refl e68 F_a0_line (g := (mkF m 76 #[.val (.ref a0), .val (.ref a1), .val (.int p2), .val (.int p3), .val (.int p2), .val (.int x5_17), .val (.int cr)] [(.ref a0), (.ref a0)])) rfl rfl (hb hby d8_76)
          obtain ⟨T70, h70, X70, e70, W70, st70⟩ := putF X69 hx hZ hown (host := "") (Or.inl (hw _ (List.mem_of_getElem? (i := 20) rfl))) Via.refl e69 F_a0_line E_a0 (Or.inl (hw _ (List.mem_of_getElem? (i := 21) rfl))) (hw _ (List.mem_of_getElem? (i := 12) rfl)) (ty := .int) (by decide) rfl rfl (g := (mkF m 81 #[.val (.ref a0), .val (.ref a1), .val (.int p2), .val (.int p3), .val (.int p2), .val (.int x5_17), .val (.int cr)] [(.int (ln + (1 : Int32))), (.ref a0)])) rfl rfl (hb hby d8_81)
          have Fw70 := F_a0_line.same W70
          have N70 := Fr.snoc X70 N0 g_a0
          have kp71 : Keep h0 h70 [a0] := (Keep.refl h0 [a0]).wr W70 (Or.inl (List.mem_of_getElem? (i := 0) rfl))
          have f72 := (F_a0_passed.other W70 (Or.inr (slot_ne (Or.inl (hw _ (List.mem_of_getElem? (i := 36) rfl))) (Or.inl (hw _ (List.mem_of_getElem? (i := 21) rfl))) (by decide) (t := .long) (t' := .int) (by decide) (by decide))))
          obtain ⟨T73, X73, e73, st73⟩ := getF X70 hx hZ hown (host := "") (Or.inl (hw _ (List.mem_of_getElem? (i := 35) rfl))) Via.refl e70 f72 (g := (mkF m 86 #[.val (.ref a0), .val (.ref a1), .val (.int p2), .val (.int p3), .val (.int p2), .val (.int x5_17), .val (.int cr)] [(.ref a0), (.ref a0)])) rfl rfl (hb hby d8_86)
          have f74 := (E_a0.wr W70)
          have f75 := (F_a0_lineStart.other W70 (Or.inr (slot_ne (Or.inl (hw _ (List.mem_of_getElem? (i := 38) rfl))) (Or.inl (hw _ (List.mem_of_getElem? (i := 21) rfl))) (by decide) (t := .long) (t' := .int) (by decide) (by decide))))
          obtain ⟨T76, h76, X76, e76, W76, st76⟩ := putF X73 hx hZ hown (host := "") (Or.inl (hw _ (List.mem_of_getElem? (i := 37) rfl))) Via.refl e73 f75 f74 (Or.inl (hw _ (List.mem_of_getElem? (i := 38) rfl))) (hw _ (List.mem_of_getElem? (i := 12) rfl)) (ty := .long) (by decide) rfl rfl (g := (mkF m 98 #[.val (.ref a0), .val (.ref a1), .val (.int p2), .val (.int p3), .val (.int p2), .val (.int x5_17), .val (.int cr)] [(.long (((ps + (p2).toInt64) - (p2).toInt64) + (1 : Int64))), (.ref a0)])) rfl rfl (hb hby d8_98)
          have Fw76 := f75.same W76
          have N76 := Fr.snoc X76 N70 g_a0
          have kp77 : Keep h0 h76 [a0] := kp71.wr W76 (Or.inl (List.mem_of_getElem? (i := 0) rfl))
          obtain ⟨x4_104, hx4_104, pre78⟩ : ∃ z : Int32, z = (p2 + (1 : Int32)) ∧ own_Pre p e below (s₁.setTop (entryFrame m #[(.ref a0), (.ref a1), (.int p2), (.int p3)] 7)) (T76.setTop (mkF m 104 #[.val (.ref a0), .val (.ref a1), .val (.int p2), .val (.int p3), .val (.int z), .val (.int x5_17), .val (.int cr)] [])) := ⟨_, rfl, fun t k => pre67 t (by
              show Steps p.tables e below (s₁.setTop (mkF m 28 #[.val (.ref a0), .val (.ref a1), .val (.int p2), .val (.int p3), .val (.int p2), .val (.int x5_17), .unset] [(.int (13 : Int32)), (.int x5_17)])) _
              refine XS.icmpNo X0.here hx rfl (hb hby d8_28) rfl (teq hc28).2 ?_
              refine XS.iload X0.here hx rfl (hb hby d8_31) rfl ?_
              refine XS.iloadN X0.here hx rfl (hb hby d8_33) rfl ?_
              refine XS.icmpYes X0.here hx rfl (pc0 := 34) (pc' := 56) rfl (hb hby d8_34) rfl (flt hc34).2.2.2 (by decide) (by decide) ?_
              refine XS.aloadN X0.here hx rfl (hb hby d8_56) rfl rfl ?_
              show Steps p.tables e below (s₁.setTop (mkF m 57 #[.val (.ref a0), .val (.ref a1), .val (.int p2), .val (.int p3), .val (.int p2), .val (.int x5_17), .unset] [(.ref a0)])) _
              refine st68 _ ?_
              refine XS.istore X68.here hx rfl (hb hby d8_60) rfl (l' := #[.val (.ref a0), .val (.ref a1), .val (.int p2), .val (.int p3), .val (.int p2), .val (.int x5_17), .val (.int cr)]) rfl ?_
              refine XS.iload X68.here hx rfl (hb hby d8_62) rfl ?_
              refine XS.bipush X68.here hx rfl (hb hby d8_64) ?_
              refine XS.icmpYes X68.here hx rfl (pc0 := 66) (pc' := 74) rfl (hb hby d8_66) rfl (teq hc66).1 (by decide) (by decide) ?_
              show Steps p.tables e below (T68.setTop (mkF m 74 #[.val (.ref a0), .val (.ref a1), .val (.int p2), .val (.int p3), .val (.int p2), .val (.int x5_17), .val (.int cr)] [])) _
              refine XS.aloadN X68.here hx rfl (hb hby d8_74) rfl rfl ?_
              refine XS.dup X68.here hx rfl (hb hby d8_75) rfl rfl ?_
              refine st69 _ ?_
              refine XS.iconst X69.here hx rfl (hb hby d8_79) ?_
              refine XS.iadd X69.here hx rfl (hb hby d8_80) rfl ?_
              show Steps p.tables e below (T69.setTop (mkF m 81 #[.val (.ref a0), .val (.ref a1), .val (.int p2), .val (.int p3), .val (.int p2), .val (.int x5_17), .val (.int cr)] [(.int (ln + (1 : Int32))), (.ref a0)])) _
              refine st70 _ ?_
              refine XS.aloadN X70.here hx rfl (hb hby d8_84) rfl rfl ?_
              refine XS.aloadN X70.here hx rfl (hb hby d8_85) rfl rfl ?_
              refine st73 _ ?_
              refine XS.iload X73.here hx rfl (hb hby d8_89) rfl ?_
              show Steps p.tables e below (T73.setTop (mkF m 91 #[.val (.ref a0), .val (.ref a1), .val (.int p2), .val (.int p3), .val (.int p2), .val (.int x5_17), .val (.int cr)] [(.int p2), (.long ps), (.ref a0)])) _
              refine XS.i2l X73.here hx rfl (hb hby d8_91) rfl ?_
              refine XS.ladd X73.here hx rfl (hb hby d8_92) rfl ?_
              refine XS.iloadN X73.here hx rfl (hb hby d8_93) rfl ?_
              refine XS.i2l X73.here hx rfl (hb hby d8_94) rfl ?_
              refine XS.lsub X73.here hx rfl (hb hby d8_95) rfl ?_
              show Steps p.tables e below (T73.setTop (mkF m 96 #[.val (.ref a0), .val (.ref a1), .val (.int p2), .val (.int p3), .val (.int p2), .val (.int x5_17), .val (.int cr)] [(.long ((ps + (p2).toInt64) - (p2).toInt64)), (.ref a0)])) _
              refine XS.lconst X73.here hx rfl (hb hby d8_96) ?_
              refine XS.ladd X73.here hx rfl (hb hby d8_97) rfl ?_
              refine st76 _ ?_
              refine XS.iinc X76.here hx rfl (hb hby d8_101) rfl (l' := #[.val (.ref a0), .val (.ref a1), .val (.int p2), .val (.int p3), .val (.int (p2 + (1 : Int32))), .val (.int x5_17), .val (.int cr)]) rfl ?_
              exact k)⟩
          have hc8_2 : ¬ (x4_104 < (p2 + p3)) := by rw [hx4_104]; exact own_l12 hk1 hrg
          have hc108 : ((0 : Int32) < p3) := by rw [hk1]; decide
          have f79 := ((V_a1.other W70 ne_a1_a0).other W76 ne_a1_a0)
          obtain ⟨cl80, Ar80, hin80, hat80⟩ := own_AI.at f79 (j := ((p2 + p3) - (1 : Int32))) (by rw [hk1, own_back]; exact hi0 (own_pos1 hk1))
          have pre83 : own_Pre p e below (s₁.setTop (entryFrame m #[(.ref a0), (.ref a1), (.int p2), (.int p3)] 7)) (T76.setTop (mkF m 121 #[.val (.ref a0), .val (.ref a1), .val (.int p2), .val (.int p3), .val (.int x4_104), .val (.int x5_17), .val (.int cr)] [(.int (13 : Int32)), (.int (ws.getD (((p2 + p3) - (1 : Int32))).toNatClampNeg (0 : Int32))), (.ref a0)])) := fun t k => pre78 t (by
              show Steps p.tables e below (T76.setTop (mkF m 104 #[.val (.ref a0), .val (.ref a1), .val (.int p2), .val (.int p3), .val (.int x4_104), .val (.int x5_17), .val (.int cr)] [])) _
              refine XS.goto X76.here hx rfl (pc0 := 104) (pc' := 3) rfl (hb hby d8_104) (by decide) (by decide) ?_
              refine XS.iload X76.here hx rfl (hb hby d8_3) rfl ?_
              refine XS.iloadN X76.here hx rfl (hb hby d8_5) rfl ?_
              refine XS.iloadN X76.here hx rfl (hb hby d8_6) rfl ?_
              refine XS.iadd X76.here hx rfl (hb hby d8_7) rfl ?_
              show Steps p.tables e below (T76.setTop (mkF m 8 #[.val (.ref a0), .val (.ref a1), .val (.int p2), .val (.int p3), .val (.int x4_104), .val (.int x5_17), .val (.int cr)] [(.int (p2 + p3)), (.int x4_104)])) _
              refine XS.icmpYes X76.here hx rfl (pc0 := 8) (pc' := 107) rfl (hb hby d8_8) rfl (flt hc8_2).2.1 (by decide) (by decide) ?_
              refine XS.iloadN X76.here hx rfl (hb hby d8_107) rfl ?_
              refine XS.ifNo X76.here hx rfl (hb hby d8_108) rfl ((if0 _ _).trans (tlt hc108).2.2.2) ?_
              refine XS.aloadN X76.here hx rfl (hb hby d8_111) rfl rfl ?_
              refine XS.aloadN X76.here hx rfl (hb hby d8_112) rfl rfl ?_
              show Steps p.tables e below (T76.setTop (mkF m 113 #[.val (.ref a0), .val (.ref a1), .val (.int p2), .val (.int p3), .val (.int x4_104), .val (.int x5_17), .val (.int cr)] [(.ref a1), (.ref a0)])) _
              refine XS.iloadN X76.here hx rfl (hb hby d8_113) rfl ?_
              refine XS.iloadN X76.here hx rfl (hb hby d8_114) rfl ?_
              refine XS.iadd X76.here hx rfl (hb hby d8_115) rfl ?_
              refine XS.iconst X76.here hx rfl (hb hby d8_116) ?_
              refine XS.isub X76.here hx rfl (hb hby d8_117) rfl ?_
              show Steps p.tables e below (T76.setTop (mkF m 118 #[.val (.ref a0), .val (.ref a1), .val (.int p2), .val (.int p3), .val (.int x4_104), .val (.int x5_17), .val (.int cr)] [(.int ((p2 + p3) - (1 : Int32))), (.ref a1), (.ref a0)])) _
              refine X76.caload hx (j := ((p2 + p3) - (1 : Int32))) (v := (.int (ws.getD (((p2 + p3) - (1 : Int32))).toNatClampNeg (0 : Int32)))) (by rw [e76]; exact Ar80.1) (State.isArrayOf_alike hZ.alike Ar80.2.1) Ar80.2.2 hin80 hat80 (g := (mkF m 118 #[.val (.ref a0), .val (.ref a1), .val (.int p2), .val (.int p3), .val (.int x4_104), .val (.int x5_17), .val (.int cr)] [(.int ((p2 + p3) - (1 : Int32))), (.ref a1), (.ref a0)])) rfl rfl (hb hby d8_118) _ ?_
              refine XS.bipush X76.here hx rfl (hb hby d8_119) ?_
              exact k)
          obtain ⟨m129_s0, hm129_s0, pre82⟩ : ∃ (m129_s0 : Int32), m129_s0 = (own_m8_129_s0 ws p2 p3) ∧ own_Pre p e below (s₁.setTop (entryFrame m #[(.ref a0), (.ref a1), (.int p2), (.int p3)] 7)) (T76.setTop (mkF m 129 #[.val (.ref a0), .val (.ref a1), .val (.int p2), .val (.int p3), .val (.int x4_104), .val (.int x5_17), .val (.int cr)] [(.int m129_s0), (.ref a0)])) := by
            by_cases hc121 : (ws.getD (((p2 + p3) - (1 : Int32))).toNatClampNeg (0 : Int32)) = (13 : Int32)
            · have pre84 : own_Pre p e below (s₁.setTop (entryFrame m #[(.ref a0), (.ref a1), (.int p2), (.int p3)] 7)) (T76.setTop (mkF m 129 #[.val (.ref a0), .val (.ref a1), .val (.int p2), .val (.int p3), .val (.int x4_104), .val (.int x5_17), .val (.int cr)] [(.int (1 : Int32)), (.ref a0)])) := fun t k => pre83 t (by
                  show Steps p.tables e below (T76.setTop (mkF m 121 #[.val (.ref a0), .val (.ref a1), .val (.int p2), .val (.int p3), .val (.int x4_104), .val (.int x5_17), .val (.int cr)] [(.int (13 : Int32)), (.int (ws.getD (((p2 + p3) - (1 : Int32))).toNatClampNeg (0 : Int32))), (.ref a0)])) _
                  refine XS.icmpNo X76.here hx rfl (hb hby d8_121) rfl (teq hc121).2 ?_
                  refine XS.iconst X76.here hx rfl (hb hby d8_124) ?_
                  refine XS.goto X76.here hx rfl (pc0 := 125) (pc' := 129) rfl (hb hby d8_125) (by decide) (by decide) ?_
                  exact k)
              refine ⟨_, ?_, pre84⟩
              all_goals (first | (simp only [own_m8_129_s0, if_pos hc121]; done) | (simp [own_m8_129_s0, if_pos hc121]; done))
            · have pre85 : own_Pre p e below (s₁.setTop (entryFrame m #[(.ref a0), (.ref a1), (.int p2), (.int p3)] 7)) (T76.setTop (mkF m 129 #[.val (.ref a0), .val (.ref a1), .val (.int p2), .val (.int p3), .val (.int x4_104), .val (.int x5_17), .val (.int cr)] [(.int (0 : Int32)), (.ref a0)])) := fun t k => pre83 t (by
                  show Steps p.tables e below (T76.setTop (mkF m 121 #[.val (.ref a0), .val (.ref a1), .val (.int p2), .val (.int p3), .val (.int x4_104), .val (.int x5_17), .val (.int cr)] [(.int (13 : Int32)), (.int (ws.getD (((p2 + p3) - (1 : Int32))).toNatClampNeg (0 : Int32))), (.ref a0)])) _
                  refine XS.icmpYes X76.here hx rfl (pc0 := 121) (pc' := 128) rfl (hb hby d8_121) rfl (feq hc121).2 (by decide) (by decide) ?_
                  refine XS.iconst X76.here hx rfl (hb hby d8_128) ?_
                  exact k)
              refine ⟨_, ?_, pre85⟩
              all_goals (first | (simp only [own_m8_129_s0, if_neg hc121]; done) | (simp [own_m8_129_s0, if_neg hc121]; done))
          have f86 := (f74.wr W76)
          have f87 := ((F_a0_afterCarriageReturn.other W70 (Or.inr (slot_ne (Or.inl (hw _ (List.mem_of_getElem? (i := 48) rfl))) (Or.inl (hw _ (List.mem_of_getElem? (i := 21) rfl))) (by decide) (t := .boolean) (t' := .int) (by decide) (by decide)))).other W76 (Or.inr (slot_ne (Or.inl (hw _ (List.mem_of_getElem? (i := 48) rfl))) (Or.inl (hw _ (List.mem_of_getElem? (i := 38) rfl))) (by decide) (t := .boolean) (t' := .long) (by decide) (by decide))))
          obtain ⟨T88, h88, X88, e88, W88, st88⟩ := putFN X76 hx hZ hown (hw _ (List.mem_of_getElem? (i := 47) rfl)) Via.refl e76 f87 f86 (Or.inl (hw _ (List.mem_of_getElem? (i := 48) rfl))) (hw _ (List.mem_of_getElem? (i := 12) rfl)) (ty := .boolean) (v' := (.int (nar .boolean m129_s0))) (by decide) rfl (fits_nar_bool _) (g := (mkF m 129 #[.val (.ref a0), .val (.ref a1), .val (.int p2), .val (.int p3), .val (.int x4_104), .val (.int x5_17), .val (.int cr)] [(.int m129_s0), (.ref a0)])) rfl rfl (hb hby d8_129)
          have Fw88 := f87.same W88
          have N88 := Fr.snoc X88 N76 g_a0
          have kp89 : Keep h0 h88 [a0] := kp77.wr W88 (Or.inl (List.mem_of_getElem? (i := 0) rfl))
          have f90 := ((f72.other W76 (Or.inr (slot_ne (Or.inl (hw _ (List.mem_of_getElem? (i := 36) rfl))) (Or.inl (hw _ (List.mem_of_getElem? (i := 38) rfl))) (by decide) (t := .long) (t' := .long) (by decide) (by decide)))).other W88 (Or.inr (slot_ne (Or.inl (hw _ (List.mem_of_getElem? (i := 36) rfl))) (Or.inl (hw _ (List.mem_of_getElem? (i := 48) rfl))) (by decide) (t := .long) (t' := .boolean) (by decide) (by decide))))
          obtain ⟨T91, X91, e91, st91⟩ := getF X88 hx hZ hown (host := "") (Or.inl (hw _ (List.mem_of_getElem? (i := 35) rfl))) Via.refl e88 f90 (g := (mkF m 134 #[.val (.ref a0), .val (.ref a1), .val (.int p2), .val (.int p3), .val (.int x4_104), .val (.int x5_17), .val (.int cr)] [(.ref a0), (.ref a0)])) rfl rfl (hb hby d8_134)
          have f92 := (f86.wr W88)
          obtain ⟨T93, h93, X93, e93, W93, st93⟩ := putF X91 hx hZ hown (host := "") (Or.inl (hw _ (List.mem_of_getElem? (i := 35) rfl))) Via.refl e91 f90 f92 (Or.inl (hw _ (List.mem_of_getElem? (i := 36) rfl))) (hw _ (List.mem_of_getElem? (i := 12) rfl)) (ty := .long) (by decide) rfl rfl (g := (mkF m 140 #[.val (.ref a0), .val (.ref a1), .val (.int p2), .val (.int p3), .val (.int x4_104), .val (.int x5_17), .val (.int cr)] [(.long (ps + (p3).toInt64)), (.ref a0)])) rfl rfl (hb hby d8_140)
          have Fw93 := f90.same W93
          have N93 := Fr.snoc X93 N88 g_a0
          have kp94 : Keep h0 h93 [a0] := kp89.wr W93 (Or.inl (List.mem_of_getElem? (i := 0) rfl))
          obtain ⟨fs, hr, hrun, hended, hW, hsame⟩ := X93.leave (v := none) (fun _ => rfl)
          refine ⟨_, _, pre82 _ ?_, hrun, hended, _, _, rfl, ?_, ⟨_, rfl⟩, hW, hsame.mono (by decide) (by decide)⟩
          · show Steps p.tables e below (T76.setTop (mkF m 129 #[.val (.ref a0), .val (.ref a1), .val (.int p2), .val (.int p3), .val (.int x4_104), .val (.int x5_17), .val (.int cr)] [(.int m129_s0), (.ref a0)])) _
            refine st88 _ ?_
            refine XS.aloadN X88.here hx rfl (hb hby d8_132) rfl rfl ?_
            refine XS.dup X88.here hx rfl (hb hby d8_133) rfl rfl ?_
            refine st91 _ ?_
            refine XS.iloadN X91.here hx rfl (hb hby d8_137) rfl ?_
            show Steps p.tables e below (T91.setTop (mkF m 138 #[.val (.ref a0), .val (.ref a1), .val (.int p2), .val (.int p3), .val (.int x4_104), .val (.int x5_17), .val (.int cr)] [(.int p3), (.long ps), (.ref a0)])) _
            refine XS.i2l X91.here hx rfl (hb hby d8_138) rfl ?_
            refine XS.ladd X91.here hx rfl (hb hby d8_139) rfl ?_
            refine st93 _ ?_
            show Steps p.tables e below (T93.setTop (mkF m 143 #[.val (.ref a0), .val (.ref a1), .val (.int p2), .val (.int p3), .val (.int x4_104), .val (.int x5_17), .val (.int cr)] [])) _
            exact X93.returnOut hx Bd.returns (hb hby d8_143) hr
          · show Q8 Z a0 a1 p2 p3 k z ws ln ps ls cr h0 n0 _ T93.heap _
            rw [e93]
            unfold Q8
            have f95 := (f92.wr W93)
            have f96 := (((Fw70.other W76 (Or.inr (slot_ne (Or.inl (hw _ (List.mem_of_getElem? (i := 21) rfl))) (Or.inl (hw _ (List.mem_of_getElem? (i := 38) rfl))) (by decide) (t := .int) (t' := .long) (by decide) (by decide)))).other W88 (Or.inr (slot_ne (Or.inl (hw _ (List.mem_of_getElem? (i := 21) rfl))) (Or.inl (hw _ (List.mem_of_getElem? (i := 48) rfl))) (by decide) (t := .int) (t' := .boolean) (by decide) (by decide)))).other W93 (Or.inr (slot_ne (Or.inl (hw _ (List.mem_of_getElem? (i := 21) rfl))) (Or.inl (hw _ (List.mem_of_getElem? (i := 36) rfl))) (by decide) (t := .int) (t' := .long) (by decide) (by decide))))
            have f97 := ((Fw76.other W88 (Or.inr (slot_ne (Or.inl (hw _ (List.mem_of_getElem? (i := 38) rfl))) (Or.inl (hw _ (List.mem_of_getElem? (i := 48) rfl))) (by decide) (t := .long) (t' := .boolean) (by decide) (by decide)))).other W93 (Or.inr (slot_ne (Or.inl (hw _ (List.mem_of_getElem? (i := 38) rfl))) (Or.inl (hw _ (List.mem_of_getElem? (i := 36) rfl))) (by decide) (t := .long) (t' := .long) (by decide) (by decide))))
            have f98 := (Fw88.other W93 (Or.inr (slot_ne (Or.inl (hw _ (List.mem_of_getElem? (i := 48) rfl))) (Or.inl (hw _ (List.mem_of_getElem? (i := 36) rfl))) (by decide) (t := .boolean) (t' := .long) (by decide) (by decide))))
            refine ⟨rfl, N93, kp94, f95, ?_, ?_, ?_, ?_⟩
            · rw [show (own_p8_line p2 p3 ws ln cr) = (ln + (1 : Int32)) from (by subst hm129_s0 hx4_104 hx5_17; simp only [own_p8_line, if_neg hk0, if_pos hk1, if_neg hc21, if_pos hc28])]; exact f96
            · rw [show (own_p8_passed p3 ps) = (ps + (p3).toInt64) from (by subst hm129_s0 hx4_104 hx5_17; simp only [own_p8_passed, if_neg hk0, if_pos hk1, if_neg hc21, if_pos hc28])]; exact Fw93
            · rw [show (own_p8_lineStart p2 p3 ws ps ls) = (((ps + (p2).toInt64) - (p2).toInt64) + (1 : Int64)) from (by subst hm129_s0 hx4_104 hx5_17; simp only [own_p8_lineStart, if_neg hk0, if_pos hk1, if_neg hc21, if_pos hc28])]; exact f97
            · rw [show (own_p8_afterCarriageReturn p2 p3 ws cr) = (nar .boolean m129_s0) from (by subst hm129_s0 hx4_104 hx5_17; simp only [own_p8_afterCarriageReturn, if_neg hk0, if_pos hk1, if_neg hc21, if_pos hc28])]; exact f98
        · obtain ⟨x4_104, hx4_104, pre99⟩ : ∃ z : Int32, z = (p2 + (1 : Int32)) ∧ own_Pre p e below (s₁.setTop (entryFrame m #[(.ref a0), (.ref a1), (.int p2), (.int p3)] 7)) (s₁.setTop (mkF m 104 #[.val (.ref a0), .val (.ref a1), .val (.int p2), .val (.int p3), .val (.int z), .val (.int x5_17), .unset] [])) := ⟨_, rfl, fun t k => pre67 t (by
              show Steps p.tables e below (s₁.setTop (mkF m 28 #[.val (.ref a0), .val (.ref a1), .val (.int p2), .val (.int p3), .val (.int p2), .val (.int x5_17), .unset] [(.int (13 : Int32)), (.int x5_17)])) _
              refine XS.icmpYes X0.here hx rfl (pc0 := 28) (pc' := 101) rfl (hb hby d8_28) rfl (feq hc28).2 (by decide) (by decide) ?_
              refine XS.iinc X0.here hx rfl (hb hby d8_101) rfl (l' := #[.val (.ref a0), .val (.ref a1), .val (.int p2), .val (.int p3), .val (.int (p2 + (1 : Int32))), .val (.int x5_17), .unset]) rfl ?_
              exact k)⟩
          have hc8_2 : ¬ (x4_104 < (p2 + p3)) := by rw [hx4_104]; exact own_l12 hk1 hrg
          have hc108 : ((0 : Int32) < p3) := by rw [hk1]; decide
          obtain ⟨cl100, Ar100, hin100, hat100⟩ := own_AI.at V_a1 (j := ((p2 + p3) - (1 : Int32))) (by rw [hk1, own_back]; exact hi0 (own_pos1 hk1))
          have pre103 : own_Pre p e below (s₁.setTop (entryFrame m #[(.ref a0), (.ref a1), (.int p2), (.int p3)] 7)) (s₁.setTop (mkF m 121 #[.val (.ref a0), .val (.ref a1), .val (.int p2), .val (.int p3), .val (.int x4_104), .val (.int x5_17), .unset] [(.int (13 : Int32)), (.int (ws.getD (((p2 + p3) - (1 : Int32))).toNatClampNeg (0 : Int32))), (.ref a0)])) := fun t k => pre99 t (by
              show Steps p.tables e below (s₁.setTop (mkF m 104 #[.val (.ref a0), .val (.ref a1), .val (.int p2), .val (.int p3), .val (.int x4_104), .val (.int x5_17), .unset] [])) _
              refine XS.goto X0.here hx rfl (pc0 := 104) (pc' := 3) rfl (hb hby d8_104) (by decide) (by decide) ?_
              refine XS.iload X0.here hx rfl (hb hby d8_3) rfl ?_
              refine XS.iloadN X0.here hx rfl (hb hby d8_5) rfl ?_
              refine XS.iloadN X0.here hx rfl (hb hby d8_6) rfl ?_
              refine XS.iadd X0.here hx rfl (hb hby d8_7) rfl ?_
              show Steps p.tables e below (s₁.setTop (mkF m 8 #[.val (.ref a0), .val (.ref a1), .val (.int p2), .val (.int p3), .val (.int x4_104), .val (.int x5_17), .unset] [(.int (p2 + p3)), (.int x4_104)])) _
              refine XS.icmpYes X0.here hx rfl (pc0 := 8) (pc' := 107) rfl (hb hby d8_8) rfl (flt hc8_2).2.1 (by decide) (by decide) ?_
              refine XS.iloadN X0.here hx rfl (hb hby d8_107) rfl ?_
              refine XS.ifNo X0.here hx rfl (hb hby d8_108) rfl ((if0 _ _).trans (tlt hc108).2.2.2) ?_
              refine XS.aloadN X0.here hx rfl (hb hby d8_111) rfl rfl ?_
              refine XS.aloadN X0.here hx rfl (hb hby d8_112) rfl rfl ?_
              show Steps p.tables e below (s₁.setTop (mkF m 113 #[.val (.ref a0), .val (.ref a1), .val (.int p2), .val (.int p3), .val (.int x4_104), .val (.int x5_17), .unset] [(.ref a1), (.ref a0)])) _
              refine XS.iloadN X0.here hx rfl (hb hby d8_113) rfl ?_
              refine XS.iloadN X0.here hx rfl (hb hby d8_114) rfl ?_
              refine XS.iadd X0.here hx rfl (hb hby d8_115) rfl ?_
              refine XS.iconst X0.here hx rfl (hb hby d8_116) ?_
              refine XS.isub X0.here hx rfl (hb hby d8_117) rfl ?_
              show Steps p.tables e below (s₁.setTop (mkF m 118 #[.val (.ref a0), .val (.ref a1), .val (.int p2), .val (.int p3), .val (.int x4_104), .val (.int x5_17), .unset] [(.int ((p2 + p3) - (1 : Int32))), (.ref a1), (.ref a0)])) _
              refine X0.caload hx (j := ((p2 + p3) - (1 : Int32))) (v := (.int (ws.getD (((p2 + p3) - (1 : Int32))).toNatClampNeg (0 : Int32)))) (by rw [e0]; exact Ar100.1) (State.isArrayOf_alike hZ.alike Ar100.2.1) Ar100.2.2 hin100 hat100 (g := (mkF m 118 #[.val (.ref a0), .val (.ref a1), .val (.int p2), .val (.int p3), .val (.int x4_104), .val (.int x5_17), .unset] [(.int ((p2 + p3) - (1 : Int32))), (.ref a1), (.ref a0)])) rfl rfl (hb hby d8_118) _ ?_
              refine XS.bipush X0.here hx rfl (hb hby d8_119) ?_
              exact k)
          obtain ⟨m129_s0, hm129_s0, pre102⟩ : ∃ (m129_s0 : Int32), m129_s0 = (own_m8_129_s0 ws p2 p3) ∧ own_Pre p e below (s₁.setTop (entryFrame m #[(.ref a0), (.ref a1), (.int p2), (.int p3)] 7)) (s₁.setTop (mkF m 129 #[.val (.ref a0), .val (.ref a1), .val (.int p2), .val (.int p3), .val (.int x4_104), .val (.int x5_17), .unset] [(.int m129_s0), (.ref a0)])) := by
            by_cases hc121 : (ws.getD (((p2 + p3) - (1 : Int32))).toNatClampNeg (0 : Int32)) = (13 : Int32)
            · have pre104 : own_Pre p e below (s₁.setTop (entryFrame m #[(.ref a0), (.ref a1), (.int p2), (.int p3)] 7)) (s₁.setTop (mkF m 129 #[.val (.ref a0), .val (.ref a1), .val (.int p2), .val (.int p3), .val (.int x4_104), .val (.int x5_17), .unset] [(.int (1 : Int32)), (.ref a0)])) := fun t k => pre103 t (by
                  show Steps p.tables e below (s₁.setTop (mkF m 121 #[.val (.ref a0), .val (.ref a1), .val (.int p2), .val (.int p3), .val (.int x4_104), .val (.int x5_17), .unset] [(.int (13 : Int32)), (.int (ws.getD (((p2 + p3) - (1 : Int32))).toNatClampNeg (0 : Int32))), (.ref a0)])) _
                  refine XS.icmpNo X0.here hx rfl (hb hby d8_121) rfl (teq hc121).2 ?_
                  refine XS.iconst X0.here hx rfl (hb hby d8_124) ?_
                  refine XS.goto X0.here hx rfl (pc0 := 125) (pc' := 129) rfl (hb hby d8_125) (by decide) (by decide) ?_
                  exact k)
              refine ⟨_, ?_, pre104⟩
              all_goals (first | (simp only [own_m8_129_s0, if_pos hc121]; done) | (simp [own_m8_129_s0, if_pos hc121]; done))
            · have pre105 : own_Pre p e below (s₁.setTop (entryFrame m #[(.ref a0), (.ref a1), (.int p2), (.int p3)] 7)) (s₁.setTop (mkF m 129 #[.val (.ref a0), .val (.ref a1), .val (.int p2), .val (.int p3), .val (.int x4_104), .val (.int x5_17), .unset] [(.int (0 : Int32)), (.ref a0)])) := fun t k => pre103 t (by
                  show Steps p.tables e below (s₁.setTop (mkF m 121 #[.val (.ref a0), .val (.ref a1), .val (.int p2), .val (.int p3), .val (.int x4_104), .val (.int x5_17), .unset] [(.int (13 : Int32)), (.int (ws.getD (((p2 + p3) - (1 : Int32))).toNatClampNeg (0 : Int32))), (.ref a0)])) _
                  refine XS.icmpYes X0.here hx rfl (pc0 := 121) (pc' := 128) rfl (hb hby d8_121) rfl (feq hc121).2 (by decide) (by decide) ?_
                  refine XS.iconst X0.here hx rfl (hb hby d8_128) ?_
                  exact k)
              refine ⟨_, ?_, pre105⟩
              all_goals (first | (simp only [own_m8_129_s0, if_neg hc121]; done) | (simp [own_m8_129_s0, if_neg hc121]; done))
          obtain ⟨T106, h106, X106, e106, W106, st106⟩ := putFN X0 hx hZ hown (hw _ (List.mem_of_getElem? (i := 47) rfl)) Via.refl e0 F_a0_afterCarriageReturn E_a0 (Or.inl (hw _ (List.mem_of_getElem? (i := 48) rfl))) (hw _ (List.mem_of_getElem? (i := 12) rfl)) (ty := .boolean) (v' := (.int (nar .boolean m129_s0))) (by decide) rfl (fits_nar_bool _) (g := (mkF m 129 #[.val (.ref a0), .val (.ref a1), .val (.int p2), .val (.int p3), .val (.int x4_104), .val (.int x5_17), .unset] [(.int m129_s0), (.ref a0)])) rfl rfl (hb hby d8_129)
          have Fw106 := F_a0_afterCarriageReturn.same W106
          have N106 := Fr.snoc X106 N0 g_a0
          have kp107 : Keep h0 h106 [a0] := (Keep.refl h0 [a0]).wr W106 (Or.inl (List.mem_of_getElem? (i := 0) rfl))
          have f108 := (F_a0_passed.other W106 (Or.inr (slot_ne (Or.inl (hw _ (List.mem_of_getElem? (i := 36) rfl))) (Or.inl (hw _ (List.mem_of_getElem? (i := 48) rfl))) (by decide) (t := .long) (t' := .boolean) (by decide) (by decide))))
          obtain ⟨T109, X109, e109, st109⟩ := getF X106 hx hZ hown (host := "") (Or.inl (hw _ (List.mem_of_getElem? (i := 35) rfl))) Via.refl e106 f108 (g := (mkF m 134 #[.val (.ref a0), .val (.ref a1), .val (.int p2), .val (.int p3), .val (.int x4_104), .val (.int x5_17), .unset] [(.ref a0), (.ref a0)])) rfl rfl (hb hby d8_134)
          have f110 := (E_a0.wr W106)
          obtain ⟨T111, h111, X111, e111, W111, st111⟩ := putF X109 hx hZ hown (host := "") (Or.inl (hw _ (List.mem_of_getElem? (i := 35) rfl))) Via.refl e109 f108 f110 (Or.inl (hw _ (List.mem_of_getElem? (i := 36) rfl))) (hw _ (List.mem_of_getElem? (i := 12) rfl)) (ty := .long) (by decide) rfl rfl (g := (mkF m 140 #[.val (.ref a0), .val (.ref a1), .val (.int p2), .val (.int p3), .val (.int x4_104), .val (.int x5_17), .unset] [(.long (ps + (p3).toInt64)), (.ref a0)])) rfl rfl (hb hby d8_140)
          have Fw111 := f108.same W111
          have N111 := Fr.snoc X111 N106 g_a0
          have kp112 : Keep h0 h111 [a0] := kp107.wr W111 (Or.inl (List.mem_of_getElem? (i := 0) rfl))
          obtain ⟨fs, hr, hrun, hended, hW, hsame⟩ := X111.leave (v := none) (fun _ => rfl)
          refine ⟨_, _, pre102 _ ?_, hrun, hended, _, _, rfl, ?_, ⟨_, rfl⟩, hW, hsame.mono (by decide) (by decide)⟩
          · show Steps p.tables e below (s₁.setTop (mkF m 129 #[.val (.ref a0), .val (.ref a1), .val (.int p2), .val (.int p3), .val (.int x4_104), .val (.int x5_17), .unset] [(.int m129_s0), (.ref a0)])) _
            refine st106 _ ?_
            refine XS.aloadN X106.here hx rfl (hb hby d8_132) rfl rfl ?_
            refine XS.dup X106.here hx rfl (hb hby d8_133) rfl rfl ?_
            refine st109 _ ?_
            refine XS.iloadN X109.here hx rfl (hb hby d8_137) rfl ?_
            show Steps p.tables e below (T109.setTop (mkF m 138 #[.val (.ref a0), .val (.ref a1), .val (.int p2), .val (.int p3), .val (.int x4_104), .val (.int x5_17), .unset] [(.int p3), (.long ps), (.ref a0)])) _
            refine XS.i2l X109.here hx rfl (hb hby d8_138) rfl ?_
            refine XS.ladd X109.here hx rfl (hb hby d8_139) rfl ?_
            refine st111 _ ?_
            show Steps p.tables e below (T111.setTop (mkF m 143 #[.val (.ref a0), .val (.ref a1), .val (.int p2), .val (.int p3), .val (.int x4_104), .val (.int x5_17), .unset] [])) _
            exact X111.returnOut hx Bd.returns (hb hby d8_143) hr
          · show Q8 Z a0 a1 p2 p3 k z ws ln ps ls cr h0 n0 _ T111.heap _
            rw [e111]
            unfold Q8
            have f113 := (f110.wr W111)
            have f114 := ((F_a0_line.other W106 (Or.inr (slot_ne (Or.inl (hw _ (List.mem_of_getElem? (i := 21) rfl))) (Or.inl (hw _ (List.mem_of_getElem? (i := 48) rfl))) (by decide) (t := .int) (t' := .boolean) (by decide) (by decide)))).other W111 (Or.inr (slot_ne (Or.inl (hw _ (List.mem_of_getElem? (i := 21) rfl))) (Or.inl (hw _ (List.mem_of_getElem? (i := 36) rfl))) (by decide) (t := .int) (t' := .long) (by decide) (by decide))))
            have f115 := ((F_a0_lineStart.other W106 (Or.inr (slot_ne (Or.inl (hw _ (List.mem_of_getElem? (i := 38) rfl))) (Or.inl (hw _ (List.mem_of_getElem? (i := 48) rfl))) (by decide) (t := .long) (t' := .boolean) (by decide) (by decide)))).other W111 (Or.inr (slot_ne (Or.inl (hw _ (List.mem_of_getElem? (i := 38) rfl))) (Or.inl (hw _ (List.mem_of_getElem? (i := 36) rfl))) (by decide) (t := .long) (t' := .long) (by decide) (by decide))))
            have f116 := (Fw106.other W111 (Or.inr (slot_ne (Or.inl (hw _ (List.mem_of_getElem? (i := 48) rfl))) (Or.inl (hw _ (List.mem_of_getElem? (i := 36) rfl))) (by decide) (t := .boolean) (t' := .long) (by decide) (by decide))))
            refine ⟨rfl, N111, kp112, f113, ?_, ?_, ?_, ?_⟩
            · rw [show (own_p8_line p2 p3 ws ln cr) = ln from (by subst hm129_s0 hx4_104 hx5_17; simp only [own_p8_line, if_neg hk0, if_pos hk1, if_neg hc21, if_neg hc28])]; exact f114
            · rw [show (own_p8_passed p3 ps) = (ps + (p3).toInt64) from (by subst hm129_s0 hx4_104 hx5_17; simp only [own_p8_passed, if_neg hk0, if_pos hk1, if_neg hc21, if_neg hc28])]; exact Fw111
            · rw [show (own_p8_lineStart p2 p3 ws ps ls) = ls from (by subst hm129_s0 hx4_104 hx5_17; simp only [own_p8_lineStart, if_neg hk0, if_pos hk1, if_neg hc21, if_neg hc28])]; exact f115
            · rw [show (own_p8_afterCarriageReturn p2 p3 ws cr) = (nar .boolean m129_s0) from (by subst hm129_s0 hx4_104 hx5_17; simp only [own_p8_afterCarriageReturn, if_neg hk0, if_pos hk1, if_neg hc21, if_neg hc28])]; exact f116
    · have hk2 : p3 = (2 : Int32) := (hcn.resolve_left hk0).resolve_left hk1
      have hc8 : (p2 < (p2 + p3)) := by exact own_l21 hk2 hrg
      obtain ⟨cl117, Ar117, hin117, hat117⟩ := own_AI.at V_a1 (j := p2) (hi0 (own_pos2 hk2))
      obtain ⟨x5_17, hx5_17, pre118⟩ : ∃ z : Int32, z = (ws.getD (p2).toNatClampNeg (0 : Int32)) ∧ own_Pre p e below (s₁.setTop (entryFrame m #[(.ref a0), (.ref a1), (.int p2), (.int p3)] 7)) (s₁.setTop (mkF m 17 #[.val (.ref a0), .val (.ref a1), .val (.int p2), .val (.int p3), .val (.int p2), .val (.int z), .unset] [])) := ⟨_, rfl, fun t k => pre0 t (by
          show Steps p.tables e below (s₁.setTop (mkF m 0 #[.val (.ref a0), .val (.ref a1), .val (.int p2), .val (.int p3), .unset, .unset, .unset] [])) _
          refine XS.iloadN X0.here hx rfl (hb hby d8_0) rfl ?_
          refine XS.istore X0.here hx rfl (hb hby d8_1) rfl (l' := #[.val (.ref a0), .val (.ref a1), .val (.int p2), .val (.int p3), .val (.int p2), .unset, .unset]) rfl ?_
          refine XS.iload X0.here hx rfl (hb hby d8_3) rfl ?_
          refine XS.iloadN X0.here hx rfl (hb hby d8_5) rfl ?_
          refine XS.iloadN X0.here hx rfl (hb hby d8_6) rfl ?_
          show Steps p.tables e below (s₁.setTop (mkF m 7 #[.val (.ref a0), .val (.ref a1), .val (.int p2), .val (.int p3), .val (.int p2), .unset, .unset] [(.int p3), (.int p2), (.int p2)])) _
          refine XS.iadd X0.here hx rfl (hb hby d8_7) rfl ?_
          refine XS.icmpNo X0.here hx rfl (hb hby d8_8) rfl (tlt hc8).2.1 ?_
          refine XS.aloadN X0.here hx rfl (hb hby d8_11) rfl rfl ?_
          refine XS.iload X0.here hx rfl (hb hby d8_12) rfl ?_
          refine X0.caload hx (j := p2) (v := (.int (ws.getD (p2).toNatClampNeg (0 : Int32)))) (by rw [e0]; exact Ar117.1) (State.isArrayOf_alike hZ.alike Ar117.2.1) Ar117.2.2 hin117 hat117 (g := (mkF m 14 #[.val (.ref a0), .val (.ref a1), .val (.int p2), .val (.int p3), .val (.int p2), .unset, .unset] [(.int p2), (.ref a1)])) rfl rfl (hb hby d8_14) _ ?_
          show Steps p.tables e below (s₁.setTop (mkF m 15 #[.val (.ref a0), .val (.ref a1), .val (.int p2), .val (.int p3), .val (.int p2), .unset, .unset] [(.int (ws.getD (p2).toNatClampNeg (0 : Int32)))])) _
          refine XS.istore X0.here hx rfl (hb hby d8_15) rfl (l' := #[.val (.ref a0), .val (.ref a1), .val (.int p2), .val (.int p3), .val (.int p2), .val (.int (ws.getD (p2).toNatClampNeg (0 : Int32))), .unset]) rfl ?_
          exact k)⟩
      have pre119 : own_Pre p e below (s₁.setTop (entryFrame m #[(.ref a0), (.ref a1), (.int p2), (.int p3)] 7)) (s₁.setTop (mkF m 21 #[.val (.ref a0), .val (.ref a1), .val (.int p2), .val (.int p3), .val (.int p2), .val (.int x5_17), .unset] [(.int (10 : Int32)), (.int x5_17)])) := fun t k => pre118 t (by
          show Steps p.tables e below (s₁.setTop (mkF m 17 #[.val (.ref a0), .val (.ref a1), .val (.int p2), .val (.int p3), .val (.int p2), .val (.int x5_17), .unset] [])) _
          refine XS.iload X0.here hx rfl (hb hby d8_17) rfl ?_
          refine XS.bipush X0.here hx rfl (hb hby d8_19) ?_
          exact k)
      by_cases hc21 : x5_17 = (10 : Int32)
      · have hc34 : ¬ (p2 < p2) := own_irr _
        obtain ⟨T120, X120, e120, st120⟩ := getF X0 hx hZ hown (host := "") (Or.inl (hw _ (List.mem_of_getElem? (i := 47) rfl))) Via.refl e0 F_a0_afterCarriageReturn (g := (mkF m 57 #[.val (.ref a0), .val (.ref a1), .val (.int p2), .val (.int p3), .val (.int p2), .val (.int x5_17), .unset] [(.ref a0)])) rfl rfl (hb hby d8_57)
        have hc66 : ¬ (x5_17 = (13 : Int32)) := by rw [hc21]; decide
        have pre121 : own_Pre p e below (s₁.setTop (entryFrame m #[(.ref a0), (.ref a1), (.int p2), (.int p3)] 7)) (T120.setTop (mkF m 71 #[.val (.ref a0), .val (.ref a1), .val (.int p2), .val (.int p3), .val (.int p2), .val (.int x5_17), .val (.int cr)] [(.int cr)])) := fun t k => pre119 t (by
            show Steps p.tables e below (s₁.setTop (mkF m 21 #[.val (.ref a0), .val (.ref a1), .val (.int p2), .val (.int p3), .val (.int p2), .val (.int x5_17), .unset] [(.int (10 : Int32)), (.int x5_17)])) _
            refine XS.icmpYes X0.here hx rfl (pc0 := 21) (pc' := 31) rfl (hb hby d8_21) rfl (teq hc21).1 (by decide) (by decide) ?_
            refine XS.iload X0.here hx rfl (hb hby d8_31) rfl ?_
            refine XS.iloadN X0.here hx rfl (hb hby d8_33) rfl ?_
            refine XS.icmpYes X0.here hx rfl (pc0 := 34) (pc' := 56) rfl (hb hby d8_34) rfl (flt hc34).2.2.2 (by decide) (by decide) ?_
            refine XS.aloadN X0.here hx rfl (hb hby d8_56) rfl rfl ?_
            show Steps p.tables e below (s₁.setTop (mkF m 57 #[.val (.ref a0), .val (.ref a1), .val (.int p2), .val (.int p3), .val (.int p2), .val (.int x5_17), .unset] [(.ref a0)])) _
            refine st120 _ ?_
            refine XS.istore X120.here hx rfl (hb hby d8_60) rfl (l' := #[.val (.ref a0), .val (.ref a1), .val (.int p2), .val (.int p3), .val (.int p2), .val (.int x5_17), .val (.int cr)]) rfl ?_
            refine XS.iload X120.here hx rfl (hb hby d8_62) rfl ?_
            refine XS.bipush X120.here hx rfl (hb hby d8_64) ?_
            refine XS.icmpNo X120.here hx rfl (hb hby d8_66) rfl (feq hc66).1 ?_
            show Steps p.tables e below (T120.setTop (mkF m 69 #[.val (.ref a0), .val (.ref a1), .val (.int p2), .val (.int p3), .val (.int p2), .val (.int x5_17), .val (.int cr)] [])) _
            refine XS.iload X120.here hx rfl (hb hby d8_69) rfl ?_
            exact k)
        by_cases hc71 : cr = (0 : Int32)
        · obtain ⟨T122, X122, e122, st122⟩ := getF X120 hx hZ hown (host := "") (Or.inl (hw _ (List.mem_of_getElem? (i := 20) rfl))) Via.refl e120 F_a0_line (g := (mkF m 76 #[.val (.ref a0), .val (.ref a1), .val (.int p2), .val (.int p3), .val (.int p2), .val (.int x5_17), .val (.int cr)] [(.ref a0), (.ref a0)])) rfl rfl (hb hby d8_76)
          obtain ⟨T123, h123, X123, e123, W123, st123⟩ := putF X122 hx hZ hown (host := "") (Or.inl (hw _ (List.mem_of_getElem? (i := 20) rfl))) Via.refl e122 F_a0_line E_a0 (Or.inl (hw _ (List.mem_of_getElem? (i := 21) rfl))) (hw _ (List.mem_of_getElem? (i := 12) rfl)) (ty := .int) (by decide) rfl rfl (g := (mkF m 81 #[.val (.ref a0), .val (.ref a1), .val (.int p2), .val (.int p3), .val (.int p2), .val (.int x5_17), .val (.int cr)] [(.int (ln + (1 : Int32))), (.ref a0)])) rfl rfl (hb hby d8_81)
          have Fw123 := F_a0_line.same W123
          have N123 := Fr.snoc X123 N0 g_a0
          have kp124 : Keep h0 h123 [a0] := (Keep.refl h0 [a0]).wr W123 (Or.inl (List.mem_of_getElem? (i := 0) rfl))
          have f125 := (F_a0_passed.other W123 (Or.inr (slot_ne (Or.inl (hw _ (List.mem_of_getElem? (i := 36) rfl))) (Or.inl (hw _ (List.mem_of_getElem? (i := 21) rfl))) (by decide) (t := .long) (t' := .int) (by decide) (by decide))))
          obtain ⟨T126, X126, e126, st126⟩ := getF X123 hx hZ hown (host := "") (Or.inl (hw _ (List.mem_of_getElem? (i := 35) rfl))) Via.refl e123 f125 (g := (mkF m 86 #[.val (.ref a0), .val (.ref a1), .val (.int p2), .val (.int p3), .val (.int p2), .val (.int x5_17), .val (.int cr)] [(.ref a0), (.ref a0)])) rfl rfl (hb hby d8_86)
          have f127 := (E_a0.wr W123)
          have f128 := (F_a0_lineStart.other W123 (Or.inr (slot_ne (Or.inl (hw _ (List.mem_of_getElem? (i := 38) rfl))) (Or.inl (hw _ (List.mem_of_getElem? (i := 21) rfl))) (by decide) (t := .long) (t' := .int) (by decide) (by decide))))
          obtain ⟨T129, h129, X129, e129, W129, st129⟩ := putF X126 hx hZ hown (host := "") (Or.inl (hw _ (List.mem_of_getElem? (i := 37) rfl))) Via.refl e126 f128 f127 (Or.inl (hw _ (List.mem_of_getElem? (i := 38) rfl))) (hw _ (List.mem_of_getElem? (i := 12) rfl)) (ty := .long) (by decide) rfl rfl (g := (mkF m 98 #[.val (.ref a0), .val (.ref a1), .val (.int p2), .val (.int p3), .val (.int p2), .val (.int x5_17), .val (.int cr)] [(.long (((ps + (p2).toInt64) - (p2).toInt64) + (1 : Int64))), (.ref a0)])) rfl rfl (hb hby d8_98)
          have Fw129 := f128.same W129
          have N129 := Fr.snoc X129 N123 g_a0
          have kp130 : Keep h0 h129 [a0] := kp124.wr W129 (Or.inl (List.mem_of_getElem? (i := 0) rfl))
          obtain ⟨x4_104, hx4_104, pre131⟩ : ∃ z : Int32, z = (p2 + (1 : Int32)) ∧ own_Pre p e below (s₁.setTop (entryFrame m #[(.ref a0), (.ref a1), (.int p2), (.int p3)] 7)) (T129.setTop (mkF m 104 #[.val (.ref a0), .val (.ref a1), .val (.int p2), .val (.int p3), .val (.int z), .val (.int x5_17), .val (.int cr)] [])) := ⟨_, rfl, fun t k => pre121 t (by
              show Steps p.tables e below (T120.setTop (mkF m 71 #[.val (.ref a0), .val (.ref a1), .val (.int p2), .val (.int p3), .val (.int p2), .val (.int x5_17), .val (.int cr)] [(.int cr)])) _
              refine XS.ifNo X120.here hx rfl (hb hby d8_71) rfl ((if0 _ _).trans (teq hc71).2) ?_
              refine XS.aloadN X120.here hx rfl (hb hby d8_74) rfl rfl ?_
              refine XS.dup X120.here hx rfl (hb hby d8_75) rfl rfl ?_
              refine st122 _ ?_
              refine XS.iconst X122.here hx rfl (hb hby d8_79) ?_
              show Steps p.tables e below (T122.setTop (mkF m 80 #[.val (.ref a0), .val (.ref a1), .val (.int p2), .val (.int p3), .val (.int p2), .val (.int x5_17), .val (.int cr)] [(.int (1 : Int32)), (.int ln), (.ref a0)])) _
              refine XS.iadd X122.here hx rfl (hb hby d8_80) rfl ?_
              refine st123 _ ?_
              refine XS.aloadN X123.here hx rfl (hb hby d8_84) rfl rfl ?_
              refine XS.aloadN X123.here hx rfl (hb hby d8_85) rfl rfl ?_
              refine st126 _ ?_
              show Steps p.tables e below (T126.setTop (mkF m 89 #[.val (.ref a0), .val (.ref a1), .val (.int p2), .val (.int p3), .val (.int p2), .val (.int x5_17), .val (.int cr)] [(.long ps), (.ref a0)])) _
              refine XS.iload X126.here hx rfl (hb hby d8_89) rfl ?_
              refine XS.i2l X126.here hx rfl (hb hby d8_91) rfl ?_
              refine XS.ladd X126.here hx rfl (hb hby d8_92) rfl ?_
              refine XS.iloadN X126.here hx rfl (hb hby d8_93) rfl ?_
              refine XS.i2l X126.here hx rfl (hb hby d8_94) rfl ?_
              show Steps p.tables e below (T126.setTop (mkF m 95 #[.val (.ref a0), .val (.ref a1), .val (.int p2), .val (.int p3), .val (.int p2), .val (.int x5_17), .val (.int cr)] [(.long (p2).toInt64), (.long (ps + (p2).toInt64)), (.ref a0)])) _
              refine XS.lsub X126.here hx rfl (hb hby d8_95) rfl ?_
              refine XS.lconst X126.here hx rfl (hb hby d8_96) ?_
              refine XS.ladd X126.here hx rfl (hb hby d8_97) rfl ?_
              refine st129 _ ?_
              refine XS.iinc X129.here hx rfl (hb hby d8_101) rfl (l' := #[.val (.ref a0), .val (.ref a1), .val (.int p2), .val (.int p3), .val (.int (p2 + (1 : Int32))), .val (.int x5_17), .val (.int cr)]) rfl ?_
              exact k)⟩
          have hc8_2 : (x4_104 < (p2 + p3)) := by rw [hx4_104]; exact own_l22 hk2 hrg
          have f132 := ((V_a1.other W123 ne_a1_a0).other W129 ne_a1_a0)
          obtain ⟨cl133, Ar133, hin133, hat133⟩ := own_AI.at f132 (j := x4_104) (by rw [hx4_104]; exact hi1 (own_pos22 hk2))
          obtain ⟨x5_17_134, hx5_17_134, pre135⟩ : ∃ z : Int32, z = (ws.getD (x4_104).toNatClampNeg (0 : Int32)) ∧ own_Pre p e below (s₁.setTop (entryFrame m #[(.ref a0), (.ref a1), (.int p2), (.int p3)] 7)) (T129.setTop (mkF m 17 #[.val (.ref a0), .val (.ref a1), .val (.int p2), .val (.int p3), .val (.int x4_104), .val (.int z), .val (.int cr)] [])) := ⟨_, rfl, fun t k => pre131 t (by
              show Steps p.tables e below (T129.setTop (mkF m 104 #[.val (.ref a0), .val (.ref a1), .val (.int p2), .val (.int p3), .val (.int x4_104), .val (.int x5_17), .val (.int cr)] [])) _
              refine XS.goto X129.here hx rfl (pc0 := 104) (pc' := 3) rfl (hb hby d8_104) (by decide) (by decide) ?_
              refine XS.iload X129.here hx rfl (hb hby d8_3) rfl ?_
              refine XS.iloadN X129.here hx rfl (hb hby d8_5) rfl ?_
              refine XS.iloadN X129.here hx rfl (hb hby d8_6) rfl ?_
              refine XS.iadd X129.here hx rfl (hb hby d8_7) rfl ?_
              show Steps p.tables e below (T129.setTop (mkF m 8 #[.val (.ref a0), .val (.ref a1), .val (.int p2), .val (.int p3), .val (.int x4_104), .val (.int x5_17), .val (.int cr)] [(.int (p2 + p3)), (.int x4_104)])) _
              refine XS.icmpNo X129.here hx rfl (hb hby d8_8) rfl (tlt hc8_2).2.1 ?_
              refine XS.aloadN X129.here hx rfl (hb hby d8_11) rfl rfl ?_
              refine XS.iload X129.here hx rfl (hb hby d8_12) rfl ?_
              refine X129.caload hx (j := x4_104) (v := (.int (ws.getD (x4_104).toNatClampNeg (0 : Int32)))) (by rw [e129]; exact Ar133.1) (State.isArrayOf_alike hZ.alike Ar133.2.1) Ar133.2.2 hin133 hat133 (g := (mkF m 14 #[.val (.ref a0), .val (.ref a1), .val (.int p2), .val (.int p3), .val (.int x4_104), .val (.int x5_17), .val (.int cr)] [(.int x4_104), (.ref a1)])) rfl rfl (hb hby d8_14) _ ?_
              refine XS.istore X129.here hx rfl (hb hby d8_15) rfl (l' := #[.val (.ref a0), .val (.ref a1), .val (.int p2), .val (.int p3), .val (.int x4_104), .val (.int (ws.getD (x4_104).toNatClampNeg (0 : Int32))), .val (.int cr)]) rfl ?_
              exact k)⟩
          have pre136 : own_Pre p e below (s₁.setTop (entryFrame m #[(.ref a0), (.ref a1), (.int p2), (.int p3)] 7)) (T129.setTop (mkF m 21 #[.val (.ref a0), .val (.ref a1), .val (.int p2), .val (.int p3), .val (.int x4_104), .val (.int x5_17_134), .val (.int cr)] [(.int (10 : Int32)), (.int x5_17_134)])) := fun t k => pre135 t (by
              show Steps p.tables e below (T129.setTop (mkF m 17 #[.val (.ref a0), .val (.ref a1), .val (.int p2), .val (.int p3), .val (.int x4_104), .val (.int x5_17_134), .val (.int cr)] [])) _
              refine XS.iload X129.here hx rfl (hb hby d8_17) rfl ?_
              refine XS.bipush X129.here hx rfl (hb hby d8_19) ?_
              exact k)
          by_cases hc21_2 : x5_17_134 = (10 : Int32)
          · have hc34_2 : (p2 < x4_104) := by rw [hx4_104]; exact own_l34 hrg
            obtain ⟨cl137, Ar137, hin137, hat137⟩ := own_AI.at f132 (j := (x4_104 - (1 : Int32))) (by rw [hx4_104, own_back]; exact hi0 (own_pos2 hk2))
            have pre140 : own_Pre p e below (s₁.setTop (entryFrame m #[(.ref a0), (.ref a1), (.int p2), (.int p3)] 7)) (T129.setTop (mkF m 45 #[.val (.ref a0), .val (.ref a1), .val (.int p2), .val (.int p3), .val (.int x4_104), .val (.int x5_17_134), .val (.int cr)] [(.int (13 : Int32)), (.int (ws.getD ((x4_104 - (1 : Int32))).toNatClampNeg (0 : Int32)))])) := fun t k => pre136 t (by
                show Steps p.tables e below (T129.setTop (mkF m 21 #[.val (.ref a0), .val (.ref a1), .val (.int p2), .val (.int p3), .val (.int x4_104), .val (.int x5_17_134), .val (.int cr)] [(.int (10 : Int32)), (.int x5_17_134)])) _
                refine XS.icmpYes X129.here hx rfl (pc0 := 21) (pc' := 31) rfl (hb hby d8_21) rfl (teq hc21_2).1 (by decide) (by decide) ?_
                refine XS.iload X129.here hx rfl (hb hby d8_31) rfl ?_
                refine XS.iloadN X129.here hx rfl (hb hby d8_33) rfl ?_
                refine XS.icmpNo X129.here hx rfl (hb hby d8_34) rfl (tlt hc34_2).2.2.2 ?_
                refine XS.aloadN X129.here hx rfl (hb hby d8_37) rfl rfl ?_
                show Steps p.tables e below (T129.setTop (mkF m 38 #[.val (.ref a0), .val (.ref a1), .val (.int p2), .val (.int p3), .val (.int x4_104), .val (.int x5_17_134), .val (.int cr)] [(.ref a1)])) _
                refine XS.iload X129.here hx rfl (hb hby d8_38) rfl ?_
                refine XS.iconst X129.here hx rfl (hb hby d8_40) ?_
                refine XS.isub X129.here hx rfl (hb hby d8_41) rfl ?_
                refine X129.caload hx (j := (x4_104 - (1 : Int32))) (v := (.int (ws.getD ((x4_104 - (1 : Int32))).toNatClampNeg (0 : Int32)))) (by rw [e129]; exact Ar137.1) (State.isArrayOf_alike hZ.alike Ar137.2.1) Ar137.2.2 hin137 hat137 (g := (mkF m 42 #[.val (.ref a0), .val (.ref a1), .val (.int p2), .val (.int p3), .val (.int x4_104), .val (.int x5_17_134), .val (.int cr)] [(.int (x4_104 - (1 : Int32))), (.ref a1)])) rfl rfl (hb hby d8_42) _ ?_
                refine XS.bipush X129.here hx rfl (hb hby d8_43) ?_
                exact k)
            obtain ⟨m60_s0, hm60_s0, pre139⟩ : ∃ (m60_s0 : Int32), m60_s0 = (own_m8_60_s0 ws x4_104) ∧ own_Pre p e below (s₁.setTop (entryFrame m #[(.ref a0), (.ref a1), (.int p2), (.int p3)] 7)) (T129.setTop (mkF m 60 #[.val (.ref a0), .val (.ref a1), .val (.int p2), .val (.int p3), .val (.int x4_104), .val (.int x5_17_134), .val (.int cr)] [(.int m60_s0)])) := by
              by_cases hc45 : (ws.getD ((x4_104 - (1 : Int32))).toNatClampNeg (0 : Int32)) = (13 : Int32)
              · have pre141 : own_Pre p e below (s₁.setTop (entryFrame m #[(.ref a0), (.ref a1), (.int p2), (.int p3)] 7)) (T129.setTop (mkF m 60 #[.val (.ref a0), .val (.ref a1), .val (.int p2), .val (.int p3), .val (.int x4_104), .val (.int x5_17_134), .val (.int cr)] [(.int (1 : Int32))])) := fun t k => pre140 t (by
                    show Steps p.tables e below (T129.setTop (mkF m 45 #[.val (.ref a0), .val (.ref a1), .val (.int p2), .val (.int p3), .val (.int x4_104), .val (.int x5_17_134), .val (.int cr)] [(.int (13 : Int32)), (.int (ws.getD ((x4_104 - (1 : Int32))).toNatClampNeg (0 : Int32)))])) _
                    refine XS.icmpNo X129.here hx rfl (hb hby d8_45) rfl (teq hc45).2 ?_
                    refine XS.iconst X129.here hx rfl (hb hby d8_48) ?_
                    refine XS.goto X129.here hx rfl (pc0 := 49) (pc' := 60) rfl (hb hby d8_49) (by decide) (by decide) ?_
                    exact k)
                refine ⟨_, ?_, pre141⟩
                all_goals (first | (simp only [own_m8_60_s0, if_pos hc45]; done) | (simp [own_m8_60_s0, if_pos hc45]; done))
              · have pre142 : own_Pre p e below (s₁.setTop (entryFrame m #[(.ref a0), (.ref a1), (.int p2), (.int p3)] 7)) (T129.setTop (mkF m 60 #[.val (.ref a0), .val (.ref a1), .val (.int p2), .val (.int p3), .val (.int x4_104), .val (.int x5_17_134), .val (.int cr)] [(.int (0 : Int32))])) := fun t k => pre140 t (by
                    show Steps p.tables e below (T129.setTop (mkF m 45 #[.val (.ref a0), .val (.ref a1), .val (.int p2), .val (.int p3), .val (.int x4_104), .val (.int x5_17_134), .val (.int cr)] [(.int (13 : Int32)), (.int (ws.getD ((x4_104 - (1 : Int32))).toNatClampNeg (0 : Int32)))])) _
                    refine XS.icmpYes X129.here hx rfl (pc0 := 45) (pc' := 52) rfl (hb hby d8_45) rfl (feq hc45).2 (by decide) (by decide) ?_
                    refine XS.iconst X129.here hx rfl (hb hby d8_52) ?_
                    refine XS.goto X129.here hx rfl (pc0 := 53) (pc' := 60) rfl (hb hby d8_53) (by decide) (by decide) ?_
                    exact k)
                refine ⟨_, ?_, pre142⟩
                all_goals (first | (simp only [own_m8_60_s0, if_neg hc45]; done) | (simp [own_m8_60_s0, if_neg hc45]; done))
            have hc66_2 : ¬ (x5_17_134 = (13 : Int32)) := by rw [hc21_2]; decide
            have pre143 : own_Pre p e below (s₁.setTop (entryFrame m #[(.ref a0), (.ref a1), (.int p2), (.int p3)] 7)) (T129.setTop (mkF m 71 #[.val (.ref a0), .val (.ref a1), .val (.int p2), .val (.int p3), .val (.int x4_104), .val (.int x5_17_134), .val (.int m60_s0)] [(.int m60_s0)])) := fun t k => pre139 t (by
                show Steps p.tables e below (T129.setTop (mkF m 60 #[.val (.ref a0), .val (.ref a1), .val (.int p2), .val (.int p3), .val (.int x4_104), .val (.int x5_17_134), .val (.int cr)] [(.int m60_s0)])) _
                refine XS.istore X129.here hx rfl (hb hby d8_60) rfl (l' := #[.val (.ref a0), .val (.ref a1), .val (.int p2), .val (.int p3), .val (.int x4_104), .val (.int x5_17_134), .val (.int m60_s0)]) rfl ?_
                refine XS.iload X129.here hx rfl (hb hby d8_62) rfl ?_
                refine XS.bipush X129.here hx rfl (hb hby d8_64) ?_
                refine XS.icmpNo X129.here hx rfl (hb hby d8_66) rfl (feq hc66_2).1 ?_
                refine XS.iload X129.here hx rfl (hb hby d8_69) rfl ?_
                exact k)
            by_cases hc71_2 : m60_s0 = (0 : Int32)
            · have f144 := (Fw123.other W129 (Or.inr (slot_ne (Or.inl (hw _ (List.mem_of_getElem? (i := 21) rfl))) (Or.inl (hw _ (List.mem_of_getElem? (i := 38) rfl))) (by decide) (t := .int) (t' := .long) (by decide) (by decide))))
              obtain ⟨T145, X145, e145, st145⟩ := getF X129 hx hZ hown (host := "") (Or.inl (hw _ (List.mem_of_getElem? (i := 20) rfl))) Via.refl e129 f144 (g := (mkF m 76 #[.val (.ref a0), .val (.ref a1), .val (.int p2), .val (.int p3), .val (.int x4_104), .val (.int x5_17_134), .val (.int m60_s0)] [(.ref a0), (.ref a0)])) rfl rfl (hb hby d8_76)
              have f146 := (f127.wr W129)
              obtain ⟨T147, h147, X147, e147, W147, st147⟩ := putF X145 hx hZ hown (host := "") (Or.inl (hw _ (List.mem_of_getElem? (i := 20) rfl))) Via.refl e145 f144 f146 (Or.inl (hw _ (List.mem_of_getElem? (i := 21) rfl))) (hw _ (List.mem_of_getElem? (i := 12) rfl)) (ty := .int) (by decide) rfl rfl (g := (mkF m 81 #[.val (.ref a0), .val (.ref a1), .val (.int p2), .val (.int p3), .val (.int x4_104), .val (.int x5_17_134), .val (.int m60_s0)] [(.int ((ln + (1 : Int32)) + (1 : Int32))), (.ref a0)])) rfl rfl (hb hby d8_81)
              have Fw147 := f144.same W147
              have N147 := Fr.snoc X147 N129 g_a0
              have kp148 : Keep h0 h147 [a0] := kp130.wr W147 (Or.inl (List.mem_of_getElem? (i := 0) rfl))
              have f149 := ((f125.other W129 (Or.inr (slot_ne (Or.inl (hw _ (List.mem_of_getElem? (i := 36) rfl))) (Or.inl (hw _ (List.mem_of_getElem? (i := 38) rfl))) (by decide) (t := .long) (t' := .long) (by decide) (by decide)))).other W147 (Or.inr (slot_ne (Or.inl (hw _ (List.mem_of_getElem? (i := 36) rfl))) (Or.inl (hw _ (List.mem_of_getElem? (i := 21) rfl))) (by decide) (t := .long) (t' := .int) (by decide) (by decide))))
              obtain ⟨T150, X150, e150, st150⟩ := getF X147 hx hZ hown (host := "") (Or.inl (hw _ (List.mem_of_getElem? (i := 35) rfl))) Via.refl e147 f149 (g := (mkF m 86 #[.val (.ref a0), .val (.ref a1), .val (.int p2), .val (.int p3), .val (.int x4_104), .val (.int x5_17_134), .val (.int m60_s0)] [(.ref a0), (.ref a0)])) rfl rfl (hb hby d8_86)
              have f151 := (f146.wr W147)
              have f152 := (Fw129.other W147 (Or.inr (slot_ne (Or.inl (hw _ (List.mem_of_getElem? (i := 38) rfl))) (Or.inl (hw _ (List.mem_of_getElem? (i := 21) rfl))) (by decide) (t := .long) (t' := .int) (by decide) (by decide))))
              obtain ⟨T153, h153, X153, e153, W153, st153⟩ := putF X150 hx hZ hown (host := "") (Or.inl (hw _ (List.mem_of_getElem? (i := 37) rfl))) Via.refl e150 f152 f151 (Or.inl (hw _ (List.mem_of_getElem? (i := 38) rfl))) (hw _ (List.mem_of_getElem? (i := 12) rfl)) (ty := .long) (by decide) rfl rfl (g := (mkF m 98 #[.val (.ref a0), .val (.ref a1), .val (.int p2), .val (.int p3), .val (.int x4_104), .val (.int x5_17_134), .val (.int m60_s0)] [(.long (((ps + (x4_104).toInt64) - (p2).toInt64) + (1 : Int64))), (.ref a0)])) rfl rfl (hb hby d8_98)
              have Fw153 := f152.same W153
              have N153 := Fr.snoc X153 N147 g_a0
              have kp154 : Keep h0 h153 [a0] := kp148.wr W153 (Or.inl (List.mem_of_getElem? (i := 0) rfl))
              obtain ⟨x4_104_155, hx4_104_155, pre156⟩ : ∃ z : Int32, z = (x4_104 + (1 : Int32)) ∧ own_Pre p e below (s₁.setTop (entryFrame m #[(.ref a0), (.ref a1), (.int p2), (.int p3)] 7)) (T153.setTop (mkF m 104 #[.val (.ref a0), .val (.ref a1), .val (.int p2), .val (.int p3), .val (.int z), .val (.int x5_17_134), .val (.int m60_s0)] [])) := ⟨_, rfl, fun t k => pre143 t (by
                  show Steps p.tables e below (T129.setTop (mkF m 71 #[.val (.ref a0), .val (.ref a1), .val (.int p2), .val (.int p3), .val (.int x4_104), .val (.int x5_17_134), .val (.int m60_s0)] [(.int m60_s0)])) _
                  refine XS.ifNo X129.here hx rfl (hb hby d8_71) rfl ((if0 _ _).trans (teq hc71_2).2) ?_
                  refine XS.aloadN X129.here hx rfl (hb hby d8_74) rfl rfl ?_
                  refine XS.dup X129.here hx rfl (hb hby d8_75) rfl rfl ?_
                  refine st145 _ ?_
                  refine XS.iconst X145.here hx rfl (hb hby d8_79) ?_
                  show Steps p.tables e below (T145.setTop (mkF m 80 #[.val (.ref a0), .val (.ref a1), .val (.int p2), .val (.int p3), .val (.int x4_104), .val (.int x5_17_134), .val (.int m60_s0)] [(.int (1 : Int32)), (.int (ln + (1 : Int32))), (.ref a0)])) _
                  refine XS.iadd X145.here hx rfl (hb hby d8_80) rfl ?_
                  refine st147 _ ?_
                  refine XS.aloadN X147.here hx rfl (hb hby d8_84) rfl rfl ?_
                  refine XS.aloadN X147.here hx rfl (hb hby d8_85) rfl rfl ?_
                  refine st150 _ ?_
                  show Steps p.tables e below (T150.setTop (mkF m 89 #[.val (.ref a0), .val (.ref a1), .val (.int p2), .val (.int p3), .val (.int x4_104), .val (.int x5_17_134), .val (.int m60_s0)] [(.long ps), (.ref a0)])) _
                  refine XS.iload X150.here hx rfl (hb hby d8_89) rfl ?_
                  refine XS.i2l X150.here hx rfl (hb hby d8_91) rfl ?_
                  refine XS.ladd X150.here hx rfl (hb hby d8_92) rfl ?_
                  refine XS.iloadN X150.here hx rfl (hb hby d8_93) rfl ?_
                  refine XS.i2l X150.here hx rfl (hb hby d8_94) rfl ?_
                  show Steps p.tables e below (T150.setTop (mkF m 95 #[.val (.ref a0), .val (.ref a1), .val (.int p2), .val (.int p3), .val (.int x4_104), .val (.int x5_17_134), .val (.int m60_s0)] [(.long (p2).toInt64), (.long (ps + (x4_104).toInt64)), (.ref a0)])) _
                  refine XS.lsub X150.here hx rfl (hb hby d8_95) rfl ?_
                  refine XS.lconst X150.here hx rfl (hb hby d8_96) ?_
                  refine XS.ladd X150.here hx rfl (hb hby d8_97) rfl ?_
                  refine st153 _ ?_
                  refine XS.iinc X153.here hx rfl (hb hby d8_101) rfl (l' := #[.val (.ref a0), .val (.ref a1), .val (.int p2), .val (.int p3), .val (.int (x4_104 + (1 : Int32))), .val (.int x5_17_134), .val (.int m60_s0)]) rfl ?_
                  exact k)⟩
              have hc8_3 : ¬ (x4_104_155 < (p2 + p3)) := by rw [hx4_104_155, hx4_104]; exact own_l23 hk2 hrg
              have hc108 : ((0 : Int32) < p3) := by rw [hk2]; decide
              have f157 := ((f132.other W147 ne_a1_a0).other W153 ne_a1_a0)
              obtain ⟨cl158, Ar158, hin158, hat158⟩ := own_AI.at f157 (j := ((p2 + p3) - (1 : Int32))) (by rw [hk2, own_back2]; exact hi1 (own_pos22 hk2))
              have pre161 : own_Pre p e below (s₁.setTop (entryFrame m #[(.ref a0), (.ref a1), (.int p2), (.int p3)] 7)) (T153.setTop (mkF m 121 #[.val (.ref a0), .val (.ref a1), .val (.int p2), .val (.int p3), .val (.int x4_104_155), .val (.int x5_17_134), .val (.int m60_s0)] [(.int (13 : Int32)), (.int (ws.getD (((p2 + p3) - (1 : Int32))).toNatClampNeg (0 : Int32))), (.ref a0)])) := fun t k => pre156 t (by
                  show Steps p.tables e below (T153.setTop (mkF m 104 #[.val (.ref a0), .val (.ref a1), .val (.int p2), .val (.int p3), .val (.int x4_104_155), .val (.int x5_17_134), .val (.int m60_s0)] [])) _
                  refine XS.goto X153.here hx rfl (pc0 := 104) (pc' := 3) rfl (hb hby d8_104) (by decide) (by decide) ?_
                  refine XS.iload X153.here hx rfl (hb hby d8_3) rfl ?_
                  refine XS.iloadN X153.here hx rfl (hb hby d8_5) rfl ?_
                  refine XS.iloadN X153.here hx rfl (hb hby d8_6) rfl ?_
                  refine XS.iadd X153.here hx rfl (hb hby d8_7) rfl ?_
                  show Steps p.tables e below (T153.setTop (mkF m 8 #[.val (.ref a0), .val (.ref a1), .val (.int p2), .val (.int p3), .val (.int x4_104_155), .val (.int x5_17_134), .val (.int m60_s0)] [(.int (p2 + p3)), (.int x4_104_155)])) _
                  refine XS.icmpYes X153.here hx rfl (pc0 := 8) (pc' := 107) rfl (hb hby d8_8) rfl (flt hc8_3).2.1 (by decide) (by decide) ?_
                  refine XS.iloadN X153.here hx rfl (hb hby d8_107) rfl ?_
                  refine XS.ifNo X153.here hx rfl (hb hby d8_108) rfl ((if0 _ _).trans (tlt hc108).2.2.2) ?_
                  refine XS.aloadN X153.here hx rfl (hb hby d8_111) rfl rfl ?_
                  refine XS.aloadN X153.here hx rfl (hb hby d8_112) rfl rfl ?_
                  show Steps p.tables e below (T153.setTop (mkF m 113 #[.val (.ref a0), .val (.ref a1), .val (.int p2), .val (.int p3), .val (.int x4_104_155), .val (.int x5_17_134), .val (.int m60_s0)] [(.ref a1), (.ref a0)])) _
                  refine XS.iloadN X153.here hx rfl (hb hby d8_113) rfl ?_
                  refine XS.iloadN X153.here hx rfl (hb hby d8_114) rfl ?_
                  refine XS.iadd X153.here hx rfl (hb hby d8_115) rfl ?_
                  refine XS.iconst X153.here hx rfl (hb hby d8_116) ?_
                  refine XS.isub X153.here hx rfl (hb hby d8_117) rfl ?_
                  show Steps p.tables e below (T153.setTop (mkF m 118 #[.val (.ref a0), .val (.ref a1), .val (.int p2), .val (.int p3), .val (.int x4_104_155), .val (.int x5_17_134), .val (.int m60_s0)] [(.int ((p2 + p3) - (1 : Int32))), (.ref a1), (.ref a0)])) _
                  refine X153.caload hx (j := ((p2 + p3) - (1 : Int32))) (v := (.int (ws.getD (((p2 + p3) - (1 : Int32))).toNatClampNeg (0 : Int32)))) (by rw [e153]; exact Ar158.1) (State.isArrayOf_alike hZ.alike Ar158.2.1) Ar158.2.2 hin158 hat158 (g := (mkF m 118 #[.val (.ref a0), .val (.ref a1), .val (.int p2), .val (.int p3), .val (.int x4_104_155), .val (.int x5_17_134), .val (.int m60_s0)] [(.int ((p2 + p3) - (1 : Int32))), (.ref a1), (.ref a0)])) rfl rfl (hb hby d8_118) _ ?_
                  refine XS.bipush X153.here hx rfl (hb hby d8_119) ?_
                  exact k)
              obtain ⟨m129_s0, hm129_s0, pre160⟩ : ∃ (m129_s0 : Int32), m129_s0 = (own_m8_129_s0 ws p2 p3) ∧ own_Pre p e below (s₁.setTop (entryFrame m #[(.ref a0), (.ref a1), (.int p2), (.int p3)] 7)) (T153.setTop (mkF m 129 #[.val (.ref a0), .val (.ref a1), .val (.int p2), .val (.int p3), .val (.int x4_104_155), .val (.int x5_17_134), .val (.int m60_s0)] [(.int m129_s0), (.ref a0)])) := by
                by_cases hc121 : (ws.getD (((p2 + p3) - (1 : Int32))).toNatClampNeg (0 : Int32)) = (13 : Int32)
                · have pre162 : own_Pre p e below (s₁.setTop (entryFrame m #[(.ref a0), (.ref a1), (.int p2), (.int p3)] 7)) (T153.setTop (mkF m 129 #[.val (.ref a0), .val (.ref a1), .val (.int p2), .val (.int p3), .val (.int x4_104_155), .val (.int x5_17_134), .val (.int m60_s0)] [(.int (1 : Int32)), (.ref a0)])) := fun t k => pre161 t (by
                      show Steps p.tables e below (T153.setTop (mkF m 121 #[.val (.ref a0), .val (.ref a1), .val (.int p2), .val (.int p3), .val (.int x4_104_155), .val (.int x5_17_134), .val (.int m60_s0)] [(.int (13 : Int32)), (.int (ws.getD (((p2 + p3) - (1 : Int32))).toNatClampNeg (0 : Int32))), (.ref a0)])) _
                      refine XS.icmpNo X153.here hx rfl (hb hby d8_121) rfl (teq hc121).2 ?_
                      refine XS.iconst X153.here hx rfl (hb hby d8_124) ?_
                      refine XS.goto X153.here hx rfl (pc0 := 125) (pc' := 129) rfl (hb hby d8_125) (by decide) (by decide) ?_
                      exact k)
                  refine ⟨_, ?_, pre162⟩
                  all_goals (first | (simp only [own_m8_129_s0, if_pos hc121]; done) | (simp [own_m8_129_s0, if_pos hc121]; done))
                · have pre163 : own_Pre p e below (s₁.setTop (entryFrame m #[(.ref a0), (.ref a1), (.int p2), (.int p3)] 7)) (T153.setTop (mkF m 129 #[.val (.ref a0), .val (.ref a1), .val (.int p2), .val (.int p3), .val (.int x4_104_155), .val (.int x5_17_134), .val (.int m60_s0)] [(.int (0 : Int32)), (.ref a0)])) := fun t k => pre161 t (by
                      show Steps p.tables e below (T153.setTop (mkF m 121 #[.val (.ref a0), .val (.ref a1), .val (.int p2), .val (.int p3), .val (.int x4_104_155), .val (.int x5_17_134), .val (.int m60_s0)] [(.int (13 : Int32)), (.int (ws.getD (((p2 + p3) - (1 : Int32))).toNatClampNeg (0 : Int32))), (.ref a0)])) _
                      refine XS.icmpYes X153.here hx rfl (pc0 := 121) (pc' := 128) rfl (hb hby d8_121) rfl (feq hc121).2 (by decide) (by decide) ?_
                      refine XS.iconst X153.here hx rfl (hb hby d8_128) ?_
                      exact k)
                  refine ⟨_, ?_, pre163⟩
                  all_goals (first | (simp only [own_m8_129_s0, if_neg hc121]; done) | (simp [own_m8_129_s0, if_neg hc121]; done))
              have f164 := (f151.wr W153)
              have f165 := ((((F_a0_afterCarriageReturn.other W123 (Or.inr (slot_ne (Or.inl (hw _ (List.mem_of_getElem? (i := 48) rfl))) (Or.inl (hw _ (List.mem_of_getElem? (i := 21) rfl))) (by decide) (t := .boolean) (t' := .int) (by decide) (by decide)))).other W129 (Or.inr (slot_ne (Or.inl (hw _ (List.mem_of_getElem? (i := 48) rfl))) (Or.inl (hw _ (List.mem_of_getElem? (i := 38) rfl))) (by decide) (t := .boolean) (t' := .long) (by decide) (by decide)))).other W147 (Or.inr (slot_ne (Or.inl (hw _ (List.mem_of_getElem? (i := 48) rfl))) (Or.inl (hw _ (List.mem_of_getElem? (i := 21) rfl))) (by decide) (t := .boolean) (t' := .int) (by decide) (by decide)))).other W153 (Or.inr (slot_ne (Or.inl (hw _ (List.mem_of_getElem? (i := 48) rfl))) (Or.inl (hw _ (List.mem_of_getElem? (i := 38) rfl))) (by decide) (t := .boolean) (t' := .long) (by decide) (by decide))))
              obtain ⟨T166, h166, X166, e166, W166, st166⟩ := putFN X153 hx hZ hown (hw _ (List.mem_of_getElem? (i := 47) rfl)) Via.refl e153 f165 f164 (Or.inl (hw _ (List.mem_of_getElem? (i := 48) rfl))) (hw _ (List.mem_of_getElem? (i := 12) rfl)) (ty := .boolean) (v' := (.int (nar .boolean m129_s0))) (by decide) rfl (fits_nar_bool _) (g := (mkF m 129 #[.val (.ref a0), .val (.ref a1), .val (.int p2), .val (.int p3), .val (.int x4_104_155), .val (.int x5_17_134), .val (.int m60_s0)] [(.int m129_s0), (.ref a0)])) rfl rfl (hb hby d8_129)
              have Fw166 := f165.same W166
              have N166 := Fr.snoc X166 N153 g_a0
              have kp167 : Keep h0 h166 [a0] := kp154.wr W166 (Or.inl (List.mem_of_getElem? (i := 0) rfl))
              have f168 := ((f149.other W153 (Or.inr (slot_ne (Or.inl (hw _ (List.mem_of_getElem? (i := 36) rfl))) (Or.inl (hw _ (List.mem_of_getElem? (i := 38) rfl))) (by decide) (t := .long) (t' := .long) (by decide) (by decide)))).other W166 (Or.inr (slot_ne (Or.inl (hw _ (List.mem_of_getElem? (i := 36) rfl))) (Or.inl (hw _ (List.mem_of_getElem? (i := 48) rfl))) (by decide) (t := .long) (t' := .boolean) (by decide) (by decide))))
              obtain ⟨T169, X169, e169, st169⟩ := getF X166 hx hZ hown (host := "") (Or.inl (hw _ (List.mem_of_getElem? (i := 35) rfl))) Via.refl e166 f168 (g := (mkF m 134 #[.val (.ref a0), .val (.ref a1), .val (.int p2), .val (.int p3), .val (.int x4_104_155), .val (.int x5_17_134), .val (.int m60_s0)] [(.ref a0), (.ref a0)])) rfl rfl (hb hby d8_134)
              have f170 := (f164.wr W166)
              obtain ⟨T171, h171, X171, e171, W171, st171⟩ := putF X169 hx hZ hown (host := "") (Or.inl (hw _ (List.mem_of_getElem? (i := 35) rfl))) Via.refl e169 f168 f170 (Or.inl (hw _ (List.mem_of_getElem? (i := 36) rfl))) (hw _ (List.mem_of_getElem? (i := 12) rfl)) (ty := .long) (by decide) rfl rfl (g := (mkF m 140 #[.val (.ref a0), .val (.ref a1), .val (.int p2), .val (.int p3), .val (.int x4_104_155), .val (.int x5_17_134), .val (.int m60_s0)] [(.long (ps + (p3).toInt64)), (.ref a0)])) rfl rfl (hb hby d8_140)
              have Fw171 := f168.same W171
              have N171 := Fr.snoc X171 N166 g_a0
              have kp172 : Keep h0 h171 [a0] := kp167.wr W171 (Or.inl (List.mem_of_getElem? (i := 0) rfl))
              obtain ⟨fs, hr, hrun, hended, hW, hsame⟩ := X171.leave (v := none) (fun _ => rfl)
              refine ⟨_, _, pre160 _ ?_, hrun, hended, _, _, rfl, ?_, ⟨_, rfl⟩, hW, hsame.mono (by decide) (by decide)⟩
              · show Steps p.tables e below (T153.setTop (mkF m 129 #[.val (.ref a0), .val (.ref a1), .val (.int p2), .val (.int p3), .val (.int x4_104_155), .val (.int x5_17_134), .val (.int m60_s0)] [(.int m129_s0), (.ref a0)])) _
                refine st166 _ ?_
                refine XS.aloadN X166.here hx rfl (hb hby d8_132) rfl rfl ?_
                refine XS.dup X166.here hx rfl (hb hby d8_133) rfl rfl ?_
                refine st169 _ ?_
                refine XS.iloadN X169.here hx rfl (hb hby d8_137) rfl ?_
                show Steps p.tables e below (T169.setTop (mkF m 138 #[.val (.ref a0), .val (.ref a1), .val (.int p2), .val (.int p3), .val (.int x4_104_155), .val (.int x5_17_134), .val (.int m60_s0)] [(.int p3), (.long ps), (.ref a0)])) _
                refine XS.i2l X169.here hx rfl (hb hby d8_138) rfl ?_
                refine XS.ladd X169.here hx rfl (hb hby d8_139) rfl ?_
                refine st171 _ ?_
                show Steps p.tables e below (T171.setTop (mkF m 143 #[.val (.ref a0), .val (.ref a1), .val (.int p2), .val (.int p3), .val (.int x4_104_155), .val (.int x5_17_134), .val (.int m60_s0)] [])) _
                exact X171.returnOut hx Bd.returns (hb hby d8_143) hr
              · show Q8 Z a0 a1 p2 p3 k z ws ln ps ls cr h0 n0 _ T171.heap _
                rw [e171]
                unfold Q8
                have f173 := (f170.wr W171)
                have f174 := (((Fw147.other W153 (Or.inr (slot_ne (Or.inl (hw _ (List.mem_of_getElem? (i := 21) rfl))) (Or.inl (hw _ (List.mem_of_getElem? (i := 38) rfl))) (by decide) (t := .int) (t' := .long) (by decide) (by decide)))).other W166 (Or.inr (slot_ne (Or.inl (hw _ (List.mem_of_getElem? (i := 21) rfl))) (Or.inl (hw _ (List.mem_of_getElem? (i := 48) rfl))) (by decide) (t := .int) (t' := .boolean) (by decide) (by decide)))).other W171 (Or.inr (slot_ne (Or.inl (hw _ (List.mem_of_getElem? (i := 21) rfl))) (Or.inl (hw _ (List.mem_of_getElem? (i := 36) rfl))) (by decide) (t := .int) (t' := .long) (by decide) (by decide))))
                have f175 := ((Fw153.other W166 (Or.inr (slot_ne (Or.inl (hw _ (List.mem_of_getElem? (i := 38) rfl))) (Or.inl (hw _ (List.mem_of_getElem? (i := 48) rfl))) (by decide) (t := .long) (t' := .boolean) (by decide) (by decide)))).other W171 (Or.inr (slot_ne (Or.inl (hw _ (List.mem_of_getElem? (i := 38) rfl))) (Or.inl (hw _ (List.mem_of_getElem? (i := 36) rfl))) (by decide) (t := .long) (t' := .long) (by decide) (by decide))))
                have f176 := (Fw166.other W171 (Or.inr (slot_ne (Or.inl (hw _ (List.mem_of_getElem? (i := 48) rfl))) (Or.inl (hw _ (List.mem_of_getElem? (i := 36) rfl))) (by decide) (t := .boolean) (t' := .long) (by decide) (by decide))))
                refine ⟨rfl, N171, kp172, f173, ?_, ?_, ?_, ?_⟩
                · rw [show (own_p8_line p2 p3 ws ln cr) = ((ln + (1 : Int32)) + (1 : Int32)) from (by subst hm129_s0 hx4_104_155 hm60_s0 hx5_17_134 hx4_104 hx5_17; simp only [own_p8_line, if_neg hk0, if_neg hk1, if_pos hc21, if_pos hc71, if_pos hc21_2, if_pos hc71_2])]; exact f174
                · rw [show (own_p8_passed p3 ps) = (ps + (p3).toInt64) from (by subst hm129_s0 hx4_104_155 hm60_s0 hx5_17_134 hx4_104 hx5_17; simp only [own_p8_passed, if_neg hk0, if_neg hk1, if_pos hc21, if_pos hc71, if_pos hc21_2, if_pos hc71_2])]; exact Fw171
                · rw [show (own_p8_lineStart p2 p3 ws ps ls) = (((ps + (x4_104).toInt64) - (p2).toInt64) + (1 : Int64)) from (by subst hm129_s0 hx4_104_155 hm60_s0 hx5_17_134 hx4_104 hx5_17; simp only [own_p8_lineStart, if_neg hk0, if_neg hk1, if_pos hc21, if_pos hc71, if_pos hc21_2, if_pos hc71_2])]; exact f175
                · rw [show (own_p8_afterCarriageReturn p2 p3 ws cr) = (nar .boolean m129_s0) from (by subst hm129_s0 hx4_104_155 hm60_s0 hx5_17_134 hx4_104 hx5_17; simp only [own_p8_afterCarriageReturn, if_neg hk0, if_neg hk1, if_pos hc21, if_pos hc71, if_pos hc21_2, if_pos hc71_2])]; exact f176
            · have f177 := (f125.other W129 (Or.inr (slot_ne (Or.inl (hw _ (List.mem_of_getElem? (i := 36) rfl))) (Or.inl (hw _ (List.mem_of_getElem? (i := 38) rfl))) (by decide) (t := .long) (t' := .long) (by decide) (by decide))))
              obtain ⟨T178, X178, e178, st178⟩ := getF X129 hx hZ hown (host := "") (Or.inl (hw _ (List.mem_of_getElem? (i := 35) rfl))) Via.refl e129 f177 (g := (mkF m 86 #[.val (.ref a0), .val (.ref a1), .val (.int p2), .val (.int p3), .val (.int x4_104), .val (.int x5_17_134), .val (.int m60_s0)] [(.ref a0), (.ref a0)])) rfl rfl (hb hby d8_86)
              have f179 := (f127.wr W129)
              obtain ⟨T180, h180, X180, e180, W180, st180⟩ := putF X178 hx hZ hown (host := "") (Or.inl (hw _ (List.mem_of_getElem? (i := 37) rfl))) Via.refl e178 Fw129 f179 (Or.inl (hw _ (List.mem_of_getElem? (i := 38) rfl))) (hw _ (List.mem_of_getElem? (i := 12) rfl)) (ty := .long) (by decide) rfl rfl (g := (mkF m 98 #[.val (.ref a0), .val (.ref a1), .val (.int p2), .val (.int p3), .val (.int x4_104), .val (.int x5_17_134), .val (.int m60_s0)] [(.long (((ps + (x4_104).toInt64) - (p2).toInt64) + (1 : Int64))), (.ref a0)])) rfl rfl (hb hby d8_98)
              have Fw180 := Fw129.same W180
              have N180 := Fr.snoc X180 N129 g_a0
              have kp181 : Keep h0 h180 [a0] := kp130.wr W180 (Or.inl (List.mem_of_getElem? (i := 0) rfl))
              obtain ⟨x4_104_182, hx4_104_182, pre183⟩ : ∃ z : Int32, z = (x4_104 + (1 : Int32)) ∧ own_Pre p e below (s₁.setTop (entryFrame m #[(.ref a0), (.ref a1), (.int p2), (.int p3)] 7)) (T180.setTop (mkF m 104 #[.val (.ref a0), .val (.ref a1), .val (.int p2), .val (.int p3), .val (.int z), .val (.int x5_17_134), .val (.int m60_s0)] [])) := ⟨_, rfl, fun t k => pre143 t (by
                  show Steps p.tables e below (T129.setTop (mkF m 71 #[.val (.ref a0), .val (.ref a1), .val (.int p2), .val (.int p3), .val (.int x4_104), .val (.int x5_17_134), .val (.int m60_s0)] [(.int m60_s0)])) _
                  refine XS.ifYes X129.here hx rfl (pc0 := 71) (pc' := 84) rfl (hb hby d8_71) rfl ((if0 _ _).trans (feq hc71_2).2) (by decide) (by decide) ?_
                  refine XS.aloadN X129.here hx rfl (hb hby d8_84) rfl rfl ?_
                  refine XS.aloadN X129.here hx rfl (hb hby d8_85) rfl rfl ?_
                  refine st178 _ ?_
                  refine XS.iload X178.here hx rfl (hb hby d8_89) rfl ?_
                  show Steps p.tables e below (T178.setTop (mkF m 91 #[.val (.ref a0), .val (.ref a1), .val (.int p2), .val (.int p3), .val (.int x4_104), .val (.int x5_17_134), .val (.int m60_s0)] [(.int x4_104), (.long ps), (.ref a0)])) _
                  refine XS.i2l X178.here hx rfl (hb hby d8_91) rfl ?_
                  refine XS.ladd X178.here hx rfl (hb hby d8_92) rfl ?_
                  refine XS.iloadN X178.here hx rfl (hb hby d8_93) rfl ?_
                  refine XS.i2l X178.here hx rfl (hb hby d8_94) rfl ?_
                  refine XS.lsub X178.here hx rfl (hb hby d8_95) rfl ?_
                  show Steps p.tables e below (T178.setTop (mkF m 96 #[.val (.ref a0), .val (.ref a1), .val (.int p2), .val (.int p3), .val (.int x4_104), .val (.int x5_17_134), .val (.int m60_s0)] [(.long ((ps + (x4_104).toInt64) - (p2).toInt64)), (.ref a0)])) _
                  refine XS.lconst X178.here hx rfl (hb hby d8_96) ?_
                  refine XS.ladd X178.here hx rfl (hb hby d8_97) rfl ?_
                  refine st180 _ ?_
                  refine XS.iinc X180.here hx rfl (hb hby d8_101) rfl (l' := #[.val (.ref a0), .val (.ref a1), .val (.int p2), .val (.int p3), .val (.int (x4_104 + (1 : Int32))), .val (.int x5_17_134), .val (.int m60_s0)]) rfl ?_
                  exact k)⟩
              have hc8_3 : ¬ (x4_104_182 < (p2 + p3)) := by rw [hx4_104_182, hx4_104]; exact own_l23 hk2 hrg
              have hc108 : ((0 : Int32) < p3) := by rw [hk2]; decide
              have f184 := (f132.other W180 ne_a1_a0)
              obtain ⟨cl185, Ar185, hin185, hat185⟩ := own_AI.at f184 (j := ((p2 + p3) - (1 : Int32))) (by rw [hk2, own_back2]; exact hi1 (own_pos22 hk2))
              have pre188 : own_Pre p e below (s₁.setTop (entryFrame m #[(.ref a0), (.ref a1), (.int p2), (.int p3)] 7)) (T180.setTop (mkF m 121 #[.val (.ref a0), .val (.ref a1), .val (.int p2), .val (.int p3), .val (.int x4_104_182), .val (.int x5_17_134), .val (.int m60_s0)] [(.int (13 : Int32)), (.int (ws.getD (((p2 + p3) - (1 : Int32))).toNatClampNeg (0 : Int32))), (.ref a0)])) := fun t k => pre183 t (by
                  show Steps p.tables e below (T180.setTop (mkF m 104 #[.val (.ref a0), .val (.ref a1), .val (.int p2), .val (.int p3), .val (.int x4_104_182), .val (.int x5_17_134), .val (.int m60_s0)] [])) _
                  refine XS.goto X180.here hx rfl (pc0 := 104) (pc' := 3) rfl (hb hby d8_104) (by decide) (by decide) ?_
                  refine XS.iload X180.here hx rfl (hb hby d8_3) rfl ?_
                  refine XS.iloadN X180.here hx rfl (hb hby d8_5) rfl ?_
                  refine XS.iloadN X180.here hx rfl (hb hby d8_6) rfl ?_
                  refine XS.iadd X180.here hx rfl (hb hby d8_7) rfl ?_
                  show Steps p.tables e below (T180.setTop (mkF m 8 #[.val (.ref a0), .val (.ref a1), .val (.int p2), .val (.int p3), .val (.int x4_104_182), .val (.int x5_17_134), .val (.int m60_s0)] [(.int (p2 + p3)), (.int x4_104_182)])) _
                  refine XS.icmpYes X180.here hx rfl (pc0 := 8) (pc' := 107) rfl (hb hby d8_8) rfl (flt hc8_3).2.1 (by decide) (by decide) ?_
                  refine XS.iloadN X180.here hx rfl (hb hby d8_107) rfl ?_
                  refine XS.ifNo X180.here hx rfl (hb hby d8_108) rfl ((if0 _ _).trans (tlt hc108).2.2.2) ?_
                  refine XS.aloadN X180.here hx rfl (hb hby d8_111) rfl rfl ?_
                  refine XS.aloadN X180.here hx rfl (hb hby d8_112) rfl rfl ?_
                  show Steps p.tables e below (T180.setTop (mkF m 113 #[.val (.ref a0), .val (.ref a1), .val (.int p2), .val (.int p3), .val (.int x4_104_182), .val (.int x5_17_134), .val (.int m60_s0)] [(.ref a1), (.ref a0)])) _
                  refine XS.iloadN X180.here hx rfl (hb hby d8_113) rfl ?_
                  refine XS.iloadN X180.here hx rfl (hb hby d8_114) rfl ?_
                  refine XS.iadd X180.here hx rfl (hb hby d8_115) rfl ?_
                  refine XS.iconst X180.here hx rfl (hb hby d8_116) ?_
                  refine XS.isub X180.here hx rfl (hb hby d8_117) rfl ?_
                  show Steps p.tables e below (T180.setTop (mkF m 118 #[.val (.ref a0), .val (.ref a1), .val (.int p2), .val (.int p3), .val (.int x4_104_182), .val (.int x5_17_134), .val (.int m60_s0)] [(.int ((p2 + p3) - (1 : Int32))), (.ref a1), (.ref a0)])) _
                  refine X180.caload hx (j := ((p2 + p3) - (1 : Int32))) (v := (.int (ws.getD (((p2 + p3) - (1 : Int32))).toNatClampNeg (0 : Int32)))) (by rw [e180]; exact Ar185.1) (State.isArrayOf_alike hZ.alike Ar185.2.1) Ar185.2.2 hin185 hat185 (g := (mkF m 118 #[.val (.ref a0), .val (.ref a1), .val (.int p2), .val (.int p3), .val (.int x4_104_182), .val (.int x5_17_134), .val (.int m60_s0)] [(.int ((p2 + p3) - (1 : Int32))), (.ref a1), (.ref a0)])) rfl rfl (hb hby d8_118) _ ?_
                  refine XS.bipush X180.here hx rfl (hb hby d8_119) ?_
                  exact k)
              obtain ⟨m129_s0, hm129_s0, pre187⟩ : ∃ (m129_s0 : Int32), m129_s0 = (own_m8_129_s0 ws p2 p3) ∧ own_Pre p e below (s₁.setTop (entryFrame m #[(.ref a0), (.ref a1), (.int p2), (.int p3)] 7)) (T180.setTop (mkF m 129 #[.val (.ref a0), .val (.ref a1), .val (.int p2), .val (.int p3), .val (.int x4_104_182), .val (.int x5_17_134), .val (.int m60_s0)] [(.int m129_s0), (.ref a0)])) := by
                by_cases hc121 : (ws.getD (((p2 + p3) - (1 : Int32))).toNatClampNeg (0 : Int32)) = (13 : Int32)
                · have pre189 : own_Pre p e below (s₁.setTop (entryFrame m #[(.ref a0), (.ref a1), (.int p2), (.int p3)] 7)) (T180.setTop (mkF m 129 #[.val (.ref a0), .val (.ref a1), .val (.int p2), .val (.int p3), .val (.int x4_104_182), .val (.int x5_17_134), .val (.int m60_s0)] [(.int (1 : Int32)), (.ref a0)])) := fun t k => pre188 t (by
                      show Steps p.tables e below (T180.setTop (mkF m 121 #[.val (.ref a0), .val (.ref a1), .val (.int p2), .val (.int p3), .val (.int x4_104_182), .val (.int x5_17_134), .val (.int m60_s0)] [(.int (13 : Int32)), (.int (ws.getD (((p2 + p3) - (1 : Int32))).toNatClampNeg (0 : Int32))), (.ref a0)])) _
                      refine XS.icmpNo X180.here hx rfl (hb hby d8_121) rfl (teq hc121).2 ?_
                      refine XS.iconst X180.here hx rfl (hb hby d8_124) ?_
                      refine XS.goto X180.here hx rfl (pc0 := 125) (pc' := 129) rfl (hb hby d8_125) (by decide) (by decide) ?_
                      exact k)
                  refine ⟨_, ?_, pre189⟩
                  all_goals (first | (simp only [own_m8_129_s0, if_pos hc121]; done) | (simp [own_m8_129_s0, if_pos hc121]; done))
                · have pre190 : own_Pre p e below (s₁.setTop (entryFrame m #[(.ref a0), (.ref a1), (.int p2), (.int p3)] 7)) (T180.setTop (mkF m 129 #[.val (.ref a0), .val (.ref a1), .val (.int p2), .val (.int p3), .val (.int x4_104_182), .val (.int x5_17_134), .val (.int m60_s0)] [(.int (0 : Int32)), (.ref a0)])) := fun t k => pre188 t (by
                      show Steps p.tables e below (T180.setTop (mkF m 121 #[.val (.ref a0), .val (.ref a1), .val (.int p2), .val (.int p3), .val (.int x4_104_182), .val (.int x5_17_134), .val (.int m60_s0)] [(.int (13 : Int32)), (.int (ws.getD (((p2 + p3) - (1 : Int32))).toNatClampNeg (0 : Int32))), (.ref a0)])) _
                      refine XS.icmpYes X180.here hx rfl (pc0 := 121) (pc' := 128) rfl (hb hby d8_121) rfl (feq hc121).2 (by decide) (by decide) ?_
                      refine XS.iconst X180.here hx rfl (hb hby d8_128) ?_
                      exact k)
                  refine ⟨_, ?_, pre190⟩
                  all_goals (first | (simp only [own_m8_129_s0, if_neg hc121]; done) | (simp [own_m8_129_s0, if_neg hc121]; done))
              have f191 := (f179.wr W180)
              have f192 := (((F_a0_afterCarriageReturn.other W123 (Or.inr (slot_ne (Or.inl (hw _ (List.mem_of_getElem? (i := 48) rfl))) (Or.inl (hw _ (List.mem_of_getElem? (i := 21) rfl))) (by decide) (t := .boolean) (t' := .int) (by decide) (by decide)))).other W129 (Or.inr (slot_ne (Or.inl (hw _ (List.mem_of_getElem? (i := 48) rfl))) (Or.inl (hw _ (List.mem_of_getElem? (i := 38) rfl))) (by decide) (t := .boolean) (t' := .long) (by decide) (by decide)))).other W180 (Or.inr (slot_ne (Or.inl (hw _ (List.mem_of_getElem? (i := 48) rfl))) (Or.inl (hw _ (List.mem_of_getElem? (i := 38) rfl))) (by decide) (t := .boolean) (t' := .long) (by decide) (by decide))))
              obtain ⟨T193, h193, X193, e193, W193, st193⟩ := putFN X180 hx hZ hown (hw _ (List.mem_of_getElem? (i := 47) rfl)) Via.refl e180 f192 f191 (Or.inl (hw _ (List.mem_of_getElem? (i := 48) rfl))) (hw _ (List.mem_of_getElem? (i := 12) rfl)) (ty := .boolean) (v' := (.int (nar .boolean m129_s0))) (by decide) rfl (fits_nar_bool _) (g := (mkF m 129 #[.val (.ref a0), .val (.ref a1), .val (.int p2), .val (.int p3), .val (.int x4_104_182), .val (.int x5_17_134), .val (.int m60_s0)] [(.int m129_s0), (.ref a0)])) rfl rfl (hb hby d8_129)
              have Fw193 := f192.same W193
              have N193 := Fr.snoc X193 N180 g_a0
              have kp194 : Keep h0 h193 [a0] := kp181.wr W193 (Or.inl (List.mem_of_getElem? (i := 0) rfl))
              have f195 := ((f177.other W180 (Or.inr (slot_ne (Or.inl (hw _ (List.mem_of_getElem? (i := 36) rfl))) (Or.inl (hw _ (List.mem_of_getElem? (i := 38) rfl))) (by decide) (t := .long) (t' := .long) (by decide) (by decide)))).other W193 (Or.inr (slot_ne (Or.inl (hw _ (List.mem_of_getElem? (i := 36) rfl))) (Or.inl (hw _ (List.mem_of_getElem? (i := 48) rfl))) (by decide) (t := .long) (t' := .boolean) (by decide) (by decide))))
              obtain ⟨T196, X196, e196, st196⟩ := getF X193 hx hZ hown (host := "") (Or.inl (hw _ (List.mem_of_getElem? (i := 35) rfl))) Via.refl e193 f195 (g := (mkF m 134 #[.val (.ref a0), .val (.ref a1), .val (.int p2), .val (.int p3), .val (.int x4_104_182), .val (.int x5_17_134), .val (.int m60_s0)] [(.ref a0), (.ref a0)])) rfl rfl (hb hby d8_134)
              have f197 := (f191.wr W193)
              obtain ⟨T198, h198, X198, e198, W198, st198⟩ := putF X196 hx hZ hown (host := "") (Or.inl (hw _ (List.mem_of_getElem? (i := 35) rfl))) Via.refl e196 f195 f197 (Or.inl (hw _ (List.mem_of_getElem? (i := 36) rfl))) (hw _ (List.mem_of_getElem? (i := 12) rfl)) (ty := .long) (by decide) rfl rfl (g := (mkF m 140 #[.val (.ref a0), .val (.ref a1), .val (.int p2), .val (.int p3), .val (.int x4_104_182), .val (.int x5_17_134), .val (.int m60_s0)] [(.long (ps + (p3).toInt64)), (.ref a0)])) rfl rfl (hb hby d8_140)
              have Fw198 := f195.same W198
              have N198 := Fr.snoc X198 N193 g_a0
              have kp199 : Keep h0 h198 [a0] := kp194.wr W198 (Or.inl (List.mem_of_getElem? (i := 0) rfl))
              obtain ⟨fs, hr, hrun, hended, hW, hsame⟩ := X198.leave (v := none) (fun _ => rfl)
              refine ⟨_, _, pre187 _ ?_, hrun, hended, _, _, rfl, ?_, ⟨_, rfl⟩, hW, hsame.mono (by decide) (by decide)⟩
              · show Steps p.tables e below (T180.setTop (mkF m 129 #[.val (.ref a0), .val (.ref a1), .val (.int p2), .val (.int p3), .val (.int x4_104_182), .val (.int x5_17_134), .val (.int m60_s0)] [(.int m129_s0), (.ref a0)])) _
                refine st193 _ ?_
                refine XS.aloadN X193.here hx rfl (hb hby d8_132) rfl rfl ?_
                refine XS.dup X193.here hx rfl (hb hby d8_133) rfl rfl ?_
                refine st196 _ ?_
                refine XS.iloadN X196.here hx rfl (hb hby d8_137) rfl ?_
                show Steps p.tables e below (T196.setTop (mkF m 138 #[.val (.ref a0), .val (.ref a1), .val (.int p2), .val (.int p3), .val (.int x4_104_182), .val (.int x5_17_134), .val (.int m60_s0)] [(.int p3), (.long ps), (.ref a0)])) _
                refine XS.i2l X196.here hx rfl (hb hby d8_138) rfl ?_
                refine XS.ladd X196.here hx rfl (hb hby d8_139) rfl ?_
                refine st198 _ ?_
                show Steps p.tables e below (T198.setTop (mkF m 143 #[.val (.ref a0), .val (.ref a1), .val (.int p2), .val (.int p3), .val (.int x4_104_182), .val (.int x5_17_134), .val (.int m60_s0)] [])) _
                exact X198.returnOut hx Bd.returns (hb hby d8_143) hr
              · show Q8 Z a0 a1 p2 p3 k z ws ln ps ls cr h0 n0 _ T198.heap _
                rw [e198]
                unfold Q8
                have f200 := (f197.wr W198)
                have f201 := ((((Fw123.other W129 (Or.inr (slot_ne (Or.inl (hw _ (List.mem_of_getElem? (i := 21) rfl))) (Or.inl (hw _ (List.mem_of_getElem? (i := 38) rfl))) (by decide) (t := .int) (t' := .long) (by decide) (by decide)))).other W180 (Or.inr (slot_ne (Or.inl (hw _ (List.mem_of_getElem? (i := 21) rfl))) (Or.inl (hw _ (List.mem_of_getElem? (i := 38) rfl))) (by decide) (t := .int) (t' := .long) (by decide) (by decide)))).other W193 (Or.inr (slot_ne (Or.inl (hw _ (List.mem_of_getElem? (i := 21) rfl))) (Or.inl (hw _ (List.mem_of_getElem? (i := 48) rfl))) (by decide) (t := .int) (t' := .boolean) (by decide) (by decide)))).other W198 (Or.inr (slot_ne (Or.inl (hw _ (List.mem_of_getElem? (i := 21) rfl))) (Or.inl (hw _ (List.mem_of_getElem? (i := 36) rfl))) (by decide) (t := .int) (t' := .long) (by decide) (by decide))))
                have f202 := ((Fw180.other W193 (Or.inr (slot_ne (Or.inl (hw _ (List.mem_of_getElem? (i := 38) rfl))) (Or.inl (hw _ (List.mem_of_getElem? (i := 48) rfl))) (by decide) (t := .long) (t' := .boolean) (by decide) (by decide)))).other W198 (Or.inr (slot_ne (Or.inl (hw _ (List.mem_of_getElem? (i := 38) rfl))) (Or.inl (hw _ (List.mem_of_getElem? (i := 36) rfl))) (by decide) (t := .long) (t' := .long) (by decide) (by decide))))
                have f203 := (Fw193.other W198 (Or.inr (slot_ne (Or.inl (hw _ (List.mem_of_getElem? (i := 48) rfl))) (Or.inl (hw _ (List.mem_of_getElem? (i := 36) rfl))) (by decide) (t := .boolean) (t' := .long) (by decide) (by decide))))
                refine ⟨rfl, N198, kp199, f200, ?_, ?_, ?_, ?_⟩
                · rw [show (own_p8_line p2 p3 ws ln cr) = (ln + (1 : Int32)) from (by subst hm129_s0 hx4_104_182 hm60_s0 hx5_17_134 hx4_104 hx5_17; simp only [own_p8_line, if_neg hk0, if_neg hk1, if_pos hc21, if_pos hc71, if_pos hc21_2, if_neg hc71_2])]; exact f201
                · rw [show (own_p8_passed p3 ps) = (ps + (p3).toInt64) from (by subst hm129_s0 hx4_104_182 hm60_s0 hx5_17_134 hx4_104 hx5_17; simp only [own_p8_passed, if_neg hk0, if_neg hk1, if_pos hc21, if_pos hc71, if_pos hc21_2, if_neg hc71_2])]; exact Fw198
                · rw [show (own_p8_lineStart p2 p3 ws ps ls) = (((ps + (x4_104).toInt64) - (p2).toInt64) + (1 : Int64)) from (by subst hm129_s0 hx4_104_182 hm60_s0 hx5_17_134 hx4_104 hx5_17; simp only [own_p8_lineStart, if_neg hk0, if_neg hk1, if_pos hc21, if_pos hc71, if_pos hc21_2, if_neg hc71_2])]; exact f202
                · rw [show (own_p8_afterCarriageReturn p2 p3 ws cr) = (nar .boolean m129_s0) from (by subst hm129_s0 hx4_104_182 hm60_s0 hx5_17_134 hx4_104 hx5_17; simp only [own_p8_afterCarriageReturn, if_neg hk0, if_neg hk1, if_pos hc21, if_pos hc71, if_pos hc21_2, if_neg hc71_2])]; exact f203
          · have pre204 : own_Pre p e below (s₁.setTop (entryFrame m #[(.ref a0), (.ref a1), (.int p2), (.int p3)] 7)) (T129.setTop (mkF m 28 #[.val (.ref a0), .val (.ref a1), .val (.int p2), .val (.int p3), .val (.int x4_104), .val (.int x5_17_134), .val (.int cr)] [(.int (13 : Int32)), (.int x5_17_134)])) := fun t k => pre136 t (by
                show Steps p.tables e below (T129.setTop (mkF m 21 #[.val (.ref a0), .val (.ref a1), .val (.int p2), .val (.int p3), .val (.int x4_104), .val (.int x5_17_134), .val (.int cr)] [(.int (10 : Int32)), (.int x5_17_134)])) _
                refine XS.icmpNo X129.here hx rfl (hb hby d8_21) rfl (feq hc21_2).1 ?_
                refine XS.iload X129.here hx rfl (hb hby d8_24) rfl ?_
                refine XS.bipush X129.here hx rfl (hb hby d8_26) ?_
                exact k)
            by_cases hc28 : x5_17_134 = (13 : Int32)
            · have hc34_2 : (p2 < x4_104) := by rw [hx4_104]; exact own_l34 hrg
              obtain ⟨cl205, Ar205, hin205, hat205⟩ := own_AI.at f132 (j := (x4_104 - (1 : Int32))) (by rw [hx4_104, own_back]; exact hi0 (own_pos2 hk2))
              have pre208 : own_Pre p e below (s₁.setTop (entryFrame m #[(.ref a0), (.ref a1), (.int p2), (.int p3)] 7)) (T129.setTop (mkF m 45 #[.val (.ref a0), .val (.ref a1), .val (.int p2), .val (.int p3), .val (.int x4_104), .val (.int x5_17_134), .val (.int cr)] [(.int (13 : Int32)), (.int (ws.getD ((x4_104 - (1 : Int32))).toNatClampNeg (0 : Int32)))])) := fun t k => pre204 t (by
                  show Steps p.tables e below (T129.setTop (mkF m 28 #[.val (.ref a0), .val (.ref a1), .val (.int p2), .val (.int p3), .val (.int x4_104), .val (.int x5_17_134), .val (.int cr)] [(.int (13 : Int32)), (.int x5_17_134)])) _
                  refine XS.icmpNo X129.here hx rfl (hb hby d8_28) rfl (teq hc28).2 ?_
                  refine XS.iload X129.here hx rfl (hb hby d8_31) rfl ?_
                  refine XS.iloadN X129.here hx rfl (hb hby d8_33) rfl ?_
                  refine XS.icmpNo X129.here hx rfl (hb hby d8_34) rfl (tlt hc34_2).2.2.2 ?_
                  refine XS.aloadN X129.here hx rfl (hb hby d8_37) rfl rfl ?_
                  show Steps p.tables e below (T129.setTop (mkF m 38 #[.val (.ref a0), .val (.ref a1), .val (.int p2), .val (.int p3), .val (.int x4_104), .val (.int x5_17_134), .val (.int cr)] [(.ref a1)])) _
                  refine XS.iload X129.here hx rfl (hb hby d8_38) rfl ?_
                  refine XS.iconst X129.here hx rfl (hb hby d8_40) ?_
                  refine XS.isub X129.here hx rfl (hb hby d8_41) rfl ?_
                  refine X129.caload hx (j := (x4_104 - (1 : Int32))) (v := (.int (ws.getD ((x4_104 - (1 : Int32))).toNatClampNeg (0 : Int32)))) (by rw [e129]; exact Ar205.1) (State.isArrayOf_alike hZ.alike Ar205.2.1) Ar205.2.2 hin205 hat205 (g := (mkF m 42 #[.val (.ref a0), .val (.ref a1), .val (.int p2), .val (.int p3), .val (.int x4_104), .val (.int x5_17_134), .val (.int cr)] [(.int (x4_104 - (1 : Int32))), (.ref a1)])) rfl rfl (hb hby d8_42) _ ?_
                  refine XS.bipush X129.here hx rfl (hb hby d8_43) ?_
                  exact k)
              obtain ⟨m60_s0, hm60_s0, pre207⟩ : ∃ (m60_s0 : Int32), m60_s0 = (own_m8_60_s0 ws x4_104) ∧ own_Pre p e below (s₁.setTop (entryFrame m #[(.ref a0), (.ref a1), (.int p2), (.int p3)] 7)) (T129.setTop (mkF m 60 #[.val (.ref a0), .val (.ref a1), .val (.int p2), .val (.int p3), .val (.int x4_104), .val (.int x5_17_134), .val (.int cr)] [(.int m60_s0)])) := by
                by_cases hc45 : (ws.getD ((x4_104 - (1 : Int32))).toNatClampNeg (0 : Int32)) = (13 : Int32)
                · have pre209 : own_Pre p e below (s₁.setTop (entryFrame m #[(.ref a0), (.ref a1), (.int p2), (.int p3)] 7)) (T129.setTop (mkF m 60 #[.val (.ref a0), .val (.ref a1), .val (.int p2), .val (.int p3), .val (.int x4_104), .val (.int x5_17_134), .val (.int cr)] [(.int (1 : Int32))])) := fun t k => pre208 t (by
                      show Steps p.tables e below (T129.setTop (mkF m 45 #[.val (.ref a0), .val (.ref a1), .val (.int p2), .val (.int p3), .val (.int x4_104), .val (.int x5_17_134), .val (.int cr)] [(.int (13 : Int32)), (.int (ws.getD ((x4_104 - (1 : Int32))).toNatClampNeg (0 : Int32)))])) _
                      refine XS.icmpNo X129.here hx rfl (hb hby d8_45) rfl (teq hc45).2 ?_
                      refine XS.iconst X129.here hx rfl (hb hby d8_48) ?_
                      refine XS.goto X129.here hx rfl (pc0 := 49) (pc' := 60) rfl (hb hby d8_49) (by decide) (by decide) ?_
                      exact k)
                  refine ⟨_, ?_, pre209⟩
                  all_goals (first | (simp only [own_m8_60_s0, if_pos hc45]; done) | (simp [own_m8_60_s0, if_pos hc45]; done))
                · have pre210 : own_Pre p e below (s₁.setTop (entryFrame m #[(.ref a0), (.ref a1), (.int p2), (.int p3)] 7)) (T129.setTop (mkF m 60 #[.val (.ref a0), .val (.ref a1), .val (.int p2), .val (.int p3), .val (.int x4_104), .val (.int x5_17_134), .val (.int cr)] [(.int (0 : Int32))])) := fun t k => pre208 t (by
                      show Steps p.tables e below (T129.setTop (mkF m 45 #[.val (.ref a0), .val (.ref a1), .val (.int p2), .val (.int p3), .val (.int x4_104), .val (.int x5_17_134), .val (.int cr)] [(.int (13 : Int32)), (.int (ws.getD ((x4_104 - (1 : Int32))).toNatClampNeg (0 : Int32)))])) _
                      refine XS.icmpYes X129.here hx rfl (pc0 := 45) (pc' := 52) rfl (hb hby d8_45) rfl (feq hc45).2 (by decide) (by decide) ?_
                      refine XS.iconst X129.here hx rfl (hb hby d8_52) ?_
                      refine XS.goto X129.here hx rfl (pc0 := 53) (pc' := 60) rfl (hb hby d8_53) (by decide) (by decide) ?_
                      exact k)
                  refine ⟨_, ?_, pre210⟩
                  all_goals (first | (simp only [own_m8_60_s0, if_neg hc45]; done) | (simp [own_m8_60_s0, if_neg hc45]; done))
              have hc66_2 : (x5_17_134 = (13 : Int32)) := hc28
              have f211 := (Fw123.other W129 (Or.inr (slot_ne (Or.inl (hw _ (List.mem_of_getElem? (i := 21) rfl))) (Or.inl (hw _ (List.mem_of_getElem? (i := 38) rfl))) (by decide) (t := .int) (t' := .long) (by decide) (by decide))))
              obtain ⟨T212, X212, e212, st212⟩ := getF X129 hx hZ hown (host := "") (Or.inl (hw _ (List.mem_of_getElem? (i := 20) rfl))) Via.refl e129 f211 (g := (mkF m 76 #[.val (.ref a0), .val (.ref a1), .val (.int p2), .val (.int p3), .val (.int x4_104), .val (.int x5_17_134), .val (.int m60_s0)] [(.ref a0), (.ref a0)])) rfl rfl (hb hby d8_76)
              have f213 := (f127.wr W129)
              obtain ⟨T214, h214, X214, e214, W214, st214⟩ := putF X212 hx hZ hown (host := "") (Or.inl (hw _ (List.mem_of_getElem? (i := 20) rfl))) Via.refl e212 f211 f213 (Or.inl (hw _ (List.mem_of_getElem? (i := 21) rfl))) (hw _ (List.mem_of_getElem? (i := 12) rfl)) (ty := .int) (by decide) rfl rfl (g := (mkF m 81 #[.val (.ref a0), .val (.ref a1), .val (.int p2), .val (.int p3), .val (.int x4_104), .val (.int x5_17_134), .val (.int m60_s0)] [(.int ((ln + (1 : Int32)) + (1 : Int32))), (.ref a0)])) rfl rfl (hb hby d8_81)
              have Fw214 := f211.same W214
              have N214 := Fr.snoc X214 N129 g_a0
              have kp215 : Keep h0 h214 [a0] := kp130.wr W214 (Or.inl (List.mem_of_getElem? (i := 0) rfl))
              have f216 := ((f125.other W129 (Or.inr (slot_ne (Or.inl (hw _ (List.mem_of_getElem? (i := 36) rfl))) (Or.inl (hw _ (List.mem_of_getElem? (i := 38) rfl))) (by decide) (t := .long) (t' := .long) (by decide) (by decide)))).other W214 (Or.inr (slot_ne (Or.inl (hw _ (List.mem_of_getElem? (i := 36) rfl))) (Or.inl (hw _ (List.mem_of_getElem? (i := 21) rfl))) (by decide) (t := .long) (t' := .int) (by decide) (by decide))))
              obtain ⟨T217, X217, e217, st217⟩ := getF X214 hx hZ hown (host := "") (Or.inl (hw _ (List.mem_of_getElem? (i := 35) rfl))) Via.refl e214 f216 (g := (mkF m 86 #[.val (.ref a0), .val (.ref a1), .val (.int p2), .val (.int p3), .val (.int x4_104), .val (.int x5_17_134), .val (.int m60_s0)] [(.ref a0), (.ref a0)])) rfl rfl (hb hby d8_86)
              have f218 := (f213.wr W214)
              have f219 := (Fw129.other W214 (Or.inr (slot_ne (Or.inl (hw _ (List.mem_of_getElem? (i := 38) rfl))) (Or.inl (hw _ (List.mem_of_getElem? (i := 21) rfl))) (by decide) (t := .long) (t' := .int) (by decide) (by decide))))
              obtain ⟨T220, h220, X220, e220, W220, st220⟩ := putF X217 hx hZ hown (host := "") (Or.inl (hw _ (List.mem_of_getElem? (i := 37) rfl))) Via.refl e217 f219 f218 (Or.inl (hw _ (List.mem_of_getElem? (i := 38) rfl))) (hw _ (List.mem_of_getElem? (i := 12) rfl)) (ty := .long) (by decide) rfl rfl (g := (mkF m 98 #[.val (.ref a0), .val (.ref a1), .val (.int p2), .val (.int p3), .val (.int x4_104), .val (.int x5_17_134), .val (.int m60_s0)] [(.long (((ps + (x4_104).toInt64) - (p2).toInt64) + (1 : Int64))), (.ref a0)])) rfl rfl (hb hby d8_98)
              have Fw220 := f219.same W220
              have N220 := Fr.snoc X220 N214 g_a0
              have kp221 : Keep h0 h220 [a0] := kp215.wr W220 (Or.inl (List.mem_of_getElem? (i := 0) rfl))
              obtain ⟨x4_104_222, hx4_104_222, pre223⟩ : ∃ z : Int32, z = (x4_104 + (1 : Int32)) ∧ own_Pre p e below (s₁.setTop (entryFrame m #[(.ref a0), (.ref a1), (.int p2), (.int p3)] 7)) (T220.setTop (mkF m 104 #[.val (.ref a0), .val (.ref a1), .val (.int p2), .val (.int p3), .val (.int z), .val (.int x5_17_134), .val (.int m60_s0)] [])) := ⟨_, rfl, fun t k => pre207 t (by
                  show Steps p.tables e below (T129.setTop (mkF m 60 #[.val (.ref a0), .val (.ref a1), .val (.int p2), .val (.int p3), .val (.int x4_104), .val (.int x5_17_134), .val (.int cr)] [(.int m60_s0)])) _
                  refine XS.istore X129.here hx rfl (hb hby d8_60) rfl (l' := #[.val (.ref a0), .val (.ref a1), .val (.int p2), .val (.int p3), .val (.int x4_104), .val (.int x5_17_134), .val (.int m60_s0)]) rfl ?_
                  refine XS.iload X129.here hx rfl (hb hby d8_62) rfl ?_
                  refine XS.bipush X129.here hx rfl (hb hby d8_64) ?_
                  refine XS.icmpYes X129.here hx rfl (pc0 := 66) (pc' := 74) rfl (hb hby d8_66) rfl (teq hc66_2).1 (by decide) (by decide) ?_
                  refine XS.aloadN X129.here hx rfl (hb hby d8_74) rfl rfl ?_
                  show Steps p.tables e below (T129.setTop (mkF m 75 #[.val (.ref a0), .val (.ref a1), .val (.int p2), .val (.int p3), .val (.int x4_104), .val (.int x5_17_134), .val (.int m60_s0)] [(.ref a0)])) _
                  refine XS.dup X129.here hx rfl (hb hby d8_75) rfl rfl ?_
                  refine st212 _ ?_
                  refine XS.iconst X212.here hx rfl (hb hby d8_79) ?_
                  refine XS.iadd X212.here hx rfl (hb hby d8_80) rfl ?_
                  refine st214 _ ?_
                  show Steps p.tables e below (T214.setTop (mkF m 84 #[.val (.ref a0), .val (.ref a1), .val (.int p2), .val (.int p3), .val (.int x4_104), .val (.int x5_17_134), .val (.int m60_s0)] [])) _
                  refine XS.aloadN X214.here hx rfl (hb hby d8_84) rfl rfl ?_
                  refine XS.aloadN X214.here hx rfl (hb hby d8_85) rfl rfl ?_
                  refine st217 _ ?_
                  refine XS.iload X217.here hx rfl (hb hby d8_89) rfl ?_
                  refine XS.i2l X217.here hx rfl (hb hby d8_91) rfl ?_
                  show Steps p.tables e below (T217.setTop (mkF m 92 #[.val (.ref a0), .val (.ref a1), .val (.int p2), .val (.int p3), .val (.int x4_104), .val (.int x5_17_134), .val (.int m60_s0)] [(.long (x4_104).toInt64), (.long ps), (.ref a0)])) _
                  refine XS.ladd X217.here hx rfl (hb hby d8_92) rfl ?_
                  refine XS.iloadN X217.here hx rfl (hb hby d8_93) rfl ?_
                  refine XS.i2l X217.here hx rfl (hb hby d8_94) rfl ?_
                  refine XS.lsub X217.here hx rfl (hb hby d8_95) rfl ?_
                  refine XS.lconst X217.here hx rfl (hb hby d8_96) ?_
                  show Steps p.tables e below (T217.setTop (mkF m 97 #[.val (.ref a0), .val (.ref a1), .val (.int p2), .val (.int p3), .val (.int x4_104), .val (.int x5_17_134), .val (.int m60_s0)] [(.long (1 : Int64)), (.long ((ps + (x4_104).toInt64) - (p2).toInt64)), (.ref a0)])) _
                  refine XS.ladd X217.here hx rfl (hb hby d8_97) rfl ?_
                  refine st220 _ ?_
                  refine XS.iinc X220.here hx rfl (hb hby d8_101) rfl (l' := #[.val (.ref a0), .val (.ref a1), .val (.int p2), .val (.int p3), .val (.int (x4_104 + (1 : Int32))), .val (.int x5_17_134), .val (.int m60_s0)]) rfl ?_
                  exact k)⟩
              have hc8_3 : ¬ (x4_104_222 < (p2 + p3)) := by rw [hx4_104_222, hx4_104]; exact own_l23 hk2 hrg
              have hc108 : ((0 : Int32) < p3) := by rw [hk2]; decide
              have f224 := ((f132.other W214 ne_a1_a0).other W220 ne_a1_a0)
              obtain ⟨cl225, Ar225, hin225, hat225⟩ := own_AI.at f224 (j := ((p2 + p3) - (1 : Int32))) (by rw [hk2, own_back2]; exact hi1 (own_pos22 hk2))
              have pre228 : own_Pre p e below (s₁.setTop (entryFrame m #[(.ref a0), (.ref a1), (.int p2), (.int p3)] 7)) (T220.setTop (mkF m 121 #[.val (.ref a0), .val (.ref a1), .val (.int p2), .val (.int p3), .val (.int x4_104_222), .val (.int x5_17_134), .val (.int m60_s0)] [(.int (13 : Int32)), (.int (ws.getD (((p2 + p3) - (1 : Int32))).toNatClampNeg (0 : Int32))), (.ref a0)])) := fun t k => pre223 t (by
                  show Steps p.tables e below (T220.setTop (mkF m 104 #[.val (.ref a0), .val (.ref a1), .val (.int p2), .val (.int p3), .val (.int x4_104_222), .val (.int x5_17_134), .val (.int m60_s0)] [])) _
                  refine XS.goto X220.here hx rfl (pc0 := 104) (pc' := 3) rfl (hb hby d8_104) (by decide) (by decide) ?_
                  refine XS.iload X220.here hx rfl (hb hby d8_3) rfl ?_
                  refine XS.iloadN X220.here hx rfl (hb hby d8_5) rfl ?_
                  refine XS.iloadN X220.here hx rfl (hb hby d8_6) rfl ?_
                  refine XS.iadd X220.here hx rfl (hb hby d8_7) rfl ?_
                  show Steps p.tables e below (T220.setTop (mkF m 8 #[.val (.ref a0), .val (.ref a1), .val (.int p2), .val (.int p3), .val (.int x4_104_222), .val (.int x5_17_134), .val (.int m60_s0)] [(.int (p2 + p3)), (.int x4_104_222)])) _
                  refine XS.icmpYes X220.here hx rfl (pc0 := 8) (pc' := 107) rfl (hb hby d8_8) rfl (flt hc8_3).2.1 (by decide) (by decide) ?_
                  refine XS.iloadN X220.here hx rfl (hb hby d8_107) rfl ?_
                  refine XS.ifNo X220.here hx rfl (hb hby d8_108) rfl ((if0 _ _).trans (tlt hc108).2.2.2) ?_
                  refine XS.aloadN X220.here hx rfl (hb hby d8_111) rfl rfl ?_
                  refine XS.aloadN X220.here hx rfl (hb hby d8_112) rfl rfl ?_
                  show Steps p.tables e below (T220.setTop (mkF m 113 #[.val (.ref a0), .val (.ref a1), .val (.int p2), .val (.int p3), .val (.int x4_104_222), .val (.int x5_17_134), .val (.int m60_s0)] [(.ref a1), (.ref a0)])) _
                  refine XS.iloadN X220.here hx rfl (hb hby d8_113) rfl ?_
                  refine XS.iloadN X220.here hx rfl (hb hby d8_114) rfl ?_
                  refine XS.iadd X220.here hx rfl (hb hby d8_115) rfl ?_
                  refine XS.iconst X220.here hx rfl (hb hby d8_116) ?_
                  refine XS.isub X220.here hx rfl (hb hby d8_117) rfl ?_
                  show Steps p.tables e below (T220.setTop (mkF m 118 #[.val (.ref a0), .val (.ref a1), .val (.int p2), .val (.int p3), .val (.int x4_104_222), .val (.int x5_17_134), .val (.int m60_s0)] [(.int ((p2 + p3) - (1 : Int32))), (.ref a1), (.ref a0)])) _
                  refine X220.caload hx (j := ((p2 + p3) - (1 : Int32))) (v := (.int (ws.getD (((p2 + p3) - (1 : Int32))).toNatClampNeg (0 : Int32)))) (by rw [e220]; exact Ar225.1) (State.isArrayOf_alike hZ.alike Ar225.2.1) Ar225.2.2 hin225 hat225 (g := (mkF m 118 #[.val (.ref a0), .val (.ref a1), .val (.int p2), .val (.int p3), .val (.int x4_104_222), .val (.int x5_17_134), .val (.int m60_s0)] [(.int ((p2 + p3) - (1 : Int32))), (.ref a1), (.ref a0)])) rfl rfl (hb hby d8_118) _ ?_
                  refine XS.bipush X220.here hx rfl (hb hby d8_119) ?_
                  exact k)
              obtain ⟨m129_s0, hm129_s0, pre227⟩ : ∃ (m129_s0 : Int32), m129_s0 = (own_m8_129_s0 ws p2 p3) ∧ own_Pre p e below (s₁.setTop (entryFrame m #[(.ref a0), (.ref a1), (.int p2), (.int p3)] 7)) (T220.setTop (mkF m 129 #[.val (.ref a0), .val (.ref a1), .val (.int p2), .val (.int p3), .val (.int x4_104_222), .val (.int x5_17_134), .val (.int m60_s0)] [(.int m129_s0), (.ref a0)])) := by
                by_cases hc121 : (ws.getD (((p2 + p3) - (1 : Int32))).toNatClampNeg (0 : Int32)) = (13 : Int32)
                · have pre229 : own_Pre p e below (s₁.setTop (entryFrame m #[(.ref a0), (.ref a1), (.int p2), (.int p3)] 7)) (T220.setTop (mkF m 129 #[.val (.ref a0), .val (.ref a1), .val (.int p2), .val (.int p3), .val (.int x4_104_222), .val (.int x5_17_134), .val (.int m60_s0)] [(.int (1 : Int32)), (.ref a0)])) := fun t k => pre228 t (by
                      show Steps p.tables e below (T220.setTop (mkF m 121 #[.val (.ref a0), .val (.ref a1), .val (.int p2), .val (.int p3), .val (.int x4_104_222), .val (.int x5_17_134), .val (.int m60_s0)] [(.int (13 : Int32)), (.int (ws.getD (((p2 + p3) - (1 : Int32))).toNatClampNeg (0 : Int32))), (.ref a0)])) _
                      refine XS.icmpNo X220.here hx rfl (hb hby d8_121) rfl (teq hc121).2 ?_
                      refine XS.iconst X220.here hx rfl (hb hby d8_124) ?_
                      refine XS.goto X220.here hx rfl (pc0 := 125) (pc' := 129) rfl (hb hby d8_125) (by decide) (by decide) ?_
                      exact k)
                  refine ⟨_, ?_, pre229⟩
                  all_goals (first | (simp only [own_m8_129_s0, if_pos hc121]; done) | (simp [own_m8_129_s0, if_pos hc121]; done))
                · have pre230 : own_Pre p e below (s₁.setTop (entryFrame m #[(.ref a0), (.ref a1), (.int p2), (.int p3)] 7)) (T220.setTop (mkF m 129 #[.val (.ref a0), .val (.ref a1), .val (.int p2), .val (.int p3), .val (.int x4_104_222), .val (.int x5_17_134), .val (.int m60_s0)] [(.int (0 : Int32)), (.ref a0)])) := fun t k => pre228 t (by
                      show Steps p.tables e below (T220.setTop (mkF m 121 #[.val (.ref a0), .val (.ref a1), .val (.int p2), .val (.int p3), .val (.int x4_104_222), .val (.int x5_17_134), .val (.int m60_s0)] [(.int (13 : Int32)), (.int (ws.getD (((p2 + p3) - (1 : Int32))).toNatClampNeg (0 : Int32))), (.ref a0)])) _
                      refine XS.icmpYes X220.here hx rfl (pc0 := 121) (pc' := 128) rfl (hb hby d8_121) rfl (feq hc121).2 (by decide) (by decide) ?_
                      refine XS.iconst X220.here hx rfl (hb hby d8_128) ?_
                      exact k)
                  refine ⟨_, ?_, pre230⟩
                  all_goals (first | (simp only [own_m8_129_s0, if_neg hc121]; done) | (simp [own_m8_129_s0, if_neg hc121]; done))
              have f231 := (f218.wr W220)
              have f232 := ((((F_a0_afterCarriageReturn.other W123 (Or.inr (slot_ne (Or.inl (hw _ (List.mem_of_getElem? (i := 48) rfl))) (Or.inl (hw _ (List.mem_of_getElem? (i := 21) rfl))) (by decide) (t := .boolean) (t' := .int) (by decide) (by decide)))).other W129 (Or.inr (slot_ne (Or.inl (hw _ (List.mem_of_getElem? (i := 48) rfl))) (Or.inl (hw _ (List.mem_of_getElem? (i := 38) rfl))) (by decide) (t := .boolean) (t' := .long) (by decide) (by decide)))).other W214 (Or.inr (slot_ne (Or.inl (hw _ (List.mem_of_getElem? (i := 48) rfl))) (Or.inl (hw _ (List.mem_of_getElem? (i := 21) rfl))) (by decide) (t := .boolean) (t' := .int) (by decide) (by decide)))).other W220 (Or.inr (slot_ne (Or.inl (hw _ (List.mem_of_getElem? (i := 48) rfl))) (Or.inl (hw _ (List.mem_of_getElem? (i := 38) rfl))) (by decide) (t := .boolean) (t' := .long) (by decide) (by decide))))
              obtain ⟨T233, h233, X233, e233, W233, st233⟩ := putFN X220 hx hZ hown (hw _ (List.mem_of_getElem? (i := 47) rfl)) Via.refl e220 f232 f231 (Or.inl (hw _ (List.mem_of_getElem? (i := 48) rfl))) (hw _ (List.mem_of_getElem? (i := 12) rfl)) (ty := .boolean) (v' := (.int (nar .boolean m129_s0))) (by decide) rfl (fits_nar_bool _) (g := (mkF m 129 #[.val (.ref a0), .val (.ref a1), .val (.int p2), .val (.int p3), .val (.int x4_104_222), .val (.int x5_17_134), .val (.int m60_s0)] [(.int m129_s0), (.ref a0)])) rfl rfl (hb hby d8_129)
              have Fw233 := f232.same W233
              have N233 := Fr.snoc X233 N220 g_a0
              have kp234 : Keep h0 h233 [a0] := kp221.wr W233 (Or.inl (List.mem_of_getElem? (i := 0) rfl))
              have f235 := ((f216.other W220 (Or.inr (slot_ne (Or.inl (hw _ (List.mem_of_getElem? (i := 36) rfl))) (Or.inl (hw _ (List.mem_of_getElem? (i := 38) rfl))) (by decide) (t := .long) (t' := .long) (by decide) (by decide)))).other W233 (Or.inr (slot_ne (Or.inl (hw _ (List.mem_of_getElem? (i := 36) rfl))) (Or.inl (hw _ (List.mem_of_getElem? (i := 48) rfl))) (by decide) (t := .long) (t' := .boolean) (by decide) (by decide))))
              obtain ⟨T236, X236, e236, st236⟩ := getF X233 hx hZ hown (host := "") (Or.inl (hw _ (List.mem_of_getElem? (i := 35) rfl))) Via.refl e233 f235 (g := (mkF m 134 #[.val (.ref a0), .val (.ref a1), .val (.int p2), .val (.int p3), .val (.int x4_104_222), .val (.int x5_17_134), .val (.int m60_s0)] [(.ref a0), (.ref a0)])) rfl rfl (hb hby d8_134)
              have f237 := (f231.wr W233)
              obtain ⟨T238, h238, X238, e238, W238, st238⟩ := putF X236 hx hZ hown (host := "") (Or.inl (hw _ (List.mem_of_getElem? (i := 35) rfl))) Via.refl e236 f235 f237 (Or.inl (hw _ (List.mem_of_getElem? (i := 36) rfl))) (hw _ (List.mem_of_getElem? (i := 12) rfl)) (ty := .long) (by decide) rfl rfl (g := (mkF m 140 #[.val (.ref a0), .val (.ref a1), .val (.int p2), .val (.int p3), .val (.int x4_104_222), .val (.int x5_17_134), .val (.int m60_s0)] [(.long (ps + (p3).toInt64)), (.ref a0)])) rfl rfl (hb hby d8_140)
              have Fw238 := f235.same W238
              have N238 := Fr.snoc X238 N233 g_a0
              have kp239 : Keep h0 h238 [a0] := kp234.wr W238 (Or.inl (List.mem_of_getElem? (i := 0) rfl))
              obtain ⟨fs, hr, hrun, hended, hW, hsame⟩ := X238.leave (v := none) (fun _ => rfl)
              refine ⟨_, _, pre227 _ ?_, hrun, hended, _, _, rfl, ?_, ⟨_, rfl⟩, hW, hsame.mono (by decide) (by decide)⟩
              · show Steps p.tables e below (T220.setTop (mkF m 129 #[.val (.ref a0), .val (.ref a1), .val (.int p2), .val (.int p3), .val (.int x4_104_222), .val (.int x5_17_134), .val (.int m60_s0)] [(.int m129_s0), (.ref a0)])) _
                refine st233 _ ?_
                refine XS.aloadN X233.here hx rfl (hb hby d8_132) rfl rfl ?_
                refine XS.dup X233.here hx rfl (hb hby d8_133) rfl rfl ?_
                refine st236 _ ?_
                refine XS.iloadN X236.here hx rfl (hb hby d8_137) rfl ?_
                show Steps p.tables e below (T236.setTop (mkF m 138 #[.val (.ref a0), .val (.ref a1), .val (.int p2), .val (.int p3), .val (.int x4_104_222), .val (.int x5_17_134), .val (.int m60_s0)] [(.int p3), (.long ps), (.ref a0)])) _
                refine XS.i2l X236.here hx rfl (hb hby d8_138) rfl ?_
                refine XS.ladd X236.here hx rfl (hb hby d8_139) rfl ?_
                refine st238 _ ?_
                show Steps p.tables e below (T238.setTop (mkF m 143 #[.val (.ref a0), .val (.ref a1), .val (.int p2), .val (.int p3), .val (.int x4_104_222), .val (.int x5_17_134), .val (.int m60_s0)] [])) _
                exact X238.returnOut hx Bd.returns (hb hby d8_143) hr
              · show Q8 Z a0 a1 p2 p3 k z ws ln ps ls cr h0 n0 _ T238.heap _
                rw [e238]
                unfold Q8
                have f240 := (f237.wr W238)
                have f241 := (((Fw214.other W220 (Or.inr (slot_ne (Or.inl (hw _ (List.mem_of_getElem? (i := 21) rfl))) (Or.inl (hw _ (List.mem_of_getElem? (i := 38) rfl))) (by decide) (t := .int) (t' := .long) (by decide) (by decide)))).other W233 (Or.inr (slot_ne (Or.inl (hw _ (List.mem_of_getElem? (i := 21) rfl))) (Or.inl (hw _ (List.mem_of_getElem? (i := 48) rfl))) (by decide) (t := .int) (t' := .boolean) (by decide) (by decide)))).other W238 (Or.inr (slot_ne (Or.inl (hw _ (List.mem_of_getElem? (i := 21) rfl))) (Or.inl (hw _ (List.mem_of_getElem? (i := 36) rfl))) (by decide) (t := .int) (t' := .long) (by decide) (by decide))))
                have f242 := ((Fw220.other W233 (Or.inr (slot_ne (Or.inl (hw _ (List.mem_of_getElem? (i := 38) rfl))) (Or.inl (hw _ (List.mem_of_getElem? (i := 48) rfl))) (by decide) (t := .long) (t' := .boolean) (by decide) (by decide)))).other W238 (Or.inr (slot_ne (Or.inl (hw _ (List.mem_of_getElem? (i := 38) rfl))) (Or.inl (hw _ (List.mem_of_getElem? (i := 36) rfl))) (by decide) (t := .long) (t' := .long) (by decide) (by decide))))
                have f243 := (Fw233.other W238 (Or.inr (slot_ne (Or.inl (hw _ (List.mem_of_getElem? (i := 48) rfl))) (Or.inl (hw _ (List.mem_of_getElem? (i := 36) rfl))) (by decide) (t := .boolean) (t' := .long) (by decide) (by decide))))
                refine ⟨rfl, N238, kp239, f240, ?_, ?_, ?_, ?_⟩
                · rw [show (own_p8_line p2 p3 ws ln cr) = ((ln + (1 : Int32)) + (1 : Int32)) from (by subst hm129_s0 hx4_104_222 hm60_s0 hx5_17_134 hx4_104 hx5_17; simp only [own_p8_line, if_neg hk0, if_neg hk1, if_pos hc21, if_pos hc71, if_neg hc21_2, if_pos hc28])]; exact f241
                · rw [show (own_p8_passed p3 ps) = (ps + (p3).toInt64) from (by subst hm129_s0 hx4_104_222 hm60_s0 hx5_17_134 hx4_104 hx5_17; simp only [own_p8_passed, if_neg hk0, if_neg hk1, if_pos hc21, if_pos hc71, if_neg hc21_2, if_pos hc28])]; exact Fw238
                · rw [show (own_p8_lineStart p2 p3 ws ps ls) = (((ps + (x4_104).toInt64) - (p2).toInt64) + (1 : Int64)) from (by subst hm129_s0 hx4_104_222 hm60_s0 hx5_17_134 hx4_104 hx5_17; simp only [own_p8_lineStart, if_neg hk0, if_neg hk1, if_pos hc21, if_pos hc71, if_neg hc21_2, if_pos hc28])]; exact f242
                · rw [show (own_p8_afterCarriageReturn p2 p3 ws cr) = (nar .boolean m129_s0) from (by subst hm129_s0 hx4_104_222 hm60_s0 hx5_17_134 hx4_104 hx5_17; simp only [own_p8_afterCarriageReturn, if_neg hk0, if_neg hk1, if_pos hc21, if_pos hc71, if_neg hc21_2, if_pos hc28])]; exact f243
            · obtain ⟨x4_104_244, hx4_104_244, pre245⟩ : ∃ z : Int32, z = (x4_104 + (1 : Int32)) ∧ own_Pre p e below (s₁.setTop (entryFrame m #[(.ref a0), (.ref a1), (.int p2), (.int p3)] 7)) (T129.setTop (mkF m 104 #[.val (.ref a0), .val (.ref a1), .val (.int p2), .val (.int p3), .val (.int z), .val (.int x5_17_134), .val (.int cr)] [])) := ⟨_, rfl, fun t k => pre204 t (by
                  show Steps p.tables e below (T129.setTop (mkF m 28 #[.val (.ref a0), .val (.ref a1), .val (.int p2), .val (.int p3), .val (.int x4_104), .val (.int x5_17_134), .val (.int cr)] [(.int (13 : Int32)), (.int x5_17_134)])) _
                  refine XS.icmpYes X129.here hx rfl (pc0 := 28) (pc' := 101) rfl (hb hby d8_28) rfl (feq hc28).2 (by decide) (by decide) ?_
                  refine XS.iinc X129.here hx rfl (hb hby d8_101) rfl (l' := #[.val (.ref a0), .val (.ref a1), .val (.int p2), .val (.int p3), .val (.int (x4_104 + (1 : Int32))), .val (.int x5_17_134), .val (.int cr)]) rfl ?_
                  exact k)⟩
              have hc8_3 : ¬ (x4_104_244 < (p2 + p3)) := by rw [hx4_104_244, hx4_104]; exact own_l23 hk2 hrg
              have hc108 : ((0 : Int32) < p3) := by rw [hk2]; decide
              obtain ⟨cl246, Ar246, hin246, hat246⟩ := own_AI.at f132 (j := ((p2 + p3) - (1 : Int32))) (by rw [hk2, own_back2]; exact hi1 (own_pos22 hk2))
              have pre249 : own_Pre p e below (s₁.setTop (entryFrame m #[(.ref a0), (.ref a1), (.int p2), (.int p3)] 7)) (T129.setTop (mkF m 121 #[.val (.ref a0), .val (.ref a1), .val (.int p2), .val (.int p3), .val (.int x4_104_244), .val (.int x5_17_134), .val (.int cr)] [(.int (13 : Int32)), (.int (ws.getD (((p2 + p3) - (1 : Int32))).toNatClampNeg (0 : Int32))), (.ref a0)])) := fun t k => pre245 t (by
                  show Steps p.tables e below (T129.setTop (mkF m 104 #[.val (.ref a0), .val (.ref a1), .val (.int p2), .val (.int p3), .val (.int x4_104_244), .val (.int x5_17_134), .val (.int cr)] [])) _
                  refine XS.goto X129.here hx rfl (pc0 := 104) (pc' := 3) rfl (hb hby d8_104) (by decide) (by decide) ?_
                  refine XS.iload X129.here hx rfl (hb hby d8_3) rfl ?_
                  refine XS.iloadN X129.here hx rfl (hb hby d8_5) rfl ?_
                  refine XS.iloadN X129.here hx rfl (hb hby d8_6) rfl ?_
                  refine XS.iadd X129.here hx rfl (hb hby d8_7) rfl ?_
                  show Steps p.tables e below (T129.setTop (mkF m 8 #[.val (.ref a0), .val (.ref a1), .val (.int p2), .val (.int p3), .val (.int x4_104_244), .val (.int x5_17_134), .val (.int cr)] [(.int (p2 + p3)), (.int x4_104_244)])) _
                  refine XS.icmpYes X129.here hx rfl (pc0 := 8) (pc' := 107) rfl (hb hby d8_8) rfl (flt hc8_3).2.1 (by decide) (by decide) ?_
                  refine XS.iloadN X129.here hx rfl (hb hby d8_107) rfl ?_
                  refine XS.ifNo X129.here hx rfl (hb hby d8_108) rfl ((if0 _ _).trans (tlt hc108).2.2.2) ?_
                  refine XS.aloadN X129.here hx rfl (hb hby d8_111) rfl rfl ?_
                  refine XS.aloadN X129.here hx rfl (hb hby d8_112) rfl rfl ?_
                  show Steps p.tables e below (T129.setTop (mkF m 113 #[.val (.ref a0), .val (.ref a1), .val (.int p2), .val (.int p3), .val (.int x4_104_244), .val (.int x5_17_134), .val (.int cr)] [(.ref a1), (.ref a0)])) _
                  refine XS.iloadN X129.here hx rfl (hb hby d8_113) rfl ?_
                  refine XS.iloadN X129.here hx rfl (hb hby d8_114) rfl ?_
                  refine XS.iadd X129.here hx rfl (hb hby d8_115) rfl ?_
                  refine XS.iconst X129.here hx rfl (hb hby d8_116) ?_
                  refine XS.isub X129.here hx rfl (hb hby d8_117) rfl ?_
                  show Steps p.tables e below (T129.setTop (mkF m 118 #[.val (.ref a0), .val (.ref a1), .val (.int p2), .val (.int p3), .val (.int x4_104_244), .val (.int x5_17_134), .val (.int cr)] [(.int ((p2 + p3) - (1 : Int32))), (.ref a1), (.ref a0)])) _
                  refine X129.caload hx (j := ((p2 + p3) - (1 : Int32))) (v := (.int (ws.getD (((p2 + p3) - (1 : Int32))).toNatClampNeg (0 : Int32)))) (by rw [e129]; exact Ar246.1) (State.isArrayOf_alike hZ.alike Ar246.2.1) Ar246.2.2 hin246 hat246 (g := (mkF m 118 #[.val (.ref a0), .val (.ref a1), .val (.int p2), .val (.int p3), .val (.int x4_104_244), .val (.int x5_17_134), .val (.int cr)] [(.int ((p2 + p3) - (1 : Int32))), (.ref a1), (.ref a0)])) rfl rfl (hb hby d8_118) _ ?_
                  refine XS.bipush X129.here hx rfl (hb hby d8_119) ?_
                  exact k)
              obtain ⟨m129_s0, hm129_s0, pre248⟩ : ∃ (m129_s0 : Int32), m129_s0 = (own_m8_129_s0 ws p2 p3) ∧ own_Pre p e below (s₁.setTop (entryFrame m #[(.ref a0), (.ref a1), (.int p2), (.int p3)] 7)) (T129.setTop (mkF m 129 #[.val (.ref a0), .val (.ref a1), .val (.int p2), .val (.int p3), .val (.int x4_104_244), .val (.int x5_17_134), .val (.int cr)] [(.int m129_s0), (.ref a0)])) := by
                by_cases hc121 : (ws.getD (((p2 + p3) - (1 : Int32))).toNatClampNeg (0 : Int32)) = (13 : Int32)
                · have pre250 : own_Pre p e below (s₁.setTop (entryFrame m #[(.ref a0), (.ref a1), (.int p2), (.int p3)] 7)) (T129.setTop (mkF m 129 #[.val (.ref a0), .val (.ref a1), .val (.int p2), .val (.int p3), .val (.int x4_104_244), .val (.int x5_17_134), .val (.int cr)] [(.int (1 : Int32)), (.ref a0)])) := fun t k => pre249 t (by
                      show Steps p.tables e below (T129.setTop (mkF m 121 #[.val (.ref a0), .val (.ref a1), .val (.int p2), .val (.int p3), .val (.int x4_104_244), .val (.int x5_17_134), .val (.int cr)] [(.int (13 : Int32)), (.int (ws.getD (((p2 + p3) - (1 : Int32))).toNatClampNeg (0 : Int32))), (.ref a0)])) _
                      refine XS.icmpNo X129.here hx rfl (hb hby d8_121) rfl (teq hc121).2 ?_
                      refine XS.iconst X129.here hx rfl (hb hby d8_124) ?_
                      refine XS.goto X129.here hx rfl (pc0 := 125) (pc' := 129) rfl (hb hby d8_125) (by decide) (by decide) ?_
                      exact k)
                  refine ⟨_, ?_, pre250⟩
                  all_goals (first | (simp only [own_m8_129_s0, if_pos hc121]; done) | (simp [own_m8_129_s0, if_pos hc121]; done))
                · have pre251 : own_Pre p e below (s₁.setTop (entryFrame m #[(.ref a0), (.ref a1), (.int p2), (.int p3)] 7)) (T129.setTop (mkF m 129 #[.val (.ref a0), .val (.ref a1), .val (.int p2), .val (.int p3), .val (.int x4_104_244), .val (.int x5_17_134), .val (.int cr)] [(.int (0 : Int32)), (.ref a0)])) := fun t k => pre249 t (by
                      show Steps p.tables e below (T129.setTop (mkF m 121 #[.val (.ref a0), .val (.ref a1), .val (.int p2), .val (.int p3), .val (.int x4_104_244), .val (.int x5_17_134), .val (.int cr)] [(.int (13 : Int32)), (.int (ws.getD (((p2 + p3) - (1 : Int32))).toNatClampNeg (0 : Int32))), (.ref a0)])) _
                      refine XS.icmpYes X129.here hx rfl (pc0 := 121) (pc' := 128) rfl (hb hby d8_121) rfl (feq hc121).2 (by decide) (by decide) ?_
                      refine XS.iconst X129.here hx rfl (hb hby d8_128) ?_
                      exact k)
                  refine ⟨_, ?_, pre251⟩
                  all_goals (first | (simp only [own_m8_129_s0, if_neg hc121]; done) | (simp [own_m8_129_s0, if_neg hc121]; done))
              have f252 := (f127.wr W129)
              have f253 := ((F_a0_afterCarriageReturn.other W123 (Or.inr (slot_ne (Or.inl (hw _ (List.mem_of_getElem? (i := 48) rfl))) (Or.inl (hw _ (List.mem_of_getElem? (i := 21) rfl))) (by decide) (t := .boolean) (t' := .int) (by decide) (by decide)))).other W129 (Or.inr (slot_ne (Or.inl (hw _ (List.mem_of_getElem? (i := 48) rfl))) (Or.inl (hw _ (List.mem_of_getElem? (i := 38) rfl))) (by decide) (t := .boolean) (t' := .long) (by decide) (by decide))))
              obtain ⟨T254, h254, X254, e254, W254, st254⟩ := putFN X129 hx hZ hown (hw _ (List.mem_of_getElem? (i := 47) rfl)) Via.refl e129 f253 f252 (Or.inl (hw _ (List.mem_of_getElem? (i := 48) rfl))) (hw _ (List.mem_of_getElem? (i := 12) rfl)) (ty := .boolean) (v' := (.int (nar .boolean m129_s0))) (by decide) rfl (fits_nar_bool _) (g := (mkF m 129 #[.val (.ref a0), .val (.ref a1), .val (.int p2), .val (.int p3), .val (.int x4_104_244), .val (.int x5_17_134), .val (.int cr)] [(.int m129_s0), (.ref a0)])) rfl rfl (hb hby d8_129)
              have Fw254 := f253.same W254
              have N254 := Fr.snoc X254 N129 g_a0
              have kp255 : Keep h0 h254 [a0] := kp130.wr W254 (Or.inl (List.mem_of_getElem? (i := 0) rfl))
              have f256 := ((f125.other W129 (Or.inr (slot_ne (Or.inl (hw _ (List.mem_of_getElem? (i := 36) rfl))) (Or.inl (hw _ (List.mem_of_getElem? (i := 38) rfl))) (by decide) (t := .long) (t' := .long) (by decide) (by decide)))).other W254 (Or.inr (slot_ne (Or.inl (hw _ (List.mem_of_getElem? (i := 36) rfl))) (Or.inl (hw _ (List.mem_of_getElem? (i := 48) rfl))) (by decide) (t := .long) (t' := .boolean) (by decide) (by decide))))
              obtain ⟨T257, X257, e257, st257⟩ := getF X254 hx hZ hown (host := "") (Or.inl (hw _ (List.mem_of_getElem? (i := 35) rfl))) Via.refl e254 f256 (g := (mkF m 134 #[.val (.ref a0), .val (.ref a1), .val (.int p2), .val (.int p3), .val (.int x4_104_244), .val (.int x5_17_134), .val (.int cr)] [(.ref a0), (.ref a0)])) rfl rfl (hb hby d8_134)
              have f258 := (f252.wr W254)
              obtain ⟨T259, h259, X259, e259, W259, st259⟩ := putF X257 hx hZ hown (host := "") (Or.inl (hw _ (List.mem_of_getElem? (i := 35) rfl))) Via.refl e257 f256 f258 (Or.inl (hw _ (List.mem_of_getElem? (i := 36) rfl))) (hw _ (List.mem_of_getElem? (i := 12) rfl)) (ty := .long) (by decide) rfl rfl (g := (mkF m 140 #[.val (.ref a0), .val (.ref a1), .val (.int p2), .val (.int p3), .val (.int x4_104_244), .val (.int x5_17_134), .val (.int cr)] [(.long (ps + (p3).toInt64)), (.ref a0)])) rfl rfl (hb hby d8_140)
              have Fw259 := f256.same W259
              have N259 := Fr.snoc X259 N254 g_a0
              have kp260 : Keep h0 h259 [a0] := kp255.wr W259 (Or.inl (List.mem_of_getElem? (i := 0) rfl))
              obtain ⟨fs, hr, hrun, hended, hW, hsame⟩ := X259.leave (v := none) (fun _ => rfl)
              refine ⟨_, _, pre248 _ ?_, hrun, hended, _, _, rfl, ?_, ⟨_, rfl⟩, hW, hsame.mono (by decide) (by decide)⟩
              · show Steps p.tables e below (T129.setTop (mkF m 129 #[.val (.ref a0), .val (.ref a1), .val (.int p2), .val (.int p3), .val (.int x4_104_244), .val (.int x5_17_134), .val (.int cr)] [(.int m129_s0), (.ref a0)])) _
                refine st254 _ ?_
                refine XS.aloadN X254.here hx rfl (hb hby d8_132) rfl rfl ?_
                refine XS.dup X254.here hx rfl (hb hby d8_133) rfl rfl ?_
                refine st257 _ ?_
                refine XS.iloadN X257.here hx rfl (hb hby d8_137) rfl ?_
                show Steps p.tables e below (T257.setTop (mkF m 138 #[.val (.ref a0), .val (.ref a1), .val (.int p2), .val (.int p3), .val (.int x4_104_244), .val (.int x5_17_134), .val (.int cr)] [(.int p3), (.long ps), (.ref a0)])) _
                refine XS.i2l X257.here hx rfl (hb hby d8_138) rfl ?_
                refine XS.ladd X257.here hx rfl (hb hby d8_139) rfl ?_
                refine st259 _ ?_
                show Steps p.tables e below (T259.setTop (mkF m 143 #[.val (.ref a0), .val (.ref a1), .val (.int p2), .val (.int p3), .val (.int x4_104_244), .val (.int x5_17_134), .val (.int cr)] [])) _
                exact X259.returnOut hx Bd.returns (hb hby d8_143) hr
              · show Q8 Z a0 a1 p2 p3 k z ws ln ps ls cr h0 n0 _ T259.heap _
                rw [e259]
                unfold Q8
                have f261 := (f258.wr W259)
                have f262 := (((Fw123.other W129 (Or.inr (slot_ne (Or.inl (hw _ (List.mem_of_getElem? (i := 21) rfl))) (Or.inl (hw _ (List.mem_of_getElem? (i := 38) rfl))) (by decide) (t := .int) (t' := .long) (by decide) (by decide)))).other W254 (Or.inr (slot_ne (Or.inl (hw _ (List.mem_of_getElem? (i := 21) rfl))) (Or.inl (hw _ (List.mem_of_getElem? (i := 48) rfl))) (by decide) (t := .int) (t' := .boolean) (by decide) (by decide)))).other W259 (Or.inr (slot_ne (Or.inl (hw _ (List.mem_of_getElem? (i := 21) rfl))) (Or.inl (hw _ (List.mem_of_getElem? (i := 36) rfl))) (by decide) (t := .int) (t' := .long) (by decide) (by decide))))
                have f263 := ((Fw129.other W254 (Or.inr (slot_ne (Or.inl (hw _ (List.mem_of_getElem? (i := 38) rfl))) (Or.inl (hw _ (List.mem_of_getElem? (i := 48) rfl))) (by decide) (t := .long) (t' := .boolean) (by decide) (by decide)))).other W259 (Or.inr (slot_ne (Or.inl (hw _ (List.mem_of_getElem? (i := 38) rfl))) (Or.inl (hw _ (List.mem_of_getElem? (i := 36) rfl))) (by decide) (t := .long) (t' := .long) (by decide) (by decide))))
                have f264 := (Fw254.other W259 (Or.inr (slot_ne (Or.inl (hw _ (List.mem_of_getElem? (i := 48) rfl))) (Or.inl (hw _ (List.mem_of_getElem? (i := 36) rfl))) (by decide) (t := .boolean) (t' := .long) (by decide) (by decide))))
                refine ⟨rfl, N259, kp260, f261, ?_, ?_, ?_, ?_⟩
                · rw [show (own_p8_line p2 p3 ws ln cr) = (ln + (1 : Int32)) from (by subst hm129_s0 hx4_104_244 hx5_17_134 hx4_104 hx5_17; simp only [own_p8_line, if_neg hk0, if_neg hk1, if_pos hc21, if_pos hc71, if_neg hc21_2, if_neg hc28])]; exact f262
                · rw [show (own_p8_passed p3 ps) = (ps + (p3).toInt64) from (by subst hm129_s0 hx4_104_244 hx5_17_134 hx4_104 hx5_17; simp only [own_p8_passed, if_neg hk0, if_neg hk1, if_pos hc21, if_pos hc71, if_neg hc21_2, if_neg hc28])]; exact Fw259
                · rw [show (own_p8_lineStart p2 p3 ws ps ls) = (((ps + (p2).toInt64) - (p2).toInt64) + (1 : Int64)) from (by subst hm129_s0 hx4_104_244 hx5_17_134 hx4_104 hx5_17; simp only [own_p8_lineStart, if_neg hk0, if_neg hk1, if_pos hc21, if_pos hc71, if_neg hc21_2, if_neg hc28])]; exact f263
                · rw [show (own_p8_afterCarriageReturn p2 p3 ws cr) = (nar .boolean m129_s0) from (by subst hm129_s0 hx4_104_244 hx5_17_134 hx4_104 hx5_17; simp only [own_p8_afterCarriageReturn, if_neg hk0, if_neg hk1, if_pos hc21, if_pos hc71, if_neg hc21_2, if_neg hc28])]; exact f264
        · obtain ⟨T265, X265, e265, st265⟩ := getF X120 hx hZ hown (host := "") (Or.inl (hw _ (List.mem_of_getElem? (i := 35) rfl))) Via.refl e120 F_a0_passed (g := (mkF m 86 #[.val (.ref a0), .val (.ref a1), .val (.int p2), .val (.int p3), .val (.int p2), .val (.int x5_17), .val (.int cr)] [(.ref a0), (.ref a0)])) rfl rfl (hb hby d8_86)
          obtain ⟨T266, h266, X266, e266, W266, st266⟩ := putF X265 hx hZ hown (host := "") (Or.inl (hw _ (List.mem_of_getElem? (i := 37) rfl))) Via.refl e265 F_a0_lineStart E_a0 (Or.inl (hw _ (List.mem_of_getElem? (i := 38) rfl))) (hw _ (List.mem_of_getElem? (i := 12) rfl)) (ty := .long) (by decide) rfl rfl (g := (mkF m 98 #[.val (.ref a0), .val (.ref a1), .val (.int p2), .val (.int p3), .val (.int p2), .val (.int x5_17), .val (.int cr)] [(.long (((ps + (p2).toInt64) - (p2).toInt64) + (1 : Int64))), (.ref a0)])) rfl rfl (hb hby d8_98)
          have Fw266 := F_a0_lineStart.same W266
          have N266 := Fr.snoc X266 N0 g_a0
          have kp267 : Keep h0 h266 [a0] := (Keep.refl h0 [a0]).wr W266 (Or.inl (List.mem_of_getElem? (i := 0) rfl))
          obtain ⟨x4_104, hx4_104, pre268⟩ : ∃ z : Int32, z = (p2 + (1 : Int32)) ∧ own_Pre p e below (s₁.setTop (entryFrame m #[(.ref a0), (.ref a1), (.int p2), (.int p3)] 7)) (T266.setTop (mkF m 104 #[.val (.ref a0), .val (.ref a1), .val (.int p2), .val (.int p3), .val (.int z), .val (.int x5_17), .val (.int cr)] [])) := ⟨_, rfl, fun t k => pre121 t (by
              show Steps p.tables e below (T120.setTop (mkF m 71 #[.val (.ref a0), .val (.ref a1), .val (.int p2), .val (.int p3), .val (.int p2), .val (.int x5_17), .val (.int cr)] [(.int cr)])) _
              refine XS.ifYes X120.here hx rfl (pc0 := 71) (pc' := 84) rfl (hb hby d8_71) rfl ((if0 _ _).trans (feq hc71).2) (by decide) (by decide) ?_
              refine XS.aloadN X120.here hx rfl (hb hby d8_84) rfl rfl ?_
              refine XS.aloadN X120.here hx rfl (hb hby d8_85) rfl rfl ?_
              refine st265 _ ?_
              refine XS.iload X265.here hx rfl (hb hby d8_89) rfl ?_
              show Steps p.tables e below (T265.setTop (mkF m 91 #[.val (.ref a0), .val (.ref a1), .val (.int p2), .val (.int p3), .val (.int p2), .val (.int x5_17), .val (.int cr)] [(.int p2), (.long ps), (.ref a0)])) _
              refine XS.i2l X265.here hx rfl (hb hby d8_91) rfl ?_
              refine XS.ladd X265.here hx rfl (hb hby d8_92) rfl ?_
              refine XS.iloadN X265.here hx rfl (hb hby d8_93) rfl ?_
              refine XS.i2l X265.here hx rfl (hb hby d8_94) rfl ?_
              refine XS.lsub X265.here hx rfl (hb hby d8_95) rfl ?_
              show Steps p.tables e below (T265.setTop (mkF m 96 #[.val (.ref a0), .val (.ref a1), .val (.int p2), .val (.int p3), .val (.int p2), .val (.int x5_17), .val (.int cr)] [(.long ((ps + (p2).toInt64) - (p2).toInt64)), (.ref a0)])) _
              refine XS.lconst X265.here hx rfl (hb hby d8_96) ?_
              refine XS.ladd X265.here hx rfl (hb hby d8_97) rfl ?_
              refine st266 _ ?_
              refine XS.iinc X266.here hx rfl (hb hby d8_101) rfl (l' := #[.val (.ref a0), .val (.ref a1), .val (.int p2), .val (.int p3), .val (.int (p2 + (1 : Int32))), .val (.int x5_17), .val (.int cr)]) rfl ?_
              exact k)⟩
          have hc8_2 : (x4_104 < (p2 + p3)) := by rw [hx4_104]; exact own_l22 hk2 hrg
          have f269 := (V_a1.other W266 ne_a1_a0)
          obtain ⟨cl270, Ar270, hin270, hat270⟩ := own_AI.at f269 (j := x4_104) (by rw [hx4_104]; exact hi1 (own_pos22 hk2))
          obtain ⟨x5_17_271, hx5_17_271, pre272⟩ : ∃ z : Int32, z = (ws.getD (x4_104).toNatClampNeg (0 : Int32)) ∧ own_Pre p e below (s₁.setTop (entryFrame m #[(.ref a0), (.ref a1), (.int p2), (.int p3)] 7)) (T266.setTop (mkF m 17 #[.val (.ref a0), .val (.ref a1), .val (.int p2), .val (.int p3), .val (.int x4_104), .val (.int z), .val (.int cr)] [])) := ⟨_, rfl, fun t k => pre268 t (by
              show Steps p.tables e below (T266.setTop (mkF m 104 #[.val (.ref a0), .val (.ref a1), .val (.int p2), .val (.int p3), .val (.int x4_104), .val (.int x5_17), .val (.int cr)] [])) _
              refine XS.goto X266.here hx rfl (pc0 := 104) (pc' := 3) rfl (hb hby d8_104) (by decide) (by decide) ?_
              refine XS.iload X266.here hx rfl (hb hby d8_3) rfl ?_
              refine XS.iloadN X266.here hx rfl (hb hby d8_5) rfl ?_
              refine XS.iloadN X266.here hx rfl (hb hby d8_6) rfl ?_
              refine XS.iadd X266.here hx rfl (hb hby d8_7) rfl ?_
              show Steps p.tables e below (T266.setTop (mkF m 8 #[.val (.ref a0), .val (.ref a1), .val (.int p2), .val (.int p3), .val (.int x4_104), .val (.int x5_17), .val (.int cr)] [(.int (p2 + p3)), (.int x4_104)])) _
              refine XS.icmpNo X266.here hx rfl (hb hby d8_8) rfl (tlt hc8_2).2.1 ?_
              refine XS.aloadN X266.here hx rfl (hb hby d8_11) rfl rfl ?_
              refine XS.iload X266.here hx rfl (hb hby d8_12) rfl ?_
              refine X266.caload hx (j := x4_104) (v := (.int (ws.getD (x4_104).toNatClampNeg (0 : Int32)))) (by rw [e266]; exact Ar270.1) (State.isArrayOf_alike hZ.alike Ar270.2.1) Ar270.2.2 hin270 hat270 (g := (mkF m 14 #[.val (.ref a0), .val (.ref a1), .val (.int p2), .val (.int p3), .val (.int x4_104), .val (.int x5_17), .val (.int cr)] [(.int x4_104), (.ref a1)])) rfl rfl (hb hby d8_14) _ ?_
              refine XS.istore X266.here hx rfl (hb hby d8_15) rfl (l' := #[.val (.ref a0), .val (.ref a1), .val (.int p2), .val (.int p3), .val (.int x4_104), .val (.int (ws.getD (x4_104).toNatClampNeg (0 : Int32))), .val (.int cr)]) rfl ?_
              exact k)⟩
          have pre273 : own_Pre p e below (s₁.setTop (entryFrame m #[(.ref a0), (.ref a1), (.int p2), (.int p3)] 7)) (T266.setTop (mkF m 21 #[.val (.ref a0), .val (.ref a1), .val (.int p2), .val (.int p3), .val (.int x4_104), .val (.int x5_17_271), .val (.int cr)] [(.int (10 : Int32)), (.int x5_17_271)])) := fun t k => pre272 t (by
              show Steps p.tables e below (T266.setTop (mkF m 17 #[.val (.ref a0), .val (.ref a1), .val (.int p2), .val (.int p3), .val (.int x4_104), .val (.int x5_17_271), .val (.int cr)] [])) _
              refine XS.iload X266.here hx rfl (hb hby d8_17) rfl ?_
              refine XS.bipush X266.here hx rfl (hb hby d8_19) ?_
              exact k)
          by_cases hc21_2 : x5_17_271 = (10 : Int32)
          · have hc34_2 : (p2 < x4_104) := by rw [hx4_104]; exact own_l34 hrg
            obtain ⟨cl274, Ar274, hin274, hat274⟩ := own_AI.at f269 (j := (x4_104 - (1 : Int32))) (by rw [hx4_104, own_back]; exact hi0 (own_pos2 hk2))
            have pre277 : own_Pre p e below (s₁.setTop (entryFrame m #[(.ref a0), (.ref a1), (.int p2), (.int p3)] 7)) (T266.setTop (mkF m 45 #[.val (.ref a0), .val (.ref a1), .val (.int p2), .val (.int p3), .val (.int x4_104), .val (.int x5_17_271), .val (.int cr)] [(.int (13 : Int32)), (.int (ws.getD ((x4_104 - (1 : Int32))).toNatClampNeg (0 : Int32)))])) := fun t k => pre273 t (by
                show Steps p.tables e below (T266.setTop (mkF m 21 #[.val (.ref a0), .val (.ref a1), .val (.int p2), .val (.int p3), .val (.int x4_104), .val (.int x5_17_271), .val (.int cr)] [(.int (10 : Int32)), (.int x5_17_271)])) _
                refine XS.icmpYes X266.here hx rfl (pc0 := 21) (pc' := 31) rfl (hb hby d8_21) rfl (teq hc21_2).1 (by decide) (by decide) ?_
                refine XS.iload X266.here hx rfl (hb hby d8_31) rfl ?_
                refine XS.iloadN X266.here hx rfl (hb hby d8_33) rfl ?_
                refine XS.icmpNo X266.here hx rfl (hb hby d8_34) rfl (tlt hc34_2).2.2.2 ?_
                refine XS.aloadN X266.here hx rfl (hb hby d8_37) rfl rfl ?_
                show Steps p.tables e below (T266.setTop (mkF m 38 #[.val (.ref a0), .val (.ref a1), .val (.int p2), .val (.int p3), .val (.int x4_104), .val (.int x5_17_271), .val (.int cr)] [(.ref a1)])) _
                refine XS.iload X266.here hx rfl (hb hby d8_38) rfl ?_
                refine XS.iconst X266.here hx rfl (hb hby d8_40) ?_
                refine XS.isub X266.here hx rfl (hb hby d8_41) rfl ?_
                refine X266.caload hx (j := (x4_104 - (1 : Int32))) (v := (.int (ws.getD ((x4_104 - (1 : Int32))).toNatClampNeg (0 : Int32)))) (by rw [e266]; exact Ar274.1) (State.isArrayOf_alike hZ.alike Ar274.2.1) Ar274.2.2 hin274 hat274 (g := (mkF m 42 #[.val (.ref a0), .val (.ref a1), .val (.int p2), .val (.int p3), .val (.int x4_104), .val (.int x5_17_271), .val (.int cr)] [(.int (x4_104 - (1 : Int32))), (.ref a1)])) rfl rfl (hb hby d8_42) _ ?_
                refine XS.bipush X266.here hx rfl (hb hby d8_43) ?_
                exact k)
            obtain ⟨m60_s0, hm60_s0, pre276⟩ : ∃ (m60_s0 : Int32), m60_s0 = (own_m8_60_s0 ws x4_104) ∧ own_Pre p e below (s₁.setTop (entryFrame m #[(.ref a0), (.ref a1), (.int p2), (.int p3)] 7)) (T266.setTop (mkF m 60 #[.val (.ref a0), .val (.ref a1), .val (.int p2), .val (.int p3), .val (.int x4_104), .val (.int x5_17_271), .val (.int cr)] [(.int m60_s0)])) := by
              by_cases hc45 : (ws.getD ((x4_104 - (1 : Int32))).toNatClampNeg (0 : Int32)) = (13 : Int32)
              · have pre278 : own_Pre p e below (s₁.setTop (entryFrame m #[(.ref a0), (.ref a1), (.int p2), (.int p3)] 7)) (T266.setTop (mkF m 60 #[.val (.ref a0), .val (.ref a1), .val (.int p2), .val (.int p3), .val (.int x4_104), .val (.int x5_17_271), .val (.int cr)] [(.int (1 : Int32))])) := fun t k => pre277 t (by
                    show Steps p.tables e below (T266.setTop (mkF m 45 #[.val (.ref a0), .val (.ref a1), .val (.int p2), .val (.int p3), .val (.int x4_104), .val (.int x5_17_271), .val (.int cr)] [(.int (13 : Int32)), (.int (ws.getD ((x4_104 - (1 : Int32))).toNatClampNeg (0 : Int32)))])) _
                    refine XS.icmpNo X266.here hx rfl (hb hby d8_45) rfl (teq hc45).2 ?_
                    refine XS.iconst X266.here hx rfl (hb hby d8_48) ?_
                    refine XS.goto X266.here hx rfl (pc0 := 49) (pc' := 60) rfl (hb hby d8_49) (by decide) (by decide) ?_
                    exact k)
                refine ⟨_, ?_, pre278⟩
                all_goals (first | (simp only [own_m8_60_s0, if_pos hc45]; done) | (simp [own_m8_60_s0, if_pos hc45]; done))
              · have pre279 : own_Pre p e below (s₁.setTop (entryFrame m #[(.ref a0), (.ref a1), (.int p2), (.int p3)] 7)) (T266.setTop (mkF m 60 #[.val (.ref a0), .val (.ref a1), .val (.int p2), .val (.int p3), .val (.int x4_104), .val (.int x5_17_271), .val (.int cr)] [(.int (0 : Int32))])) := fun t k => pre277 t (by
                    show Steps p.tables e below (T266.setTop (mkF m 45 #[.val (.ref a0), .val (.ref a1), .val (.int p2), .val (.int p3), .val (.int x4_104), .val (.int x5_17_271), .val (.int cr)] [(.int (13 : Int32)), (.int (ws.getD ((x4_104 - (1 : Int32))).toNatClampNeg (0 : Int32)))])) _
                    refine XS.icmpYes X266.here hx rfl (pc0 := 45) (pc' := 52) rfl (hb hby d8_45) rfl (feq hc45).2 (by decide) (by decide) ?_
                    refine XS.iconst X266.here hx rfl (hb hby d8_52) ?_
                    refine XS.goto X266.here hx rfl (pc0 := 53) (pc' := 60) rfl (hb hby d8_53) (by decide) (by decide) ?_
                    exact k)
                refine ⟨_, ?_, pre279⟩
                all_goals (first | (simp only [own_m8_60_s0, if_neg hc45]; done) | (simp [own_m8_60_s0, if_neg hc45]; done))
            have hc66_2 : ¬ (x5_17_271 = (13 : Int32)) := by rw [hc21_2]; decide
            have pre280 : own_Pre p e below (s₁.setTop (entryFrame m #[(.ref a0), (.ref a1), (.int p2), (.int p3)] 7)) (T266.setTop (mkF m 71 #[.val (.ref a0), .val (.ref a1), .val (.int p2), .val (.int p3), .val (.int x4_104), .val (.int x5_17_271), .val (.int m60_s0)] [(.int m60_s0)])) := fun t k => pre276 t (by
                show Steps p.tables e below (T266.setTop (mkF m 60 #[.val (.ref a0), .val (.ref a1), .val (.int p2), .val (.int p3), .val (.int x4_104), .val (.int x5_17_271), .val (.int cr)] [(.int m60_s0)])) _
                refine XS.istore X266.here hx rfl (hb hby d8_60) rfl (l' := #[.val (.ref a0), .val (.ref a1), .val (.int p2), .val (.int p3), .val (.int x4_104), .val (.int x5_17_271), .val (.int m60_s0)]) rfl ?_
                refine XS.iload X266.here hx rfl (hb hby d8_62) rfl ?_
                refine XS.bipush X266.here hx rfl (hb hby d8_64) ?_
                refine XS.icmpNo X266.here hx rfl (hb hby d8_66) rfl (feq hc66_2).1 ?_
                refine XS.iload X266.here hx rfl (hb hby d8_69) rfl ?_
                exact k)
            by_cases hc71_2 : m60_s0 = (0 : Int32)
            · have f281 := (F_a0_line.other W266 (Or.inr (slot_ne (Or.inl (hw _ (List.mem_of_getElem? (i := 21) rfl))) (Or.inl (hw _ (List.mem_of_getElem? (i := 38) rfl))) (by decide) (t := .int) (t' := .long) (by decide) (by decide))))
              obtain ⟨T282, X282, e282, st282⟩ := getF X266 hx hZ hown (host := "") (Or.inl (hw _ (List.mem_of_getElem? (i := 20) rfl))) Via.refl e266 f281 (g := (mkF m 76 #[.val (.ref a0), .val (.ref a1), .val (.int p2), .val (.int p3), .val (.int x4_104), .val (.int x5_17_271), .val (.int m60_s0)] [(.ref a0), (.ref a0)])) rfl rfl (hb hby d8_76)
              have f283 := (E_a0.wr W266)
              obtain ⟨T284, h284, X284, e284, W284, st284⟩ := putF X282 hx hZ hown (host := "") (Or.inl (hw _ (List.mem_of_getElem? (i := 20) rfl))) Via.refl e282 f281 f283 (Or.inl (hw _ (List.mem_of_getElem? (i := 21) rfl))) (hw _ (List.mem_of_getElem? (i := 12) rfl)) (ty := .int) (by decide) rfl rfl (g := (mkF m 81 #[.val (.ref a0), .val (.ref a1), .val (.int p2), .val (.int p3), .val (.int x4_104), .val (.int x5_17_271), .val (.int m60_s0)] [(.int (ln + (1 : Int32))), (.ref a0)])) rfl rfl (hb hby d8_81)
              have Fw284 := f281.same W284
              have N284 := Fr.snoc X284 N266 g_a0
              have kp285 : Keep h0 h284 [a0] := kp267.wr W284 (Or.inl (List.mem_of_getElem? (i := 0) rfl))
              have f286 := ((F_a0_passed.other W266 (Or.inr (slot_ne (Or.inl (hw _ (List.mem_of_getElem? (i := 36) rfl))) (Or.inl (hw _ (List.mem_of_getElem? (i := 38) rfl))) (by decide) (t := .long) (t' := .long) (by decide) (by decide)))).other W284 (Or.inr (slot_ne (Or.inl (hw _ (List.mem_of_getElem? (i := 36) rfl))) (Or.inl (hw _ (List.mem_of_getElem? (i := 21) rfl))) (by decide) (t := .long) (t' := .int) (by decide) (by decide))))
              obtain ⟨T287, X287, e287, st287⟩ := getF X284 hx hZ hown (host := "") (Or.inl (hw _ (List.mem_of_getElem? (i := 35) rfl))) Via.refl e284 f286 (g := (mkF m 86 #[.val (.ref a0), .val (.ref a1), .val (.int p2), .val (.int p3), .val (.int x4_104), .val (.int x5_17_271), .val (.int m60_s0)] [(.ref a0), (.ref a0)])) rfl rfl (hb hby d8_86)
              have f288 := (f283.wr W284)
              have f289 := (Fw266.other W284 (Or.inr (slot_ne (Or.inl (hw _ (List.mem_of_getElem? (i := 38) rfl))) (Or.inl (hw _ (List.mem_of_getElem? (i := 21) rfl))) (by decide) (t := .long) (t' := .int) (by decide) (by decide))))
              obtain ⟨T290, h290, X290, e290, W290, st290⟩ := putF X287 hx hZ hown (host := "") (Or.inl (hw _ (List.mem_of_getElem? (i := 37) rfl))) Via.refl e287 f289 f288 (Or.inl (hw _ (List.mem_of_getElem? (i := 38) rfl))) (hw _ (List.mem_of_getElem? (i := 12) rfl)) (ty := .long) (by decide) rfl rfl (g := (mkF m 98 #[.val (.ref a0), .val (.ref a1), .val (.int p2), .val (.int p3), .val (.int x4_104), .val (.int x5_17_271), .val (.int m60_s0)] [(.long (((ps + (x4_104).toInt64) - (p2).toInt64) + (1 : Int64))), (.ref a0)])) rfl rfl (hb hby d8_98)
              have Fw290 := f289.same W290
              have N290 := Fr.snoc X290 N284 g_a0
              have kp291 : Keep h0 h290 [a0] := kp285.wr W290 (Or.inl (List.mem_of_getElem? (i := 0) rfl))
              obtain ⟨x4_104_292, hx4_104_292, pre293⟩ : ∃ z : Int32, z = (x4_104 + (1 : Int32)) ∧ own_Pre p e below (s₁.setTop (entryFrame m #[(.ref a0), (.ref a1), (.int p2), (.int p3)] 7)) (T290.setTop (mkF m 104 #[.val (.ref a0), .val (.ref a1), .val (.int p2), .val (.int p3), .val (.int z), .val (.int x5_17_271), .val (.int m60_s0)] [])) := ⟨_, rfl, fun t k => pre280 t (by
                  show Steps p.tables e below (T266.setTop (mkF m 71 #[.val (.ref a0), .val (.ref a1), .val (.int p2), .val (.int p3), .val (.int x4_104), .val (.int x5_17_271), .val (.int m60_s0)] [(.int m60_s0)])) _
                  refine XS.ifNo X266.here hx rfl (hb hby d8_71) rfl ((if0 _ _).trans (teq hc71_2).2) ?_
                  refine XS.aloadN X266.here hx rfl (hb hby d8_74) rfl rfl ?_
                  refine XS.dup X266.here hx rfl (hb hby d8_75) rfl rfl ?_
                  refine st282 _ ?_
                  refine XS.iconst X282.here hx rfl (hb hby d8_79) ?_
                  show Steps p.tables e below (T282.setTop (mkF m 80 #[.val (.ref a0), .val (.ref a1), .val (.int p2), .val (.int p3), .val (.int x4_104), .val (.int x5_17_271), .val (.int m60_s0)] [(.int (1 : Int32)), (.int ln), (.ref a0)])) _
                  refine XS.iadd X282.here hx rfl (hb hby d8_80) rfl ?_
                  refine st284 _ ?_
                  refine XS.aloadN X284.here hx rfl (hb hby d8_84) rfl rfl ?_
                  refine XS.aloadN X284.here hx rfl (hb hby d8_85) rfl rfl ?_
                  refine st287 _ ?_
                  show Steps p.tables e below (T287.setTop (mkF m 89 #[.val (.ref a0), .val (.ref a1), .val (.int p2), .val (.int p3), .val (.int x4_104), .val (.int x5_17_271), .val (.int m60_s0)] [(.long ps), (.ref a0)])) _
                  refine XS.iload X287.here hx rfl (hb hby d8_89) rfl ?_
                  refine XS.i2l X287.here hx rfl (hb hby d8_91) rfl ?_
                  refine XS.ladd X287.here hx rfl (hb hby d8_92) rfl ?_
                  refine XS.iloadN X287.here hx rfl (hb hby d8_93) rfl ?_
                  refine XS.i2l X287.here hx rfl (hb hby d8_94) rfl ?_
                  show Steps p.tables e below (T287.setTop (mkF m 95 #[.val (.ref a0), .val (.ref a1), .val (.int p2), .val (.int p3), .val (.int x4_104), .val (.int x5_17_271), .val (.int m60_s0)] [(.long (p2).toInt64), (.long (ps + (x4_104).toInt64)), (.ref a0)])) _
                  refine XS.lsub X287.here hx rfl (hb hby d8_95) rfl ?_
                  refine XS.lconst X287.here hx rfl (hb hby d8_96) ?_
                  refine XS.ladd X287.here hx rfl (hb hby d8_97) rfl ?_
                  refine st290 _ ?_
                  refine XS.iinc X290.here hx rfl (hb hby d8_101) rfl (l' := #[.val (.ref a0), .val (.ref a1), .val (.int p2), .val (.int p3), .val (.int (x4_104 + (1 : Int32))), .val (.int x5_17_271), .val (.int m60_s0)]) rfl ?_
                  exact k)⟩
              have hc8_3 : ¬ (x4_104_292 < (p2 + p3)) := by rw [hx4_104_292, hx4_104]; exact own_l23 hk2 hrg
              have hc108 : ((0 : Int32) < p3) := by rw [hk2]; decide
              have f294 := ((f269.other W284 ne_a1_a0).other W290 ne_a1_a0)
              obtain ⟨cl295, Ar295, hin295, hat295⟩ := own_AI.at f294 (j := ((p2 + p3) - (1 : Int32))) (by rw [hk2, own_back2]; exact hi1 (own_pos22 hk2))
              have pre298 : own_Pre p e below (s₁.setTop (entryFrame m #[(.ref a0), (.ref a1), (.int p2), (.int p3)] 7)) (T290.setTop (mkF m 121 #[.val (.ref a0), .val (.ref a1), .val (.int p2), .val (.int p3), .val (.int x4_104_292), .val (.int x5_17_271), .val (.int m60_s0)] [(.int (13 : Int32)), (.int (ws.getD (((p2 + p3) - (1 : Int32))).toNatClampNeg (0 : Int32))), (.ref a0)])) := fun t k => pre293 t (by
                  show Steps p.tables e below (T290.setTop (mkF m 104 #[.val (.ref a0), .val (.ref a1), .val (.int p2), .val (.int p3), .val (.int x4_104_292), .val (.int x5_17_271), .val (.int m60_s0)] [])) _
                  refine XS.goto X290.here hx rfl (pc0 := 104) (pc' := 3) rfl (hb hby d8_104) (by decide) (by decide) ?_
                  refine XS.iload X290.here hx rfl (hb hby d8_3) rfl ?_
                  refine XS.iloadN X290.here hx rfl (hb hby d8_5) rfl ?_
                  refine XS.iloadN X290.here hx rfl (hb hby d8_6) rfl ?_
                  refine XS.iadd X290.here hx rfl (hb hby d8_7) rfl ?_
                  show Steps p.tables e below (T290.setTop (mkF m 8 #[.val (.ref a0), .val (.ref a1), .val (.int p2), .val (.int p3), .val (.int x4_104_292), .val (.int x5_17_271), .val (.int m60_s0)] [(.int (p2 + p3)), (.int x4_104_292)])) _
                  refine XS.icmpYes X290.here hx rfl (pc0 := 8) (pc' := 107) rfl (hb hby d8_8) rfl (flt hc8_3).2.1 (by decide) (by decide) ?_
                  refine XS.iloadN X290.here hx rfl (hb hby d8_107) rfl ?_
                  refine XS.ifNo X290.here hx rfl (hb hby d8_108) rfl ((if0 _ _).trans (tlt hc108).2.2.2) ?_
                  refine XS.aloadN X290.here hx rfl (hb hby d8_111) rfl rfl ?_
                  refine XS.aloadN X290.here hx rfl (hb hby d8_112) rfl rfl ?_
                  show Steps p.tables e below (T290.setTop (mkF m 113 #[.val (.ref a0), .val (.ref a1), .val (.int p2), .val (.int p3), .val (.int x4_104_292), .val (.int x5_17_271), .val (.int m60_s0)] [(.ref a1), (.ref a0)])) _
                  refine XS.iloadN X290.here hx rfl (hb hby d8_113) rfl ?_
                  refine XS.iloadN X290.here hx rfl (hb hby d8_114) rfl ?_
                  refine XS.iadd X290.here hx rfl (hb hby d8_115) rfl ?_
                  refine XS.iconst X290.here hx rfl (hb hby d8_116) ?_
                  refine XS.isub X290.here hx rfl (hb hby d8_117) rfl ?_
                  show Steps p.tables e below (T290.setTop (mkF m 118 #[.val (.ref a0), .val (.ref a1), .val (.int p2), .val (.int p3), .val (.int x4_104_292), .val (.int x5_17_271), .val (.int m60_s0)] [(.int ((p2 + p3) - (1 : Int32))), (.ref a1), (.ref a0)])) _
                  refine X290.caload hx (j := ((p2 + p3) - (1 : Int32))) (v := (.int (ws.getD (((p2 + p3) - (1 : Int32))).toNatClampNeg (0 : Int32)))) (by rw [e290]; exact Ar295.1) (State.isArrayOf_alike hZ.alike Ar295.2.1) Ar295.2.2 hin295 hat295 (g := (mkF m 118 #[.val (.ref a0), .val (.ref a1), .val (.int p2), .val (.int p3), .val (.int x4_104_292), .val (.int x5_17_271), .val (.int m60_s0)] [(.int ((p2 + p3) - (1 : Int32))), (.ref a1), (.ref a0)])) rfl rfl (hb hby d8_118) _ ?_
                  refine XS.bipush X290.here hx rfl (hb hby d8_119) ?_
                  exact k)
              obtain ⟨m129_s0, hm129_s0, pre297⟩ : ∃ (m129_s0 : Int32), m129_s0 = (own_m8_129_s0 ws p2 p3) ∧ own_Pre p e below (s₁.setTop (entryFrame m #[(.ref a0), (.ref a1), (.int p2), (.int p3)] 7)) (T290.setTop (mkF m 129 #[.val (.ref a0), .val (.ref a1), .val (.int p2), .val (.int p3), .val (.int x4_104_292), .val (.int x5_17_271), .val (.int m60_s0)] [(.int m129_s0), (.ref a0)])) := by
                by_cases hc121 : (ws.getD (((p2 + p3) - (1 : Int32))).toNatClampNeg (0 : Int32)) = (13 : Int32)
                · have pre299 : own_Pre p e below (s₁.setTop (entryFrame m #[(.ref a0), (.ref a1), (.int p2), (.int p3)] 7)) (T290.setTop (mkF m 129 #[.val (.ref a0), .val (.ref a1), .val (.int p2), .val (.int p3), .val (.int x4_104_292), .val (.int x5_17_271), .val (.int m60_s0)] [(.int (1 : Int32)), (.ref a0)])) := fun t k => pre298 t (by
                      show Steps p.tables e below (T290.setTop (mkF m 121 #[.val (.ref a0), .val (.ref a1), .val (.int p2), .val (.int p3), .val (.int x4_104_292), .val (.int x5_17_271), .val (.int m60_s0)] [(.int (13 : Int32)), (.int (ws.getD (((p2 + p3) - (1 : Int32))).toNatClampNeg (0 : Int32))), (.ref a0)])) _
                      refine XS.icmpNo X290.here hx rfl (hb hby d8_121) rfl (teq hc121).2 ?_
                      refine XS.iconst X290.here hx rfl (hb hby d8_124) ?_
                      refine XS.goto X290.here hx rfl (pc0 := 125) (pc' := 129) rfl (hb hby d8_125) (by decide) (by decide) ?_
                      exact k)
                  refine ⟨_, ?_, pre299⟩
                  all_goals (first | (simp only [own_m8_129_s0, if_pos hc121]; done) | (simp [own_m8_129_s0, if_pos hc121]; done))
                · have pre300 : own_Pre p e below (s₁.setTop (entryFrame m #[(.ref a0), (.ref a1), (.int p2), (.int p3)] 7)) (T290.setTop (mkF m 129 #[.val (.ref a0), .val (.ref a1), .val (.int p2), .val (.int p3), .val (.int x4_104_292), .val (.int x5_17_271), .val (.int m60_s0)] [(.int (0 : Int32)), (.ref a0)])) := fun t k => pre298 t (by
                      show Steps p.tables e below (T290.setTop (mkF m 121 #[.val (.ref a0), .val (.ref a1), .val (.int p2), .val (.int p3), .val (.int x4_104_292), .val (.int x5_17_271), .val (.int m60_s0)] [(.int (13 : Int32)), (.int (ws.getD (((p2 + p3) - (1 : Int32))).toNatClampNeg (0 : Int32))), (.ref a0)])) _
                      refine XS.icmpYes X290.here hx rfl (pc0 := 121) (pc' := 128) rfl (hb hby d8_121) rfl (feq hc121).2 (by decide) (by decide) ?_
                      refine XS.iconst X290.here hx rfl (hb hby d8_128) ?_
                      exact k)
                  refine ⟨_, ?_, pre300⟩
                  all_goals (first | (simp only [own_m8_129_s0, if_neg hc121]; done) | (simp [own_m8_129_s0, if_neg hc121]; done))
              have f301 := (f288.wr W290)
              have f302 := (((F_a0_afterCarriageReturn.other W266 (Or.inr (slot_ne (Or.inl (hw _ (List.mem_of_getElem? (i := 48) rfl))) (Or.inl (hw _ (List.mem_of_getElem? (i := 38) rfl))) (by decide) (t := .boolean) (t' := .long) (by decide) (by decide)))).other W284 (Or.inr (slot_ne (Or.inl (hw _ (List.mem_of_getElem? (i := 48) rfl))) (Or.inl (hw _ (List.mem_of_getElem? (i := 21) rfl))) (by decide) (t := .boolean) (t' := .int) (by decide) (by decide)))).other W290 (Or.inr (slot_ne (Or.inl (hw _ (List.mem_of_getElem? (i := 48) rfl))) (Or.inl (hw _ (List.mem_of_getElem? (i := 38) rfl))) (by decide) (t := .boolean) (t' := .long) (by decide) (by decide))))
              obtain ⟨T303, h303, X303, e303, W303, st303⟩ := putFN X290 hx hZ hown (hw _ (List.mem_of_getElem? (i := 47) rfl)) Via.refl e290 f302 f301 (Or.inl (hw _ (List.mem_of_getElem? (i := 48) rfl))) (hw _ (List.mem_of_getElem? (i := 12) rfl)) (ty := .boolean) (v' := (.int (nar .boolean m129_s0))) (by decide) rfl (fits_nar_bool _) (g := (mkF m 129 #[.val (.ref a0), .val (.ref a1), .val (.int p2), .val (.int p3), .val (.int x4_104_292), .val (.int x5_17_271), .val (.int m60_s0)] [(.int m129_s0), (.ref a0)])) rfl rfl (hb hby d8_129)
              have Fw303 := f302.same W303
              have N303 := Fr.snoc X303 N290 g_a0
              have kp304 : Keep h0 h303 [a0] := kp291.wr W303 (Or.inl (List.mem_of_getElem? (i := 0) rfl))
              have f305 := ((f286.other W290 (Or.inr (slot_ne (Or.inl (hw _ (List.mem_of_getElem? (i := 36) rfl))) (Or.inl (hw _ (List.mem_of_getElem? (i := 38) rfl))) (by decide) (t := .long) (t' := .long) (by decide) (by decide)))).other W303 (Or.inr (slot_ne (Or.inl (hw _ (List.mem_of_getElem? (i := 36) rfl))) (Or.inl (hw _ (List.mem_of_getElem? (i := 48) rfl))) (by decide) (t := .long) (t' := .boolean) (by decide) (by decide))))
              obtain ⟨T306, X306, e306, st306⟩ := getF X303 hx hZ hown (host := "") (Or.inl (hw _ (List.mem_of_getElem? (i := 35) rfl))) Via.refl e303 f305 (g := (mkF m 134 #[.val (.ref a0), .val (.ref a1), .val (.int p2), .val (.int p3), .val (.int x4_104_292), .val (.int x5_17_271), .val (.int m60_s0)] [(.ref a0), (.ref a0)])) rfl rfl (hb hby d8_134)
              have f307 := (f301.wr W303)
              obtain ⟨T308, h308, X308, e308, W308, st308⟩ := putF X306 hx hZ hown (host := "") (Or.inl (hw _ (List.mem_of_getElem? (i := 35) rfl))) Via.refl e306 f305 f307 (Or.inl (hw _ (List.mem_of_getElem? (i := 36) rfl))) (hw _ (List.mem_of_getElem? (i := 12) rfl)) (ty := .long) (by decide) rfl rfl (g := (mkF m 140 #[.val (.ref a0), .val (.ref a1), .val (.int p2), .val (.int p3), .val (.int x4_104_292), .val (.int x5_17_271), .val (.int m60_s0)] [(.long (ps + (p3).toInt64)), (.ref a0)])) rfl rfl (hb hby d8_140)
              have Fw308 := f305.same W308
              have N308 := Fr.snoc X308 N303 g_a0
              have kp309 : Keep h0 h308 [a0] := kp304.wr W308 (Or.inl (List.mem_of_getElem? (i := 0) rfl))
              obtain ⟨fs, hr, hrun, hended, hW, hsame⟩ := X308.leave (v := none) (fun _ => rfl)
              refine ⟨_, _, pre297 _ ?_, hrun, hended, _, _, rfl, ?_, ⟨_, rfl⟩, hW, hsame.mono (by decide) (by decide)⟩
              · show Steps p.tables e below (T290.setTop (mkF m 129 #[.val (.ref a0), .val (.ref a1), .val (.int p2), .val (.int p3), .val (.int x4_104_292), .val (.int x5_17_271), .val (.int m60_s0)] [(.int m129_s0), (.ref a0)])) _
                refine st303 _ ?_
                refine XS.aloadN X303.here hx rfl (hb hby d8_132) rfl rfl ?_
                refine XS.dup X303.here hx rfl (hb hby d8_133) rfl rfl ?_
                refine st306 _ ?_
                refine XS.iloadN X306.here hx rfl (hb hby d8_137) rfl ?_
                show Steps p.tables e below (T306.setTop (mkF m 138 #[.val (.ref a0), .val (.ref a1), .val (.int p2), .val (.int p3), .val (.int x4_104_292), .val (.int x5_17_271), .val (.int m60_s0)] [(.int p3), (.long ps), (.ref a0)])) _
                refine XS.i2l X306.here hx rfl (hb hby d8_138) rfl ?_
                refine XS.ladd X306.here hx rfl (hb hby d8_139) rfl ?_
                refine st308 _ ?_
                show Steps p.tables e below (T308.setTop (mkF m 143 #[.val (.ref a0), .val (.ref a1), .val (.int p2), .val (.int p3), .val (.int x4_104_292), .val (.int x5_17_271), .val (.int m60_s0)] [])) _
                exact X308.returnOut hx Bd.returns (hb hby d8_143) hr
              · show Q8 Z a0 a1 p2 p3 k z ws ln ps ls cr h0 n0 _ T308.heap _
                rw [e308]
                unfold Q8
                have f310 := (f307.wr W308)
                have f311 := (((Fw284.other W290 (Or.inr (slot_ne (Or.inl (hw _ (List.mem_of_getElem? (i := 21) rfl))) (Or.inl (hw _ (List.mem_of_getElem? (i := 38) rfl))) (by decide) (t := .int) (t' := .long) (by decide) (by decide)))).other W303 (Or.inr (slot_ne (Or.inl (hw _ (List.mem_of_getElem? (i := 21) rfl))) (Or.inl (hw _ (List.mem_of_getElem? (i := 48) rfl))) (by decide) (t := .int) (t' := .boolean) (by decide) (by decide)))).other W308 (Or.inr (slot_ne (Or.inl (hw _ (List.mem_of_getElem? (i := 21) rfl))) (Or.inl (hw _ (List.mem_of_getElem? (i := 36) rfl))) (by decide) (t := .int) (t' := .long) (by decide) (by decide))))
                have f312 := ((Fw290.other W303 (Or.inr (slot_ne (Or.inl (hw _ (List.mem_of_getElem? (i := 38) rfl))) (Or.inl (hw _ (List.mem_of_getElem? (i := 48) rfl))) (by decide) (t := .long) (t' := .boolean) (by decide) (by decide)))).other W308 (Or.inr (slot_ne (Or.inl (hw _ (List.mem_of_getElem? (i := 38) rfl))) (Or.inl (hw _ (List.mem_of_getElem? (i := 36) rfl))) (by decide) (t := .long) (t' := .long) (by decide) (by decide))))
                have f313 := (Fw303.other W308 (Or.inr (slot_ne (Or.inl (hw _ (List.mem_of_getElem? (i := 48) rfl))) (Or.inl (hw _ (List.mem_of_getElem? (i := 36) rfl))) (by decide) (t := .boolean) (t' := .long) (by decide) (by decide))))
                refine ⟨rfl, N308, kp309, f310, ?_, ?_, ?_, ?_⟩
                · rw [show (own_p8_line p2 p3 ws ln cr) = (ln + (1 : Int32)) from (by subst hm129_s0 hx4_104_292 hm60_s0 hx5_17_271 hx4_104 hx5_17; simp only [own_p8_line, if_neg hk0, if_neg hk1, if_pos hc21, if_neg hc71, if_pos hc21_2, if_pos hc71_2])]; exact f311
                · rw [show (own_p8_passed p3 ps) = (ps + (p3).toInt64) from (by subst hm129_s0 hx4_104_292 hm60_s0 hx5_17_271 hx4_104 hx5_17; simp only [own_p8_passed, if_neg hk0, if_neg hk1, if_pos hc21, if_neg hc71, if_pos hc21_2, if_pos hc71_2])]; exact Fw308
                · rw [show (own_p8_lineStart p2 p3 ws ps ls) = (((ps + (x4_104).toInt64) - (p2).toInt64) + (1 : Int64)) from (by subst hm129_s0 hx4_104_292 hm60_s0 hx5_17_271 hx4_104 hx5_17; simp only [own_p8_lineStart, if_neg hk0, if_neg hk1, if_pos hc21, if_neg hc71, if_pos hc21_2, if_pos hc71_2])]; exact f312
                · rw [show (own_p8_afterCarriageReturn p2 p3 ws cr) = (nar .boolean m129_s0) from (by subst hm129_s0 hx4_104_292 hm60_s0 hx5_17_271 hx4_104 hx5_17; simp only [own_p8_afterCarriageReturn, if_neg hk0, if_neg hk1, if_pos hc21, if_neg hc71, if_pos hc21_2, if_pos hc71_2])]; exact f313
            · have f314 := (F_a0_passed.other W266 (Or.inr (slot_ne (Or.inl (hw _ (List.mem_of_getElem? (i := 36) rfl))) (Or.inl (hw _ (List.mem_of_getElem? (i := 38) rfl))) (by decide) (t := .long) (t' := .long) (by decide) (by decide))))
              obtain ⟨T315, X315, e315, st315⟩ := getF X266 hx hZ hown (host := "") (Or.inl (hw _ (List.mem_of_getElem? (i := 35) rfl))) Via.refl e266 f314 (g := (mkF m 86 #[.val (.ref a0), .val (.ref a1), .val (.int p2), .val (.int p3), .val (.int x4_104), .val (.int x5_17_271), .val (.int m60_s0)] [(.ref a0), (.ref a0)])) rfl rfl (hb hby d8_86)
              have f316 := (E_a0.wr W266)
              obtain ⟨T317, h317, X317, e317, W317, st317⟩ := putF X315 hx hZ hown (host := "") (Or.inl (hw _ (List.mem_of_getElem? (i := 37) rfl))) Via.refl e315 Fw266 f316 (Or.inl (hw _ (List.mem_of_getElem? (i := 38) rfl))) (hw _ (List.mem_of_getElem? (i := 12) rfl)) (ty := .long) (by decide) rfl rfl (g := (mkF m 98 #[.val (.ref a0), .val (.ref a1), .val (.int p2), .val (.int p3), .val (.int x4_104), .val (.int x5_17_271), .val (.int m60_s0)] [(.long (((ps + (x4_104).toInt64) - (p2).toInt64) + (1 : Int64))), (.ref a0)])) rfl rfl (hb hby d8_98)
              have Fw317 := Fw266.same W317
              have N317 := Fr.snoc X317 N266 g_a0
              have kp318 : Keep h0 h317 [a0] := kp267.wr W317 (Or.inl (List.mem_of_getElem? (i := 0) rfl))
              obtain ⟨x4_104_319, hx4_104_319, pre320⟩ : ∃ z : Int32, z = (x4_104 + (1 : Int32)) ∧ own_Pre p e below (s₁.setTop (entryFrame m #[(.ref a0), (.ref a1), (.int p2), (.int p3)] 7)) (T317.setTop (mkF m 104 #[.val (.ref a0), .val (.ref a1), .val (.int p2), .val (.int p3), .val (.int z), .val (.int x5_17_271), .val (.int m60_s0)] [])) := ⟨_, rfl, fun t k => pre280 t (by
                  show Steps p.tables e below (T266.setTop (mkF m 71 #[.val (.ref a0), .val (.ref a1), .val (.int p2), .val (.int p3), .val (.int x4_104), .val (.int x5_17_271), .val (.int m60_s0)] [(.int m60_s0)])) _
                  refine XS.ifYes X266.here hx rfl (pc0 := 71) (pc' := 84) rfl (hb hby d8_71) rfl ((if0 _ _).trans (feq hc71_2).2) (by decide) (by decide) ?_
                  refine XS.aloadN X266.here hx rfl (hb hby d8_84) rfl rfl ?_
                  refine XS.aloadN X266.here hx rfl (hb hby d8_85) rfl rfl ?_
                  refine st315 _ ?_
                  refine XS.iload X315.here hx rfl (hb hby d8_89) rfl ?_
                  show Steps p.tables e below (T315.setTop (mkF m 91 #[.val (.ref a0), .val (.ref a1), .val (.int p2), .val (.int p3), .val (.int x4_104), .val (.int x5_17_271), .val (.int m60_s0)] [(.int x4_104), (.long ps), (.ref a0)])) _
                  refine XS.i2l X315.here hx rfl (hb hby d8_91) rfl ?_
                  refine XS.ladd X315.here hx rfl (hb hby d8_92) rfl ?_
                  refine XS.iloadN X315.here hx rfl (hb hby d8_93) rfl ?_
                  refine XS.i2l X315.here hx rfl (hb hby d8_94) rfl ?_
                  refine XS.lsub X315.here hx rfl (hb hby d8_95) rfl ?_
                  show Steps p.tables e below (T315.setTop (mkF m 96 #[.val (.ref a0), .val (.ref a1), .val (.int p2), .val (.int p3), .val (.int x4_104), .val (.int x5_17_271), .val (.int m60_s0)] [(.long ((ps + (x4_104).toInt64) - (p2).toInt64)), (.ref a0)])) _
                  refine XS.lconst X315.here hx rfl (hb hby d8_96) ?_
                  refine XS.ladd X315.here hx rfl (hb hby d8_97) rfl ?_
                  refine st317 _ ?_
                  refine XS.iinc X317.here hx rfl (hb hby d8_101) rfl (l' := #[.val (.ref a0), .val (.ref a1), .val (.int p2), .val (.int p3), .val (.int (x4_104 + (1 : Int32))), .val (.int x5_17_271), .val (.int m60_s0)]) rfl ?_
                  exact k)⟩
              have hc8_3 : ¬ (x4_104_319 < (p2 + p3)) := by rw [hx4_104_319, hx4_104]; exact own_l23 hk2 hrg
              have hc108 : ((0 : Int32) < p3) := by rw [hk2]; decide
              have f321 := (f269.other W317 ne_a1_a0)
              obtain ⟨cl322, Ar322, hin322, hat322⟩ := own_AI.at f321 (j := ((p2 + p3) - (1 : Int32))) (by rw [hk2, own_back2]; exact hi1 (own_pos22 hk2))
              have pre325 : own_Pre p e below (s₁.setTop (entryFrame m #[(.ref a0), (.ref a1), (.int p2), (.int p3)] 7)) (T317.setTop (mkF m 121 #[.val (.ref a0), .val (.ref a1), .val (.int p2), .val (.int p3), .val (.int x4_104_319), .val (.int x5_17_271), .val (.int m60_s0)] [(.int (13 : Int32)), (.int (ws.getD (((p2 + p3) - (1 : Int32))).toNatClampNeg (0 : Int32))), (.ref a0)])) := fun t k => pre320 t (by
                  show Steps p.tables e below (T317.setTop (mkF m 104 #[.val (.ref a0), .val (.ref a1), .val (.int p2), .val (.int p3), .val (.int x4_104_319), .val (.int x5_17_271), .val (.int m60_s0)] [])) _
                  refine XS.goto X317.here hx rfl (pc0 := 104) (pc' := 3) rfl (hb hby d8_104) (by decide) (by decide) ?_
                  refine XS.iload X317.here hx rfl (hb hby d8_3) rfl ?_
                  refine XS.iloadN X317.here hx rfl (hb hby d8_5) rfl ?_
                  refine XS.iloadN X317.here hx rfl (hb hby d8_6) rfl ?_
                  refine XS.iadd X317.here hx rfl (hb hby d8_7) rfl ?_
                  show Steps p.tables e below (T317.setTop (mkF m 8 #[.val (.ref a0), .val (.ref a1), .val (.int p2), .val (.int p3), .val (.int x4_104_319), .val (.int x5_17_271), .val (.int m60_s0)] [(.int (p2 + p3)), (.int x4_104_319)])) _
                  refine XS.icmpYes X317.here hx rfl (pc0 := 8) (pc' := 107) rfl (hb hby d8_8) rfl (flt hc8_3).2.1 (by decide) (by decide) ?_
                  refine XS.iloadN X317.here hx rfl (hb hby d8_107) rfl ?_
                  refine XS.ifNo X317.here hx rfl (hb hby d8_108) rfl ((if0 _ _).trans (tlt hc108).2.2.2) ?_
                  refine XS.aloadN X317.here hx rfl (hb hby d8_111) rfl rfl ?_
                  refine XS.aloadN X317.here hx rfl (hb hby d8_112) rfl rfl ?_
                  show Steps p.tables e below (T317.setTop (mkF m 113 #[.val (.ref a0), .val (.ref a1), .val (.int p2), .val (.int p3), .val (.int x4_104_319), .val (.int x5_17_271), .val (.int m60_s0)] [(.ref a1), (.ref a0)])) _
                  refine XS.iloadN X317.here hx rfl (hb hby d8_113) rfl ?_
                  refine XS.iloadN X317.here hx rfl (hb hby d8_114) rfl ?_
                  refine XS.iadd X317.here hx rfl (hb hby d8_115) rfl ?_
                  refine XS.iconst X317.here hx rfl (hb hby d8_116) ?_
                  refine XS.isub X317.here hx rfl (hb hby d8_117) rfl ?_
                  show Steps p.tables e below (T317.setTop (mkF m 118 #[.val (.ref a0), .val (.ref a1), .val (.int p2), .val (.int p3), .val (.int x4_104_319), .val (.int x5_17_271), .val (.int m60_s0)] [(.int ((p2 + p3) - (1 : Int32))), (.ref a1), (.ref a0)])) _
                  refine X317.caload hx (j := ((p2 + p3) - (1 : Int32))) (v := (.int (ws.getD (((p2 + p3) - (1 : Int32))).toNatClampNeg (0 : Int32)))) (by rw [e317]; exact Ar322.1) (State.isArrayOf_alike hZ.alike Ar322.2.1) Ar322.2.2 hin322 hat322 (g := (mkF m 118 #[.val (.ref a0), .val (.ref a1), .val (.int p2), .val (.int p3), .val (.int x4_104_319), .val (.int x5_17_271), .val (.int m60_s0)] [(.int ((p2 + p3) - (1 : Int32))), (.ref a1), (.ref a0)])) rfl rfl (hb hby d8_118) _ ?_
                  refine XS.bipush X317.here hx rfl (hb hby d8_119) ?_
                  exact k)
              obtain ⟨m129_s0, hm129_s0, pre324⟩ : ∃ (m129_s0 : Int32), m129_s0 = (own_m8_129_s0 ws p2 p3) ∧ own_Pre p e below (s₁.setTop (entryFrame m #[(.ref a0), (.ref a1), (.int p2), (.int p3)] 7)) (T317.setTop (mkF m 129 #[.val (.ref a0), .val (.ref a1), .val (.int p2), .val (.int p3), .val (.int x4_104_319), .val (.int x5_17_271), .val (.int m60_s0)] [(.int m129_s0), (.ref a0)])) := by
                by_cases hc121 : (ws.getD (((p2 + p3) - (1 : Int32))).toNatClampNeg (0 : Int32)) = (13 : Int32)
                · have pre326 : own_Pre p e below (s₁.setTop (entryFrame m #[(.ref a0), (.ref a1), (.int p2), (.int p3)] 7)) (T317.setTop (mkF m 129 #[.val (.ref a0), .val (.ref a1), .val (.int p2), .val (.int p3), .val (.int x4_104_319), .val (.int x5_17_271), .val (.int m60_s0)] [(.int (1 : Int32)), (.ref a0)])) := fun t k => pre325 t (by
                      show Steps p.tables e below (T317.setTop (mkF m 121 #[.val (.ref a0), .val (.ref a1), .val (.int p2), .val (.int p3), .val (.int x4_104_319), .val (.int x5_17_271), .val (.int m60_s0)] [(.int (13 : Int32)), (.int (ws.getD (((p2 + p3) - (1 : Int32))).toNatClampNeg (0 : Int32))), (.ref a0)])) _
                      refine XS.icmpNo X317.here hx rfl (hb hby d8_121) rfl (teq hc121).2 ?_
                      refine XS.iconst X317.here hx rfl (hb hby d8_124) ?_
                      refine XS.goto X317.here hx rfl (pc0 := 125) (pc' := 129) rfl (hb hby d8_125) (by decide) (by decide) ?_
                      exact k)
                  refine ⟨_, ?_, pre326⟩
                  all_goals (first | (simp only [own_m8_129_s0, if_pos hc121]; done) | (simp [own_m8_129_s0, if_pos hc121]; done))
                · have pre327 : own_Pre p e below (s₁.setTop (entryFrame m #[(.ref a0), (.ref a1), (.int p2), (.int p3)] 7)) (T317.setTop (mkF m 129 #[.val (.ref a0), .val (.ref a1), .val (.int p2), .val (.int p3), .val (.int x4_104_319), .val (.int x5_17_271), .val (.int m60_s0)] [(.int (0 : Int32)), (.ref a0)])) := fun t k => pre325 t (by
                      show Steps p.tables e below (T317.setTop (mkF m 121 #[.val (.ref a0), .val (.ref a1), .val (.int p2), .val (.int p3), .val (.int x4_104_319), .val (.int x5_17_271), .val (.int m60_s0)] [(.int (13 : Int32)), (.int (ws.getD (((p2 + p3) - (1 : Int32))).toNatClampNeg (0 : Int32))), (.ref a0)])) _
                      refine XS.icmpYes X317.here hx rfl (pc0 := 121) (pc' := 128) rfl (hb hby d8_121) rfl (feq hc121).2 (by decide) (by decide) ?_
                      refine XS.iconst X317.here hx rfl (hb hby d8_128) ?_
                      exact k)
                  refine ⟨_, ?_, pre327⟩
                  all_goals (first | (simp only [own_m8_129_s0, if_neg hc121]; done) | (simp [own_m8_129_s0, if_neg hc121]; done))
              have f328 := (f316.wr W317)
              have f329 := ((F_a0_afterCarriageReturn.other W266 (Or.inr (slot_ne (Or.inl (hw _ (List.mem_of_getElem? (i := 48) rfl))) (Or.inl (hw _ (List.mem_of_getElem? (i := 38) rfl))) (by decide) (t := .boolean) (t' := .long) (by decide) (by decide)))).other W317 (Or.inr (slot_ne (Or.inl (hw _ (List.mem_of_getElem? (i := 48) rfl))) (Or.inl (hw _ (List.mem_of_getElem? (i := 38) rfl))) (by decide) (t := .boolean) (t' := .long) (by decide) (by decide))))
              obtain ⟨T330, h330, X330, e330, W330, st330⟩ := putFN X317 hx hZ hown (hw _ (List.mem_of_getElem? (i := 47) rfl)) Via.refl e317 f329 f328 (Or.inl (hw _ (List.mem_of_getElem? (i := 48) rfl))) (hw _ (List.mem_of_getElem? (i := 12) rfl)) (ty := .boolean) (v' := (.int (nar .boolean m129_s0))) (by decide) rfl (fits_nar_bool _) (g := (mkF m 129 #[.val (.ref a0), .val (.ref a1), .val (.int p2), .val (.int p3), .val (.int x4_104_319), .val (.int x5_17_271), .val (.int m60_s0)] [(.int m129_s0), (.ref a0)])) rfl rfl (hb hby d8_129)
              have Fw330 := f329.same W330
              have N330 := Fr.snoc X330 N317 g_a0
              have kp331 : Keep h0 h330 [a0] := kp318.wr W330 (Or.inl (List.mem_of_getElem? (i := 0) rfl))
              have f332 := ((f314.other W317 (Or.inr (slot_ne (Or.inl (hw _ (List.mem_of_getElem? (i := 36) rfl))) (Or.inl (hw _ (List.mem_of_getElem? (i := 38) rfl))) (by decide) (t := .long) (t' := .long) (by decide) (by decide)))).other W330 (Or.inr (slot_ne (Or.inl (hw _ (List.mem_of_getElem? (i := 36) rfl))) (Or.inl (hw _ (List.mem_of_getElem? (i := 48) rfl))) (by decide) (t := .long) (t' := .boolean) (by decide) (by decide))))
              obtain ⟨T333, X333, e333, st333⟩ := getF X330 hx hZ hown (host := "") (Or.inl (hw _ (List.mem_of_getElem? (i := 35) rfl))) Via.refl e330 f332 (g := (mkF m 134 #[.val (.ref a0), .val (.ref a1), .val (.int p2), .val (.int p3), .val (.int x4_104_319), .val (.int x5_17_271), .val (.int m60_s0)] [(.ref a0), (.ref a0)])) rfl rfl (hb hby d8_134)
              have f334 := (f328.wr W330)
              obtain ⟨T335, h335, X335, e335, W335, st335⟩ := putF X333 hx hZ hown (host := "") (Or.inl (hw _ (List.mem_of_getElem? (i := 35) rfl))) Via.refl e333 f332 f334 (Or.inl (hw _ (List.mem_of_getElem? (i := 36) rfl))) (hw _ (List.mem_of_getElem? (i := 12) rfl)) (ty := .long) (by decide) rfl rfl (g := (mkF m 140 #[.val (.ref a0), .val (.ref a1), .val (.int p2), .val (.int p3), .val (.int x4_104_319), .val (.int x5_17_271), .val (.int m60_s0)] [(.long (ps + (p3).toInt64)), (.ref a0)])) rfl rfl (hb hby d8_140)
              have Fw335 := f332.same W335
              have N335 := Fr.snoc X335 N330 g_a0
              have kp336 : Keep h0 h335 [a0] := kp331.wr W335 (Or.inl (List.mem_of_getElem? (i := 0) rfl))
              obtain ⟨fs, hr, hrun, hended, hW, hsame⟩ := X335.leave (v := none) (fun _ => rfl)
              refine ⟨_, _, pre324 _ ?_, hrun, hended, _, _, rfl, ?_, ⟨_, rfl⟩, hW, hsame.mono (by decide) (by decide)⟩
              · show Steps p.tables e below (T317.setTop (mkF m 129 #[.val (.ref a0), .val (.ref a1), .val (.int p2), .val (.int p3), .val (.int x4_104_319), .val (.int x5_17_271), .val (.int m60_s0)] [(.int m129_s0), (.ref a0)])) _
                refine st330 _ ?_
                refine XS.aloadN X330.here hx rfl (hb hby d8_132) rfl rfl ?_
                refine XS.dup X330.here hx rfl (hb hby d8_133) rfl rfl ?_
                refine st333 _ ?_
                refine XS.iloadN X333.here hx rfl (hb hby d8_137) rfl ?_
                show Steps p.tables e below (T333.setTop (mkF m 138 #[.val (.ref a0), .val (.ref a1), .val (.int p2), .val (.int p3), .val (.int x4_104_319), .val (.int x5_17_271), .val (.int m60_s0)] [(.int p3), (.long ps), (.ref a0)])) _
                refine XS.i2l X333.here hx rfl (hb hby d8_138) rfl ?_
                refine XS.ladd X333.here hx rfl (hb hby d8_139) rfl ?_
                refine st335 _ ?_
                show Steps p.tables e below (T335.setTop (mkF m 143 #[.val (.ref a0), .val (.ref a1), .val (.int p2), .val (.int p3), .val (.int x4_104_319), .val (.int x5_17_271), .val (.int m60_s0)] [])) _
                exact X335.returnOut hx Bd.returns (hb hby d8_143) hr
              · show Q8 Z a0 a1 p2 p3 k z ws ln ps ls cr h0 n0 _ T335.heap _
                rw [e335]
                unfold Q8
                have f337 := (f334.wr W335)
                have f338 := ((((F_a0_line.other W266 (Or.inr (slot_ne (Or.inl (hw _ (List.mem_of_getElem? (i := 21) rfl))) (Or.inl (hw _ (List.mem_of_getElem? (i := 38) rfl))) (by decide) (t := .int) (t' := .long) (by decide) (by decide)))).other W317 (Or.inr (slot_ne (Or.inl (hw _ (List.mem_of_getElem? (i := 21) rfl))) (Or.inl (hw _ (List.mem_of_getElem? (i := 38) rfl))) (by decide) (t := .int) (t' := .long) (by decide) (by decide)))).other W330 (Or.inr (slot_ne (Or.inl (hw _ (List.mem_of_getElem? (i := 21) rfl))) (Or.inl (hw _ (List.mem_of_getElem? (i := 48) rfl))) (by decide) (t := .int) (t' := .boolean) (by decide) (by decide)))).other W335 (Or.inr (slot_ne (Or.inl (hw _ (List.mem_of_getElem? (i := 21) rfl))) (Or.inl (hw _ (List.mem_of_getElem? (i := 36) rfl))) (by decide) (t := .int) (t' := .long) (by decide) (by decide))))
                have f339 := ((Fw317.other W330 (Or.inr (slot_ne (Or.inl (hw _ (List.mem_of_getElem? (i := 38) rfl))) (Or.inl (hw _ (List.mem_of_getElem? (i := 48) rfl))) (by decide) (t := .long) (t' := .boolean) (by decide) (by decide)))).other W335 (Or.inr (slot_ne (Or.inl (hw _ (List.mem_of_getElem? (i := 38) rfl))) (Or.inl (hw _ (List.mem_of_getElem? (i := 36) rfl))) (by decide) (t := .long) (t' := .long) (by decide) (by decide))))
                have f340 := (Fw330.other W335 (Or.inr (slot_ne (Or.inl (hw _ (List.mem_of_getElem? (i := 48) rfl))) (Or.inl (hw _ (List.mem_of_getElem? (i := 36) rfl))) (by decide) (t := .boolean) (t' := .long) (by decide) (by decide))))
                refine ⟨rfl, N335, kp336, f337, ?_, ?_, ?_, ?_⟩
                · rw [show (own_p8_line p2 p3 ws ln cr) = ln from (by subst hm129_s0 hx4_104_319 hm60_s0 hx5_17_271 hx4_104 hx5_17; simp only [own_p8_line, if_neg hk0, if_neg hk1, if_pos hc21, if_neg hc71, if_pos hc21_2, if_neg hc71_2])]; exact f338
                · rw [show (own_p8_passed p3 ps) = (ps + (p3).toInt64) from (by subst hm129_s0 hx4_104_319 hm60_s0 hx5_17_271 hx4_104 hx5_17; simp only [own_p8_passed, if_neg hk0, if_neg hk1, if_pos hc21, if_neg hc71, if_pos hc21_2, if_neg hc71_2])]; exact Fw335
                · rw [show (own_p8_lineStart p2 p3 ws ps ls) = (((ps + (x4_104).toInt64) - (p2).toInt64) + (1 : Int64)) from (by subst hm129_s0 hx4_104_319 hm60_s0 hx5_17_271 hx4_104 hx5_17; simp only [own_p8_lineStart, if_neg hk0, if_neg hk1, if_pos hc21, if_neg hc71, if_pos hc21_2, if_neg hc71_2])]; exact f339
                · rw [show (own_p8_afterCarriageReturn p2 p3 ws cr) = (nar .boolean m129_s0) from (by subst hm129_s0 hx4_104_319 hm60_s0 hx5_17_271 hx4_104 hx5_17; simp only [own_p8_afterCarriageReturn, if_neg hk0, if_neg hk1, if_pos hc21, if_neg hc71, if_pos hc21_2, if_neg hc71_2])]; exact f340
          · have pre341 : own_Pre p e below (s₁.setTop (entryFrame m #[(.ref a0), (.ref a1), (.int p2), (.int p3)] 7)) (T266.setTop (mkF m 28 #[.val (.ref a0), .val (.ref a1), .val (.int p2), .val (.int p3), .val (.int x4_104), .val (.int x5_17_271), .val (.int cr)] [(.int (13 : Int32)), (.int x5_17_271)])) := fun t k => pre273 t (by
                show Steps p.tables e below (T266.setTop (mkF m 21 #[.val (.ref a0), .val (.ref a1), .val (.int p2), .val (.int p3), .val (.int x4_104), .val (.int x5_17_271), .val (.int cr)] [(.int (10 : Int32)), (.int x5_17_271)])) _
                refine XS.icmpNo X266.here hx rfl (hb hby d8_21) rfl (feq hc21_2).1 ?_
                refine XS.iload X266.here hx rfl (hb hby d8_24) rfl ?_
                refine XS.bipush X266.here hx rfl (hb hby d8_26) ?_
                exact k)
            by_cases hc28 : x5_17_271 = (13 : Int32)
            · have hc34_2 : (p2 < x4_104) := by rw [hx4_104]; exact own_l34 hrg
              obtain ⟨cl342, Ar342, hin342, hat342⟩ := own_AI.at f269 (j := (x4_104 - (1 : Int32))) (by rw [hx4_104, own_back]; exact hi0 (own_pos2 hk2))
              have pre345 : own_Pre p e below (s₁.setTop (entryFrame m #[(.ref a0), (.ref a1), (.int p2), (.int p3)] 7)) (T266.setTop (mkF m 45 #[.val (.ref a0), .val (.ref a1), .val (.int p2), .val (.int p3), .val (.int x4_104), .val (.int x5_17_271), .val (.int cr)] [(.int (13 : Int32)), (.int (ws.getD ((x4_104 - (1 : Int32))).toNatClampNeg (0 : Int32)))])) := fun t k => pre341 t (by
                  show Steps p.tables e below (T266.setTop (mkF m 28 #[.val (.ref a0), .val (.ref a1), .val (.int p2), .val (.int p3), .val (.int x4_104), .val (.int x5_17_271), .val (.int cr)] [(.int (13 : Int32)), (.int x5_17_271)])) _
                  refine XS.icmpNo X266.here hx rfl (hb hby d8_28) rfl (teq hc28).2 ?_
                  refine XS.iload X266.here hx rfl (hb hby d8_31) rfl ?_
                  refine XS.iloadN X266.here hx rfl (hb hby d8_33) rfl ?_
                  refine XS.icmpNo X266.here hx rfl (hb hby d8_34) rfl (tlt hc34_2).2.2.2 ?_
                  refine XS.aloadN X266.here hx rfl (hb hby d8_37) rfl rfl ?_
                  show Steps p.tables e below (T266.setTop (mkF m 38 #[.val (.ref a0), .val (.ref a1), .val (.int p2), .val (.int p3), .val (.int x4_104), .val (.int x5_17_271), .val (.int cr)] [(.ref a1)])) _
                  refine XS.iload X266.here hx rfl (hb hby d8_38) rfl ?_
                  refine XS.iconst X266.here hx rfl (hb hby d8_40) ?_
                  refine XS.isub X266.here hx rfl (hb hby d8_41) rfl ?_
                  refine X266.caload hx (j := (x4_104 - (1 : Int32))) (v := (.int (ws.getD ((x4_104 - (1 : Int32))).toNatClampNeg (0 : Int32)))) (by rw [e266]; exact Ar342.1) (State.isArrayOf_alike hZ.alike Ar342.2.1) Ar342.2.2 hin342 hat342 (g := (mkF m 42 #[.val (.ref a0), .val (.ref a1), .val (.int p2), .val (.int p3), .val (.int x4_104), .val (.int x5_17_271), .val (.int cr)] [(.int (x4_104 - (1 : Int32))), (.ref a1)])) rfl rfl (hb hby d8_42) _ ?_
                  refine XS.bipush X266.here hx rfl (hb hby d8_43) ?_
                  exact k)
              obtain ⟨m60_s0, hm60_s0, pre344⟩ : ∃ (m60_s0 : Int32), m60_s0 = (own_m8_60_s0 ws x4_104) ∧ own_Pre p e below (s₁.setTop (entryFrame m #[(.ref a0), (.ref a1), (.int p2), (.int p3)] 7)) (T266.setTop (mkF m 60 #[.val (.ref a0), .val (.ref a1), .val (.int p2), .val (.int p3), .val (.int x4_104), .val (.int x5_17_271), .val (.int cr)] [(.int m60_s0)])) := by
                by_cases hc45 : (ws.getD ((x4_104 - (1 : Int32))).toNatClampNeg (0 : Int32)) = (13 : Int32)
                · have pre346 : own_Pre p e below (s₁.setTop (entryFrame m #[(.ref a0), (.ref a1), (.int p2), (.int p3)] 7)) (T266.setTop (mkF m 60 #[.val (.ref a0), .val (.ref a1), .val (.int p2), .val (.int p3), .val (.int x4_104), .val (.int x5_17_271), .val (.int cr)] [(.int (1 : Int32))])) := fun t k => pre345 t (by
                      show Steps p.tables e below (T266.setTop (mkF m 45 #[.val (.ref a0), .val (.ref a1), .val (.int p2), .val (.int p3), .val (.int x4_104), .val (.int x5_17_271), .val (.int cr)] [(.int (13 : Int32)), (.int (ws.getD ((x4_104 - (1 : Int32))).toNatClampNeg (0 : Int32)))])) _
                      refine XS.icmpNo X266.here hx rfl (hb hby d8_45) rfl (teq hc45).2 ?_
                      refine XS.iconst X266.here hx rfl (hb hby d8_48) ?_
                      refine XS.goto X266.here hx rfl (pc0 := 49) (pc' := 60) rfl (hb hby d8_49) (by decide) (by decide) ?_
                      exact k)
                  refine ⟨_, ?_, pre346⟩
                  all_goals (first | (simp only [own_m8_60_s0, if_pos hc45]; done) | (simp [own_m8_60_s0, if_pos hc45]; done))
                · have pre347 : own_Pre p e below (s₁.setTop (entryFrame m #[(.ref a0), (.ref a1), (.int p2), (.int p3)] 7)) (T266.setTop (mkF m 60 #[.val (.ref a0), .val (.ref a1), .val (.int p2), .val (.int p3), .val (.int x4_104), .val (.int x5_17_271), .val (.int cr)] [(.int (0 : Int32))])) := fun t k => pre345 t (by
                      show Steps p.tables e below (T266.setTop (mkF m 45 #[.val (.ref a0), .val (.ref a1), .val (.int p2), .val (.int p3), .val (.int x4_104), .val (.int x5_17_271), .val (.int cr)] [(.int (13 : Int32)), (.int (ws.getD ((x4_104 - (1 : Int32))).toNatClampNeg (0 : Int32)))])) _
                      refine XS.icmpYes X266.here hx rfl (pc0 := 45) (pc' := 52) rfl (hb hby d8_45) rfl (feq hc45).2 (by decide) (by decide) ?_
                      refine XS.iconst X266.here hx rfl (hb hby d8_52) ?_
                      refine XS.goto X266.here hx rfl (pc0 := 53) (pc' := 60) rfl (hb hby d8_53) (by decide) (by decide) ?_
                      exact k)
                  refine ⟨_, ?_, pre347⟩
                  all_goals (first | (simp only [own_m8_60_s0, if_neg hc45]; done) | (simp [own_m8_60_s0, if_neg hc45]; done))
              have hc66_2 : (x5_17_271 = (13 : Int32)) := hc28
              have f348 := (F_a0_line.other W266 (Or.inr (slot_ne (Or.inl (hw _ (List.mem_of_getElem? (i := 21) rfl))) (Or.inl (hw _ (List.mem_of_getElem? (i := 38) rfl))) (by decide) (t := .int) (t' := .long) (by decide) (by decide))))
              obtain ⟨T349, X349, e349, st349⟩ := getF X266 hx hZ hown (host := "") (Or.inl (hw _ (List.mem_of_getElem? (i := 20) rfl))) Via.refl e266 f348 (g := (mkF m 76 #[.val (.ref a0), .val (.ref a1), .val (.int p2), .val (.int p3), .val (.int x4_104), .val (.int x5_17_271), .val (.int m60_s0)] [(.ref a0), (.ref a0)])) rfl rfl (hb hby d8_76)
              have f350 := (E_a0.wr W266)
              obtain ⟨T351, h351, X351, e351, W351, st351⟩ := putF X349 hx hZ hown (host := "") (Or.inl (hw _ (List.mem_of_getElem? (i := 20) rfl))) Via.refl e349 f348 f350 (Or.inl (hw _ (List.mem_of_getElem? (i := 21) rfl))) (hw _ (List.mem_of_getElem? (i := 12) rfl)) (ty := .int) (by decide) rfl rfl (g := (mkF m 81 #[.val (.ref a0), .val (.ref a1), .val (.int p2), .val (.int p3), .val (.int x4_104), .val (.int x5_17_271), .val (.int m60_s0)] [(.int (ln + (1 : Int32))), (.ref a0)])) rfl rfl (hb hby d8_81)
              have Fw351 := f348.same W351
              have N351 := Fr.snoc X351 N266 g_a0
              have kp352 : Keep h0 h351 [a0] := kp267.wr W351 (Or.inl (List.mem_of_getElem? (i := 0) rfl))
              have f353 := ((F_a0_passed.other W266 (Or.inr (slot_ne (Or.inl (hw _ (List.mem_of_getElem? (i := 36) rfl))) (Or.inl (hw _ (List.mem_of_getElem? (i := 38) rfl))) (by decide) (t := .long) (t' := .long) (by decide) (by decide)))).other W351 (Or.inr (slot_ne (Or.inl (hw _ (List.mem_of_getElem? (i := 36) rfl))) (Or.inl (hw _ (List.mem_of_getElem? (i := 21) rfl))) (by decide) (t := .long) (t' := .int) (by decide) (by decide))))
              obtain ⟨T354, X354, e354, st354⟩ := getF X351 hx hZ hown (host := "") (Or.inl (hw _ (List.mem_of_getElem? (i := 35) rfl))) Via.refl e351 f353 (g := (mkF m 86 #[.val (.ref a0), .val (.ref a1), .val (.int p2), .val (.int p3), .val (.int x4_104), .val (.int x5_17_271), .val (.int m60_s0)] [(.ref a0), (.ref a0)])) rfl rfl (hb hby d8_86)
              have f355 := (f350.wr W351)
              have f356 := (Fw266.other W351 (Or.inr (slot_ne (Or.inl (hw _ (List.mem_of_getElem? (i := 38) rfl))) (Or.inl (hw _ (List.mem_of_getElem? (i := 21) rfl))) (by decide) (t := .long) (t' := .int) (by decide) (by decide))))
              obtain ⟨T357, h357, X357, e357, W357, st357⟩ := putF X354 hx hZ hown (host := "") (Or.inl (hw _ (List.mem_of_getElem? (i := 37) rfl))) Via.refl e354 f356 f355 (Or.inl (hw _ (List.mem_of_getElem? (i := 38) rfl))) (hw _ (List.mem_of_getElem? (i := 12) rfl)) (ty := .long) (by decide) rfl rfl (g := (mkF m 98 #[.val (.ref a0), .val (.ref a1), .val (.int p2), .val (.int p3), .val (.int x4_104), .val (.int x5_17_271), .val (.int m60_s0)] [(.long (((ps + (x4_104).toInt64) - (p2).toInt64) + (1 : Int64))), (.ref a0)])) rfl rfl (hb hby d8_98)
              have Fw357 := f356.same W357
              have N357 := Fr.snoc X357 N351 g_a0
              have kp358 : Keep h0 h357 [a0] := kp352.wr W357 (Or.inl (List.mem_of_getElem? (i := 0) rfl))
              obtain ⟨x4_104_359, hx4_104_359, pre360⟩ : ∃ z : Int32, z = (x4_104 + (1 : Int32)) ∧ own_Pre p e below (s₁.setTop (entryFrame m #[(.ref a0), (.ref a1), (.int p2), (.int p3)] 7)) (T357.setTop (mkF m 104 #[.val (.ref a0), .val (.ref a1), .val (.int p2), .val (.int p3), .val (.int z), .val (.int x5_17_271), .val (.int m60_s0)] [])) := ⟨_, rfl, fun t k => pre344 t (by
                  show Steps p.tables e below (T266.setTop (mkF m 60 #[.val (.ref a0), .val (.ref a1), .val (.int p2), .val (.int p3), .val (.int x4_104), .val (.int x5_17_271), .val (.int cr)] [(.int m60_s0)])) _
                  refine XS.istore X266.here hx rfl (hb hby d8_60) rfl (l' := #[.val (.ref a0), .val (.ref a1), .val (.int p2), .val (.int p3), .val (.int x4_104), .val (.int x5_17_271), .val (.int m60_s0)]) rfl ?_
                  refine XS.iload X266.here hx rfl (hb hby d8_62) rfl ?_
                  refine XS.bipush X266.here hx rfl (hb hby d8_64) ?_
                  refine XS.icmpYes X266.here hx rfl (pc0 := 66) (pc' := 74) rfl (hb hby d8_66) rfl (teq hc66_2).1 (by decide) (by decide) ?_
                  refine XS.aloadN X266.here hx rfl (hb hby d8_74) rfl rfl ?_
                  show Steps p.tables e below (T266.setTop (mkF m 75 #[.val (.ref a0), .val (.ref a1), .val (.int p2), .val (.int p3), .val (.int x4_104), .val (.int x5_17_271), .val (.int m60_s0)] [(.ref a0)])) _
                  refine XS.dup X266.here hx rfl (hb hby d8_75) rfl rfl ?_
                  refine st349 _ ?_
                  refine XS.iconst X349.here hx rfl (hb hby d8_79) ?_
                  refine XS.iadd X349.here hx rfl (hb hby d8_80) rfl ?_
                  refine st351 _ ?_
                  show Steps p.tables e below (T351.setTop (mkF m 84 #[.val (.ref a0), .val (.ref a1), .val (.int p2), .val (.int p3), .val (.int x4_104), .val (.int x5_17_271), .val (.int m60_s0)] [])) _
                  refine XS.aloadN X351.here hx rfl (hb hby d8_84) rfl rfl ?_
                  refine XS.aloadN X351.here hx rfl (hb hby d8_85) rfl rfl ?_
                  refine st354 _ ?_
                  refine XS.iload X354.here hx rfl (hb hby d8_89) rfl ?_
                  refine XS.i2l X354.here hx rfl (hb hby d8_91) rfl ?_
                  show Steps p.tables e below (T354.setTop (mkF m 92 #[.val (.ref a0), .val (.ref a1), .val (.int p2), .val (.int p3), .val (.int x4_104), .val (.int x5_17_271), .val (.int m60_s0)] [(.long (x4_104).toInt64), (.long ps), (.ref a0)])) _
                  refine XS.ladd X354.here hx rfl (hb hby d8_92) rfl ?_
                  refine XS.iloadN X354.here hx rfl (hb hby d8_93) rfl ?_
                  refine XS.i2l X354.here hx rfl (hb hby d8_94) rfl ?_
                  refine XS.lsub X354.here hx rfl (hb hby d8_95) rfl ?_
                  refine XS.lconst X354.here hx rfl (hb hby d8_96) ?_
                  show Steps p.tables e below (T354.setTop (mkF m 97 #[.val (.ref a0), .val (.ref a1), .val (.int p2), .val (.int p3), .val (.int x4_104), .val (.int x5_17_271), .val (.int m60_s0)] [(.long (1 : Int64)), (.long ((ps + (x4_104).toInt64) - (p2).toInt64)), (.ref a0)])) _
                  refine XS.ladd X354.here hx rfl (hb hby d8_97) rfl ?_
                  refine st357 _ ?_
                  refine XS.iinc X357.here hx rfl (hb hby d8_101) rfl (l' := #[.val (.ref a0), .val (.ref a1), .val (.int p2), .val (.int p3), .val (.int (x4_104 + (1 : Int32))), .val (.int x5_17_271), .val (.int m60_s0)]) rfl ?_
                  exact k)⟩
              have hc8_3 : ¬ (x4_104_359 < (p2 + p3)) := by rw [hx4_104_359, hx4_104]; exact own_l23 hk2 hrg
              have hc108 : ((0 : Int32) < p3) := by rw [hk2]; decide
              have f361 := ((f269.other W351 ne_a1_a0).other W357 ne_a1_a0)
              obtain ⟨cl362, Ar362, hin362, hat362⟩ := own_AI.at f361 (j := ((p2 + p3) - (1 : Int32))) (by rw [hk2, own_back2]; exact hi1 (own_pos22 hk2))
              have pre365 : own_Pre p e below (s₁.setTop (entryFrame m #[(.ref a0), (.ref a1), (.int p2), (.int p3)] 7)) (T357.setTop (mkF m 121 #[.val (.ref a0), .val (.ref a1), .val (.int p2), .val (.int p3), .val (.int x4_104_359), .val (.int x5_17_271), .val (.int m60_s0)] [(.int (13 : Int32)), (.int (ws.getD (((p2 + p3) - (1 : Int32))).toNatClampNeg (0 : Int32))), (.ref a0)])) := fun t k => pre360 t (by
                  show Steps p.tables e below (T357.setTop (mkF m 104 #[.val (.ref a0), .val (.ref a1), .val (.int p2), .val (.int p3), .val (.int x4_104_359), .val (.int x5_17_271), .val (.int m60_s0)] [])) _
                  refine XS.goto X357.here hx rfl (pc0 := 104) (pc' := 3) rfl (hb hby d8_104) (by decide) (by decide) ?_
                  refine XS.iload X357.here hx rfl (hb hby d8_3) rfl ?_
                  refine XS.iloadN X357.here hx rfl (hb hby d8_5) rfl ?_
                  refine XS.iloadN X357.here hx rfl (hb hby d8_6) rfl ?_
                  refine XS.iadd X357.here hx rfl (hb hby d8_7) rfl ?_
                  show Steps p.tables e below (T357.setTop (mkF m 8 #[.val (.ref a0), .val (.ref a1), .val (.int p2), .val (.int p3), .val (.int x4_104_359), .val (.int x5_17_271), .val (.int m60_s0)] [(.int (p2 + p3)), (.int x4_104_359)])) _
                  refine XS.icmpYes X357.here hx rfl (pc0 := 8) (pc' := 107) rfl (hb hby d8_8) rfl (flt hc8_3).2.1 (by decide) (by decide) ?_
                  refine XS.iloadN X357.here hx rfl (hb hby d8_107) rfl ?_
                  refine XS.ifNo X357.here hx rfl (hb hby d8_108) rfl ((if0 _ _).trans (tlt hc108).2.2.2) ?_
                  refine XS.aloadN X357.here hx rfl (hb hby d8_111) rfl rfl ?_
                  refine XS.aloadN X357.here hx rfl (hb hby d8_112) rfl rfl ?_
                  show Steps p.tables e below (T357.setTop (mkF m 113 #[.val (.ref a0), .val (.ref a1), .val (.int p2), .val (.int p3), .val (.int x4_104_359), .val (.int x5_17_271), .val (.int m60_s0)] [(.ref a1), (.ref a0)])) _
                  refine XS.iloadN X357.here hx rfl (hb hby d8_113) rfl ?_
                  refine XS.iloadN X357.here hx rfl (hb hby d8_114) rfl ?_
                  refine XS.iadd X357.here hx rfl (hb hby d8_115) rfl ?_
                  refine XS.iconst X357.here hx rfl (hb hby d8_116) ?_
                  refine XS.isub X357.here hx rfl (hb hby d8_117) rfl ?_
                  show Steps p.tables e below (T357.setTop (mkF m 118 #[.val (.ref a0), .val (.ref a1), .val (.int p2), .val (.int p3), .val (.int x4_104_359), .val (.int x5_17_271), .val (.int m60_s0)] [(.int ((p2 + p3) - (1 : Int32))), (.ref a1), (.ref a0)])) _
                  refine X357.caload hx (j := ((p2 + p3) - (1 : Int32))) (v := (.int (ws.getD (((p2 + p3) - (1 : Int32))).toNatClampNeg (0 : Int32)))) (by rw [e357]; exact Ar362.1) (State.isArrayOf_alike hZ.alike Ar362.2.1) Ar362.2.2 hin362 hat362 (g := (mkF m 118 #[.val (.ref a0), .val (.ref a1), .val (.int p2), .val (.int p3), .val (.int x4_104_359), .val (.int x5_17_271), .val (.int m60_s0)] [(.int ((p2 + p3) - (1 : Int32))), (.ref a1), (.ref a0)])) rfl rfl (hb hby d8_118) _ ?_
                  refine XS.bipush X357.here hx rfl (hb hby d8_119) ?_
                  exact k)
              obtain ⟨m129_s0, hm129_s0, pre364⟩ : ∃ (m129_s0 : Int32), m129_s0 = (own_m8_129_s0 ws p2 p3) ∧ own_Pre p e below (s₁.setTop (entryFrame m #[(.ref a0), (.ref a1), (.int p2), (.int p3)] 7)) (T357.setTop (mkF m 129 #[.val (.ref a0), .val (.ref a1), .val (.int p2), .val (.int p3), .val (.int x4_104_359), .val (.int x5_17_271), .val (.int m60_s0)] [(.int m129_s0), (.ref a0)])) := by
                by_cases hc121 : (ws.getD (((p2 + p3) - (1 : Int32))).toNatClampNeg (0 : Int32)) = (13 : Int32)
                · have pre366 : own_Pre p e below (s₁.setTop (entryFrame m #[(.ref a0), (.ref a1), (.int p2), (.int p3)] 7)) (T357.setTop (mkF m 129 #[.val (.ref a0), .val (.ref a1), .val (.int p2), .val (.int p3), .val (.int x4_104_359), .val (.int x5_17_271), .val (.int m60_s0)] [(.int (1 : Int32)), (.ref a0)])) := fun t k => pre365 t (by
                      show Steps p.tables e below (T357.setTop (mkF m 121 #[.val (.ref a0), .val (.ref a1), .val (.int p2), .val (.int p3), .val (.int x4_104_359), .val (.int x5_17_271), .val (.int m60_s0)] [(.int (13 : Int32)), (.int (ws.getD (((p2 + p3) - (1 : Int32))).toNatClampNeg (0 : Int32))), (.ref a0)])) _
                      refine XS.icmpNo X357.here hx rfl (hb hby d8_121) rfl (teq hc121).2 ?_
                      refine XS.iconst X357.here hx rfl (hb hby d8_124) ?_
                      refine XS.goto X357.here hx rfl (pc0 := 125) (pc' := 129) rfl (hb hby d8_125) (by decide) (by decide) ?_
                      exact k)
                  refine ⟨_, ?_, pre366⟩
                  all_goals (first | (simp only [own_m8_129_s0, if_pos hc121]; done) | (simp [own_m8_129_s0, if_pos hc121]; done))
                · have pre367 : own_Pre p e below (s₁.setTop (entryFrame m #[(.ref a0), (.ref a1), (.int p2), (.int p3)] 7)) (T357.setTop (mkF m 129 #[.val (.ref a0), .val (.ref a1), .val (.int p2), .val (.int p3), .val (.int x4_104_359), .val (.int x5_17_271), .val (.int m60_s0)] [(.int (0 : Int32)), (.ref a0)])) := fun t k => pre365 t (by
                      show Steps p.tables e below (T357.setTop (mkF m 121 #[.val (.ref a0), .val (.ref a1), .val (.int p2), .val (.int p3), .val (.int x4_104_359), .val (.int x5_17_271), .val (.int m60_s0)] [(.int (13 : Int32)), (.int (ws.getD (((p2 + p3) - (1 : Int32))).toNatClampNeg (0 : Int32))), (.ref a0)])) _
                      refine XS.icmpYes X357.here hx rfl (pc0 := 121) (pc' := 128) rfl (hb hby d8_121) rfl (feq hc121).2 (by decide) (by decide) ?_
                      refine XS.iconst X357.here hx rfl (hb hby d8_128) ?_
                      exact k)
                  refine ⟨_, ?_, pre367⟩
                  all_goals (first | (simp only [own_m8_129_s0, if_neg hc121]; done) | (simp [own_m8_129_s0, if_neg hc121]; done))
              have f368 := (f355.wr W357)
              have f369 := (((F_a0_afterCarriageReturn.other W266 (Or.inr (slot_ne (Or.inl (hw _ (List.mem_of_getElem? (i := 48) rfl))) (Or.inl (hw _ (List.mem_of_getElem? (i := 38) rfl))) (by decide) (t := .boolean) (t' := .long) (by decide) (by decide)))).other W351 (Or.inr (slot_ne (Or.inl (hw _ (List.mem_of_getElem? (i := 48) rfl))) (Or.inl (hw _ (List.mem_of_getElem? (i := 21) rfl))) (by decide) (t := .boolean) (t' := .int) (by decide) (by decide)))).other W357 (Or.inr (slot_ne (Or.inl (hw _ (List.mem_of_getElem? (i := 48) rfl))) (Or.inl (hw _ (List.mem_of_getElem? (i := 38) rfl))) (by decide) (t := .boolean) (t' := .long) (by decide) (by decide))))
              obtain ⟨T370, h370, X370, e370, W370, st370⟩ := putFN X357 hx hZ hown (hw _ (List.mem_of_getElem? (i := 47) rfl)) Via.refl e357 f369 f368 (Or.inl (hw _ (List.mem_of_getElem? (i := 48) rfl))) (hw _ (List.mem_of_getElem? (i := 12) rfl)) (ty := .boolean) (v' := (.int (nar .boolean m129_s0))) (by decide) rfl (fits_nar_bool _) (g := (mkF m 129 #[.val (.ref a0), .val (.ref a1), .val (.int p2), .val (.int p3), .val (.int x4_104_359), .val (.int x5_17_271), .val (.int m60_s0)] [(.int m129_s0), (.ref a0)])) rfl rfl (hb hby d8_129)
              have Fw370 := f369.same W370
              have N370 := Fr.snoc X370 N357 g_a0
              have kp371 : Keep h0 h370 [a0] := kp358.wr W370 (Or.inl (List.mem_of_getElem? (i := 0) rfl))
              have f372 := ((f353.other W357 (Or.inr (slot_ne (Or.inl (hw _ (List.mem_of_getElem? (i := 36) rfl))) (Or.inl (hw _ (List.mem_of_getElem? (i := 38) rfl))) (by decide) (t := .long) (t' := .long) (by decide) (by decide)))).other W370 (Or.inr (slot_ne (Or.inl (hw _ (List.mem_of_getElem? (i := 36) rfl))) (Or.inl (hw _ (List.mem_of_getElem? (i := 48) rfl))) (by decide) (t := .long) (t' := .boolean) (by decide) (by decide))))
              obtain ⟨T373, X373, e373, st373⟩ := getF X370 hx hZ hown (host := "") (Or.inl (hw _ (List.mem_of_getElem? (i := 35) rfl))) Via.refl e370 f372 (g := (mkF m 134 #[.val (.ref a0), .val (.ref a1), .val (.int p2), .val (.int p3), .val (.int x4_104_359), .val (.int x5_17_271), .val (.int m60_s0)] [(.ref a0), (.ref a0)])) rfl rfl (hb hby d8_134)
              have f374 := (f368.wr W370)
              obtain ⟨T375, h375, X375, e375, W375, st375⟩ := putF X373 hx hZ hown (host := "") (Or.inl (hw _ (List.mem_of_getElem? (i := 35) rfl))) Via.refl e373 f372 f374 (Or.inl (hw _ (List.mem_of_getElem? (i := 36) rfl))) (hw _ (List.mem_of_getElem? (i := 12) rfl)) (ty := .long) (by decide) rfl rfl (g := (mkF m 140 #[.val (.ref a0), .val (.ref a1), .val (.int p2), .val (.int p3), .val (.int x4_104_359), .val (.int x5_17_271), .val (.int m60_s0)] [(.long (ps + (p3).toInt64)), (.ref a0)])) rfl rfl (hb hby d8_140)
              have Fw375 := f372.same W375
              have N375 := Fr.snoc X375 N370 g_a0
              have kp376 : Keep h0 h375 [a0] := kp371.wr W375 (Or.inl (List.mem_of_getElem? (i := 0) rfl))
              obtain ⟨fs, hr, hrun, hended, hW, hsame⟩ := X375.leave (v := none) (fun _ => rfl)
              refine ⟨_, _, pre364 _ ?_, hrun, hended, _, _, rfl, ?_, ⟨_, rfl⟩, hW, hsame.mono (by decide) (by decide)⟩
              · show Steps p.tables e below (T357.setTop (mkF m 129 #[.val (.ref a0), .val (.ref a1), .val (.int p2), .val (.int p3), .val (.int x4_104_359), .val (.int x5_17_271), .val (.int m60_s0)] [(.int m129_s0), (.ref a0)])) _
                refine st370 _ ?_
                refine XS.aloadN X370.here hx rfl (hb hby d8_132) rfl rfl ?_
                refine XS.dup X370.here hx rfl (hb hby d8_133) rfl rfl ?_
                refine st373 _ ?_
                refine XS.iloadN X373.here hx rfl (hb hby d8_137) rfl ?_
                show Steps p.tables e below (T373.setTop (mkF m 138 #[.val (.ref a0), .val (.ref a1), .val (.int p2), .val (.int p3), .val (.int x4_104_359), .val (.int x5_17_271), .val (.int m60_s0)] [(.int p3), (.long ps), (.ref a0)])) _
                refine XS.i2l X373.here hx rfl (hb hby d8_138) rfl ?_
                refine XS.ladd X373.here hx rfl (hb hby d8_139) rfl ?_
                refine st375 _ ?_
                show Steps p.tables e below (T375.setTop (mkF m 143 #[.val (.ref a0), .val (.ref a1), .val (.int p2), .val (.int p3), .val (.int x4_104_359), .val (.int x5_17_271), .val (.int m60_s0)] [])) _
                exact X375.returnOut hx Bd.returns (hb hby d8_143) hr
              · show Q8 Z a0 a1 p2 p3 k z ws ln ps ls cr h0 n0 _ T375.heap _
                rw [e375]
                unfold Q8
                have f377 := (f374.wr W375)
                have f378 := (((Fw351.other W357 (Or.inr (slot_ne (Or.inl (hw _ (List.mem_of_getElem? (i := 21) rfl))) (Or.inl (hw _ (List.mem_of_getElem? (i := 38) rfl))) (by decide) (t := .int) (t' := .long) (by decide) (by decide)))).other W370 (Or.inr (slot_ne (Or.inl (hw _ (List.mem_of_getElem? (i := 21) rfl))) (Or.inl (hw _ (List.mem_of_getElem? (i := 48) rfl))) (by decide) (t := .int) (t' := .boolean) (by decide) (by decide)))).other W375 (Or.inr (slot_ne (Or.inl (hw _ (List.mem_of_getElem? (i := 21) rfl))) (Or.inl (hw _ (List.mem_of_getElem? (i := 36) rfl))) (by decide) (t := .int) (t' := .long) (by decide) (by decide))))
                have f379 := ((Fw357.other W370 (Or.inr (slot_ne (Or.inl (hw _ (List.mem_of_getElem? (i := 38) rfl))) (Or.inl (hw _ (List.mem_of_getElem? (i := 48) rfl))) (by decide) (t := .long) (t' := .boolean) (by decide) (by decide)))).other W375 (Or.inr (slot_ne (Or.inl (hw _ (List.mem_of_getElem? (i := 38) rfl))) (Or.inl (hw _ (List.mem_of_getElem? (i := 36) rfl))) (by decide) (t := .long) (t' := .long) (by decide) (by decide))))
                have f380 := (Fw370.other W375 (Or.inr (slot_ne (Or.inl (hw _ (List.mem_of_getElem? (i := 48) rfl))) (Or.inl (hw _ (List.mem_of_getElem? (i := 36) rfl))) (by decide) (t := .boolean) (t' := .long) (by decide) (by decide))))
                refine ⟨rfl, N375, kp376, f377, ?_, ?_, ?_, ?_⟩
                · rw [show (own_p8_line p2 p3 ws ln cr) = (ln + (1 : Int32)) from (by subst hm129_s0 hx4_104_359 hm60_s0 hx5_17_271 hx4_104 hx5_17; simp only [own_p8_line, if_neg hk0, if_neg hk1, if_pos hc21, if_neg hc71, if_neg hc21_2, if_pos hc28])]; exact f378
                · rw [show (own_p8_passed p3 ps) = (ps + (p3).toInt64) from (by subst hm129_s0 hx4_104_359 hm60_s0 hx5_17_271 hx4_104 hx5_17; simp only [own_p8_passed, if_neg hk0, if_neg hk1, if_pos hc21, if_neg hc71, if_neg hc21_2, if_pos hc28])]; exact Fw375
                · rw [show (own_p8_lineStart p2 p3 ws ps ls) = (((ps + (x4_104).toInt64) - (p2).toInt64) + (1 : Int64)) from (by subst hm129_s0 hx4_104_359 hm60_s0 hx5_17_271 hx4_104 hx5_17; simp only [own_p8_lineStart, if_neg hk0, if_neg hk1, if_pos hc21, if_neg hc71, if_neg hc21_2, if_pos hc28])]; exact f379
                · rw [show (own_p8_afterCarriageReturn p2 p3 ws cr) = (nar .boolean m129_s0) from (by subst hm129_s0 hx4_104_359 hm60_s0 hx5_17_271 hx4_104 hx5_17; simp only [own_p8_afterCarriageReturn, if_neg hk0, if_neg hk1, if_pos hc21, if_neg hc71, if_neg hc21_2, if_pos hc28])]; exact f380
            · obtain ⟨x4_104_381, hx4_104_381, pre382⟩ : ∃ z : Int32, z = (x4_104 + (1 : Int32)) ∧ own_Pre p e below (s₁.setTop (entryFrame m #[(.ref a0), (.ref a1), (.int p2), (.int p3)] 7)) (T266.setTop (mkF m 104 #[.val (.ref a0), .val (.ref a1), .val (.int p2), .val (.int p3), .val (.int z), .val (.int x5_17_271), .val (.int cr)] [])) := ⟨_, rfl, fun t k => pre341 t (by
                  show Steps p.tables e below (T266.setTop (mkF m 28 #[.val (.ref a0), .val (.ref a1), .val (.int p2), .val (.int p3), .val (.int x4_104), .val (.int x5_17_271), .val (.int cr)] [(.int (13 : Int32)), (.int x5_17_271)])) _
                  refine XS.icmpYes X266.here hx rfl (pc0 := 28) (pc' := 101) rfl (hb hby d8_28) rfl (feq hc28).2 (by decide) (by decide) ?_
                  refine XS.iinc X266.here hx rfl (hb hby d8_101) rfl (l' := #[.val (.ref a0), .val (.ref a1), .val (.int p2), .val (.int p3), .val (.int (x4_104 + (1 : Int32))), .val (.int x5_17_271), .val (.int cr)]) rfl ?_
                  exact k)⟩
              have hc8_3 : ¬ (x4_104_381 < (p2 + p3)) := by rw [hx4_104_381, hx4_104]; exact own_l23 hk2 hrg
              have hc108 : ((0 : Int32) < p3) := by rw [hk2]; decide
              obtain ⟨cl383, Ar383, hin383, hat383⟩ := own_AI.at f269 (j := ((p2 + p3) - (1 : Int32))) (by rw [hk2, own_back2]; exact hi1 (own_pos22 hk2))
              have pre386 : own_Pre p e below (s₁.setTop (entryFrame m #[(.ref a0), (.ref a1), (.int p2), (.int p3)] 7)) (T266.setTop (mkF m 121 #[.val (.ref a0), .val (.ref a1), .val (.int p2), .val (.int p3), .val (.int x4_104_381), .val (.int x5_17_271), .val (.int cr)] [(.int (13 : Int32)), (.int (ws.getD (((p2 + p3) - (1 : Int32))).toNatClampNeg (0 : Int32))), (.ref a0)])) := fun t k => pre382 t (by
                  show Steps p.tables e below (T266.setTop (mkF m 104 #[.val (.ref a0), .val (.ref a1), .val (.int p2), .val (.int p3), .val (.int x4_104_381), .val (.int x5_17_271), .val (.int cr)] [])) _
                  refine XS.goto X266.here hx rfl (pc0 := 104) (pc' := 3) rfl (hb hby d8_104) (by decide) (by decide) ?_
                  refine XS.iload X266.here hx rfl (hb hby d8_3) rfl ?_
                  refine XS.iloadN X266.here hx rfl (hb hby d8_5) rfl ?_
                  refine XS.iloadN X266.here hx rfl (hb hby d8_6) rfl ?_
                  refine XS.iadd X266.here hx rfl (hb hby d8_7) rfl ?_
                  show Steps p.tables e below (T266.setTop (mkF m 8 #[.val (.ref a0), .val (.ref a1), .val (.int p2), .val (.int p3), .val (.int x4_104_381), .val (.int x5_17_271), .val (.int cr)] [(.int (p2 + p3)), (.int x4_104_381)])) _
                  refine XS.icmpYes X266.here hx rfl (pc0 := 8) (pc' := 107) rfl (hb hby d8_8) rfl (flt hc8_3).2.1 (by decide) (by decide) ?_
                  refine XS.iloadN X266.here hx rfl (hb hby d8_107) rfl ?_
                  refine XS.ifNo X266.here hx rfl (hb hby d8_108) rfl ((if0 _ _).trans (tlt hc108).2.2.2) ?_
                  refine XS.aloadN X266.here hx rfl (hb hby d8_111) rfl rfl ?_
                  refine XS.aloadN X266.here hx rfl (hb hby d8_112) rfl rfl ?_
                  show Steps p.tables e below (T266.setTop (mkF m 113 #[.val (.ref a0), .val (.ref a1), .val (.int p2), .val (.int p3), .val (.int x4_104_381), .val (.int x5_17_271), .val (.int cr)] [(.ref a1), (.ref a0)])) _
                  refine XS.iloadN X266.here hx rfl (hb hby d8_113) rfl ?_
                  refine XS.iloadN X266.here hx rfl (hb hby d8_114) rfl ?_
                  refine XS.iadd X266.here hx rfl (hb hby d8_115) rfl ?_
                  refine XS.iconst X266.here hx rfl (hb hby d8_116) ?_
                  refine XS.isub X266.here hx rfl (hb hby d8_117) rfl ?_
                  show Steps p.tables e below (T266.setTop (mkF m 118 #[.val (.ref a0), .val (.ref a1), .val (.int p2), .val (.int p3), .val (.int x4_104_381), .val (.int x5_17_271), .val (.int cr)] [(.int ((p2 + p3) - (1 : Int32))), (.ref a1), (.ref a0)])) _
                  refine X266.caload hx (j := ((p2 + p3) - (1 : Int32))) (v := (.int (ws.getD (((p2 + p3) - (1 : Int32))).toNatClampNeg (0 : Int32)))) (by rw [e266]; exact Ar383.1) (State.isArrayOf_alike hZ.alike Ar383.2.1) Ar383.2.2 hin383 hat383 (g := (mkF m 118 #[.val (.ref a0), .val (.ref a1), .val (.int p2), .val (.int p3), .val (.int x4_104_381), .val (.int x5_17_271), .val (.int cr)] [(.int ((p2 + p3) - (1 : Int32))), (.ref a1), (.ref a0)])) rfl rfl (hb hby d8_118) _ ?_
                  refine XS.bipush X266.here hx rfl (hb hby d8_119) ?_
                  exact k)
              obtain ⟨m129_s0, hm129_s0, pre385⟩ : ∃ (m129_s0 : Int32), m129_s0 = (own_m8_129_s0 ws p2 p3) ∧ own_Pre p e below (s₁.setTop (entryFrame m #[(.ref a0), (.ref a1), (.int p2), (.int p3)] 7)) (T266.setTop (mkF m 129 #[.val (.ref a0), .val (.ref a1), .val (.int p2), .val (.int p3), .val (.int x4_104_381), .val (.int x5_17_271), .val (.int cr)] [(.int m129_s0), (.ref a0)])) := by
                by_cases hc121 : (ws.getD (((p2 + p3) - (1 : Int32))).toNatClampNeg (0 : Int32)) = (13 : Int32)
                · have pre387 : own_Pre p e below (s₁.setTop (entryFrame m #[(.ref a0), (.ref a1), (.int p2), (.int p3)] 7)) (T266.setTop (mkF m 129 #[.val (.ref a0), .val (.ref a1), .val (.int p2), .val (.int p3), .val (.int x4_104_381), .val (.int x5_17_271), .val (.int cr)] [(.int (1 : Int32)), (.ref a0)])) := fun t k => pre386 t (by
                      show Steps p.tables e below (T266.setTop (mkF m 121 #[.val (.ref a0), .val (.ref a1), .val (.int p2), .val (.int p3), .val (.int x4_104_381), .val (.int x5_17_271), .val (.int cr)] [(.int (13 : Int32)), (.int (ws.getD (((p2 + p3) - (1 : Int32))).toNatClampNeg (0 : Int32))), (.ref a0)])) _
                      refine XS.icmpNo X266.here hx rfl (hb hby d8_121) rfl (teq hc121).2 ?_
                      refine XS.iconst X266.here hx rfl (hb hby d8_124) ?_
                      refine XS.goto X266.here hx rfl (pc0 := 125) (pc' := 129) rfl (hb hby d8_125) (by decide) (by decide) ?_
                      exact k)
                  refine ⟨_, ?_, pre387⟩
                  all_goals (first | (simp only [own_m8_129_s0, if_pos hc121]; done) | (simp [own_m8_129_s0, if_pos hc121]; done))
                · have pre388 : own_Pre p e below (s₁.setTop (entryFrame m #[(.ref a0), (.ref a1), (.int p2), (.int p3)] 7)) (T266.setTop (mkF m 129 #[.val (.ref a0), .val (.ref a1), .val (.int p2), .val (.int p3), .val (.int x4_104_381), .val (.int x5_17_271), .val (.int cr)] [(.int (0 : Int32)), (.ref a0)])) := fun t k => pre386 t (by
                      show Steps p.tables e below (T266.setTop (mkF m 121 #[.val (.ref a0), .val (.ref a1), .val (.int p2), .val (.int p3), .val (.int x4_104_381), .val (.int x5_17_271), .val (.int cr)] [(.int (13 : Int32)), (.int (ws.getD (((p2 + p3) - (1 : Int32))).toNatClampNeg (0 : Int32))), (.ref a0)])) _
                      refine XS.icmpYes X266.here hx rfl (pc0 := 121) (pc' := 128) rfl (hb hby d8_121) rfl (feq hc121).2 (by decide) (by decide) ?_
                      refine XS.iconst X266.here hx rfl (hb hby d8_128) ?_
                      exact k)
                  refine ⟨_, ?_, pre388⟩
                  all_goals (first | (simp only [own_m8_129_s0, if_neg hc121]; done) | (simp [own_m8_129_s0, if_neg hc121]; done))
              have f389 := (E_a0.wr W266)
              have f390 := (F_a0_afterCarriageReturn.other W266 (Or.inr (slot_ne (Or.inl (hw _ (List.mem_of_getElem? (i := 48) rfl))) (Or.inl (hw _ (List.mem_of_getElem? (i := 38) rfl))) (by decide) (t := .boolean) (t' := .long) (by decide) (by decide))))
              obtain ⟨T391, h391, X391, e391, W391, st391⟩ := putFN X266 hx hZ hown (hw _ (List.mem_of_getElem? (i := 47) rfl)) Via.refl e266 f390 f389 (Or.inl (hw _ (List.mem_of_getElem? (i := 48) rfl))) (hw _ (List.mem_of_getElem? (i := 12) rfl)) (ty := .boolean) (v' := (.int (nar .boolean m129_s0))) (by decide) rfl (fits_nar_bool _) (g := (mkF m 129 #[.val (.ref a0), .val (.ref a1), .val (.int p2), .val (.int p3), .val (.int x4_104_381), .val (.int x5_17_271), .val (.int cr)] [(.int m129_s0), (.ref a0)])) rfl rfl (hb hby d8_129)
              have Fw391 := f390.same W391
              have N391 := Fr.snoc X391 N266 g_a0
              have kp392 : Keep h0 h391 [a0] := kp267.wr W391 (Or.inl (List.mem_of_getElem? (i := 0) rfl))
              have f393 := ((F_a0_passed.other W266 (Or.inr (slot_ne (Or.inl (hw _ (List.mem_of_getElem? (i := 36) rfl))) (Or.inl (hw _ (List.mem_of_getElem? (i := 38) rfl))) (by decide) (t := .long) (t' := .long) (by decide) (by decide)))).other W391 (Or.inr (slot_ne (Or.inl (hw _ (List.mem_of_getElem? (i := 36) rfl))) (Or.inl (hw _ (List.mem_of_getElem? (i := 48) rfl))) (by decide) (t := .long) (t' := .boolean) (by decide) (by decide))))
              obtain ⟨T394, X394, e394, st394⟩ := getF X391 hx hZ hown (host := "") (Or.inl (hw _ (List.mem_of_getElem? (i := 35) rfl))) Via.refl e391 f393 (g := (mkF m 134 #[.val (.ref a0), .val (.ref a1), .val (.int p2), .val (.int p3), .val (.int x4_104_381), .val (.int x5_17_271), .val (.int cr)] [(.ref a0), (.ref a0)])) rfl rfl (hb hby d8_134)
              have f395 := (f389.wr W391)
              obtain ⟨T396, h396, X396, e396, W396, st396⟩ := putF X394 hx hZ hown (host := "") (Or.inl (hw _ (List.mem_of_getElem? (i := 35) rfl))) Via.refl e394 f393 f395 (Or.inl (hw _ (List.mem_of_getElem? (i := 36) rfl))) (hw _ (List.mem_of_getElem? (i := 12) rfl)) (ty := .long) (by decide) rfl rfl (g := (mkF m 140 #[.val (.ref a0), .val (.ref a1), .val (.int p2), .val (.int p3), .val (.int x4_104_381), .val (.int x5_17_271), .val (.int cr)] [(.long (ps + (p3).toInt64)), (.ref a0)])) rfl rfl (hb hby d8_140)
              have Fw396 := f393.same W396
              have N396 := Fr.snoc X396 N391 g_a0
              have kp397 : Keep h0 h396 [a0] := kp392.wr W396 (Or.inl (List.mem_of_getElem? (i := 0) rfl))
              obtain ⟨fs, hr, hrun, hended, hW, hsame⟩ := X396.leave (v := none) (fun _ => rfl)
              refine ⟨_, _, pre385 _ ?_, hrun, hended, _, _, rfl, ?_, ⟨_, rfl⟩, hW, hsame.mono (by decide) (by decide)⟩
              · show Steps p.tables e below (T266.setTop (mkF m 129 #[.val (.ref a0), .val (.ref a1), .val (.int p2), .val (.int p3), .val (.int x4_104_381), .val (.int x5_17_271), .val (.int cr)] [(.int m129_s0), (.ref a0)])) _
                refine st391 _ ?_
                refine XS.aloadN X391.here hx rfl (hb hby d8_132) rfl rfl ?_
                refine XS.dup X391.here hx rfl (hb hby d8_133) rfl rfl ?_
                refine st394 _ ?_
                refine XS.iloadN X394.here hx rfl (hb hby d8_137) rfl ?_
                show Steps p.tables e below (T394.setTop (mkF m 138 #[.val (.ref a0), .val (.ref a1), .val (.int p2), .val (.int p3), .val (.int x4_104_381), .val (.int x5_17_271), .val (.int cr)] [(.int p3), (.long ps), (.ref a0)])) _
                refine XS.i2l X394.here hx rfl (hb hby d8_138) rfl ?_
                refine XS.ladd X394.here hx rfl (hb hby d8_139) rfl ?_
                refine st396 _ ?_
                show Steps p.tables e below (T396.setTop (mkF m 143 #[.val (.ref a0), .val (.ref a1), .val (.int p2), .val (.int p3), .val (.int x4_104_381), .val (.int x5_17_271), .val (.int cr)] [])) _
                exact X396.returnOut hx Bd.returns (hb hby d8_143) hr
              · show Q8 Z a0 a1 p2 p3 k z ws ln ps ls cr h0 n0 _ T396.heap _
                rw [e396]
                unfold Q8
                have f398 := (f395.wr W396)
                have f399 := (((F_a0_line.other W266 (Or.inr (slot_ne (Or.inl (hw _ (List.mem_of_getElem? (i := 21) rfl))) (Or.inl (hw _ (List.mem_of_getElem? (i := 38) rfl))) (by decide) (t := .int) (t' := .long) (by decide) (by decide)))).other W391 (Or.inr (slot_ne (Or.inl (hw _ (List.mem_of_getElem? (i := 21) rfl))) (Or.inl (hw _ (List.mem_of_getElem? (i := 48) rfl))) (by decide) (t := .int) (t' := .boolean) (by decide) (by decide)))).other W396 (Or.inr (slot_ne (Or.inl (hw _ (List.mem_of_getElem? (i := 21) rfl))) (Or.inl (hw _ (List.mem_of_getElem? (i := 36) rfl))) (by decide) (t := .int) (t' := .long) (by decide) (by decide))))
                have f400 := ((Fw266.other W391 (Or.inr (slot_ne (Or.inl (hw _ (List.mem_of_getElem? (i := 38) rfl))) (Or.inl (hw _ (List.mem_of_getElem? (i := 48) rfl))) (by decide) (t := .long) (t' := .boolean) (by decide) (by decide)))).other W396 (Or.inr (slot_ne (Or.inl (hw _ (List.mem_of_getElem? (i := 38) rfl))) (Or.inl (hw _ (List.mem_of_getElem? (i := 36) rfl))) (by decide) (t := .long) (t' := .long) (by decide) (by decide))))
                have f401 := (Fw391.other W396 (Or.inr (slot_ne (Or.inl (hw _ (List.mem_of_getElem? (i := 48) rfl))) (Or.inl (hw _ (List.mem_of_getElem? (i := 36) rfl))) (by decide) (t := .boolean) (t' := .long) (by decide) (by decide))))
                refine ⟨rfl, N396, kp397, f398, ?_, ?_, ?_, ?_⟩
                · rw [show (own_p8_line p2 p3 ws ln cr) = ln from (by subst hm129_s0 hx4_104_381 hx5_17_271 hx4_104 hx5_17; simp only [own_p8_line, if_neg hk0, if_neg hk1, if_pos hc21, if_neg hc71, if_neg hc21_2, if_neg hc28])]; exact f399
                · rw [show (own_p8_passed p3 ps) = (ps + (p3).toInt64) from (by subst hm129_s0 hx4_104_381 hx5_17_271 hx4_104 hx5_17; simp only [own_p8_passed, if_neg hk0, if_neg hk1, if_pos hc21, if_neg hc71, if_neg hc21_2, if_neg hc28])]; exact Fw396
                · rw [show (own_p8_lineStart p2 p3 ws ps ls) = (((ps + (p2).toInt64) - (p2).toInt64) + (1 : Int64)) from (by subst hm129_s0 hx4_104_381 hx5_17_271 hx4_104 hx5_17; simp only [own_p8_lineStart, if_neg hk0, if_neg hk1, if_pos hc21, if_neg hc71, if_neg hc21_2, if_neg hc28])]; exact f400
                · rw [show (own_p8_afterCarriageReturn p2 p3 ws cr) = (nar .boolean m129_s0) from (by subst hm129_s0 hx4_104_381 hx5_17_271 hx4_104 hx5_17; simp only [own_p8_afterCarriageReturn, if_neg hk0, if_neg hk1, if_pos hc21, if_neg hc71, if_neg hc21_2, if_neg hc28])]; exact f401
      · have pre402 : own_Pre p e below (s₁.setTop (entryFrame m #[(.ref a0), (.ref a1), (.int p2), (.int p3)] 7)) (s₁.setTop (mkF m 28 #[.val (.ref a0), .val (.ref a1), .val (.int p2), .val (.int p3), .val (.int p2), .val (.int x5_17), .unset] [(.int (13 : Int32)), (.int x5_17)])) := fun t k => pre119 t (by
            show Steps p.tables e below (s₁.setTop (mkF m 21 #[.val (.ref a0), .val (.ref a1), .val (.int p2), .val (.int p3), .val (.int p2), .val (.int x5_17), .unset] [(.int (10 : Int32)), (.int x5_17)])) _
            refine XS.icmpNo X0.here hx rfl (hb hby d8_21) rfl (feq hc21).1 ?_
            refine XS.iload X0.here hx rfl (hb hby d8_24) rfl ?_
            refine XS.bipush X0.here hx rfl (hb hby d8_26) ?_
            exact k)
        by_cases hc28 : x5_17 = (13 : Int32)
        · have hc34 : ¬ (p2 < p2) := own_irr _
          obtain ⟨T403, X403, e403, st403⟩ := getF X0 hx hZ hown (host := "") (Or.inl (hw _ (List.mem_of_getElem? (i := 47) rfl))) Via.refl e0 F_a0_afterCarriageReturn (g := (mkF m 57 #[.val (.ref a0), .val (.ref a1), .val (.int p2), .val (.int p3), .val (.int p2), .val (.int x5_17), .unset] [(.ref a0)])) rfl rfl (hb hby d8_57)
          have hc66 : (x5_17 = (13 : Int32)) := hc28
          obtain ⟨T404, X404, e404, st404⟩ := getF X403 hx hZ hown (host := "") (Or.inl (hw _ (List.mem_of_getElem? (i := 20) rfl))) Via.refl e403 F_a0_line (g := (mkF m 76 #[.val (.ref a0), .val (.ref a1), .val (.int p2), .val (.int p3), .val (.int p2), .val (.int x5_17), .val (.int cr)] [(.ref a0), (.ref a0)])) rfl rfl (hb hby d8_76)
          obtain ⟨T405, h405, X405, e405, W405, st405⟩ := putF X404 hx hZ hown (host := "") (Or.inl (hw _ (List.mem_of_getElem? (i := 20) rfl))) Via.refl e404 F_a0_line E_a0 (Or.inl (hw _ (List.mem_of_getElem? (i := 21) rfl))) (hw _ (List.mem_of_getElem? (i := 12) rfl)) (ty := .int) (by decide) rfl rfl (g := (mkF m 81 #[.val (.ref a0), .val (.ref a1), .val (.int p2), .val (.int p3), .val (.int p2), .val (.int x5_17), .val (.int cr)] [(.int (ln + (1 : Int32))), (.ref a0)])) rfl rfl (hb hby d8_81)
          have Fw405 := F_a0_line.same W405
          have N405 := Fr.snoc X405 N0 g_a0
          have kp406 : Keep h0 h405 [a0] := (Keep.refl h0 [a0]).wr W405 (Or.inl (List.mem_of_getElem? (i := 0) rfl))
          have f407 := (F_a0_passed.other W405 (Or.inr (slot_ne (Or.inl (hw _ (List.mem_of_getElem? (i := 36) rfl))) (Or.inl (hw _ (List.mem_of_getElem? (i := 21) rfl))) (by decide) (t := .long) (t' := .int) (by decide) (by decide))))
          obtain ⟨T408, X408, e408, st408⟩ := getF X405 hx hZ hown (host := "") (Or.inl (hw _ (List.mem_of_getElem? (i := 35) rfl))) Via.refl e405 f407 (g := (mkF m 86 #[.val (.ref a0), .val (.ref a1), .val (.int p2), .val (.int p3), .val (.int p2), .val (.int x5_17), .val (.int cr)] [(.ref a0), (.ref a0)])) rfl rfl (hb hby d8_86)
          have f409 := (E_a0.wr W405)
          have f410 := (F_a0_lineStart.other W405 (Or.inr (slot_ne (Or.inl (hw _ (List.mem_of_getElem? (i := 38) rfl))) (Or.inl (hw _ (List.mem_of_getElem? (i := 21) rfl))) (by decide) (t := .long) (t' := .int) (by decide) (by decide))))
          obtain ⟨T411, h411, X411, e411, W411, st411⟩ := putF X408 hx hZ hown (host := "") (Or.inl (hw _ (List.mem_of_getElem? (i := 37) rfl))) Via.refl e408 f410 f409 (Or.inl (hw _ (List.mem_of_getElem? (i := 38) rfl))) (hw _ (List.mem_of_getElem? (i := 12) rfl)) (ty := .long) (by decide) rfl rfl (g := (mkF m 98 #[.val (.ref a0), .val (.ref a1), .val (.int p2), .val (.int p3), .val (.int p2), .val (.int x5_17), .val (.int cr)] [(.long (((ps + (p2).toInt64) - (p2).toInt64) + (1 : Int64))), (.ref a0)])) rfl rfl (hb hby d8_98)
          have Fw411 := f410.same W411
          have N411 := Fr.snoc X411 N405 g_a0
          have kp412 : Keep h0 h411 [a0] := kp406.wr W411 (Or.inl (List.mem_of_getElem? (i := 0) rfl))
          obtain ⟨x4_104, hx4_104, pre413⟩ : ∃ z : Int32, z = (p2 + (1 : Int32)) ∧ own_Pre p e below (s₁.setTop (entryFrame m #[(.ref a0), (.ref a1), (.int p2), (.int p3)] 7)) (T411.setTop (mkF m 104 #[.val (.ref a0), .val (.ref a1), .val (.int p2), .val (.int p3), .val (.int z), .val (.int x5_17), .val (.int cr)] [])) := ⟨_, rfl, fun t k => pre402 t (by
              show Steps p.tables e below (s₁.setTop (mkF m 28 #[.val (.ref a0), .val (.ref a1), .val (.int p2), .val (.int p3), .val (.int p2), .val (.int x5_17), .unset] [(.int (13 : Int32)), (.int x5_17)])) _
              refine XS.icmpNo X0.here hx rfl (hb hby d8_28) rfl (teq hc28).2 ?_
              refine XS.iload X0.here hx rfl (hb hby d8_31) rfl ?_
              refine XS.iloadN X0.here hx rfl (hb hby d8_33) rfl ?_
              refine XS.icmpYes X0.here hx rfl (pc0 := 34) (pc' := 56) rfl (hb hby d8_34) rfl (flt hc34).2.2.2 (by decide) (by decide) ?_
              refine XS.aloadN X0.here hx rfl (hb hby d8_56) rfl rfl ?_
              show Steps p.tables e below (s₁.setTop (mkF m 57 #[.val (.ref a0), .val (.ref a1), .val (.int p2), .val (.int p3), .val (.int p2), .val (.int x5_17), .unset] [(.ref a0)])) _
              refine st403 _ ?_
              refine XS.istore X403.here hx rfl (hb hby d8_60) rfl (l' := #[.val (.ref a0), .val (.ref a1), .val (.int p2), .val (.int p3), .val (.int p2), .val (.int x5_17), .val (.int cr)]) rfl ?_
              refine XS.iload X403.here hx rfl (hb hby d8_62) rfl ?_
              refine XS.bipush X403.here hx rfl (hb hby d8_64) ?_
              refine XS.icmpYes X403.here hx rfl (pc0 := 66) (pc' := 74) rfl (hb hby d8_66) rfl (teq hc66).1 (by decide) (by decide) ?_
              show Steps p.tables e below (T403.setTop (mkF m 74 #[.val (.ref a0), .val (.ref a1), .val (.int p2), .val (.int p3), .val (.int p2), .val (.int x5_17), .val (.int cr)] [])) _
              refine XS.aloadN X403.here hx rfl (hb hby d8_74) rfl rfl ?_
              refine XS.dup X403.here hx rfl (hb hby d8_75) rfl rfl ?_
              refine st404 _ ?_
              refine XS.iconst X404.here hx rfl (hb hby d8_79) ?_
              refine XS.iadd X404.here hx rfl (hb hby d8_80) rfl ?_
              show Steps p.tables e below (T404.setTop (mkF m 81 #[.val (.ref a0), .val (.ref a1), .val (.int p2), .val (.int p3), .val (.int p2), .val (.int x5_17), .val (.int cr)] [(.int (ln + (1 : Int32))), (.ref a0)])) _
              refine st405 _ ?_
              refine XS.aloadN X405.here hx rfl (hb hby d8_84) rfl rfl ?_
              refine XS.aloadN X405.here hx rfl (hb hby d8_85) rfl rfl ?_
              refine st408 _ ?_
              refine XS.iload X408.here hx rfl (hb hby d8_89) rfl ?_
              show Steps p.tables e below (T408.setTop (mkF m 91 #[.val (.ref a0), .val (.ref a1), .val (.int p2), .val (.int p3), .val (.int p2), .val (.int x5_17), .val (.int cr)] [(.int p2), (.long ps), (.ref a0)])) _
              refine XS.i2l X408.here hx rfl (hb hby d8_91) rfl ?_
              refine XS.ladd X408.here hx rfl (hb hby d8_92) rfl ?_
              refine XS.iloadN X408.here hx rfl (hb hby d8_93) rfl ?_
              refine XS.i2l X408.here hx rfl (hb hby d8_94) rfl ?_
              refine XS.lsub X408.here hx rfl (hb hby d8_95) rfl ?_
              show Steps p.tables e below (T408.setTop (mkF m 96 #[.val (.ref a0), .val (.ref a1), .val (.int p2), .val (.int p3), .val (.int p2), .val (.int x5_17), .val (.int cr)] [(.long ((ps + (p2).toInt64) - (p2).toInt64)), (.ref a0)])) _
              refine XS.lconst X408.here hx rfl (hb hby d8_96) ?_
              refine XS.ladd X408.here hx rfl (hb hby d8_97) rfl ?_
              refine st411 _ ?_
              refine XS.iinc X411.here hx rfl (hb hby d8_101) rfl (l' := #[.val (.ref a0), .val (.ref a1), .val (.int p2), .val (.int p3), .val (.int (p2 + (1 : Int32))), .val (.int x5_17), .val (.int cr)]) rfl ?_
              exact k)⟩
          have hc8_2 : (x4_104 < (p2 + p3)) := by rw [hx4_104]; exact own_l22 hk2 hrg
          have f414 := ((V_a1.other W405 ne_a1_a0).other W411 ne_a1_a0)
          obtain ⟨cl415, Ar415, hin415, hat415⟩ := own_AI.at f414 (j := x4_104) (by rw [hx4_104]; exact hi1 (own_pos22 hk2))
          obtain ⟨x5_17_416, hx5_17_416, pre417⟩ : ∃ z : Int32, z = (ws.getD (x4_104).toNatClampNeg (0 : Int32)) ∧ own_Pre p e below (s₁.setTop (entryFrame m #[(.ref a0), (.ref a1), (.int p2), (.int p3)] 7)) (T411.setTop (mkF m 17 #[.val (.ref a0), .val (.ref a1), .val (.int p2), .val (.int p3), .val (.int x4_104), .val (.int z), .val (.int cr)] [])) := ⟨_, rfl, fun t k => pre413 t (by
              show Steps p.tables e below (T411.setTop (mkF m 104 #[.val (.ref a0), .val (.ref a1), .val (.int p2), .val (.int p3), .val (.int x4_104), .val (.int x5_17), .val (.int cr)] [])) _
              refine XS.goto X411.here hx rfl (pc0 := 104) (pc' := 3) rfl (hb hby d8_104) (by decide) (by decide) ?_
              refine XS.iload X411.here hx rfl (hb hby d8_3) rfl ?_
              refine XS.iloadN X411.here hx rfl (hb hby d8_5) rfl ?_
              refine XS.iloadN X411.here hx rfl (hb hby d8_6) rfl ?_
              refine XS.iadd X411.here hx rfl (hb hby d8_7) rfl ?_
              show Steps p.tables e below (T411.setTop (mkF m 8 #[.val (.ref a0), .val (.ref a1), .val (.int p2), .val (.int p3), .val (.int x4_104), .val (.int x5_17), .val (.int cr)] [(.int (p2 + p3)), (.int x4_104)])) _
              refine XS.icmpNo X411.here hx rfl (hb hby d8_8) rfl (tlt hc8_2).2.1 ?_
              refine XS.aloadN X411.here hx rfl (hb hby d8_11) rfl rfl ?_
              refine XS.iload X411.here hx rfl (hb hby d8_12) rfl ?_
              refine X411.caload hx (j := x4_104) (v := (.int (ws.getD (x4_104).toNatClampNeg (0 : Int32)))) (by rw [e411]; exact Ar415.1) (State.isArrayOf_alike hZ.alike Ar415.2.1) Ar415.2.2 hin415 hat415 (g := (mkF m 14 #[.val (.ref a0), .val (.ref a1), .val (.int p2), .val (.int p3), .val (.int x4_104), .val (.int x5_17), .val (.int cr)] [(.int x4_104), (.ref a1)])) rfl rfl (hb hby d8_14) _ ?_
              refine XS.istore X411.here hx rfl (hb hby d8_15) rfl (l' := #[.val (.ref a0), .val (.ref a1), .val (.int p2), .val (.int p3), .val (.int x4_104), .val (.int (ws.getD (x4_104).toNatClampNeg (0 : Int32))), .val (.int cr)]) rfl ?_
              exact k)⟩
          have pre418 : own_Pre p e below (s₁.setTop (entryFrame m #[(.ref a0), (.ref a1), (.int p2), (.int p3)] 7)) (T411.setTop (mkF m 21 #[.val (.ref a0), .val (.ref a1), .val (.int p2), .val (.int p3), .val (.int x4_104), .val (.int x5_17_416), .val (.int cr)] [(.int (10 : Int32)), (.int x5_17_416)])) := fun t k => pre417 t (by
              show Steps p.tables e below (T411.setTop (mkF m 17 #[.val (.ref a0), .val (.ref a1), .val (.int p2), .val (.int p3), .val (.int x4_104), .val (.int x5_17_416), .val (.int cr)] [])) _
              refine XS.iload X411.here hx rfl (hb hby d8_17) rfl ?_
              refine XS.bipush X411.here hx rfl (hb hby d8_19) ?_
              exact k)
          by_cases hc21_2 : x5_17_416 = (10 : Int32)
          · have hc34_2 : (p2 < x4_104) := by rw [hx4_104]; exact own_l34 hrg
            obtain ⟨cl419, Ar419, hin419, hat419⟩ := own_AI.at f414 (j := (x4_104 - (1 : Int32))) (by rw [hx4_104, own_back]; exact hi0 (own_pos2 hk2))
            have pre422 : own_Pre p e below (s₁.setTop (entryFrame m #[(.ref a0), (.ref a1), (.int p2), (.int p3)] 7)) (T411.setTop (mkF m 45 #[.val (.ref a0), .val (.ref a1), .val (.int p2), .val (.int p3), .val (.int x4_104), .val (.int x5_17_416), .val (.int cr)] [(.int (13 : Int32)), (.int (ws.getD ((x4_104 - (1 : Int32))).toNatClampNeg (0 : Int32)))])) := fun t k => pre418 t (by
                show Steps p.tables e below (T411.setTop (mkF m 21 #[.val (.ref a0), .val (.ref a1), .val (.int p2), .val (.int p3), .val (.int x4_104), .val (.int x5_17_416), .val (.int cr)] [(.int (10 : Int32)), (.int x5_17_416)])) _
                refine XS.icmpYes X411.here hx rfl (pc0 := 21) (pc' := 31) rfl (hb hby d8_21) rfl (teq hc21_2).1 (by decide) (by decide) ?_
                refine XS.iload X411.here hx rfl (hb hby d8_31) rfl ?_
                refine XS.iloadN X411.here hx rfl (hb hby d8_33) rfl ?_
                refine XS.icmpNo X411.here hx rfl (hb hby d8_34) rfl (tlt hc34_2).2.2.2 ?_
                refine XS.aloadN X411.here hx rfl (hb hby d8_37) rfl rfl ?_
                show Steps p.tables e below (T411.setTop (mkF m 38 #[.val (.ref a0), .val (.ref a1), .val (.int p2), .val (.int p3), .val (.int x4_104), .val (.int x5_17_416), .val (.int cr)] [(.ref a1)])) _
                refine XS.iload X411.here hx rfl (hb hby d8_38) rfl ?_
                refine XS.iconst X411.here hx rfl (hb hby d8_40) ?_
                refine XS.isub X411.here hx rfl (hb hby d8_41) rfl ?_
                refine X411.caload hx (j := (x4_104 - (1 : Int32))) (v := (.int (ws.getD ((x4_104 - (1 : Int32))).toNatClampNeg (0 : Int32)))) (by rw [e411]; exact Ar419.1) (State.isArrayOf_alike hZ.alike Ar419.2.1) Ar419.2.2 hin419 hat419 (g := (mkF m 42 #[.val (.ref a0), .val (.ref a1), .val (.int p2), .val (.int p3), .val (.int x4_104), .val (.int x5_17_416), .val (.int cr)] [(.int (x4_104 - (1 : Int32))), (.ref a1)])) rfl rfl (hb hby d8_42) _ ?_
                refine XS.bipush X411.here hx rfl (hb hby d8_43) ?_
                exact k)
            obtain ⟨m60_s0, hm60_s0, pre421⟩ : ∃ (m60_s0 : Int32), m60_s0 = (own_m8_60_s0 ws x4_104) ∧ own_Pre p e below (s₁.setTop (entryFrame m #[(.ref a0), (.ref a1), (.int p2), (.int p3)] 7)) (T411.setTop (mkF m 60 #[.val (.ref a0), .val (.ref a1), .val (.int p2), .val (.int p3), .val (.int x4_104), .val (.int x5_17_416), .val (.int cr)] [(.int m60_s0)])) := by
              by_cases hc45 : (ws.getD ((x4_104 - (1 : Int32))).toNatClampNeg (0 : Int32)) = (13 : Int32)
              · have pre423 : own_Pre p e below (s₁.setTop (entryFrame m #[(.ref a0), (.ref a1), (.int p2), (.int p3)] 7)) (T411.setTop (mkF m 60 #[.val (.ref a0), .val (.ref a1), .val (.int p2), .val (.int p3), .val (.int x4_104), .val (.int x5_17_416), .val (.int cr)] [(.int (1 : Int32))])) := fun t k => pre422 t (by
                    show Steps p.tables e below (T411.setTop (mkF m 45 #[.val (.ref a0), .val (.ref a1), .val (.int p2), .val (.int p3), .val (.int x4_104), .val (.int x5_17_416), .val (.int cr)] [(.int (13 : Int32)), (.int (ws.getD ((x4_104 - (1 : Int32))).toNatClampNeg (0 : Int32)))])) _
                    refine XS.icmpNo X411.here hx rfl (hb hby d8_45) rfl (teq hc45).2 ?_
                    refine XS.iconst X411.here hx rfl (hb hby d8_48) ?_
                    refine XS.goto X411.here hx rfl (pc0 := 49) (pc' := 60) rfl (hb hby d8_49) (by decide) (by decide) ?_
                    exact k)
                refine ⟨_, ?_, pre423⟩
                all_goals (first | (simp only [own_m8_60_s0, if_pos hc45]; done) | (simp [own_m8_60_s0, if_pos hc45]; done))
              · have pre424 : own_Pre p e below (s₁.setTop (entryFrame m #[(.ref a0), (.ref a1), (.int p2), (.int p3)] 7)) (T411.setTop (mkF m 60 #[.val (.ref a0), .val (.ref a1), .val (.int p2), .val (.int p3), .val (.int x4_104), .val (.int x5_17_416), .val (.int cr)] [(.int (0 : Int32))])) := fun t k => pre422 t (by
                    show Steps p.tables e below (T411.setTop (mkF m 45 #[.val (.ref a0), .val (.ref a1), .val (.int p2), .val (.int p3), .val (.int x4_104), .val (.int x5_17_416), .val (.int cr)] [(.int (13 : Int32)), (.int (ws.getD ((x4_104 - (1 : Int32))).toNatClampNeg (0 : Int32)))])) _
                    refine XS.icmpYes X411.here hx rfl (pc0 := 45) (pc' := 52) rfl (hb hby d8_45) rfl (feq hc45).2 (by decide) (by decide) ?_
                    refine XS.iconst X411.here hx rfl (hb hby d8_52) ?_
                    refine XS.goto X411.here hx rfl (pc0 := 53) (pc' := 60) rfl (hb hby d8_53) (by decide) (by decide) ?_
                    exact k)
                refine ⟨_, ?_, pre424⟩
                all_goals (first | (simp only [own_m8_60_s0, if_neg hc45]; done) | (simp [own_m8_60_s0, if_neg hc45]; done))
            have hc66_2 : ¬ (x5_17_416 = (13 : Int32)) := by rw [hc21_2]; decide
            have pre425 : own_Pre p e below (s₁.setTop (entryFrame m #[(.ref a0), (.ref a1), (.int p2), (.int p3)] 7)) (T411.setTop (mkF m 71 #[.val (.ref a0), .val (.ref a1), .val (.int p2), .val (.int p3), .val (.int x4_104), .val (.int x5_17_416), .val (.int m60_s0)] [(.int m60_s0)])) := fun t k => pre421 t (by
                show Steps p.tables e below (T411.setTop (mkF m 60 #[.val (.ref a0), .val (.ref a1), .val (.int p2), .val (.int p3), .val (.int x4_104), .val (.int x5_17_416), .val (.int cr)] [(.int m60_s0)])) _
                refine XS.istore X411.here hx rfl (hb hby d8_60) rfl (l' := #[.val (.ref a0), .val (.ref a1), .val (.int p2), .val (.int p3), .val (.int x4_104), .val (.int x5_17_416), .val (.int m60_s0)]) rfl ?_
                refine XS.iload X411.here hx rfl (hb hby d8_62) rfl ?_
                refine XS.bipush X411.here hx rfl (hb hby d8_64) ?_
                refine XS.icmpNo X411.here hx rfl (hb hby d8_66) rfl (feq hc66_2).1 ?_
                refine XS.iload X411.here hx rfl (hb hby d8_69) rfl ?_
                exact k)
            by_cases hc71 : m60_s0 = (0 : Int32)
            · have f426 := (Fw405.other W411 (Or.inr (slot_ne (Or.inl (hw _ (List.mem_of_getElem? (i := 21) rfl))) (Or.inl (hw _ (List.mem_of_getElem? (i := 38) rfl))) (by decide) (t := .int) (t' := .long) (by decide) (by decide))))
              obtain ⟨T427, X427, e427, st427⟩ := getF X411 hx hZ hown (host := "") (Or.inl (hw _ (List.mem_of_getElem? (i := 20) rfl))) Via.refl e411 f426 (g := (mkF m 76 #[.val (.ref a0), .val (.ref a1), .val (.int p2), .val (.int p3), .val (.int x4_104), .val (.int x5_17_416), .val (.int m60_s0)] [(.ref a0), (.ref a0)])) rfl rfl (hb hby d8_76)
              have f428 := (f409.wr W411)
              obtain ⟨T429, h429, X429, e429, W429, st429⟩ := putF X427 hx hZ hown (host := "") (Or.inl (hw _ (List.mem_of_getElem? (i := 20) rfl))) Via.refl e427 f426 f428 (Or.inl (hw _ (List.mem_of_getElem? (i := 21) rfl))) (hw _ (List.mem_of_getElem? (i := 12) rfl)) (ty := .int) (by decide) rfl rfl (g := (mkF m 81 #[.val (.ref a0), .val (.ref a1), .val (.int p2), .val (.int p3), .val (.int x4_104), .val (.int x5_17_416), .val (.int m60_s0)] [(.int ((ln + (1 : Int32)) + (1 : Int32))), (.ref a0)])) rfl rfl (hb hby d8_81)
              have Fw429 := f426.same W429
              have N429 := Fr.snoc X429 N411 g_a0
              have kp430 : Keep h0 h429 [a0] := kp412.wr W429 (Or.inl (List.mem_of_getElem? (i := 0) rfl))
              have f431 := ((f407.other W411 (Or.inr (slot_ne (Or.inl (hw _ (List.mem_of_getElem? (i := 36) rfl))) (Or.inl (hw _ (List.mem_of_getElem? (i := 38) rfl))) (by decide) (t := .long) (t' := .long) (by decide) (by decide)))).other W429 (Or.inr (slot_ne (Or.inl (hw _ (List.mem_of_getElem? (i := 36) rfl))) (Or.inl (hw _ (List.mem_of_getElem? (i := 21) rfl))) (by decide) (t := .long) (t' := .int) (by decide) (by decide))))
              obtain ⟨T432, X432, e432, st432⟩ := getF X429 hx hZ hown (host := "") (Or.inl (hw _ (List.mem_of_getElem? (i := 35) rfl))) Via.refl e429 f431 (g := (mkF m 86 #[.val (.ref a0), .val (.ref a1), .val (.int p2), .val (.int p3), .val (.int x4_104), .val (.int x5_17_416), .val (.int m60_s0)] [(.ref a0), (.ref a0)])) rfl rfl (hb hby d8_86)
              have f433 := (f428.wr W429)
              have f434 := (Fw411.other W429 (Or.inr (slot_ne (Or.inl (hw _ (List.mem_of_getElem? (i := 38) rfl))) (Or.inl (hw _ (List.mem_of_getElem? (i := 21) rfl))) (by decide) (t := .long) (t' := .int) (by decide) (by decide))))
              obtain ⟨T435, h435, X435, e435, W435, st435⟩ := putF X432 hx hZ hown (host := "") (Or.inl (hw _ (List.mem_of_getElem? (i := 37) rfl))) Via.refl e432 f434 f433 (Or.inl (hw _ (List.mem_of_getElem? (i := 38) rfl))) (hw _ (List.mem_of_getElem? (i := 12) rfl)) (ty := .long) (by decide) rfl rfl (g := (mkF m 98 #[.val (.ref a0), .val (.ref a1), .val (.int p2), .val (.int p3), .val (.int x4_104), .val (.int x5_17_416), .val (.int m60_s0)] [(.long (((ps + (x4_104).toInt64) - (p2).toInt64) + (1 : Int64))), (.ref a0)])) rfl rfl (hb hby d8_98)
              have Fw435 := f434.same W435
              have N435 := Fr.snoc X435 N429 g_a0
              have kp436 : Keep h0 h435 [a0] := kp430.wr W435 (Or.inl (List.mem_of_getElem? (i := 0) rfl))
              obtain ⟨x4_104_437, hx4_104_437, pre438⟩ : ∃ z : Int32, z = (x4_104 + (1 : Int32)) ∧ own_Pre p e below (s₁.setTop (entryFrame m #[(.ref a0), (.ref a1), (.int p2), (.int p3)] 7)) (T435.setTop (mkF m 104 #[.val (.ref a0), .val (.ref a1), .val (.int p2), .val (.int p3), .val (.int z), .val (.int x5_17_416), .val (.int m60_s0)] [])) := ⟨_, rfl, fun t k => pre425 t (by
                  show Steps p.tables e below (T411.setTop (mkF m 71 #[.val (.ref a0), .val (.ref a1), .val (.int p2), .val (.int p3), .val (.int x4_104), .val (.int x5_17_416), .val (.int m60_s0)] [(.int m60_s0)])) _
                  refine XS.ifNo X411.here hx rfl (hb hby d8_71) rfl ((if0 _ _).trans (teq hc71).2) ?_
                  refine XS.aloadN X411.here hx rfl (hb hby d8_74) rfl rfl ?_
                  refine XS.dup X411.here hx rfl (hb hby d8_75) rfl rfl ?_
                  refine st427 _ ?_
                  refine XS.iconst X427.here hx rfl (hb hby d8_79) ?_
                  show Steps p.tables e below (T427.setTop (mkF m 80 #[.val (.ref a0), .val (.ref a1), .val (.int p2), .val (.int p3), .val (.int x4_104), .val (.int x5_17_416), .val (.int m60_s0)] [(.int (1 : Int32)), (.int (ln + (1 : Int32))), (.ref a0)])) _
                  refine XS.iadd X427.here hx rfl (hb hby d8_80) rfl ?_
                  refine st429 _ ?_
                  refine XS.aloadN X429.here hx rfl (hb hby d8_84) rfl rfl ?_
                  refine XS.aloadN X429.here hx rfl (hb hby d8_85) rfl rfl ?_
                  refine st432 _ ?_
                  show Steps p.tables e below (T432.setTop (mkF m 89 #[.val (.ref a0), .val (.ref a1), .val (.int p2), .val (.int p3), .val (.int x4_104), .val (.int x5_17_416), .val (.int m60_s0)] [(.long ps), (.ref a0)])) _
                  refine XS.iload X432.here hx rfl (hb hby d8_89) rfl ?_
                  refine XS.i2l X432.here hx rfl (hb hby d8_91) rfl ?_
                  refine XS.ladd X432.here hx rfl (hb hby d8_92) rfl ?_
                  refine XS.iloadN X432.here hx rfl (hb hby d8_93) rfl ?_
                  refine XS.i2l X432.here hx rfl (hb hby d8_94) rfl ?_
                  show Steps p.tables e below (T432.setTop (mkF m 95 #[.val (.ref a0), .val (.ref a1), .val (.int p2), .val (.int p3), .val (.int x4_104), .val (.int x5_17_416), .val (.int m60_s0)] [(.long (p2).toInt64), (.long (ps + (x4_104).toInt64)), (.ref a0)])) _
                  refine XS.lsub X432.here hx rfl (hb hby d8_95) rfl ?_
                  refine XS.lconst X432.here hx rfl (hb hby d8_96) ?_
                  refine XS.ladd X432.here hx rfl (hb hby d8_97) rfl ?_
                  refine st435 _ ?_
                  refine XS.iinc X435.here hx rfl (hb hby d8_101) rfl (l' := #[.val (.ref a0), .val (.ref a1), .val (.int p2), .val (.int p3), .val (.int (x4_104 + (1 : Int32))), .val (.int x5_17_416), .val (.int m60_s0)]) rfl ?_
                  exact k)⟩
              have hc8_3 : ¬ (x4_104_437 < (p2 + p3)) := by rw [hx4_104_437, hx4_104]; exact own_l23 hk2 hrg
              have hc108 : ((0 : Int32) < p3) := by rw [hk2]; decide
              have f439 := ((f414.other W429 ne_a1_a0).other W435 ne_a1_a0)
              obtain ⟨cl440, Ar440, hin440, hat440⟩ := own_AI.at f439 (j := ((p2 + p3) - (1 : Int32))) (by rw [hk2, own_back2]; exact hi1 (own_pos22 hk2))
              have pre443 : own_Pre p e below (s₁.setTop (entryFrame m #[(.ref a0), (.ref a1), (.int p2), (.int p3)] 7)) (T435.setTop (mkF m 121 #[.val (.ref a0), .val (.ref a1), .val (.int p2), .val (.int p3), .val (.int x4_104_437), .val (.int x5_17_416), .val (.int m60_s0)] [(.int (13 : Int32)), (.int (ws.getD (((p2 + p3) - (1 : Int32))).toNatClampNeg (0 : Int32))), (.ref a0)])) := fun t k => pre438 t (by
                  show Steps p.tables e below (T435.setTop (mkF m 104 #[.val (.ref a0), .val (.ref a1), .val (.int p2), .val (.int p3), .val (.int x4_104_437), .val (.int x5_17_416), .val (.int m60_s0)] [])) _
                  refine XS.goto X435.here hx rfl (pc0 := 104) (pc' := 3) rfl (hb hby d8_104) (by decide) (by decide) ?_
                  refine XS.iload X435.here hx rfl (hb hby d8_3) rfl ?_
                  refine XS.iloadN X435.here hx rfl (hb hby d8_5) rfl ?_
                  refine XS.iloadN X435.here hx rfl (hb hby d8_6) rfl ?_
                  refine XS.iadd X435.here hx rfl (hb hby d8_7) rfl ?_
                  show Steps p.tables e below (T435.setTop (mkF m 8 #[.val (.ref a0), .val (.ref a1), .val (.int p2), .val (.int p3), .val (.int x4_104_437), .val (.int x5_17_416), .val (.int m60_s0)] [(.int (p2 + p3)), (.int x4_104_437)])) _
                  refine XS.icmpYes X435.here hx rfl (pc0 := 8) (pc' := 107) rfl (hb hby d8_8) rfl (flt hc8_3).2.1 (by decide) (by decide) ?_
                  refine XS.iloadN X435.here hx rfl (hb hby d8_107) rfl ?_
                  refine XS.ifNo X435.here hx rfl (hb hby d8_108) rfl ((if0 _ _).trans (tlt hc108).2.2.2) ?_
                  refine XS.aloadN X435.here hx rfl (hb hby d8_111) rfl rfl ?_
                  refine XS.aloadN X435.here hx rfl (hb hby d8_112) rfl rfl ?_
                  show Steps p.tables e below (T435.setTop (mkF m 113 #[.val (.ref a0), .val (.ref a1), .val (.int p2), .val (.int p3), .val (.int x4_104_437), .val (.int x5_17_416), .val (.int m60_s0)] [(.ref a1), (.ref a0)])) _
                  refine XS.iloadN X435.here hx rfl (hb hby d8_113) rfl ?_
                  refine XS.iloadN X435.here hx rfl (hb hby d8_114) rfl ?_
                  refine XS.iadd X435.here hx rfl (hb hby d8_115) rfl ?_
                  refine XS.iconst X435.here hx rfl (hb hby d8_116) ?_
                  refine XS.isub X435.here hx rfl (hb hby d8_117) rfl ?_
                  show Steps p.tables e below (T435.setTop (mkF m 118 #[.val (.ref a0), .val (.ref a1), .val (.int p2), .val (.int p3), .val (.int x4_104_437), .val (.int x5_17_416), .val (.int m60_s0)] [(.int ((p2 + p3) - (1 : Int32))), (.ref a1), (.ref a0)])) _
                  refine X435.caload hx (j := ((p2 + p3) - (1 : Int32))) (v := (.int (ws.getD (((p2 + p3) - (1 : Int32))).toNatClampNeg (0 : Int32)))) (by rw [e435]; exact Ar440.1) (State.isArrayOf_alike hZ.alike Ar440.2.1) Ar440.2.2 hin440 hat440 (g := (mkF m 118 #[.val (.ref a0), .val (.ref a1), .val (.int p2), .val (.int p3), .val (.int x4_104_437), .val (.int x5_17_416), .val (.int m60_s0)] [(.int ((p2 + p3) - (1 : Int32))), (.ref a1), (.ref a0)])) rfl rfl (hb hby d8_118) _ ?_
                  refine XS.bipush X435.here hx rfl (hb hby d8_119) ?_
                  exact k)
              obtain ⟨m129_s0, hm129_s0, pre442⟩ : ∃ (m129_s0 : Int32), m129_s0 = (own_m8_129_s0 ws p2 p3) ∧ own_Pre p e below (s₁.setTop (entryFrame m #[(.ref a0), (.ref a1), (.int p2), (.int p3)] 7)) (T435.setTop (mkF m 129 #[.val (.ref a0), .val (.ref a1), .val (.int p2), .val (.int p3), .val (.int x4_104_437), .val (.int x5_17_416), .val (.int m60_s0)] [(.int m129_s0), (.ref a0)])) := by
                by_cases hc121 : (ws.getD (((p2 + p3) - (1 : Int32))).toNatClampNeg (0 : Int32)) = (13 : Int32)
                · have pre444 : own_Pre p e below (s₁.setTop (entryFrame m #[(.ref a0), (.ref a1), (.int p2), (.int p3)] 7)) (T435.setTop (mkF m 129 #[.val (.ref a0), .val (.ref a1), .val (.int p2), .val (.int p3), .val (.int x4_104_437), .val (.int x5_17_416), .val (.int m60_s0)] [(.int (1 : Int32)), (.ref a0)])) := fun t k => pre443 t (by
                      show Steps p.tables e below (T435.setTop (mkF m 121 #[.val (.ref a0), .val (.ref a1), .val (.int p2), .val (.int p3), .val (.int x4_104_437), .val (.int x5_17_416), .val (.int m60_s0)] [(.int (13 : Int32)), (.int (ws.getD (((p2 + p3) - (1 : Int32))).toNatClampNeg (0 : Int32))), (.ref a0)])) _
                      refine XS.icmpNo X435.here hx rfl (hb hby d8_121) rfl (teq hc121).2 ?_
                      refine XS.iconst X435.here hx rfl (hb hby d8_124) ?_
                      refine XS.goto X435.here hx rfl (pc0 := 125) (pc' := 129) rfl (hb hby d8_125) (by decide) (by decide) ?_
                      exact k)
                  refine ⟨_, ?_, pre444⟩
                  all_goals (first | (simp only [own_m8_129_s0, if_pos hc121]; done) | (simp [own_m8_129_s0, if_pos hc121]; done))
                · have pre445 : own_Pre p e below (s₁.setTop (entryFrame m #[(.ref a0), (.ref a1), (.int p2), (.int p3)] 7)) (T435.setTop (mkF m 129 #[.val (.ref a0), .val (.ref a1), .val (.int p2), .val (.int p3), .val (.int x4_104_437), .val (.int x5_17_416), .val (.int m60_s0)] [(.int (0 : Int32)), (.ref a0)])) := fun t k => pre443 t (by
                      show Steps p.tables e below (T435.setTop (mkF m 121 #[.val (.ref a0), .val (.ref a1), .val (.int p2), .val (.int p3), .val (.int x4_104_437), .val (.int x5_17_416), .val (.int m60_s0)] [(.int (13 : Int32)), (.int (ws.getD (((p2 + p3) - (1 : Int32))).toNatClampNeg (0 : Int32))), (.ref a0)])) _
                      refine XS.icmpYes X435.here hx rfl (pc0 := 121) (pc' := 128) rfl (hb hby d8_121) rfl (feq hc121).2 (by decide) (by decide) ?_
                      refine XS.iconst X435.here hx rfl (hb hby d8_128) ?_
                      exact k)
                  refine ⟨_, ?_, pre445⟩
                  all_goals (first | (simp only [own_m8_129_s0, if_neg hc121]; done) | (simp [own_m8_129_s0, if_neg hc121]; done))
              have f446 := (f433.wr W435)
              have f447 := ((((F_a0_afterCarriageReturn.other W405 (Or.inr (slot_ne (Or.inl (hw _ (List.mem_of_getElem? (i := 48) rfl))) (Or.inl (hw _ (List.mem_of_getElem? (i := 21) rfl))) (by decide) (t := .boolean) (t' := .int) (by decide) (by decide)))).other W411 (Or.inr (slot_ne (Or.inl (hw _ (List.mem_of_getElem? (i := 48) rfl))) (Or.inl (hw _ (List.mem_of_getElem? (i := 38) rfl))) (by decide) (t := .boolean) (t' := .long) (by decide) (by decide)))).other W429 (Or.inr (slot_ne (Or.inl (hw _ (List.mem_of_getElem? (i := 48) rfl))) (Or.inl (hw _ (List.mem_of_getElem? (i := 21) rfl))) (by decide) (t := .boolean) (t' := .int) (by decide) (by decide)))).other W435 (Or.inr (slot_ne (Or.inl (hw _ (List.mem_of_getElem? (i := 48) rfl))) (Or.inl (hw _ (List.mem_of_getElem? (i := 38) rfl))) (by decide) (t := .boolean) (t' := .long) (by decide) (by decide))))
              obtain ⟨T448, h448, X448, e448, W448, st448⟩ := putFN X435 hx hZ hown (hw _ (List.mem_of_getElem? (i := 47) rfl)) Via.refl e435 f447 f446 (Or.inl (hw _ (List.mem_of_getElem? (i := 48) rfl))) (hw _ (List.mem_of_getElem? (i := 12) rfl)) (ty := .boolean) (v' := (.int (nar .boolean m129_s0))) (by decide) rfl (fits_nar_bool _) (g := (mkF m 129 #[.val (.ref a0), .val (.ref a1), .val (.int p2), .val (.int p3), .val (.int x4_104_437), .val (.int x5_17_416), .val (.int m60_s0)] [(.int m129_s0), (.ref a0)])) rfl rfl (hb hby d8_129)
              have Fw448 := f447.same W448
              have N448 := Fr.snoc X448 N435 g_a0
              have kp449 : Keep h0 h448 [a0] := kp436.wr W448 (Or.inl (List.mem_of_getElem? (i := 0) rfl))
              have f450 := ((f431.other W435 (Or.inr (slot_ne (Or.inl (hw _ (List.mem_of_getElem? (i := 36) rfl))) (Or.inl (hw _ (List.mem_of_getElem? (i := 38) rfl))) (by decide) (t := .long) (t' := .long) (by decide) (by decide)))).other W448 (Or.inr (slot_ne (Or.inl (hw _ (List.mem_of_getElem? (i := 36) rfl))) (Or.inl (hw _ (List.mem_of_getElem? (i := 48) rfl))) (by decide) (t := .long) (t' := .boolean) (by decide) (by decide))))
              obtain ⟨T451, X451, e451, st451⟩ := getF X448 hx hZ hown (host := "") (Or.inl (hw _ (List.mem_of_getElem? (i := 35) rfl))) Via.refl e448 f450 (g := (mkF m 134 #[.val (.ref a0), .val (.ref a1), .val (.int p2), .val (.int p3), .val (.int x4_104_437), .val (.int x5_17_416), .val (.int m60_s0)] [(.ref a0), (.ref a0)])) rfl rfl (hb hby d8_134)
              have f452 := (f446.wr W448)
              obtain ⟨T453, h453, X453, e453, W453, st453⟩ := putF X451 hx hZ hown (host := "") (Or.inl (hw _ (List.mem_of_getElem? (i := 35) rfl))) Via.refl e451 f450 f452 (Or.inl (hw _ (List.mem_of_getElem? (i := 36) rfl))) (hw _ (List.mem_of_getElem? (i := 12) rfl)) (ty := .long) (by decide) rfl rfl (g := (mkF m 140 #[.val (.ref a0), .val (.ref a1), .val (.int p2), .val (.int p3), .val (.int x4_104_437), .val (.int x5_17_416), .val (.int m60_s0)] [(.long (ps + (p3).toInt64)), (.ref a0)])) rfl rfl (hb hby d8_140)
              have Fw453 := f450.same W453
              have N453 := Fr.snoc X453 N448 g_a0
              have kp454 : Keep h0 h453 [a0] := kp449.wr W453 (Or.inl (List.mem_of_getElem? (i := 0) rfl))
              obtain ⟨fs, hr, hrun, hended, hW, hsame⟩ := X453.leave (v := none) (fun _ => rfl)
              refine ⟨_, _, pre442 _ ?_, hrun, hended, _, _, rfl, ?_, ⟨_, rfl⟩, hW, hsame.mono (by decide) (by decide)⟩
              · show Steps p.tables e below (T435.setTop (mkF m 129 #[.val (.ref a0), .val (.ref a1), .val (.int p2), .val (.int p3), .val (.int x4_104_437), .val (.int x5_17_416), .val (.int m60_s0)] [(.int m129_s0), (.ref a0)])) _
                refine st448 _ ?_
                refine XS.aloadN X448.here hx rfl (hb hby d8_132) rfl rfl ?_
                refine XS.dup X448.here hx rfl (hb hby d8_133) rfl rfl ?_
                refine st451 _ ?_
                refine XS.iloadN X451.here hx rfl (hb hby d8_137) rfl ?_
                show Steps p.tables e below (T451.setTop (mkF m 138 #[.val (.ref a0), .val (.ref a1), .val (.int p2), .val (.int p3), .val (.int x4_104_437), .val (.int x5_17_416), .val (.int m60_s0)] [(.int p3), (.long ps), (.ref a0)])) _
                refine XS.i2l X451.here hx rfl (hb hby d8_138) rfl ?_
                refine XS.ladd X451.here hx rfl (hb hby d8_139) rfl ?_
                refine st453 _ ?_
                show Steps p.tables e below (T453.setTop (mkF m 143 #[.val (.ref a0), .val (.ref a1), .val (.int p2), .val (.int p3), .val (.int x4_104_437), .val (.int x5_17_416), .val (.int m60_s0)] [])) _
                exact X453.returnOut hx Bd.returns (hb hby d8_143) hr
              · show Q8 Z a0 a1 p2 p3 k z ws ln ps ls cr h0 n0 _ T453.heap _
                rw [e453]
                unfold Q8
                have f455 := (f452.wr W453)
                have f456 := (((Fw429.other W435 (Or.inr (slot_ne (Or.inl (hw _ (List.mem_of_getElem? (i := 21) rfl))) (Or.inl (hw _ (List.mem_of_getElem? (i := 38) rfl))) (by decide) (t := .int) (t' := .long) (by decide) (by decide)))).other W448 (Or.inr (slot_ne (Or.inl (hw _ (List.mem_of_getElem? (i := 21) rfl))) (Or.inl (hw _ (List.mem_of_getElem? (i := 48) rfl))) (by decide) (t := .int) (t' := .boolean) (by decide) (by decide)))).other W453 (Or.inr (slot_ne (Or.inl (hw _ (List.mem_of_getElem? (i := 21) rfl))) (Or.inl (hw _ (List.mem_of_getElem? (i := 36) rfl))) (by decide) (t := .int) (t' := .long) (by decide) (by decide))))
                have f457 := ((Fw435.other W448 (Or.inr (slot_ne (Or.inl (hw _ (List.mem_of_getElem? (i := 38) rfl))) (Or.inl (hw _ (List.mem_of_getElem? (i := 48) rfl))) (by decide) (t := .long) (t' := .boolean) (by decide) (by decide)))).other W453 (Or.inr (slot_ne (Or.inl (hw _ (List.mem_of_getElem? (i := 38) rfl))) (Or.inl (hw _ (List.mem_of_getElem? (i := 36) rfl))) (by decide) (t := .long) (t' := .long) (by decide) (by decide))))
                have f458 := (Fw448.other W453 (Or.inr (slot_ne (Or.inl (hw _ (List.mem_of_getElem? (i := 48) rfl))) (Or.inl (hw _ (List.mem_of_getElem? (i := 36) rfl))) (by decide) (t := .boolean) (t' := .long) (by decide) (by decide))))
                refine ⟨rfl, N453, kp454, f455, ?_, ?_, ?_, ?_⟩
                · rw [show (own_p8_line p2 p3 ws ln cr) = ((ln + (1 : Int32)) + (1 : Int32)) from (by subst hm129_s0 hx4_104_437 hm60_s0 hx5_17_416 hx4_104 hx5_17; simp only [own_p8_line, if_neg hk0, if_neg hk1, if_neg hc21, if_pos hc28, if_pos hc21_2, if_pos hc71])]; exact f456
                · rw [show (own_p8_passed p3 ps) = (ps + (p3).toInt64) from (by subst hm129_s0 hx4_104_437 hm60_s0 hx5_17_416 hx4_104 hx5_17; simp only [own_p8_passed, if_neg hk0, if_neg hk1, if_neg hc21, if_pos hc28, if_pos hc21_2, if_pos hc71])]; exact Fw453
                · rw [show (own_p8_lineStart p2 p3 ws ps ls) = (((ps + (x4_104).toInt64) - (p2).toInt64) + (1 : Int64)) from (by subst hm129_s0 hx4_104_437 hm60_s0 hx5_17_416 hx4_104 hx5_17; simp only [own_p8_lineStart, if_neg hk0, if_neg hk1, if_neg hc21, if_pos hc28, if_pos hc21_2, if_pos hc71])]; exact f457
                · rw [show (own_p8_afterCarriageReturn p2 p3 ws cr) = (nar .boolean m129_s0) from (by subst hm129_s0 hx4_104_437 hm60_s0 hx5_17_416 hx4_104 hx5_17; simp only [own_p8_afterCarriageReturn, if_neg hk0, if_neg hk1, if_neg hc21, if_pos hc28, if_pos hc21_2, if_pos hc71])]; exact f458
            · have f459 := (f407.other W411 (Or.inr (slot_ne (Or.inl (hw _ (List.mem_of_getElem? (i := 36) rfl))) (Or.inl (hw _ (List.mem_of_getElem? (i := 38) rfl))) (by decide) (t := .long) (t' := .long) (by decide) (by decide))))
              obtain ⟨T460, X460, e460, st460⟩ := getF X411 hx hZ hown (host := "") (Or.inl (hw _ (List.mem_of_getElem? (i := 35) rfl))) Via.refl e411 f459 (g := (mkF m 86 #[.val (.ref a0), .val (.ref a1), .val (.int p2), .val (.int p3), .val (.int x4_104), .val (.int x5_17_416), .val (.int m60_s0)] [(.ref a0), (.ref a0)])) rfl rfl (hb hby d8_86)
              have f461 := (f409.wr W411)
              obtain ⟨T462, h462, X462, e462, W462, st462⟩ := putF X460 hx hZ hown (host := "") (Or.inl (hw _ (List.mem_of_getElem? (i := 37) rfl))) Via.refl e460 Fw411 f461 (Or.inl (hw _ (List.mem_of_getElem? (i := 38) rfl))) (hw _ (List.mem_of_getElem? (i := 12) rfl)) (ty := .long) (by decide) rfl rfl (g := (mkF m 98 #[.val (.ref a0), .val (.ref a1), .val (.int p2), .val (.int p3), .val (.int x4_104), .val (.int x5_17_416), .val (.int m60_s0)] [(.long (((ps + (x4_104).toInt64) - (p2).toInt64) + (1 : Int64))), (.ref a0)])) rfl rfl (hb hby d8_98)
              have Fw462 := Fw411.same W462
              have N462 := Fr.snoc X462 N411 g_a0
              have kp463 : Keep h0 h462 [a0] := kp412.wr W462 (Or.inl (List.mem_of_getElem? (i := 0) rfl))
              obtain ⟨x4_104_464, hx4_104_464, pre465⟩ : ∃ z : Int32, z = (x4_104 + (1 : Int32)) ∧ own_Pre p e below (s₁.setTop (entryFrame m #[(.ref a0), (.ref a1), (.int p2), (.int p3)] 7)) (T462.setTop (mkF m 104 #[.val (.ref a0), .val (.ref a1), .val (.int p2), .val (.int p3), .val (.int z), .val (.int x5_17_416), .val (.int m60_s0)] [])) := ⟨_, rfl, fun t k => pre425 t (by
                  show Steps p.tables e below (T411.setTop (mkF m 71 #[.val (.ref a0), .val (.ref a1), .val (.int p2), .val (.int p3), .val (.int x4_104), .val (.int x5_17_416), .val (.int m60_s0)] [(.int m60_s0)])) _
                  refine XS.ifYes X411.here hx rfl (pc0 := 71) (pc' := 84) rfl (hb hby d8_71) rfl ((if0 _ _).trans (feq hc71).2) (by decide) (by decide) ?_
                  refine XS.aloadN X411.here hx rfl (hb hby d8_84) rfl rfl ?_
                  refine XS.aloadN X411.here hx rfl (hb hby d8_85) rfl rfl ?_
                  refine st460 _ ?_
                  refine XS.iload X460.here hx rfl (hb hby d8_89) rfl ?_
                  show Steps p.tables e below (T460.setTop (mkF m 91 #[.val (.ref a0), .val (.ref a1), .val (.int p2), .val (.int p3), .val (.int x4_104), .val (.int x5_17_416), .val (.int m60_s0)] [(.int x4_104), (.long ps), (.ref a0)])) _
                  refine XS.i2l X460.here hx rfl (hb hby d8_91) rfl ?_
                  refine XS.ladd X460.here hx rfl (hb hby d8_92) rfl ?_
                  refine XS.iloadN X460.here hx rfl (hb hby d8_93) rfl ?_
                  refine XS.i2l X460.here hx rfl (hb hby d8_94) rfl ?_
                  refine XS.lsub X460.here hx rfl (hb hby d8_95) rfl ?_
                  show Steps p.tables e below (T460.setTop (mkF m 96 #[.val (.ref a0), .val (.ref a1), .val (.int p2), .val (.int p3), .val (.int x4_104), .val (.int x5_17_416), .val (.int m60_s0)] [(.long ((ps + (x4_104).toInt64) - (p2).toInt64)), (.ref a0)])) _
                  refine XS.lconst X460.here hx rfl (hb hby d8_96) ?_
                  refine XS.ladd X460.here hx rfl (hb hby d8_97) rfl ?_
                  refine st462 _ ?_
                  refine XS.iinc X462.here hx rfl (hb hby d8_101) rfl (l' := #[.val (.ref a0), .val (.ref a1), .val (.int p2), .val (.int p3), .val (.int (x4_104 + (1 : Int32))), .val (.int x5_17_416), .val (.int m60_s0)]) rfl ?_
                  exact k)⟩
              have hc8_3 : ¬ (x4_104_464 < (p2 + p3)) := by rw [hx4_104_464, hx4_104]; exact own_l23 hk2 hrg
              have hc108 : ((0 : Int32) < p3) := by rw [hk2]; decide
              have f466 := (f414.other W462 ne_a1_a0)
              obtain ⟨cl467, Ar467, hin467, hat467⟩ := own_AI.at f466 (j := ((p2 + p3) - (1 : Int32))) (by rw [hk2, own_back2]; exact hi1 (own_pos22 hk2))
              have pre470 : own_Pre p e below (s₁.setTop (entryFrame m #[(.ref a0), (.ref a1), (.int p2), (.int p3)] 7)) (T462.setTop (mkF m 121 #[.val (.ref a0), .val (.ref a1), .val (.int p2), .val (.int p3), .val (.int x4_104_464), .val (.int x5_17_416), .val (.int m60_s0)] [(.int (13 : Int32)), (.int (ws.getD (((p2 + p3) - (1 : Int32))).toNatClampNeg (0 : Int32))), (.ref a0)])) := fun t k => pre465 t (by
                  show Steps p.tables e below (T462.setTop (mkF m 104 #[.val (.ref a0), .val (.ref a1), .val (.int p2), .val (.int p3), .val (.int x4_104_464), .val (.int x5_17_416), .val (.int m60_s0)] [])) _
                  refine XS.goto X462.here hx rfl (pc0 := 104) (pc' := 3) rfl (hb hby d8_104) (by decide) (by decide) ?_
                  refine XS.iload X462.here hx rfl (hb hby d8_3) rfl ?_
                  refine XS.iloadN X462.here hx rfl (hb hby d8_5) rfl ?_
                  refine XS.iloadN X462.here hx rfl (hb hby d8_6) rfl ?_
                  refine XS.iadd X462.here hx rfl (hb hby d8_7) rfl ?_
                  show Steps p.tables e below (T462.setTop (mkF m 8 #[.val (.ref a0), .val (.ref a1), .val (.int p2), .val (.int p3), .val (.int x4_104_464), .val (.int x5_17_416), .val (.int m60_s0)] [(.int (p2 + p3)), (.int x4_104_464)])) _
                  refine XS.icmpYes X462.here hx rfl (pc0 := 8) (pc' := 107) rfl (hb hby d8_8) rfl (flt hc8_3).2.1 (by decide) (by decide) ?_
                  refine XS.iloadN X462.here hx rfl (hb hby d8_107) rfl ?_
                  refine XS.ifNo X462.here hx rfl (hb hby d8_108) rfl ((if0 _ _).trans (tlt hc108).2.2.2) ?_
                  refine XS.aloadN X462.here hx rfl (hb hby d8_111) rfl rfl ?_
                  refine XS.aloadN X462.here hx rfl (hb hby d8_112) rfl rfl ?_
                  show Steps p.tables e below (T462.setTop (mkF m 113 #[.val (.ref a0), .val (.ref a1), .val (.int p2), .val (.int p3), .val (.int x4_104_464), .val (.int x5_17_416), .val (.int m60_s0)] [(.ref a1), (.ref a0)])) _
                  refine XS.iloadN X462.here hx rfl (hb hby d8_113) rfl ?_
                  refine XS.iloadN X462.here hx rfl (hb hby d8_114) rfl ?_
                  refine XS.iadd X462.here hx rfl (hb hby d8_115) rfl ?_
                  refine XS.iconst X462.here hx rfl (hb hby d8_116) ?_
                  refine XS.isub X462.here hx rfl (hb hby d8_117) rfl ?_
                  show Steps p.tables e below (T462.setTop (mkF m 118 #[.val (.ref a0), .val (.ref a1), .val (.int p2), .val (.int p3), .val (.int x4_104_464), .val (.int x5_17_416), .val (.int m60_s0)] [(.int ((p2 + p3) - (1 : Int32))), (.ref a1), (.ref a0)])) _
                  refine X462.caload hx (j := ((p2 + p3) - (1 : Int32))) (v := (.int (ws.getD (((p2 + p3) - (1 : Int32))).toNatClampNeg (0 : Int32)))) (by rw [e462]; exact Ar467.1) (State.isArrayOf_alike hZ.alike Ar467.2.1) Ar467.2.2 hin467 hat467 (g := (mkF m 118 #[.val (.ref a0), .val (.ref a1), .val (.int p2), .val (.int p3), .val (.int x4_104_464), .val (.int x5_17_416), .val (.int m60_s0)] [(.int ((p2 + p3) - (1 : Int32))), (.ref a1), (.ref a0)])) rfl rfl (hb hby d8_118) _ ?_
                  refine XS.bipush X462.here hx rfl (hb hby d8_119) ?_
                  exact k)
              obtain ⟨m129_s0, hm129_s0, pre469⟩ : ∃ (m129_s0 : Int32), m129_s0 = (own_m8_129_s0 ws p2 p3) ∧ own_Pre p e below (s₁.setTop (entryFrame m #[(.ref a0), (.ref a1), (.int p2), (.int p3)] 7)) (T462.setTop (mkF m 129 #[.val (.ref a0), .val (.ref a1), .val (.int p2), .val (.int p3), .val (.int x4_104_464), .val (.int x5_17_416), .val (.int m60_s0)] [(.int m129_s0), (.ref a0)])) := by
                by_cases hc121 : (ws.getD (((p2 + p3) - (1 : Int32))).toNatClampNeg (0 : Int32)) = (13 : Int32)
                · have pre471 : own_Pre p e below (s₁.setTop (entryFrame m #[(.ref a0), (.ref a1), (.int p2), (.int p3)] 7)) (T462.setTop (mkF m 129 #[.val (.ref a0), .val (.ref a1), .val (.int p2), .val (.int p3), .val (.int x4_104_464), .val (.int x5_17_416), .val (.int m60_s0)] [(.int (1 : Int32)), (.ref a0)])) := fun t k => pre470 t (by
                      show Steps p.tables e below (T462.setTop (mkF m 121 #[.val (.ref a0), .val (.ref a1), .val (.int p2), .val (.int p3), .val (.int x4_104_464), .val (.int x5_17_416), .val (.int m60_s0)] [(.int (13 : Int32)), (.int (ws.getD (((p2 + p3) - (1 : Int32))).toNatClampNeg (0 : Int32))), (.ref a0)])) _
                      refine XS.icmpNo X462.here hx rfl (hb hby d8_121) rfl (teq hc121).2 ?_
                      refine XS.iconst X462.here hx rfl (hb hby d8_124) ?_
                      refine XS.goto X462.here hx rfl (pc0 := 125) (pc' := 129) rfl (hb hby d8_125) (by decide) (by decide) ?_
                      exact k)
                  refine ⟨_, ?_, pre471⟩
                  all_goals (first | (simp only [own_m8_129_s0, if_pos hc121]; done) | (simp [own_m8_129_s0, if_pos hc121]; done))
                · have pre472 : own_Pre p e below (s₁.setTop (entryFrame m #[(.ref a0), (.ref a1), (.int p2), (.int p3)] 7)) (T462.setTop (mkF m 129 #[.val (.ref a0), .val (.ref a1), .val (.int p2), .val (.int p3), .val (.int x4_104_464), .val (.int x5_17_416), .val (.int m60_s0)] [(.int (0 : Int32)), (.ref a0)])) := fun t k => pre470 t (by
                      show Steps p.tables e below (T462.setTop (mkF m 121 #[.val (.ref a0), .val (.ref a1), .val (.int p2), .val (.int p3), .val (.int x4_104_464), .val (.int x5_17_416), .val (.int m60_s0)] [(.int (13 : Int32)), (.int (ws.getD (((p2 + p3) - (1 : Int32))).toNatClampNeg (0 : Int32))), (.ref a0)])) _
                      refine XS.icmpYes X462.here hx rfl (pc0 := 121) (pc' := 128) rfl (hb hby d8_121) rfl (feq hc121).2 (by decide) (by decide) ?_
                      refine XS.iconst X462.here hx rfl (hb hby d8_128) ?_
                      exact k)
                  refine ⟨_, ?_, pre472⟩
                  all_goals (first | (simp only [own_m8_129_s0, if_neg hc121]; done) | (simp [own_m8_129_s0, if_neg hc121]; done))
              have f473 := (f461.wr W462)
              have f474 := (((F_a0_afterCarriageReturn.other W405 (Or.inr (slot_ne (Or.inl (hw _ (List.mem_of_getElem? (i := 48) rfl))) (Or.inl (hw _ (List.mem_of_getElem? (i := 21) rfl))) (by decide) (t := .boolean) (t' := .int) (by decide) (by decide)))).other W411 (Or.inr (slot_ne (Or.inl (hw _ (List.mem_of_getElem? (i := 48) rfl))) (Or.inl (hw _ (List.mem_of_getElem? (i := 38) rfl))) (by decide) (t := .boolean) (t' := .long) (by decide) (by decide)))).other W462 (Or.inr (slot_ne (Or.inl (hw _ (List.mem_of_getElem? (i := 48) rfl))) (Or.inl (hw _ (List.mem_of_getElem? (i := 38) rfl))) (by decide) (t := .boolean) (t' := .long) (by decide) (by decide))))
              obtain ⟨T475, h475, X475, e475, W475, st475⟩ := putFN X462 hx hZ hown (hw _ (List.mem_of_getElem? (i := 47) rfl)) Via.refl e462 f474 f473 (Or.inl (hw _ (List.mem_of_getElem? (i := 48) rfl))) (hw _ (List.mem_of_getElem? (i := 12) rfl)) (ty := .boolean) (v' := (.int (nar .boolean m129_s0))) (by decide) rfl (fits_nar_bool _) (g := (mkF m 129 #[.val (.ref a0), .val (.ref a1), .val (.int p2), .val (.int p3), .val (.int x4_104_464), .val (.int x5_17_416), .val (.int m60_s0)] [(.int m129_s0), (.ref a0)])) rfl rfl (hb hby d8_129)
              have Fw475 := f474.same W475
              have N475 := Fr.snoc X475 N462 g_a0
              have kp476 : Keep h0 h475 [a0] := kp463.wr W475 (Or.inl (List.mem_of_getElem? (i := 0) rfl))
              have f477 := ((f459.other W462 (Or.inr (slot_ne (Or.inl (hw _ (List.mem_of_getElem? (i := 36) rfl))) (Or.inl (hw _ (List.mem_of_getElem? (i := 38) rfl))) (by decide) (t := .long) (t' := .long) (by decide) (by decide)))).other W475 (Or.inr (slot_ne (Or.inl (hw _ (List.mem_of_getElem? (i := 36) rfl))) (Or.inl (hw _ (List.mem_of_getElem? (i := 48) rfl))) (by decide) (t := .long) (t' := .boolean) (by decide) (by decide))))
              obtain ⟨T478, X478, e478, st478⟩ := getF X475 hx hZ hown (host := "") (Or.inl (hw _ (List.mem_of_getElem? (i := 35) rfl))) Via.refl e475 f477 (g := (mkF m 134 #[.val (.ref a0), .val (.ref a1), .val (.int p2), .val (.int p3), .val (.int x4_104_464), .val (.int x5_17_416), .val (.int m60_s0)] [(.ref a0), (.ref a0)])) rfl rfl (hb hby d8_134)
              have f479 := (f473.wr W475)
              obtain ⟨T480, h480, X480, e480, W480, st480⟩ := putF X478 hx hZ hown (host := "") (Or.inl (hw _ (List.mem_of_getElem? (i := 35) rfl))) Via.refl e478 f477 f479 (Or.inl (hw _ (List.mem_of_getElem? (i := 36) rfl))) (hw _ (List.mem_of_getElem? (i := 12) rfl)) (ty := .long) (by decide) rfl rfl (g := (mkF m 140 #[.val (.ref a0), .val (.ref a1), .val (.int p2), .val (.int p3), .val (.int x4_104_464), .val (.int x5_17_416), .val (.int m60_s0)] [(.long (ps + (p3).toInt64)), (.ref a0)])) rfl rfl (hb hby d8_140)
              have Fw480 := f477.same W480
              have N480 := Fr.snoc X480 N475 g_a0
              have kp481 : Keep h0 h480 [a0] := kp476.wr W480 (Or.inl (List.mem_of_getElem? (i := 0) rfl))
              obtain ⟨fs, hr, hrun, hended, hW, hsame⟩ := X480.leave (v := none) (fun _ => rfl)
              refine ⟨_, _, pre469 _ ?_, hrun, hended, _, _, rfl, ?_, ⟨_, rfl⟩, hW, hsame.mono (by decide) (by decide)⟩
              · show Steps p.tables e below (T462.setTop (mkF m 129 #[.val (.ref a0), .val (.ref a1), .val (.int p2), .val (.int p3), .val (.int x4_104_464), .val (.int x5_17_416), .val (.int m60_s0)] [(.int m129_s0), (.ref a0)])) _
                refine st475 _ ?_
                refine XS.aloadN X475.here hx rfl (hb hby d8_132) rfl rfl ?_
                refine XS.dup X475.here hx rfl (hb hby d8_133) rfl rfl ?_
                refine st478 _ ?_
                refine XS.iloadN X478.here hx rfl (hb hby d8_137) rfl ?_
                show Steps p.tables e below (T478.setTop (mkF m 138 #[.val (.ref a0), .val (.ref a1), .val (.int p2), .val (.int p3), .val (.int x4_104_464), .val (.int x5_17_416), .val (.int m60_s0)] [(.int p3), (.long ps), (.ref a0)])) _
                refine XS.i2l X478.here hx rfl (hb hby d8_138) rfl ?_
                refine XS.ladd X478.here hx rfl (hb hby d8_139) rfl ?_
                refine st480 _ ?_
                show Steps p.tables e below (T480.setTop (mkF m 143 #[.val (.ref a0), .val (.ref a1), .val (.int p2), .val (.int p3), .val (.int x4_104_464), .val (.int x5_17_416), .val (.int m60_s0)] [])) _
                exact X480.returnOut hx Bd.returns (hb hby d8_143) hr
              · show Q8 Z a0 a1 p2 p3 k z ws ln ps ls cr h0 n0 _ T480.heap _
                rw [e480]
                unfold Q8
                have f482 := (f479.wr W480)
                have f483 := ((((Fw405.other W411 (Or.inr (slot_ne (Or.inl (hw _ (List.mem_of_getElem? (i := 21) rfl))) (Or.inl (hw _ (List.mem_of_getElem? (i := 38) rfl))) (by decide) (t := .int) (t' := .long) (by decide) (by decide)))).other W462 (Or.inr (slot_ne (Or.inl (hw _ (List.mem_of_getElem? (i := 21) rfl))) (Or.inl (hw _ (List.mem_of_getElem? (i := 38) rfl))) (by decide) (t := .int) (t' := .long) (by decide) (by decide)))).other W475 (Or.inr (slot_ne (Or.inl (hw _ (List.mem_of_getElem? (i := 21) rfl))) (Or.inl (hw _ (List.mem_of_getElem? (i := 48) rfl))) (by decide) (t := .int) (t' := .boolean) (by decide) (by decide)))).other W480 (Or.inr (slot_ne (Or.inl (hw _ (List.mem_of_getElem? (i := 21) rfl))) (Or.inl (hw _ (List.mem_of_getElem? (i := 36) rfl))) (by decide) (t := .int) (t' := .long) (by decide) (by decide))))
                have f484 := ((Fw462.other W475 (Or.inr (slot_ne (Or.inl (hw _ (List.mem_of_getElem? (i := 38) rfl))) (Or.inl (hw _ (List.mem_of_getElem? (i := 48) rfl))) (by decide) (t := .long) (t' := .boolean) (by decide) (by decide)))).other W480 (Or.inr (slot_ne (Or.inl (hw _ (List.mem_of_getElem? (i := 38) rfl))) (Or.inl (hw _ (List.mem_of_getElem? (i := 36) rfl))) (by decide) (t := .long) (t' := .long) (by decide) (by decide))))
                have f485 := (Fw475.other W480 (Or.inr (slot_ne (Or.inl (hw _ (List.mem_of_getElem? (i := 48) rfl))) (Or.inl (hw _ (List.mem_of_getElem? (i := 36) rfl))) (by decide) (t := .boolean) (t' := .long) (by decide) (by decide))))
                refine ⟨rfl, N480, kp481, f482, ?_, ?_, ?_, ?_⟩
                · rw [show (own_p8_line p2 p3 ws ln cr) = (ln + (1 : Int32)) from (by subst hm129_s0 hx4_104_464 hm60_s0 hx5_17_416 hx4_104 hx5_17; simp only [own_p8_line, if_neg hk0, if_neg hk1, if_neg hc21, if_pos hc28, if_pos hc21_2, if_neg hc71])]; exact f483
                · rw [show (own_p8_passed p3 ps) = (ps + (p3).toInt64) from (by subst hm129_s0 hx4_104_464 hm60_s0 hx5_17_416 hx4_104 hx5_17; simp only [own_p8_passed, if_neg hk0, if_neg hk1, if_neg hc21, if_pos hc28, if_pos hc21_2, if_neg hc71])]; exact Fw480
                · rw [show (own_p8_lineStart p2 p3 ws ps ls) = (((ps + (x4_104).toInt64) - (p2).toInt64) + (1 : Int64)) from (by subst hm129_s0 hx4_104_464 hm60_s0 hx5_17_416 hx4_104 hx5_17; simp only [own_p8_lineStart, if_neg hk0, if_neg hk1, if_neg hc21, if_pos hc28, if_pos hc21_2, if_neg hc71])]; exact f484
                · rw [show (own_p8_afterCarriageReturn p2 p3 ws cr) = (nar .boolean m129_s0) from (by subst hm129_s0 hx4_104_464 hm60_s0 hx5_17_416 hx4_104 hx5_17; simp only [own_p8_afterCarriageReturn, if_neg hk0, if_neg hk1, if_neg hc21, if_pos hc28, if_pos hc21_2, if_neg hc71])]; exact f485
          · have pre486 : own_Pre p e below (s₁.setTop (entryFrame m #[(.ref a0), (.ref a1), (.int p2), (.int p3)] 7)) (T411.setTop (mkF m 28 #[.val (.ref a0), .val (.ref a1), .val (.int p2), .val (.int p3), .val (.int x4_104), .val (.int x5_17_416), .val (.int cr)] [(.int (13 : Int32)), (.int x5_17_416)])) := fun t k => pre418 t (by
                show Steps p.tables e below (T411.setTop (mkF m 21 #[.val (.ref a0), .val (.ref a1), .val (.int p2), .val (.int p3), .val (.int x4_104), .val (.int x5_17_416), .val (.int cr)] [(.int (10 : Int32)), (.int x5_17_416)])) _
                refine XS.icmpNo X411.here hx rfl (hb hby d8_21) rfl (feq hc21_2).1 ?_
                refine XS.iload X411.here hx rfl (hb hby d8_24) rfl ?_
                refine XS.bipush X411.here hx rfl (hb hby d8_26) ?_
                exact k)
            by_cases hc28_2 : x5_17_416 = (13 : Int32)
            · have hc34_2 : (p2 < x4_104) := by rw [hx4_104]; exact own_l34 hrg
              obtain ⟨cl487, Ar487, hin487, hat487⟩ := own_AI.at f414 (j := (x4_104 - (1 : Int32))) (by rw [hx4_104, own_back]; exact hi0 (own_pos2 hk2))
              have pre490 : own_Pre p e below (s₁.setTop (entryFrame m #[(.ref a0), (.ref a1), (.int p2), (.int p3)] 7)) (T411.setTop (mkF m 45 #[.val (.ref a0), .val (.ref a1), .val (.int p2), .val (.int p3), .val (.int x4_104), .val (.int x5_17_416), .val (.int cr)] [(.int (13 : Int32)), (.int (ws.getD ((x4_104 - (1 : Int32))).toNatClampNeg (0 : Int32)))])) := fun t k => pre486 t (by
                  show Steps p.tables e below (T411.setTop (mkF m 28 #[.val (.ref a0), .val (.ref a1), .val (.int p2), .val (.int p3), .val (.int x4_104), .val (.int x5_17_416), .val (.int cr)] [(.int (13 : Int32)), (.int x5_17_416)])) _
                  refine XS.icmpNo X411.here hx rfl (hb hby d8_28) rfl (teq hc28_2).2 ?_
                  refine XS.iload X411.here hx rfl (hb hby d8_31) rfl ?_
                  refine XS.iloadN X411.here hx rfl (hb hby d8_33) rfl ?_
                  refine XS.icmpNo X411.here hx rfl (hb hby d8_34) rfl (tlt hc34_2).2.2.2 ?_
                  refine XS.aloadN X411.here hx rfl (hb hby d8_37) rfl rfl ?_
                  show Steps p.tables e below (T411.setTop (mkF m 38 #[.val (.ref a0), .val (.ref a1), .val (.int p2), .val (.int p3), .val (.int x4_104), .val (.int x5_17_416), .val (.int cr)] [(.ref a1)])) _
                  refine XS.iload X411.here hx rfl (hb hby d8_38) rfl ?_
                  refine XS.iconst X411.here hx rfl (hb hby d8_40) ?_
                  refine XS.isub X411.here hx rfl (hb hby d8_41) rfl ?_
                  refine X411.caload hx (j := (x4_104 - (1 : Int32))) (v := (.int (ws.getD ((x4_104 - (1 : Int32))).toNatClampNeg (0 : Int32)))) (by rw [e411]; exact Ar487.1) (State.isArrayOf_alike hZ.alike Ar487.2.1) Ar487.2.2 hin487 hat487 (g := (mkF m 42 #[.val (.ref a0), .val (.ref a1), .val (.int p2), .val (.int p3), .val (.int x4_104), .val (.int x5_17_416), .val (.int cr)] [(.int (x4_104 - (1 : Int32))), (.ref a1)])) rfl rfl (hb hby d8_42) _ ?_
                  refine XS.bipush X411.here hx rfl (hb hby d8_43) ?_
                  exact k)
              obtain ⟨m60_s0, hm60_s0, pre489⟩ : ∃ (m60_s0 : Int32), m60_s0 = (own_m8_60_s0 ws x4_104) ∧ own_Pre p e below (s₁.setTop (entryFrame m #[(.ref a0), (.ref a1), (.int p2), (.int p3)] 7)) (T411.setTop (mkF m 60 #[.val (.ref a0), .val (.ref a1), .val (.int p2), .val (.int p3), .val (.int x4_104), .val (.int x5_17_416), .val (.int cr)] [(.int m60_s0)])) := by
                by_cases hc45 : (ws.getD ((x4_104 - (1 : Int32))).toNatClampNeg (0 : Int32)) = (13 : Int32)
                · have pre491 : own_Pre p e below (s₁.setTop (entryFrame m #[(.ref a0), (.ref a1), (.int p2), (.int p3)] 7)) (T411.setTop (mkF m 60 #[.val (.ref a0), .val (.ref a1), .val (.int p2), .val (.int p3), .val (.int x4_104), .val (.int x5_17_416), .val (.int cr)] [(.int (1 : Int32))])) := fun t k => pre490 t (by
                      show Steps p.tables e below (T411.setTop (mkF m 45 #[.val (.ref a0), .val (.ref a1), .val (.int p2), .val (.int p3), .val (.int x4_104), .val (.int x5_17_416), .val (.int cr)] [(.int (13 : Int32)), (.int (ws.getD ((x4_104 - (1 : Int32))).toNatClampNeg (0 : Int32)))])) _
                      refine XS.icmpNo X411.here hx rfl (hb hby d8_45) rfl (teq hc45).2 ?_
                      refine XS.iconst X411.here hx rfl (hb hby d8_48) ?_
                      refine XS.goto X411.here hx rfl (pc0 := 49) (pc' := 60) rfl (hb hby d8_49) (by decide) (by decide) ?_
                      exact k)
                  refine ⟨_, ?_, pre491⟩
                  all_goals (first | (simp only [own_m8_60_s0, if_pos hc45]; done) | (simp [own_m8_60_s0, if_pos hc45]; done))
                · have pre492 : own_Pre p e below (s₁.setTop (entryFrame m #[(.ref a0), (.ref a1), (.int p2), (.int p3)] 7)) (T411.setTop (mkF m 60 #[.val (.ref a0), .val (.ref a1), .val (.int p2), .val (.int p3), .val (.int x4_104), .val (.int x5_17_416), .val (.int cr)] [(.int (0 : Int32))])) := fun t k => pre490 t (by
                      show Steps p.tables e below (T411.setTop (mkF m 45 #[.val (.ref a0), .val (.ref a1), .val (.int p2), .val (.int p3), .val (.int x4_104), .val (.int x5_17_416), .val (.int cr)] [(.int (13 : Int32)), (.int (ws.getD ((x4_104 - (1 : Int32))).toNatClampNeg (0 : Int32)))])) _
                      refine XS.icmpYes X411.here hx rfl (pc0 := 45) (pc' := 52) rfl (hb hby d8_45) rfl (feq hc45).2 (by decide) (by decide) ?_
                      refine XS.iconst X411.here hx rfl (hb hby d8_52) ?_
                      refine XS.goto X411.here hx rfl (pc0 := 53) (pc' := 60) rfl (hb hby d8_53) (by decide) (by decide) ?_
                      exact k)
                  refine ⟨_, ?_, pre492⟩
                  all_goals (first | (simp only [own_m8_60_s0, if_neg hc45]; done) | (simp [own_m8_60_s0, if_neg hc45]; done))
              have hc66_2 : (x5_17_416 = (13 : Int32)) := hc28_2
              have f493 := (Fw405.other W411 (Or.inr (slot_ne (Or.inl (hw _ (List.mem_of_getElem? (i := 21) rfl))) (Or.inl (hw _ (List.mem_of_getElem? (i := 38) rfl))) (by decide) (t := .int) (t' := .long) (by decide) (by decide))))
              obtain ⟨T494, X494, e494, st494⟩ := getF X411 hx hZ hown (host := "") (Or.inl (hw _ (List.mem_of_getElem? (i := 20) rfl))) Via.refl e411 f493 (g := (mkF m 76 #[.val (.ref a0), .val (.ref a1), .val (.int p2), .val (.int p3), .val (.int x4_104), .val (.int x5_17_416), .val (.int m60_s0)] [(.ref a0), (.ref a0)])) rfl rfl (hb hby d8_76)
              have f495 := (f409.wr W411)
              obtain ⟨T496, h496, X496, e496, W496, st496⟩ := putF X494 hx hZ hown (host := "") (Or.inl (hw _ (List.mem_of_getElem? (i := 20) rfl))) Via.refl e494 f493 f495 (Or.inl (hw _ (List.mem_of_getElem? (i := 21) rfl))) (hw _ (List.mem_of_getElem? (i := 12) rfl)) (ty := .int) (by decide) rfl rfl (g := (mkF m 81 #[.val (.ref a0), .val (.ref a1), .val (.int p2), .val (.int p3), .val (.int x4_104), .val (.int x5_17_416), .val (.int m60_s0)] [(.int ((ln + (1 : Int32)) + (1 : Int32))), (.ref a0)])) rfl rfl (hb hby d8_81)
              have Fw496 := f493.same W496
              have N496 := Fr.snoc X496 N411 g_a0
              have kp497 : Keep h0 h496 [a0] := kp412.wr W496 (Or.inl (List.mem_of_getElem? (i := 0) rfl))
              have f498 := ((f407.other W411 (Or.inr (slot_ne (Or.inl (hw _ (List.mem_of_getElem? (i := 36) rfl))) (Or.inl (hw _ (List.mem_of_getElem? (i := 38) rfl))) (by decide) (t := .long) (t' := .long) (by decide) (by decide)))).other W496 (Or.inr (slot_ne (Or.inl (hw _ (List.mem_of_getElem? (i := 36) rfl))) (Or.inl (hw _ (List.mem_of_getElem? (i := 21) rfl))) (by decide) (t := .long) (t' := .int) (by decide) (by decide))))
              obtain ⟨T499, X499, e499, st499⟩ := getF X496 hx hZ hown (host := "") (Or.inl (hw _ (List.mem_of_getElem? (i := 35) rfl))) Via.refl e496 f498 (g := (mkF m 86 #[.val (.ref a0), .val (.ref a1), .val (.int p2), .val (.int p3), .val (.int x4_104), .val (.int x5_17_416), .val (.int m60_s0)] [(.ref a0), (.ref a0)])) rfl rfl (hb hby d8_86)
              have f500 := (f495.wr W496)
              have f501 := (Fw411.other W496 (Or.inr (slot_ne (Or.inl (hw _ (List.mem_of_getElem? (i := 38) rfl))) (Or.inl (hw _ (List.mem_of_getElem? (i := 21) rfl))) (by decide) (t := .long) (t' := .int) (by decide) (by decide))))
              obtain ⟨T502, h502, X502, e502, W502, st502⟩ := putF X499 hx hZ hown (host := "") (Or.inl (hw _ (List.mem_of_getElem? (i := 37) rfl))) Via.refl e499 f501 f500 (Or.inl (hw _ (List.mem_of_getElem? (i := 38) rfl))) (hw _ (List.mem_of_getElem? (i := 12) rfl)) (ty := .long) (by decide) rfl rfl (g := (mkF m 98 #[.val (.ref a0), .val (.ref a1), .val (.int p2), .val (.int p3), .val (.int x4_104), .val (.int x5_17_416), .val (.int m60_s0)] [(.long (((ps + (x4_104).toInt64) - (p2).toInt64) + (1 : Int64))), (.ref a0)])) rfl rfl (hb hby d8_98)
              have Fw502 := f501.same W502
              have N502 := Fr.snoc X502 N496 g_a0
              have kp503 : Keep h0 h502 [a0] := kp497.wr W502 (Or.inl (List.mem_of_getElem? (i := 0) rfl))
              obtain ⟨x4_104_504, hx4_104_504, pre505⟩ : ∃ z : Int32, z = (x4_104 + (1 : Int32)) ∧ own_Pre p e below (s₁.setTop (entryFrame m #[(.ref a0), (.ref a1), (.int p2), (.int p3)] 7)) (T502.setTop (mkF m 104 #[.val (.ref a0), .val (.ref a1), .val (.int p2), .val (.int p3), .val (.int z), .val (.int x5_17_416), .val (.int m60_s0)] [])) := ⟨_, rfl, fun t k => pre489 t (by
                  show Steps p.tables e below (T411.setTop (mkF m 60 #[.val (.ref a0), .val (.ref a1), .val (.int p2), .val (.int p3), .val (.int x4_104), .val (.int x5_17_416), .val (.int cr)] [(.int m60_s0)])) _
                  refine XS.istore X411.here hx rfl (hb hby d8_60) rfl (l' := #[.val (.ref a0), .val (.ref a1), .val (.int p2), .val (.int p3), .val (.int x4_104), .val (.int x5_17_416), .val (.int m60_s0)]) rfl ?_
                  refine XS.iload X411.here hx rfl (hb hby d8_62) rfl ?_
                  refine XS.bipush X411.here hx rfl (hb hby d8_64) ?_
                  refine XS.icmpYes X411.here hx rfl (pc0 := 66) (pc' := 74) rfl (hb hby d8_66) rfl (teq hc66_2).1 (by decide) (by decide) ?_
                  refine XS.aloadN X411.here hx rfl (hb hby d8_74) rfl rfl ?_
                  show Steps p.tables e below (T411.setTop (mkF m 75 #[.val (.ref a0), .val (.ref a1), .val (.int p2), .val (.int p3), .val (.int x4_104), .val (.int x5_17_416), .val (.int m60_s0)] [(.ref a0)])) _
                  refine XS.dup X411.here hx rfl (hb hby d8_75) rfl rfl ?_
                  refine st494 _ ?_
                  refine XS.iconst X494.here hx rfl (hb hby d8_79) ?_
                  refine XS.iadd X494.here hx rfl (hb hby d8_80) rfl ?_
                  refine st496 _ ?_
                  show Steps p.tables e below (T496.setTop (mkF m 84 #[.val (.ref a0), .val (.ref a1), .val (.int p2), .val (.int p3), .val (.int x4_104), .val (.int x5_17_416), .val (.int m60_s0)] [])) _
                  refine XS.aloadN X496.here hx rfl (hb hby d8_84) rfl rfl ?_
                  refine XS.aloadN X496.here hx rfl (hb hby d8_85) rfl rfl ?_
                  refine st499 _ ?_
                  refine XS.iload X499.here hx rfl (hb hby d8_89) rfl ?_
                  refine XS.i2l X499.here hx rfl (hb hby d8_91) rfl ?_
                  show Steps p.tables e below (T499.setTop (mkF m 92 #[.val (.ref a0), .val (.ref a1), .val (.int p2), .val (.int p3), .val (.int x4_104), .val (.int x5_17_416), .val (.int m60_s0)] [(.long (x4_104).toInt64), (.long ps), (.ref a0)])) _
                  refine XS.ladd X499.here hx rfl (hb hby d8_92) rfl ?_
                  refine XS.iloadN X499.here hx rfl (hb hby d8_93) rfl ?_
                  refine XS.i2l X499.here hx rfl (hb hby d8_94) rfl ?_
                  refine XS.lsub X499.here hx rfl (hb hby d8_95) rfl ?_
                  refine XS.lconst X499.here hx rfl (hb hby d8_96) ?_
                  show Steps p.tables e below (T499.setTop (mkF m 97 #[.val (.ref a0), .val (.ref a1), .val (.int p2), .val (.int p3), .val (.int x4_104), .val (.int x5_17_416), .val (.int m60_s0)] [(.long (1 : Int64)), (.long ((ps + (x4_104).toInt64) - (p2).toInt64)), (.ref a0)])) _
                  refine XS.ladd X499.here hx rfl (hb hby d8_97) rfl ?_
                  refine st502 _ ?_
                  refine XS.iinc X502.here hx rfl (hb hby d8_101) rfl (l' := #[.val (.ref a0), .val (.ref a1), .val (.int p2), .val (.int p3), .val (.int (x4_104 + (1 : Int32))), .val (.int x5_17_416), .val (.int m60_s0)]) rfl ?_
                  exact k)⟩
              have hc8_3 : ¬ (x4_104_504 < (p2 + p3)) := by rw [hx4_104_504, hx4_104]; exact own_l23 hk2 hrg
              have hc108 : ((0 : Int32) < p3) := by rw [hk2]; decide
              have f506 := ((f414.other W496 ne_a1_a0).other W502 ne_a1_a0)
              obtain ⟨cl507, Ar507, hin507, hat507⟩ := own_AI.at f506 (j := ((p2 + p3) - (1 : Int32))) (by rw [hk2, own_back2]; exact hi1 (own_pos22 hk2))
              have pre510 : own_Pre p e below (s₁.setTop (entryFrame m #[(.ref a0), (.ref a1), (.int p2), (.int p3)] 7)) (T502.setTop (mkF m 121 #[.val (.ref a0), .val (.ref a1), .val (.int p2), .val (.int p3), .val (.int x4_104_504), .val (.int x5_17_416), .val (.int m60_s0)] [(.int (13 : Int32)), (.int (ws.getD (((p2 + p3) - (1 : Int32))).toNatClampNeg (0 : Int32))), (.ref a0)])) := fun t k => pre505 t (by
                  show Steps p.tables e below (T502.setTop (mkF m 104 #[.val (.ref a0), .val (.ref a1), .val (.int p2), .val (.int p3), .val (.int x4_104_504), .val (.int x5_17_416), .val (.int m60_s0)] [])) _
                  refine XS.goto X502.here hx rfl (pc0 := 104) (pc' := 3) rfl (hb hby d8_104) (by decide) (by decide) ?_
                  refine XS.iload X502.here hx rfl (hb hby d8_3) rfl ?_
                  refine XS.iloadN X502.here hx rfl (hb hby d8_5) rfl ?_
                  refine XS.iloadN X502.here hx rfl (hb hby d8_6) rfl ?_
                  refine XS.iadd X502.here hx rfl (hb hby d8_7) rfl ?_
                  show Steps p.tables e below (T502.setTop (mkF m 8 #[.val (.ref a0), .val (.ref a1), .val (.int p2), .val (.int p3), .val (.int x4_104_504), .val (.int x5_17_416), .val (.int m60_s0)] [(.int (p2 + p3)), (.int x4_104_504)])) _
                  refine XS.icmpYes X502.here hx rfl (pc0 := 8) (pc' := 107) rfl (hb hby d8_8) rfl (flt hc8_3).2.1 (by decide) (by decide) ?_
                  refine XS.iloadN X502.here hx rfl (hb hby d8_107) rfl ?_
                  refine XS.ifNo X502.here hx rfl (hb hby d8_108) rfl ((if0 _ _).trans (tlt hc108).2.2.2) ?_
                  refine XS.aloadN X502.here hx rfl (hb hby d8_111) rfl rfl ?_
                  refine XS.aloadN X502.here hx rfl (hb hby d8_112) rfl rfl ?_
                  show Steps p.tables e below (T502.setTop (mkF m 113 #[.val (.ref a0), .val (.ref a1), .val (.int p2), .val (.int p3), .val (.int x4_104_504), .val (.int x5_17_416), .val (.int m60_s0)] [(.ref a1), (.ref a0)])) _
                  refine XS.iloadN X502.here hx rfl (hb hby d8_113) rfl ?_
                  refine XS.iloadN X502.here hx rfl (hb hby d8_114) rfl ?_
                  refine XS.iadd X502.here hx rfl (hb hby d8_115) rfl ?_
                  refine XS.iconst X502.here hx rfl (hb hby d8_116) ?_
                  refine XS.isub X502.here hx rfl (hb hby d8_117) rfl ?_
                  show Steps p.tables e below (T502.setTop (mkF m 118 #[.val (.ref a0), .val (.ref a1), .val (.int p2), .val (.int p3), .val (.int x4_104_504), .val (.int x5_17_416), .val (.int m60_s0)] [(.int ((p2 + p3) - (1 : Int32))), (.ref a1), (.ref a0)])) _
                  refine X502.caload hx (j := ((p2 + p3) - (1 : Int32))) (v := (.int (ws.getD (((p2 + p3) - (1 : Int32))).toNatClampNeg (0 : Int32)))) (by rw [e502]; exact Ar507.1) (State.isArrayOf_alike hZ.alike Ar507.2.1) Ar507.2.2 hin507 hat507 (g := (mkF m 118 #[.val (.ref a0), .val (.ref a1), .val (.int p2), .val (.int p3), .val (.int x4_104_504), .val (.int x5_17_416), .val (.int m60_s0)] [(.int ((p2 + p3) - (1 : Int32))), (.ref a1), (.ref a0)])) rfl rfl (hb hby d8_118) _ ?_
                  refine XS.bipush X502.here hx rfl (hb hby d8_119) ?_
                  exact k)
              obtain ⟨m129_s0, hm129_s0, pre509⟩ : ∃ (m129_s0 : Int32), m129_s0 = (own_m8_129_s0 ws p2 p3) ∧ own_Pre p e below (s₁.setTop (entryFrame m #[(.ref a0), (.ref a1), (.int p2), (.int p3)] 7)) (T502.setTop (mkF m 129 #[.val (.ref a0), .val (.ref a1), .val (.int p2), .val (.int p3), .val (.int x4_104_504), .val (.int x5_17_416), .val (.int m60_s0)] [(.int m129_s0), (.ref a0)])) := by
                by_cases hc121 : (ws.getD (((p2 + p3) - (1 : Int32))).toNatClampNeg (0 : Int32)) = (13 : Int32)
                · have pre511 : own_Pre p e below (s₁.setTop (entryFrame m #[(.ref a0), (.ref a1), (.int p2), (.int p3)] 7)) (T502.setTop (mkF m 129 #[.val (.ref a0), .val (.ref a1), .val (.int p2), .val (.int p3), .val (.int x4_104_504), .val (.int x5_17_416), .val (.int m60_s0)] [(.int (1 : Int32)), (.ref a0)])) := fun t k => pre510 t (by
                      show Steps p.tables e below (T502.setTop (mkF m 121 #[.val (.ref a0), .val (.ref a1), .val (.int p2), .val (.int p3), .val (.int x4_104_504), .val (.int x5_17_416), .val (.int m60_s0)] [(.int (13 : Int32)), (.int (ws.getD (((p2 + p3) - (1 : Int32))).toNatClampNeg (0 : Int32))), (.ref a0)])) _
                      refine XS.icmpNo X502.here hx rfl (hb hby d8_121) rfl (teq hc121).2 ?_
                      refine XS.iconst X502.here hx rfl (hb hby d8_124) ?_
                      refine XS.goto X502.here hx rfl (pc0 := 125) (pc' := 129) rfl (hb hby d8_125) (by decide) (by decide) ?_
                      exact k)
                  refine ⟨_, ?_, pre511⟩
                  all_goals (first | (simp only [own_m8_129_s0, if_pos hc121]; done) | (simp [own_m8_129_s0, if_pos hc121]; done))
                · have pre512 : own_Pre p e below (s₁.setTop (entryFrame m #[(.ref a0), (.ref a1), (.int p2), (.int p3)] 7)) (T502.setTop (mkF m 129 #[.val (.ref a0), .val (.ref a1), .val (.int p2), .val (.int p3), .val (.int x4_104_504), .val (.int x5_17_416), .val (.int m60_s0)] [(.int (0 : Int32)), (.ref a0)])) := fun t k => pre510 t (by
                      show Steps p.tables e below (T502.setTop (mkF m 121 #[.val (.ref a0), .val (.ref a1), .val (.int p2), .val (.int p3), .val (.int x4_104_504), .val (.int x5_17_416), .val (.int m60_s0)] [(.int (13 : Int32)), (.int (ws.getD (((p2 + p3) - (1 : Int32))).toNatClampNeg (0 : Int32))), (.ref a0)])) _
                      refine XS.icmpYes X502.here hx rfl (pc0 := 121) (pc' := 128) rfl (hb hby d8_121) rfl (feq hc121).2 (by decide) (by decide) ?_
                      refine XS.iconst X502.here hx rfl (hb hby d8_128) ?_
                      exact k)
                  refine ⟨_, ?_, pre512⟩
                  all_goals (first | (simp only [own_m8_129_s0, if_neg hc121]; done) | (simp [own_m8_129_s0, if_neg hc121]; done))
              have f513 := (f500.wr W502)
              have f514 := ((((F_a0_afterCarriageReturn.other W405 (Or.inr (slot_ne (Or.inl (hw _ (List.mem_of_getElem? (i := 48) rfl))) (Or.inl (hw _ (List.mem_of_getElem? (i := 21) rfl))) (by decide) (t := .boolean) (t' := .int) (by decide) (by decide)))).other W411 (Or.inr (slot_ne (Or.inl (hw _ (List.mem_of_getElem? (i := 48) rfl))) (Or.inl (hw _ (List.mem_of_getElem? (i := 38) rfl))) (by decide) (t := .boolean) (t' := .long) (by decide) (by decide)))).other W496 (Or.inr (slot_ne (Or.inl (hw _ (List.mem_of_getElem? (i := 48) rfl))) (Or.inl (hw _ (List.mem_of_getElem? (i := 21) rfl))) (by decide) (t := .boolean) (t' := .int) (by decide) (by decide)))).other W502 (Or.inr (slot_ne (Or.inl (hw _ (List.mem_of_getElem? (i := 48) rfl))) (Or.inl (hw _ (List.mem_of_getElem? (i := 38) rfl))) (by decide) (t := .boolean) (t' := .long) (by decide) (by decide))))
              obtain ⟨T515, h515, X515, e515, W515, st515⟩ := putFN X502 hx hZ hown (hw _ (List.mem_of_getElem? (i := 47) rfl)) Via.refl e502 f514 f513 (Or.inl (hw _ (List.mem_of_getElem? (i := 48) rfl))) (hw _ (List.mem_of_getElem? (i := 12) rfl)) (ty := .boolean) (v' := (.int (nar .boolean m129_s0))) (by decide) rfl (fits_nar_bool _) (g := (mkF m 129 #[.val (.ref a0), .val (.ref a1), .val (.int p2), .val (.int p3), .val (.int x4_104_504), .val (.int x5_17_416), .val (.int m60_s0)] [(.int m129_s0), (.ref a0)])) rfl rfl (hb hby d8_129)
              have Fw515 := f514.same W515
              have N515 := Fr.snoc X515 N502 g_a0
              have kp516 : Keep h0 h515 [a0] := kp503.wr W515 (Or.inl (List.mem_of_getElem? (i := 0) rfl))
              have f517 := ((f498.other W502 (Or.inr (slot_ne (Or.inl (hw _ (List.mem_of_getElem? (i := 36) rfl))) (Or.inl (hw _ (List.mem_of_getElem? (i := 38) rfl))) (by decide) (t := .long) (t' := .long) (by decide) (by decide)))).other W515 (Or.inr (slot_ne (Or.inl (hw _ (List.mem_of_getElem? (i := 36) rfl))) (Or.inl (hw _ (List.mem_of_getElem? (i := 48) rfl))) (by decide) (t := .long) (t' := .boolean) (by decide) (by decide))))
              obtain ⟨T518, X518, e518, st518⟩ := getF X515 hx hZ hown (host := "") (Or.inl (hw _ (List.mem_of_getElem? (i := 35) rfl))) Via.refl e515 f517 (g := (mkF m 134 #[.val (.ref a0), .val (.ref a1), .val (.int p2), .val (.int p3), .val (.int x4_104_504), .val (.int x5_17_416), .val (.int m60_s0)] [(.ref a0), (.ref a0)])) rfl rfl (hb hby d8_134)
              have f519 := (f513.wr W515)
              obtain ⟨T520, h520, X520, e520, W520, st520⟩ := putF X518 hx hZ hown (host := "") (Or.inl (hw _ (List.mem_of_getElem? (i := 35) rfl))) Via.refl e518 f517 f519 (Or.inl (hw _ (List.mem_of_getElem? (i := 36) rfl))) (hw _ (List.mem_of_getElem? (i := 12) rfl)) (ty := .long) (by decide) rfl rfl (g := (mkF m 140 #[.val (.ref a0), .val (.ref a1), .val (.int p2), .val (.int p3), .val (.int x4_104_504), .val (.int x5_17_416), .val (.int m60_s0)] [(.long (ps + (p3).toInt64)), (.ref a0)])) rfl rfl (hb hby d8_140)
              have Fw520 := f517.same W520
              have N520 := Fr.snoc X520 N515 g_a0
              have kp521 : Keep h0 h520 [a0] := kp516.wr W520 (Or.inl (List.mem_of_getElem? (i := 0) rfl))
              obtain ⟨fs, hr, hrun, hended, hW, hsame⟩ := X520.leave (v := none) (fun _ => rfl)
              refine ⟨_, _, pre509 _ ?_, hrun, hended, _, _, rfl, ?_, ⟨_, rfl⟩, hW, hsame.mono (by decide) (by decide)⟩
              · show Steps p.tables e below (T502.setTop (mkF m 129 #[.val (.ref a0), .val (.ref a1), .val (.int p2), .val (.int p3), .val (.int x4_104_504), .val (.int x5_17_416), .val (.int m60_s0)] [(.int m129_s0), (.ref a0)])) _
                refine st515 _ ?_
                refine XS.aloadN X515.here hx rfl (hb hby d8_132) rfl rfl ?_
                refine XS.dup X515.here hx rfl (hb hby d8_133) rfl rfl ?_
                refine st518 _ ?_
                refine XS.iloadN X518.here hx rfl (hb hby d8_137) rfl ?_
                show Steps p.tables e below (T518.setTop (mkF m 138 #[.val (.ref a0), .val (.ref a1), .val (.int p2), .val (.int p3), .val (.int x4_104_504), .val (.int x5_17_416), .val (.int m60_s0)] [(.int p3), (.long ps), (.ref a0)])) _
                refine XS.i2l X518.here hx rfl (hb hby d8_138) rfl ?_
                refine XS.ladd X518.here hx rfl (hb hby d8_139) rfl ?_
                refine st520 _ ?_
                show Steps p.tables e below (T520.setTop (mkF m 143 #[.val (.ref a0), .val (.ref a1), .val (.int p2), .val (.int p3), .val (.int x4_104_504), .val (.int x5_17_416), .val (.int m60_s0)] [])) _
                exact X520.returnOut hx Bd.returns (hb hby d8_143) hr
              · show Q8 Z a0 a1 p2 p3 k z ws ln ps ls cr h0 n0 _ T520.heap _
                rw [e520]
                unfold Q8
                have f522 := (f519.wr W520)
                have f523 := (((Fw496.other W502 (Or.inr (slot_ne (Or.inl (hw _ (List.mem_of_getElem? (i := 21) rfl))) (Or.inl (hw _ (List.mem_of_getElem? (i := 38) rfl))) (by decide) (t := .int) (t' := .long) (by decide) (by decide)))).other W515 (Or.inr (slot_ne (Or.inl (hw _ (List.mem_of_getElem? (i := 21) rfl))) (Or.inl (hw _ (List.mem_of_getElem? (i := 48) rfl))) (by decide) (t := .int) (t' := .boolean) (by decide) (by decide)))).other W520 (Or.inr (slot_ne (Or.inl (hw _ (List.mem_of_getElem? (i := 21) rfl))) (Or.inl (hw _ (List.mem_of_getElem? (i := 36) rfl))) (by decide) (t := .int) (t' := .long) (by decide) (by decide))))
                have f524 := ((Fw502.other W515 (Or.inr (slot_ne (Or.inl (hw _ (List.mem_of_getElem? (i := 38) rfl))) (Or.inl (hw _ (List.mem_of_getElem? (i := 48) rfl))) (by decide) (t := .long) (t' := .boolean) (by decide) (by decide)))).other W520 (Or.inr (slot_ne (Or.inl (hw _ (List.mem_of_getElem? (i := 38) rfl))) (Or.inl (hw _ (List.mem_of_getElem? (i := 36) rfl))) (by decide) (t := .long) (t' := .long) (by decide) (by decide))))
                have f525 := (Fw515.other W520 (Or.inr (slot_ne (Or.inl (hw _ (List.mem_of_getElem? (i := 48) rfl))) (Or.inl (hw _ (List.mem_of_getElem? (i := 36) rfl))) (by decide) (t := .boolean) (t' := .long) (by decide) (by decide))))
                refine ⟨rfl, N520, kp521, f522, ?_, ?_, ?_, ?_⟩
                · rw [show (own_p8_line p2 p3 ws ln cr) = ((ln + (1 : Int32)) + (1 : Int32)) from (by subst hm129_s0 hx4_104_504 hm60_s0 hx5_17_416 hx4_104 hx5_17; simp only [own_p8_line, if_neg hk0, if_neg hk1, if_neg hc21, if_pos hc28, if_neg hc21_2, if_pos hc28_2])]; exact f523
                · rw [show (own_p8_passed p3 ps) = (ps + (p3).toInt64) from (by subst hm129_s0 hx4_104_504 hm60_s0 hx5_17_416 hx4_104 hx5_17; simp only [own_p8_passed, if_neg hk0, if_neg hk1, if_neg hc21, if_pos hc28, if_neg hc21_2, if_pos hc28_2])]; exact Fw520
                · rw [show (own_p8_lineStart p2 p3 ws ps ls) = (((ps + (x4_104).toInt64) - (p2).toInt64) + (1 : Int64)) from (by subst hm129_s0 hx4_104_504 hm60_s0 hx5_17_416 hx4_104 hx5_17; simp only [own_p8_lineStart, if_neg hk0, if_neg hk1, if_neg hc21, if_pos hc28, if_neg hc21_2, if_pos hc28_2])]; exact f524
                · rw [show (own_p8_afterCarriageReturn p2 p3 ws cr) = (nar .boolean m129_s0) from (by subst hm129_s0 hx4_104_504 hm60_s0 hx5_17_416 hx4_104 hx5_17; simp only [own_p8_afterCarriageReturn, if_neg hk0, if_neg hk1, if_neg hc21, if_pos hc28, if_neg hc21_2, if_pos hc28_2])]; exact f525
            · obtain ⟨x4_104_526, hx4_104_526, pre527⟩ : ∃ z : Int32, z = (x4_104 + (1 : Int32)) ∧ own_Pre p e below (s₁.setTop (entryFrame m #[(.ref a0), (.ref a1), (.int p2), (.int p3)] 7)) (T411.setTop (mkF m 104 #[.val (.ref a0), .val (.ref a1), .val (.int p2), .val (.int p3), .val (.int z), .val (.int x5_17_416), .val (.int cr)] [])) := ⟨_, rfl, fun t k => pre486 t (by
                  show Steps p.tables e below (T411.setTop (mkF m 28 #[.val (.ref a0), .val (.ref a1), .val (.int p2), .val (.int p3), .val (.int x4_104), .val (.int x5_17_416), .val (.int cr)] [(.int (13 : Int32)), (.int x5_17_416)])) _
                  refine XS.icmpYes X411.here hx rfl (pc0 := 28) (pc' := 101) rfl (hb hby d8_28) rfl (feq hc28_2).2 (by decide) (by decide) ?_
                  refine XS.iinc X411.here hx rfl (hb hby d8_101) rfl (l' := #[.val (.ref a0), .val (.ref a1), .val (.int p2), .val (.int p3), .val (.int (x4_104 + (1 : Int32))), .val (.int x5_17_416), .val (.int cr)]) rfl ?_
                  exact k)⟩
              have hc8_3 : ¬ (x4_104_526 < (p2 + p3)) := by rw [hx4_104_526, hx4_104]; exact own_l23 hk2 hrg
              have hc108 : ((0 : Int32) < p3) := by rw [hk2]; decide
              obtain ⟨cl528, Ar528, hin528, hat528⟩ := own_AI.at f414 (j := ((p2 + p3) - (1 : Int32))) (by rw [hk2, own_back2]; exact hi1 (own_pos22 hk2))
              have pre531 : own_Pre p e below (s₁.setTop (entryFrame m #[(.ref a0), (.ref a1), (.int p2), (.int p3)] 7)) (T411.setTop (mkF m 121 #[.val (.ref a0), .val (.ref a1), .val (.int p2), .val (.int p3), .val (.int x4_104_526), .val (.int x5_17_416), .val (.int cr)] [(.int (13 : Int32)), (.int (ws.getD (((p2 + p3) - (1 : Int32))).toNatClampNeg (0 : Int32))), (.ref a0)])) := fun t k => pre527 t (by
                  show Steps p.tables e below (T411.setTop (mkF m 104 #[.val (.ref a0), .val (.ref a1), .val (.int p2), .val (.int p3), .val (.int x4_104_526), .val (.int x5_17_416), .val (.int cr)] [])) _
                  refine XS.goto X411.here hx rfl (pc0 := 104) (pc' := 3) rfl (hb hby d8_104) (by decide) (by decide) ?_
                  refine XS.iload X411.here hx rfl (hb hby d8_3) rfl ?_
                  refine XS.iloadN X411.here hx rfl (hb hby d8_5) rfl ?_
                  refine XS.iloadN X411.here hx rfl (hb hby d8_6) rfl ?_
                  refine XS.iadd X411.here hx rfl (hb hby d8_7) rfl ?_
                  show Steps p.tables e below (T411.setTop (mkF m 8 #[.val (.ref a0), .val (.ref a1), .val (.int p2), .val (.int p3), .val (.int x4_104_526), .val (.int x5_17_416), .val (.int cr)] [(.int (p2 + p3)), (.int x4_104_526)])) _
                  refine XS.icmpYes X411.here hx rfl (pc0 := 8) (pc' := 107) rfl (hb hby d8_8) rfl (flt hc8_3).2.1 (by decide) (by decide) ?_
                  refine XS.iloadN X411.here hx rfl (hb hby d8_107) rfl ?_
                  refine XS.ifNo X411.here hx rfl (hb hby d8_108) rfl ((if0 _ _).trans (tlt hc108).2.2.2) ?_
                  refine XS.aloadN X411.here hx rfl (hb hby d8_111) rfl rfl ?_
                  refine XS.aloadN X411.here hx rfl (hb hby d8_112) rfl rfl ?_
                  show Steps p.tables e below (T411.setTop (mkF m 113 #[.val (.ref a0), .val (.ref a1), .val (.int p2), .val (.int p3), .val (.int x4_104_526), .val (.int x5_17_416), .val (.int cr)] [(.ref a1), (.ref a0)])) _
                  refine XS.iloadN X411.here hx rfl (hb hby d8_113) rfl ?_
                  refine XS.iloadN X411.here hx rfl (hb hby d8_114) rfl ?_
                  refine XS.iadd X411.here hx rfl (hb hby d8_115) rfl ?_
                  refine XS.iconst X411.here hx rfl (hb hby d8_116) ?_
                  refine XS.isub X411.here hx rfl (hb hby d8_117) rfl ?_
                  show Steps p.tables e below (T411.setTop (mkF m 118 #[.val (.ref a0), .val (.ref a1), .val (.int p2), .val (.int p3), .val (.int x4_104_526), .val (.int x5_17_416), .val (.int cr)] [(.int ((p2 + p3) - (1 : Int32))), (.ref a1), (.ref a0)])) _
                  refine X411.caload hx (j := ((p2 + p3) - (1 : Int32))) (v := (.int (ws.getD (((p2 + p3) - (1 : Int32))).toNatClampNeg (0 : Int32)))) (by rw [e411]; exact Ar528.1) (State.isArrayOf_alike hZ.alike Ar528.2.1) Ar528.2.2 hin528 hat528 (g := (mkF m 118 #[.val (.ref a0), .val (.ref a1), .val (.int p2), .val (.int p3), .val (.int x4_104_526), .val (.int x5_17_416), .val (.int cr)] [(.int ((p2 + p3) - (1 : Int32))), (.ref a1), (.ref a0)])) rfl rfl (hb hby d8_118) _ ?_
                  refine XS.bipush X411.here hx rfl (hb hby d8_119) ?_
                  exact k)
              obtain ⟨m129_s0, hm129_s0, pre530⟩ : ∃ (m129_s0 : Int32), m129_s0 = (own_m8_129_s0 ws p2 p3) ∧ own_Pre p e below (s₁.setTop (entryFrame m #[(.ref a0), (.ref a1), (.int p2), (.int p3)] 7)) (T411.setTop (mkF m 129 #[.val (.ref a0), .val (.ref a1), .val (.int p2), .val (.int p3), .val (.int x4_104_526), .val (.int x5_17_416), .val (.int cr)] [(.int m129_s0), (.ref a0)])) := by
                by_cases hc121 : (ws.getD (((p2 + p3) - (1 : Int32))).toNatClampNeg (0 : Int32)) = (13 : Int32)
                · have pre532 : own_Pre p e below (s₁.setTop (entryFrame m #[(.ref a0), (.ref a1), (.int p2), (.int p3)] 7)) (T411.setTop (mkF m 129 #[.val (.ref a0), .val (.ref a1), .val (.int p2), .val (.int p3), .val (.int x4_104_526), .val (.int x5_17_416), .val (.int cr)] [(.int (1 : Int32)), (.ref a0)])) := fun t k => pre531 t (by
                      show Steps p.tables e below (T411.setTop (mkF m 121 #[.val (.ref a0), .val (.ref a1), .val (.int p2), .val (.int p3), .val (.int x4_104_526), .val (.int x5_17_416), .val (.int cr)] [(.int (13 : Int32)), (.int (ws.getD (((p2 + p3) - (1 : Int32))).toNatClampNeg (0 : Int32))), (.ref a0)])) _
                      refine XS.icmpNo X411.here hx rfl (hb hby d8_121) rfl (teq hc121).2 ?_
                      refine XS.iconst X411.here hx rfl (hb hby d8_124) ?_
                      refine XS.goto X411.here hx rfl (pc0 := 125) (pc' := 129) rfl (hb hby d8_125) (by decide) (by decide) ?_
                      exact k)
                  refine ⟨_, ?_, pre532⟩
                  all_goals (first | (simp only [own_m8_129_s0, if_pos hc121]; done) | (simp [own_m8_129_s0, if_pos hc121]; done))
                · have pre533 : own_Pre p e below (s₁.setTop (entryFrame m #[(.ref a0), (.ref a1), (.int p2), (.int p3)] 7)) (T411.setTop (mkF m 129 #[.val (.ref a0), .val (.ref a1), .val (.int p2), .val (.int p3), .val (.int x4_104_526), .val (.int x5_17_416), .val (.int cr)] [(.int (0 : Int32)), (.ref a0)])) := fun t k => pre531 t (by
                      show Steps p.tables e below (T411.setTop (mkF m 121 #[.val (.ref a0), .val (.ref a1), .val (.int p2), .val (.int p3), .val (.int x4_104_526), .val (.int x5_17_416), .val (.int cr)] [(.int (13 : Int32)), (.int (ws.getD (((p2 + p3) - (1 : Int32))).toNatClampNeg (0 : Int32))), (.ref a0)])) _
                      refine XS.icmpYes X411.here hx rfl (pc0 := 121) (pc' := 128) rfl (hb hby d8_121) rfl (feq hc121).2 (by decide) (by decide) ?_
                      refine XS.iconst X411.here hx rfl (hb hby d8_128) ?_
                      exact k)
                  refine ⟨_, ?_, pre533⟩
                  all_goals (first | (simp only [own_m8_129_s0, if_neg hc121]; done) | (simp [own_m8_129_s0, if_neg hc121]; done))
              have f534 := (f409.wr W411)
              have f535 := ((F_a0_afterCarriageReturn.other W405 (Or.inr (slot_ne (Or.inl (hw _ (List.mem_of_getElem? (i := 48) rfl))) (Or.inl (hw _ (List.mem_of_getElem? (i := 21) rfl))) (by decide) (t := .boolean) (t' := .int) (by decide) (by decide)))).other W411 (Or.inr (slot_ne (Or.inl (hw _ (List.mem_of_getElem? (i := 48) rfl))) (Or.inl (hw _ (List.mem_of_getElem? (i := 38) rfl))) (by decide) (t := .boolean) (t' := .long) (by decide) (by decide))))
              obtain ⟨T536, h536, X536, e536, W536, st536⟩ := putFN X411 hx hZ hown (hw _ (List.mem_of_getElem? (i := 47) rfl)) Via.refl e411 f535 f534 (Or.inl (hw _ (List.mem_of_getElem? (i := 48) rfl))) (hw _ (List.mem_of_getElem? (i := 12) rfl)) (ty := .boolean) (v' := (.int (nar .boolean m129_s0))) (by decide) rfl (fits_nar_bool _) (g := (mkF m 129 #[.val (.ref a0), .val (.ref a1), .val (.int p2), .val (.int p3), .val (.int x4_104_526), .val (.int x5_17_416), .val (.int cr)] [(.int m129_s0), (.ref a0)])) rfl rfl (hb hby d8_129)
              have Fw536 := f535.same W536
              have N536 := Fr.snoc X536 N411 g_a0
              have kp537 : Keep h0 h536 [a0] := kp412.wr W536 (Or.inl (List.mem_of_getElem? (i := 0) rfl))
              have f538 := ((f407.other W411 (Or.inr (slot_ne (Or.inl (hw _ (List.mem_of_getElem? (i := 36) rfl))) (Or.inl (hw _ (List.mem_of_getElem? (i := 38) rfl))) (by decide) (t := .long) (t' := .long) (by decide) (by decide)))).other W536 (Or.inr (slot_ne (Or.inl (hw _ (List.mem_of_getElem? (i := 36) rfl))) (Or.inl (hw _ (List.mem_of_getElem? (i := 48) rfl))) (by decide) (t := .long) (t' := .boolean) (by decide) (by decide))))
              obtain ⟨T539, X539, e539, st539⟩ := getF X536 hx hZ hown (host := "") (Or.inl (hw _ (List.mem_of_getElem? (i := 35) rfl))) Via.refl e536 f538 (g := (mkF m 134 #[.val (.ref a0), .val (.ref a1), .val (.int p2), .val (.int p3), .val (.int x4_104_526), .val (.int x5_17_416), .val (.int cr)] [(.ref a0), (.ref a0)])) rfl rfl (hb hby d8_134)
              have f540 := (f534.wr W536)
              obtain ⟨T541, h541, X541, e541, W541, st541⟩ := putF X539 hx hZ hown (host := "") (Or.inl (hw _ (List.mem_of_getElem? (i := 35) rfl))) Via.refl e539 f538 f540 (Or.inl (hw _ (List.mem_of_getElem? (i := 36) rfl))) (hw _ (List.mem_of_getElem? (i := 12) rfl)) (ty := .long) (by decide) rfl rfl (g := (mkF m 140 #[.val (.ref a0), .val (.ref a1), .val (.int p2), .val (.int p3), .val (.int x4_104_526), .val (.int x5_17_416), .val (.int cr)] [(.long (ps + (p3).toInt64)), (.ref a0)])) rfl rfl (hb hby d8_140)
              have Fw541 := f538.same W541
              have N541 := Fr.snoc X541 N536 g_a0
              have kp542 : Keep h0 h541 [a0] := kp537.wr W541 (Or.inl (List.mem_of_getElem? (i := 0) rfl))
              obtain ⟨fs, hr, hrun, hended, hW, hsame⟩ := X541.leave (v := none) (fun _ => rfl)
              refine ⟨_, _, pre530 _ ?_, hrun, hended, _, _, rfl, ?_, ⟨_, rfl⟩, hW, hsame.mono (by decide) (by decide)⟩
              · show Steps p.tables e below (T411.setTop (mkF m 129 #[.val (.ref a0), .val (.ref a1), .val (.int p2), .val (.int p3), .val (.int x4_104_526), .val (.int x5_17_416), .val (.int cr)] [(.int m129_s0), (.ref a0)])) _
                refine st536 _ ?_
                refine XS.aloadN X536.here hx rfl (hb hby d8_132) rfl rfl ?_
                refine XS.dup X536.here hx rfl (hb hby d8_133) rfl rfl ?_
                refine st539 _ ?_
                refine XS.iloadN X539.here hx rfl (hb hby d8_137) rfl ?_
                show Steps p.tables e below (T539.setTop (mkF m 138 #[.val (.ref a0), .val (.ref a1), .val (.int p2), .val (.int p3), .val (.int x4_104_526), .val (.int x5_17_416), .val (.int cr)] [(.int p3), (.long ps), (.ref a0)])) _
                refine XS.i2l X539.here hx rfl (hb hby d8_138) rfl ?_
                refine XS.ladd X539.here hx rfl (hb hby d8_139) rfl ?_
                refine st541 _ ?_
                show Steps p.tables e below (T541.setTop (mkF m 143 #[.val (.ref a0), .val (.ref a1), .val (.int p2), .val (.int p3), .val (.int x4_104_526), .val (.int x5_17_416), .val (.int cr)] [])) _
                exact X541.returnOut hx Bd.returns (hb hby d8_143) hr
              · show Q8 Z a0 a1 p2 p3 k z ws ln ps ls cr h0 n0 _ T541.heap _
                rw [e541]
                unfold Q8
                have f543 := (f540.wr W541)
                have f544 := (((Fw405.other W411 (Or.inr (slot_ne (Or.inl (hw _ (List.mem_of_getElem? (i := 21) rfl))) (Or.inl (hw _ (List.mem_of_getElem? (i := 38) rfl))) (by decide) (t := .int) (t' := .long) (by decide) (by decide)))).other W536 (Or.inr (slot_ne (Or.inl (hw _ (List.mem_of_getElem? (i := 21) rfl))) (Or.inl (hw _ (List.mem_of_getElem? (i := 48) rfl))) (by decide) (t := .int) (t' := .boolean) (by decide) (by decide)))).other W541 (Or.inr (slot_ne (Or.inl (hw _ (List.mem_of_getElem? (i := 21) rfl))) (Or.inl (hw _ (List.mem_of_getElem? (i := 36) rfl))) (by decide) (t := .int) (t' := .long) (by decide) (by decide))))
                have f545 := ((Fw411.other W536 (Or.inr (slot_ne (Or.inl (hw _ (List.mem_of_getElem? (i := 38) rfl))) (Or.inl (hw _ (List.mem_of_getElem? (i := 48) rfl))) (by decide) (t := .long) (t' := .boolean) (by decide) (by decide)))).other W541 (Or.inr (slot_ne (Or.inl (hw _ (List.mem_of_getElem? (i := 38) rfl))) (Or.inl (hw _ (List.mem_of_getElem? (i := 36) rfl))) (by decide) (t := .long) (t' := .long) (by decide) (by decide))))
                have f546 := (Fw536.other W541 (Or.inr (slot_ne (Or.inl (hw _ (List.mem_of_getElem? (i := 48) rfl))) (Or.inl (hw _ (List.mem_of_getElem? (i := 36) rfl))) (by decide) (t := .boolean) (t' := .long) (by decide) (by decide))))
                refine ⟨rfl, N541, kp542, f543, ?_, ?_, ?_, ?_⟩
                · rw [show (own_p8_line p2 p3 ws ln cr) = (ln + (1 : Int32)) from (by subst hm129_s0 hx4_104_526 hx5_17_416 hx4_104 hx5_17; simp only [own_p8_line, if_neg hk0, if_neg hk1, if_neg hc21, if_pos hc28, if_neg hc21_2, if_neg hc28_2])]; exact f544
                · rw [show (own_p8_passed p3 ps) = (ps + (p3).toInt64) from (by subst hm129_s0 hx4_104_526 hx5_17_416 hx4_104 hx5_17; simp only [own_p8_passed, if_neg hk0, if_neg hk1, if_neg hc21, if_pos hc28, if_neg hc21_2, if_neg hc28_2])]; exact Fw541
                · rw [show (own_p8_lineStart p2 p3 ws ps ls) = (((ps + (p2).toInt64) - (p2).toInt64) + (1 : Int64)) from (by subst hm129_s0 hx4_104_526 hx5_17_416 hx4_104 hx5_17; simp only [own_p8_lineStart, if_neg hk0, if_neg hk1, if_neg hc21, if_pos hc28, if_neg hc21_2, if_neg hc28_2])]; exact f545
                · rw [show (own_p8_afterCarriageReturn p2 p3 ws cr) = (nar .boolean m129_s0) from (by subst hm129_s0 hx4_104_526 hx5_17_416 hx4_104 hx5_17; simp only [own_p8_afterCarriageReturn, if_neg hk0, if_neg hk1, if_neg hc21, if_pos hc28, if_neg hc21_2, if_neg hc28_2])]; exact f546
        · obtain ⟨x4_104, hx4_104, pre547⟩ : ∃ z : Int32, z = (p2 + (1 : Int32)) ∧ own_Pre p e below (s₁.setTop (entryFrame m #[(.ref a0), (.ref a1), (.int p2), (.int p3)] 7)) (s₁.setTop (mkF m 104 #[.val (.ref a0), .val (.ref a1), .val (.int p2), .val (.int p3), .val (.int z), .val (.int x5_17), .unset] [])) := ⟨_, rfl, fun t k => pre402 t (by
              show Steps p.tables e below (s₁.setTop (mkF m 28 #[.val (.ref a0), .val (.ref a1), .val (.int p2), .val (.int p3), .val (.int p2), .val (.int x5_17), .unset] [(.int (13 : Int32)), (.int x5_17)])) _
              refine XS.icmpYes X0.here hx rfl (pc0 := 28) (pc' := 101) rfl (hb hby d8_28) rfl (feq hc28).2 (by decide) (by decide) ?_
              refine XS.iinc X0.here hx rfl (hb hby d8_101) rfl (l' := #[.val (.ref a0), .val (.ref a1), .val (.int p2), .val (.int p3), .val (.int (p2 + (1 : Int32))), .val (.int x5_17), .unset]) rfl ?_
              exact k)⟩
          have hc8_2 : (x4_104 < (p2 + p3)) := by rw [hx4_104]; exact own_l22 hk2 hrg
          obtain ⟨cl548, Ar548, hin548, hat548⟩ := own_AI.at V_a1 (j := x4_104) (by rw [hx4_104]; exact hi1 (own_pos22 hk2))
          obtain ⟨x5_17_549, hx5_17_549, pre550⟩ : ∃ z : Int32, z = (ws.getD (x4_104).toNatClampNeg (0 : Int32)) ∧ own_Pre p e below (s₁.setTop (entryFrame m #[(.ref a0), (.ref a1), (.int p2), (.int p3)] 7)) (s₁.setTop (mkF m 17 #[.val (.ref a0), .val (.ref a1), .val (.int p2), .val (.int p3), .val (.int x4_104), .val (.int z), .unset] [])) := ⟨_, rfl, fun t k => pre547 t (by
              show Steps p.tables e below (s₁.setTop (mkF m 104 #[.val (.ref a0), .val (.ref a1), .val (.int p2), .val (.int p3), .val (.int x4_104), .val (.int x5_17), .unset] [])) _
              refine XS.goto X0.here hx rfl (pc0 := 104) (pc' := 3) rfl (hb hby d8_104) (by decide) (by decide) ?_
              refine XS.iload X0.here hx rfl (hb hby d8_3) rfl ?_
              refine XS.iloadN X0.here hx rfl (hb hby d8_5) rfl ?_
              refine XS.iloadN X0.here hx rfl (hb hby d8_6) rfl ?_
              refine XS.iadd X0.here hx rfl (hb hby d8_7) rfl ?_
              show Steps p.tables e below (s₁.setTop (mkF m 8 #[.val (.ref a0), .val (.ref a1), .val (.int p2), .val (.int p3), .val (.int x4_104), .val (.int x5_17), .unset] [(.int (p2 + p3)), (.int x4_104)])) _
              refine XS.icmpNo X0.here hx rfl (hb hby d8_8) rfl (tlt hc8_2).2.1 ?_
              refine XS.aloadN X0.here hx rfl (hb hby d8_11) rfl rfl ?_
              refine XS.iload X0.here hx rfl (hb hby d8_12) rfl ?_
              refine X0.caload hx (j := x4_104) (v := (.int (ws.getD (x4_104).toNatClampNeg (0 : Int32)))) (by rw [e0]; exact Ar548.1) (State.isArrayOf_alike hZ.alike Ar548.2.1) Ar548.2.2 hin548 hat548 (g := (mkF m 14 #[.val (.ref a0), .val (.ref a1), .val (.int p2), .val (.int p3), .val (.int x4_104), .val (.int x5_17), .unset] [(.int x4_104), (.ref a1)])) rfl rfl (hb hby d8_14) _ ?_
              refine XS.istore X0.here hx rfl (hb hby d8_15) rfl (l' := #[.val (.ref a0), .val (.ref a1), .val (.int p2), .val (.int p3), .val (.int x4_104), .val (.int (ws.getD (x4_104).toNatClampNeg (0 : Int32))), .unset]) rfl ?_
              exact k)⟩
          have pre551 : own_Pre p e below (s₁.setTop (entryFrame m #[(.ref a0), (.ref a1), (.int p2), (.int p3)] 7)) (s₁.setTop (mkF m 21 #[.val (.ref a0), .val (.ref a1), .val (.int p2), .val (.int p3), .val (.int x4_104), .val (.int x5_17_549), .unset] [(.int (10 : Int32)), (.int x5_17_549)])) := fun t k => pre550 t (by
              show Steps p.tables e below (s₁.setTop (mkF m 17 #[.val (.ref a0), .val (.ref a1), .val (.int p2), .val (.int p3), .val (.int x4_104), .val (.int x5_17_549), .unset] [])) _
              refine XS.iload X0.here hx rfl (hb hby d8_17) rfl ?_
              refine XS.bipush X0.here hx rfl (hb hby d8_19) ?_
              exact k)
          by_cases hc21_2 : x5_17_549 = (10 : Int32)
          · have hc34 : (p2 < x4_104) := by rw [hx4_104]; exact own_l34 hrg
            obtain ⟨cl552, Ar552, hin552, hat552⟩ := own_AI.at V_a1 (j := (x4_104 - (1 : Int32))) (by rw [hx4_104, own_back]; exact hi0 (own_pos2 hk2))
            have pre555 : own_Pre p e below (s₁.setTop (entryFrame m #[(.ref a0), (.ref a1), (.int p2), (.int p3)] 7)) (s₁.setTop (mkF m 45 #[.val (.ref a0), .val (.ref a1), .val (.int p2), .val (.int p3), .val (.int x4_104), .val (.int x5_17_549), .unset] [(.int (13 : Int32)), (.int (ws.getD ((x4_104 - (1 : Int32))).toNatClampNeg (0 : Int32)))])) := fun t k => pre551 t (by
                show Steps p.tables e below (s₁.setTop (mkF m 21 #[.val (.ref a0), .val (.ref a1), .val (.int p2), .val (.int p3), .val (.int x4_104), .val (.int x5_17_549), .unset] [(.int (10 : Int32)), (.int x5_17_549)])) _
                refine XS.icmpYes X0.here hx rfl (pc0 := 21) (pc' := 31) rfl (hb hby d8_21) rfl (teq hc21_2).1 (by decide) (by decide) ?_
                refine XS.iload X0.here hx rfl (hb hby d8_31) rfl ?_
                refine XS.iloadN X0.here hx rfl (hb hby d8_33) rfl ?_
                refine XS.icmpNo X0.here hx rfl (hb hby d8_34) rfl (tlt hc34).2.2.2 ?_
                refine XS.aloadN X0.here hx rfl (hb hby d8_37) rfl rfl ?_
                show Steps p.tables e below (s₁.setTop (mkF m 38 #[.val (.ref a0), .val (.ref a1), .val (.int p2), .val (.int p3), .val (.int x4_104), .val (.int x5_17_549), .unset] [(.ref a1)])) _
                refine XS.iload X0.here hx rfl (hb hby d8_38) rfl ?_
                refine XS.iconst X0.here hx rfl (hb hby d8_40) ?_
                refine XS.isub X0.here hx rfl (hb hby d8_41) rfl ?_
                refine X0.caload hx (j := (x4_104 - (1 : Int32))) (v := (.int (ws.getD ((x4_104 - (1 : Int32))).toNatClampNeg (0 : Int32)))) (by rw [e0]; exact Ar552.1) (State.isArrayOf_alike hZ.alike Ar552.2.1) Ar552.2.2 hin552 hat552 (g := (mkF m 42 #[.val (.ref a0), .val (.ref a1), .val (.int p2), .val (.int p3), .val (.int x4_104), .val (.int x5_17_549), .unset] [(.int (x4_104 - (1 : Int32))), (.ref a1)])) rfl rfl (hb hby d8_42) _ ?_
                refine XS.bipush X0.here hx rfl (hb hby d8_43) ?_
                exact k)
            obtain ⟨m60_s0, hm60_s0, pre554⟩ : ∃ (m60_s0 : Int32), m60_s0 = (own_m8_60_s0 ws x4_104) ∧ own_Pre p e below (s₁.setTop (entryFrame m #[(.ref a0), (.ref a1), (.int p2), (.int p3)] 7)) (s₁.setTop (mkF m 60 #[.val (.ref a0), .val (.ref a1), .val (.int p2), .val (.int p3), .val (.int x4_104), .val (.int x5_17_549), .unset] [(.int m60_s0)])) := by
              by_cases hc45 : (ws.getD ((x4_104 - (1 : Int32))).toNatClampNeg (0 : Int32)) = (13 : Int32)
              · have pre556 : own_Pre p e below (s₁.setTop (entryFrame m #[(.ref a0), (.ref a1), (.int p2), (.int p3)] 7)) (s₁.setTop (mkF m 60 #[.val (.ref a0), .val (.ref a1), .val (.int p2), .val (.int p3), .val (.int x4_104), .val (.int x5_17_549), .unset] [(.int (1 : Int32))])) := fun t k => pre555 t (by
                    show Steps p.tables e below (s₁.setTop (mkF m 45 #[.val (.ref a0), .val (.ref a1), .val (.int p2), .val (.int p3), .val (.int x4_104), .val (.int x5_17_549), .unset] [(.int (13 : Int32)), (.int (ws.getD ((x4_104 - (1 : Int32))).toNatClampNeg (0 : Int32)))])) _
                    refine XS.icmpNo X0.here hx rfl (hb hby d8_45) rfl (teq hc45).2 ?_
                    refine XS.iconst X0.here hx rfl (hb hby d8_48) ?_
                    refine XS.goto X0.here hx rfl (pc0 := 49) (pc' := 60) rfl (hb hby d8_49) (by decide) (by decide) ?_
                    exact k)
                refine ⟨_, ?_, pre556⟩
                all_goals (first | (simp only [own_m8_60_s0, if_pos hc45]; done) | (simp [own_m8_60_s0, if_pos hc45]; done))
              · have pre557 : own_Pre p e below (s₁.setTop (entryFrame m #[(.ref a0), (.ref a1), (.int p2), (.int p3)] 7)) (s₁.setTop (mkF m 60 #[.val (.ref a0), .val (.ref a1), .val (.int p2), .val (.int p3), .val (.int x4_104), .val (.int x5_17_549), .unset] [(.int (0 : Int32))])) := fun t k => pre555 t (by
                    show Steps p.tables e below (s₁.setTop (mkF m 45 #[.val (.ref a0), .val (.ref a1), .val (.int p2), .val (.int p3), .val (.int x4_104), .val (.int x5_17_549), .unset] [(.int (13 : Int32)), (.int (ws.getD ((x4_104 - (1 : Int32))).toNatClampNeg (0 : Int32)))])) _
                    refine XS.icmpYes X0.here hx rfl (pc0 := 45) (pc' := 52) rfl (hb hby d8_45) rfl (feq hc45).2 (by decide) (by decide) ?_
                    refine XS.iconst X0.here hx rfl (hb hby d8_52) ?_
                    refine XS.goto X0.here hx rfl (pc0 := 53) (pc' := 60) rfl (hb hby d8_53) (by decide) (by decide) ?_
                    exact k)
                refine ⟨_, ?_, pre557⟩
                all_goals (first | (simp only [own_m8_60_s0, if_neg hc45]; done) | (simp [own_m8_60_s0, if_neg hc45]; done))
            have hc66 : ¬ (x5_17_549 = (13 : Int32)) := by rw [hc21_2]; decide
            have pre558 : own_Pre p e below (s₁.setTop (entryFrame m #[(.ref a0), (.ref a1), (.int p2), (.int p3)] 7)) (s₁.setTop (mkF m 71 #[.val (.ref a0), .val (.ref a1), .val (.int p2), .val (.int p3), .val (.int x4_104), .val (.int x5_17_549), .val (.int m60_s0)] [(.int m60_s0)])) := fun t k => pre554 t (by
                show Steps p.tables e below (s₁.setTop (mkF m 60 #[.val (.ref a0), .val (.ref a1), .val (.int p2), .val (.int p3), .val (.int x4_104), .val (.int x5_17_549), .unset] [(.int m60_s0)])) _
                refine XS.istore X0.here hx rfl (hb hby d8_60) rfl (l' := #[.val (.ref a0), .val (.ref a1), .val (.int p2), .val (.int p3), .val (.int x4_104), .val (.int x5_17_549), .val (.int m60_s0)]) rfl ?_
                refine XS.iload X0.here hx rfl (hb hby d8_62) rfl ?_
                refine XS.bipush X0.here hx rfl (hb hby d8_64) ?_
                refine XS.icmpNo X0.here hx rfl (hb hby d8_66) rfl (feq hc66).1 ?_
                refine XS.iload X0.here hx rfl (hb hby d8_69) rfl ?_
                exact k)
            by_cases hc71 : m60_s0 = (0 : Int32)
            · obtain ⟨T559, X559, e559, st559⟩ := getF X0 hx hZ hown (host := "") (Or.inl (hw _ (List.mem_of_getElem? (i := 20) rfl))) Via.refl e0 F_a0_line (g := (mkF m 76 #[.val (.ref a0), .val (.ref a1), .val (.int p2), .val (.int p3), .val (.int x4_104), .val (.int x5_17_549), .val (.int m60_s0)] [(.ref a0), (.ref a0)])) rfl rfl (hb hby d8_76)
              obtain ⟨T560, h560, X560, e560, W560, st560⟩ := putF X559 hx hZ hown (host := "") (Or.inl (hw _ (List.mem_of_getElem? (i := 20) rfl))) Via.refl e559 F_a0_line E_a0 (Or.inl (hw _ (List.mem_of_getElem? (i := 21) rfl))) (hw _ (List.mem_of_getElem? (i := 12) rfl)) (ty := .int) (by decide) rfl rfl (g := (mkF m 81 #[.val (.ref a0), .val (.ref a1), .val (.int p2), .val (.int p3), .val (.int x4_104), .val (.int x5_17_549), .val (.int m60_s0)] [(.int (ln + (1 : Int32))), (.ref a0)])) rfl rfl (hb hby d8_81)
              have Fw560 := F_a0_line.same W560
              have N560 := Fr.snoc X560 N0 g_a0
              have kp561 : Keep h0 h560 [a0] := (Keep.refl h0 [a0]).wr W560 (Or.inl (List.mem_of_getElem? (i := 0) rfl))
              have f562 := (F_a0_passed.other W560 (Or.inr (slot_ne (Or.inl (hw _ (List.mem_of_getElem? (i := 36) rfl))) (Or.inl (hw _ (List.mem_of_getElem? (i := 21) rfl))) (by decide) (t := .long) (t' := .int) (by decide) (by decide))))
              obtain ⟨T563, X563, e563, st563⟩ := getF X560 hx hZ hown (host := "") (Or.inl (hw _ (List.mem_of_getElem? (i := 35) rfl))) Via.refl e560 f562 (g := (mkF m 86 #[.val (.ref a0), .val (.ref a1), .val (.int p2), .val (.int p3), .val (.int x4_104), .val (.int x5_17_549), .val (.int m60_s0)] [(.ref a0), (.ref a0)])) rfl rfl (hb hby d8_86)
              have f564 := (E_a0.wr W560)
              have f565 := (F_a0_lineStart.other W560 (Or.inr (slot_ne (Or.inl (hw _ (List.mem_of_getElem? (i := 38) rfl))) (Or.inl (hw _ (List.mem_of_getElem? (i := 21) rfl))) (by decide) (t := .long) (t' := .int) (by decide) (by decide))))
              obtain ⟨T566, h566, X566, e566, W566, st566⟩ := putF X563 hx hZ hown (host := "") (Or.inl (hw _ (List.mem_of_getElem? (i := 37) rfl))) Via.refl e563 f565 f564 (Or.inl (hw _ (List.mem_of_getElem? (i := 38) rfl))) (hw _ (List.mem_of_getElem? (i := 12) rfl)) (ty := .long) (by decide) rfl rfl (g := (mkF m 98 #[.val (.ref a0), .val (.ref a1), .val (.int p2), .val (.int p3), .val (.int x4_104), .val (.int x5_17_549), .val (.int m60_s0)] [(.long (((ps + (x4_104).toInt64) - (p2).toInt64) + (1 : Int64))), (.ref a0)])) rfl rfl (hb hby d8_98)
              have Fw566 := f565.same W566
              have N566 := Fr.snoc X566 N560 g_a0
              have kp567 : Keep h0 h566 [a0] := kp561.wr W566 (Or.inl (List.mem_of_getElem? (i := 0) rfl))
              obtain ⟨x4_104_568, hx4_104_568, pre569⟩ : ∃ z : Int32, z = (x4_104 + (1 : Int32)) ∧ own_Pre p e below (s₁.setTop (entryFrame m #[(.ref a0), (.ref a1), (.int p2), (.int p3)] 7)) (T566.setTop (mkF m 104 #[.val (.ref a0), .val (.ref a1), .val (.int p2), .val (.int p3), .val (.int z), .val (.int x5_17_549), .val (.int m60_s0)] [])) := ⟨_, rfl, fun t k => pre558 t (by
                  show Steps p.tables e below (s₁.setTop (mkF m 71 #[.val (.ref a0), .val (.ref a1), .val (.int p2), .val (.int p3), .val (.int x4_104), .val (.int x5_17_549), .val (.int m60_s0)] [(.int m60_s0)])) _
                  refine XS.ifNo X0.here hx rfl (hb hby d8_71) rfl ((if0 _ _).trans (teq hc71).2) ?_
                  refine XS.aloadN X0.here hx rfl (hb hby d8_74) rfl rfl ?_
                  refine XS.dup X0.here hx rfl (hb hby d8_75) rfl rfl ?_
                  refine st559 _ ?_
                  refine XS.iconst X559.here hx rfl (hb hby d8_79) ?_
                  show Steps p.tables e below (T559.setTop (mkF m 80 #[.val (.ref a0), .val (.ref a1), .val (.int p2), .val (.int p3), .val (.int x4_104), .val (.int x5_17_549), .val (.int m60_s0)] [(.int (1 : Int32)), (.int ln), (.ref a0)])) _
                  refine XS.iadd X559.here hx rfl (hb hby d8_80) rfl ?_
                  refine st560 _ ?_
                  refine XS.aloadN X560.here hx rfl (hb hby d8_84) rfl rfl ?_
                  refine XS.aloadN X560.here hx rfl (hb hby d8_85) rfl rfl ?_
                  refine st563 _ ?_
                  show Steps p.tables e below (T563.setTop (mkF m 89 #[.val (.ref a0), .val (.ref a1), .val (.int p2), .val (.int p3), .val (.int x4_104), .val (.int x5_17_549), .val (.int m60_s0)] [(.long ps), (.ref a0)])) _
                  refine XS.iload X563.here hx rfl (hb hby d8_89) rfl ?_
                  refine XS.i2l X563.here hx rfl (hb hby d8_91) rfl ?_
                  refine XS.ladd X563.here hx rfl (hb hby d8_92) rfl ?_
                  refine XS.iloadN X563.here hx rfl (hb hby d8_93) rfl ?_
                  refine XS.i2l X563.here hx rfl (hb hby d8_94) rfl ?_
                  show Steps p.tables e below (T563.setTop (mkF m 95 #[.val (.ref a0), .val (.ref a1), .val (.int p2), .val (.int p3), .val (.int x4_104), .val (.int x5_17_549), .val (.int m60_s0)] [(.long (p2).toInt64), (.long (ps + (x4_104).toInt64)), (.ref a0)])) _
                  refine XS.lsub X563.here hx rfl (hb hby d8_95) rfl ?_
                  refine XS.lconst X563.here hx rfl (hb hby d8_96) ?_
                  refine XS.ladd X563.here hx rfl (hb hby d8_97) rfl ?_
                  refine st566 _ ?_
                  refine XS.iinc X566.here hx rfl (hb hby d8_101) rfl (l' := #[.val (.ref a0), .val (.ref a1), .val (.int p2), .val (.int p3), .val (.int (x4_104 + (1 : Int32))), .val (.int x5_17_549), .val (.int m60_s0)]) rfl ?_
                  exact k)⟩
              have hc8_3 : ¬ (x4_104_568 < (p2 + p3)) := by rw [hx4_104_568, hx4_104]; exact own_l23 hk2 hrg
              have hc108 : ((0 : Int32) < p3) := by rw [hk2]; decide
              have f570 := ((V_a1.other W560 ne_a1_a0).other W566 ne_a1_a0)
              obtain ⟨cl571, Ar571, hin571, hat571⟩ := own_AI.at f570 (j := ((p2 + p3) - (1 : Int32))) (by rw [hk2, own_back2]; exact hi1 (own_pos22 hk2))
              have pre574 : own_Pre p e below (s₁.setTop (entryFrame m #[(.ref a0), (.ref a1), (.int p2), (.int p3)] 7)) (T566.setTop (mkF m 121 #[.val (.ref a0), .val (.ref a1), .val (.int p2), .val (.int p3), .val (.int x4_104_568), .val (.int x5_17_549), .val (.int m60_s0)] [(.int (13 : Int32)), (.int (ws.getD (((p2 + p3) - (1 : Int32))).toNatClampNeg (0 : Int32))), (.ref a0)])) := fun t k => pre569 t (by
                  show Steps p.tables e below (T566.setTop (mkF m 104 #[.val (.ref a0), .val (.ref a1), .val (.int p2), .val (.int p3), .val (.int x4_104_568), .val (.int x5_17_549), .val (.int m60_s0)] [])) _
                  refine XS.goto X566.here hx rfl (pc0 := 104) (pc' := 3) rfl (hb hby d8_104) (by decide) (by decide) ?_
                  refine XS.iload X566.here hx rfl (hb hby d8_3) rfl ?_
                  refine XS.iloadN X566.here hx rfl (hb hby d8_5) rfl ?_
                  refine XS.iloadN X566.here hx rfl (hb hby d8_6) rfl ?_
                  refine XS.iadd X566.here hx rfl (hb hby d8_7) rfl ?_
                  show Steps p.tables e below (T566.setTop (mkF m 8 #[.val (.ref a0), .val (.ref a1), .val (.int p2), .val (.int p3), .val (.int x4_104_568), .val (.int x5_17_549), .val (.int m60_s0)] [(.int (p2 + p3)), (.int x4_104_568)])) _
                  refine XS.icmpYes X566.here hx rfl (pc0 := 8) (pc' := 107) rfl (hb hby d8_8) rfl (flt hc8_3).2.1 (by decide) (by decide) ?_
                  refine XS.iloadN X566.here hx rfl (hb hby d8_107) rfl ?_
                  refine XS.ifNo X566.here hx rfl (hb hby d8_108) rfl ((if0 _ _).trans (tlt hc108).2.2.2) ?_
                  refine XS.aloadN X566.here hx rfl (hb hby d8_111) rfl rfl ?_
                  refine XS.aloadN X566.here hx rfl (hb hby d8_112) rfl rfl ?_
                  show Steps p.tables e below (T566.setTop (mkF m 113 #[.val (.ref a0), .val (.ref a1), .val (.int p2), .val (.int p3), .val (.int x4_104_568), .val (.int x5_17_549), .val (.int m60_s0)] [(.ref a1), (.ref a0)])) _
                  refine XS.iloadN X566.here hx rfl (hb hby d8_113) rfl ?_
                  refine XS.iloadN X566.here hx rfl (hb hby d8_114) rfl ?_
                  refine XS.iadd X566.here hx rfl (hb hby d8_115) rfl ?_
                  refine XS.iconst X566.here hx rfl (hb hby d8_116) ?_
                  refine XS.isub X566.here hx rfl (hb hby d8_117) rfl ?_
                  show Steps p.tables e below (T566.setTop (mkF m 118 #[.val (.ref a0), .val (.ref a1), .val (.int p2), .val (.int p3), .val (.int x4_104_568), .val (.int x5_17_549), .val (.int m60_s0)] [(.int ((p2 + p3) - (1 : Int32))), (.ref a1), (.ref a0)])) _
                  refine X566.caload hx (j := ((p2 + p3) - (1 : Int32))) (v := (.int (ws.getD (((p2 + p3) - (1 : Int32))).toNatClampNeg (0 : Int32)))) (by rw [e566]; exact Ar571.1) (State.isArrayOf_alike hZ.alike Ar571.2.1) Ar571.2.2 hin571 hat571 (g := (mkF m 118 #[.val (.ref a0), .val (.ref a1), .val (.int p2), .val (.int p3), .val (.int x4_104_568), .val (.int x5_17_549), .val (.int m60_s0)] [(.int ((p2 + p3) - (1 : Int32))), (.ref a1), (.ref a0)])) rfl rfl (hb hby d8_118) _ ?_
                  refine XS.bipush X566.here hx rfl (hb hby d8_119) ?_
                  exact k)
              obtain ⟨m129_s0, hm129_s0, pre573⟩ : ∃ (m129_s0 : Int32), m129_s0 = (own_m8_129_s0 ws p2 p3) ∧ own_Pre p e below (s₁.setTop (entryFrame m #[(.ref a0), (.ref a1), (.int p2), (.int p3)] 7)) (T566.setTop (mkF m 129 #[.val (.ref a0), .val (.ref a1), .val (.int p2), .val (.int p3), .val (.int x4_104_568), .val (.int x5_17_549), .val (.int m60_s0)] [(.int m129_s0), (.ref a0)])) := by
                by_cases hc121 : (ws.getD (((p2 + p3) - (1 : Int32))).toNatClampNeg (0 : Int32)) = (13 : Int32)
                · have pre575 : own_Pre p e below (s₁.setTop (entryFrame m #[(.ref a0), (.ref a1), (.int p2), (.int p3)] 7)) (T566.setTop (mkF m 129 #[.val (.ref a0), .val (.ref a1), .val (.int p2), .val (.int p3), .val (.int x4_104_568), .val (.int x5_17_549), .val (.int m60_s0)] [(.int (1 : Int32)), (.ref a0)])) := fun t k => pre574 t (by
                      show Steps p.tables e below (T566.setTop (mkF m 121 #[.val (.ref a0), .val (.ref a1), .val (.int p2), .val (.int p3), .val (.int x4_104_568), .val (.int x5_17_549), .val (.int m60_s0)] [(.int (13 : Int32)), (.int (ws.getD (((p2 + p3) - (1 : Int32))).toNatClampNeg (0 : Int32))), (.ref a0)])) _
                      refine XS.icmpNo X566.here hx rfl (hb hby d8_121) rfl (teq hc121).2 ?_
                      refine XS.iconst X566.here hx rfl (hb hby d8_124) ?_
                      refine XS.goto X566.here hx rfl (pc0 := 125) (pc' := 129) rfl (hb hby d8_125) (by decide) (by decide) ?_
                      exact k)
                  refine ⟨_, ?_, pre575⟩
                  all_goals (first | (simp only [own_m8_129_s0, if_pos hc121]; done) | (simp [own_m8_129_s0, if_pos hc121]; done))
                · have pre576 : own_Pre p e below (s₁.setTop (entryFrame m #[(.ref a0), (.ref a1), (.int p2), (.int p3)] 7)) (T566.setTop (mkF m 129 #[.val (.ref a0), .val (.ref a1), .val (.int p2), .val (.int p3), .val (.int x4_104_568), .val (.int x5_17_549), .val (.int m60_s0)] [(.int (0 : Int32)), (.ref a0)])) := fun t k => pre574 t (by
                      show Steps p.tables e below (T566.setTop (mkF m 121 #[.val (.ref a0), .val (.ref a1), .val (.int p2), .val (.int p3), .val (.int x4_104_568), .val (.int x5_17_549), .val (.int m60_s0)] [(.int (13 : Int32)), (.int (ws.getD (((p2 + p3) - (1 : Int32))).toNatClampNeg (0 : Int32))), (.ref a0)])) _
                      refine XS.icmpYes X566.here hx rfl (pc0 := 121) (pc' := 128) rfl (hb hby d8_121) rfl (feq hc121).2 (by decide) (by decide) ?_
                      refine XS.iconst X566.here hx rfl (hb hby d8_128) ?_
                      exact k)
                  refine ⟨_, ?_, pre576⟩
                  all_goals (first | (simp only [own_m8_129_s0, if_neg hc121]; done) | (simp [own_m8_129_s0, if_neg hc121]; done))
              have f577 := (f564.wr W566)
              have f578 := ((F_a0_afterCarriageReturn.other W560 (Or.inr (slot_ne (Or.inl (hw _ (List.mem_of_getElem? (i := 48) rfl))) (Or.inl (hw _ (List.mem_of_getElem? (i := 21) rfl))) (by decide) (t := .boolean) (t' := .int) (by decide) (by decide)))).other W566 (Or.inr (slot_ne (Or.inl (hw _ (List.mem_of_getElem? (i := 48) rfl))) (Or.inl (hw _ (List.mem_of_getElem? (i := 38) rfl))) (by decide) (t := .boolean) (t' := .long) (by decide) (by decide))))
              obtain ⟨T579, h579, X579, e579, W579, st579⟩ := putFN X566 hx hZ hown (hw _ (List.mem_of_getElem? (i := 47) rfl)) Via.refl e566 f578 f577 (Or.inl (hw _ (List.mem_of_getElem? (i := 48) rfl))) (hw _ (List.mem_of_getElem? (i := 12) rfl)) (ty := .boolean) (v' := (.int (nar .boolean m129_s0))) (by decide) rfl (fits_nar_bool _) (g := (mkF m 129 #[.val (.ref a0), .val (.ref a1), .val (.int p2), .val (.int p3), .val (.int x4_104_568), .val (.int x5_17_549), .val (.int m60_s0)] [(.int m129_s0), (.ref a0)])) rfl rfl (hb hby d8_129)
              have Fw579 := f578.same W579
              have N579 := Fr.snoc X579 N566 g_a0
              have kp580 : Keep h0 h579 [a0] := kp567.wr W579 (Or.inl (List.mem_of_getElem? (i := 0) rfl))
              have f581 := ((f562.other W566 (Or.inr (slot_ne (Or.inl (hw _ (List.mem_of_getElem? (i := 36) rfl))) (Or.inl (hw _ (List.mem_of_getElem? (i := 38) rfl))) (by decide) (t := .long) (t' := .long) (by decide) (by decide)))).other W579 (Or.inr (slot_ne (Or.inl (hw _ (List.mem_of_getElem? (i := 36) rfl))) (Or.inl (hw _ (List.mem_of_getElem? (i := 48) rfl))) (by decide) (t := .long) (t' := .boolean) (by decide) (by decide))))
              obtain ⟨T582, X582, e582, st582⟩ := getF X579 hx hZ hown (host := "") (Or.inl (hw _ (List.mem_of_getElem? (i := 35) rfl))) Via.refl e579 f581 (g := (mkF m 134 #[.val (.ref a0), .val (.ref a1), .val (.int p2), .val (.int p3), .val (.int x4_104_568), .val (.int x5_17_549), .val (.int m60_s0)] [(.ref a0), (.ref a0)])) rfl rfl (hb hby d8_134)
              have f583 := (f577.wr W579)
              obtain ⟨T584, h584, X584, e584, W584, st584⟩ := putF X582 hx hZ hown (host := "") (Or.inl (hw _ (List.mem_of_getElem? (i := 35) rfl))) Via.refl e582 f581 f583 (Or.inl (hw _ (List.mem_of_getElem? (i := 36) rfl))) (hw _ (List.mem_of_getElem? (i := 12) rfl)) (ty := .long) (by decide) rfl rfl (g := (mkF m 140 #[.val (.ref a0), .val (.ref a1), .val (.int p2), .val (.int p3), .val (.int x4_104_568), .val (.int x5_17_549), .val (.int m60_s0)] [(.long (ps + (p3).toInt64)), (.ref a0)])) rfl rfl (hb hby d8_140)
              have Fw584 := f581.same W584
              have N584 := Fr.snoc X584 N579 g_a0
              have kp585 : Keep h0 h584 [a0] := kp580.wr W584 (Or.inl (List.mem_of_getElem? (i := 0) rfl))
              obtain ⟨fs, hr, hrun, hended, hW, hsame⟩ := X584.leave (v := none) (fun _ => rfl)
              refine ⟨_, _, pre573 _ ?_, hrun, hended, _, _, rfl, ?_, ⟨_, rfl⟩, hW, hsame.mono (by decide) (by decide)⟩
              · show Steps p.tables e below (T566.setTop (mkF m 129 #[.val (.ref a0), .val (.ref a1), .val (.int p2), .val (.int p3), .val (.int x4_104_568), .val (.int x5_17_549), .val (.int m60_s0)] [(.int m129_s0), (.ref a0)])) _
                refine st579 _ ?_
                refine XS.aloadN X579.here hx rfl (hb hby d8_132) rfl rfl ?_
                refine XS.dup X579.here hx rfl (hb hby d8_133) rfl rfl ?_
                refine st582 _ ?_
                refine XS.iloadN X582.here hx rfl (hb hby d8_137) rfl ?_
                show Steps p.tables e below (T582.setTop (mkF m 138 #[.val (.ref a0), .val (.ref a1), .val (.int p2), .val (.int p3), .val (.int x4_104_568), .val (.int x5_17_549), .val (.int m60_s0)] [(.int p3), (.long ps), (.ref a0)])) _
                refine XS.i2l X582.here hx rfl (hb hby d8_138) rfl ?_
                refine XS.ladd X582.here hx rfl (hb hby d8_139) rfl ?_
                refine st584 _ ?_
                show Steps p.tables e below (T584.setTop (mkF m 143 #[.val (.ref a0), .val (.ref a1), .val (.int p2), .val (.int p3), .val (.int x4_104_568), .val (.int x5_17_549), .val (.int m60_s0)] [])) _
                exact X584.returnOut hx Bd.returns (hb hby d8_143) hr
              · show Q8 Z a0 a1 p2 p3 k z ws ln ps ls cr h0 n0 _ T584.heap _
                rw [e584]
                unfold Q8
                have f586 := (f583.wr W584)
                have f587 := (((Fw560.other W566 (Or.inr (slot_ne (Or.inl (hw _ (List.mem_of_getElem? (i := 21) rfl))) (Or.inl (hw _ (List.mem_of_getElem? (i := 38) rfl))) (by decide) (t := .int) (t' := .long) (by decide) (by decide)))).other W579 (Or.inr (slot_ne (Or.inl (hw _ (List.mem_of_getElem? (i := 21) rfl))) (Or.inl (hw _ (List.mem_of_getElem? (i := 48) rfl))) (by decide) (t := .int) (t' := .boolean) (by decide) (by decide)))).other W584 (Or.inr (slot_ne (Or.inl (hw _ (List.mem_of_getElem? (i := 21) rfl))) (Or.inl (hw _ (List.mem_of_getElem? (i := 36) rfl))) (by decide) (t := .int) (t' := .long) (by decide) (by decide))))
                have f588 := ((Fw566.other W579 (Or.inr (slot_ne (Or.inl (hw _ (List.mem_of_getElem? (i := 38) rfl))) (Or.inl (hw _ (List.mem_of_getElem? (i := 48) rfl))) (by decide) (t := .long) (t' := .boolean) (by decide) (by decide)))).other W584 (Or.inr (slot_ne (Or.inl (hw _ (List.mem_of_getElem? (i := 38) rfl))) (Or.inl (hw _ (List.mem_of_getElem? (i := 36) rfl))) (by decide) (t := .long) (t' := .long) (by decide) (by decide))))
                have f589 := (Fw579.other W584 (Or.inr (slot_ne (Or.inl (hw _ (List.mem_of_getElem? (i := 48) rfl))) (Or.inl (hw _ (List.mem_of_getElem? (i := 36) rfl))) (by decide) (t := .boolean) (t' := .long) (by decide) (by decide))))
                refine ⟨rfl, N584, kp585, f586, ?_, ?_, ?_, ?_⟩
                · rw [show (own_p8_line p2 p3 ws ln cr) = (ln + (1 : Int32)) from (by subst hm129_s0 hx4_104_568 hm60_s0 hx5_17_549 hx4_104 hx5_17; simp only [own_p8_line, if_neg hk0, if_neg hk1, if_neg hc21, if_neg hc28, if_pos hc21_2, if_pos hc71])]; exact f587
                · rw [show (own_p8_passed p3 ps) = (ps + (p3).toInt64) from (by subst hm129_s0 hx4_104_568 hm60_s0 hx5_17_549 hx4_104 hx5_17; simp only [own_p8_passed, if_neg hk0, if_neg hk1, if_neg hc21, if_neg hc28, if_pos hc21_2, if_pos hc71])]; exact Fw584
                · rw [show (own_p8_lineStart p2 p3 ws ps ls) = (((ps + (x4_104).toInt64) - (p2).toInt64) + (1 : Int64)) from (by subst hm129_s0 hx4_104_568 hm60_s0 hx5_17_549 hx4_104 hx5_17; simp only [own_p8_lineStart, if_neg hk0, if_neg hk1, if_neg hc21, if_neg hc28, if_pos hc21_2, if_pos hc71])]; exact f588
                · rw [show (own_p8_afterCarriageReturn p2 p3 ws cr) = (nar .boolean m129_s0) from (by subst hm129_s0 hx4_104_568 hm60_s0 hx5_17_549 hx4_104 hx5_17; simp only [own_p8_afterCarriageReturn, if_neg hk0, if_neg hk1, if_neg hc21, if_neg hc28, if_pos hc21_2, if_pos hc71])]; exact f589
            · obtain ⟨T590, X590, e590, st590⟩ := getF X0 hx hZ hown (host := "") (Or.inl (hw _ (List.mem_of_getElem? (i := 35) rfl))) Via.refl e0 F_a0_passed (g := (mkF m 86 #[.val (.ref a0), .val (.ref a1), .val (.int p2), .val (.int p3), .val (.int x4_104), .val (.int x5_17_549), .val (.int m60_s0)] [(.ref a0), (.ref a0)])) rfl rfl (hb hby d8_86)
              obtain ⟨T591, h591, X591, e591, W591, st591⟩ := putF X590 hx hZ hown (host := "") (Or.inl (hw _ (List.mem_of_getElem? (i := 37) rfl))) Via.refl e590 F_a0_lineStart E_a0 (Or.inl (hw _ (List.mem_of_getElem? (i := 38) rfl))) (hw _ (List.mem_of_getElem? (i := 12) rfl)) (ty := .long) (by decide) rfl rfl (g := (mkF m 98 #[.val (.ref a0), .val (.ref a1), .val (.int p2), .val (.int p3), .val (.int x4_104), .val (.int x5_17_549), .val (.int m60_s0)] [(.long (((ps + (x4_104).toInt64) - (p2).toInt64) + (1 : Int64))), (.ref a0)])) rfl rfl (hb hby d8_98)
              have Fw591 := F_a0_lineStart.same W591
              have N591 := Fr.snoc X591 N0 g_a0
              have kp592 : Keep h0 h591 [a0] := (Keep.refl h0 [a0]).wr W591 (Or.inl (List.mem_of_getElem? (i := 0) rfl))
              obtain ⟨x4_104_593, hx4_104_593, pre594⟩ : ∃ z : Int32, z = (x4_104 + (1 : Int32)) ∧ own_Pre p e below (s₁.setTop (entryFrame m #[(.ref a0), (.ref a1), (.int p2), (.int p3)] 7)) (T591.setTop (mkF m 104 #[.val (.ref a0), .val (.ref a1), .val (.int p2), .val (.int p3), .val (.int z), .val (.int x5_17_549), .val (.int m60_s0)] [])) := ⟨_, rfl, fun t k => pre558 t (by
                  show Steps p.tables e below (s₁.setTop (mkF m 71 #[.val (.ref a0), .val (.ref a1), .val (.int p2), .val (.int p3), .val (.int x4_104), .val (.int x5_17_549), .val (.int m60_s0)] [(.int m60_s0)])) _
                  refine XS.ifYes X0.here hx rfl (pc0 := 71) (pc' := 84) rfl (hb hby d8_71) rfl ((if0 _ _).trans (feq hc71).2) (by decide) (by decide) ?_
                  refine XS.aloadN X0.here hx rfl (hb hby d8_84) rfl rfl ?_
                  refine XS.aloadN X0.here hx rfl (hb hby d8_85) rfl rfl ?_
                  refine st590 _ ?_
                  refine XS.iload X590.here hx rfl (hb hby d8_89) rfl ?_
                  show Steps p.tables e below (T590.setTop (mkF m 91 #[.val (.ref a0), .val (.ref a1), .val (.int p2), .val (.int p3), .val (.int x4_104), .val (.int x5_17_549), .val (.int m60_s0)] [(.int x4_104), (.long ps), (.ref a0)])) _
                  refine XS.i2l X590.here hx rfl (hb hby d8_91) rfl ?_
                  refine XS.ladd X590.here hx rfl (hb hby d8_92) rfl ?_
                  refine XS.iloadN X590.here hx rfl (hb hby d8_93) rfl ?_
                  refine XS.i2l X590.here hx rfl (hb hby d8_94) rfl ?_
                  refine XS.lsub X590.here hx rfl (hb hby d8_95) rfl ?_
                  show Steps p.tables e below (T590.setTop (mkF m 96 #[.val (.ref a0), .val (.ref a1), .val (.int p2), .val (.int p3), .val (.int x4_104), .val (.int x5_17_549), .val (.int m60_s0)] [(.long ((ps + (x4_104).toInt64) - (p2).toInt64)), (.ref a0)])) _
                  refine XS.lconst X590.here hx rfl (hb hby d8_96) ?_
                  refine XS.ladd X590.here hx rfl (hb hby d8_97) rfl ?_
                  refine st591 _ ?_
                  refine XS.iinc X591.here hx rfl (hb hby d8_101) rfl (l' := #[.val (.ref a0), .val (.ref a1), .val (.int p2), .val (.int p3), .val (.int (x4_104 + (1 : Int32))), .val (.int x5_17_549), .val (.int m60_s0)]) rfl ?_
                  exact k)⟩
              have hc8_3 : ¬ (x4_104_593 < (p2 + p3)) := by rw [hx4_104_593, hx4_104]; exact own_l23 hk2 hrg
              have hc108 : ((0 : Int32) < p3) := by rw [hk2]; decide
              have f595 := (V_a1.other W591 ne_a1_a0)
              obtain ⟨cl596, Ar596, hin596, hat596⟩ := own_AI.at f595 (j := ((p2 + p3) - (1 : Int32))) (by rw [hk2, own_back2]; exact hi1 (own_pos22 hk2))
              have pre599 : own_Pre p e below (s₁.setTop (entryFrame m #[(.ref a0), (.ref a1), (.int p2), (.int p3)] 7)) (T591.setTop (mkF m 121 #[.val (.ref a0), .val (.ref a1), .val (.int p2), .val (.int p3), .val (.int x4_104_593), .val (.int x5_17_549), .val (.int m60_s0)] [(.int (13 : Int32)), (.int (ws.getD (((p2 + p3) - (1 : Int32))).toNatClampNeg (0 : Int32))), (.ref a0)])) := fun t k => pre594 t (by
                  show Steps p.tables e below (T591.setTop (mkF m 104 #[.val (.ref a0), .val (.ref a1), .val (.int p2), .val (.int p3), .val (.int x4_104_593), .val (.int x5_17_549), .val (.int m60_s0)] [])) _
                  refine XS.goto X591.here hx rfl (pc0 := 104) (pc' := 3) rfl (hb hby d8_104) (by decide) (by decide) ?_
                  refine XS.iload X591.here hx rfl (hb hby d8_3) rfl ?_
                  refine XS.iloadN X591.here hx rfl (hb hby d8_5) rfl ?_
                  refine XS.iloadN X591.here hx rfl (hb hby d8_6) rfl ?_
                  refine XS.iadd X591.here hx rfl (hb hby d8_7) rfl ?_
                  show Steps p.tables e below (T591.setTop (mkF m 8 #[.val (.ref a0), .val (.ref a1), .val (.int p2), .val (.int p3), .val (.int x4_104_593), .val (.int x5_17_549), .val (.int m60_s0)] [(.int (p2 + p3)), (.int x4_104_593)])) _
                  refine XS.icmpYes X591.here hx rfl (pc0 := 8) (pc' := 107) rfl (hb hby d8_8) rfl (flt hc8_3).2.1 (by decide) (by decide) ?_
                  refine XS.iloadN X591.here hx rfl (hb hby d8_107) rfl ?_
                  refine XS.ifNo X591.here hx rfl (hb hby d8_108) rfl ((if0 _ _).trans (tlt hc108).2.2.2) ?_
                  refine XS.aloadN X591.here hx rfl (hb hby d8_111) rfl rfl ?_
                  refine XS.aloadN X591.here hx rfl (hb hby d8_112) rfl rfl ?_
                  show Steps p.tables e below (T591.setTop (mkF m 113 #[.val (.ref a0), .val (.ref a1), .val (.int p2), .val (.int p3), .val (.int x4_104_593), .val (.int x5_17_549), .val (.int m60_s0)] [(.ref a1), (.ref a0)])) _
                  refine XS.iloadN X591.here hx rfl (hb hby d8_113) rfl ?_
                  refine XS.iloadN X591.here hx rfl (hb hby d8_114) rfl ?_
                  refine XS.iadd X591.here hx rfl (hb hby d8_115) rfl ?_
                  refine XS.iconst X591.here hx rfl (hb hby d8_116) ?_
                  refine XS.isub X591.here hx rfl (hb hby d8_117) rfl ?_
                  show Steps p.tables e below (T591.setTop (mkF m 118 #[.val (.ref a0), .val (.ref a1), .val (.int p2), .val (.int p3), .val (.int x4_104_593), .val (.int x5_17_549), .val (.int m60_s0)] [(.int ((p2 + p3) - (1 : Int32))), (.ref a1), (.ref a0)])) _
                  refine X591.caload hx (j := ((p2 + p3) - (1 : Int32))) (v := (.int (ws.getD (((p2 + p3) - (1 : Int32))).toNatClampNeg (0 : Int32)))) (by rw [e591]; exact Ar596.1) (State.isArrayOf_alike hZ.alike Ar596.2.1) Ar596.2.2 hin596 hat596 (g := (mkF m 118 #[.val (.ref a0), .val (.ref a1), .val (.int p2), .val (.int p3), .val (.int x4_104_593), .val (.int x5_17_549), .val (.int m60_s0)] [(.int ((p2 + p3) - (1 : Int32))), (.ref a1), (.ref a0)])) rfl rfl (hb hby d8_118) _ ?_
                  refine XS.bipush X591.here hx rfl (hb hby d8_119) ?_
                  exact k)
              obtain ⟨m129_s0, hm129_s0, pre598⟩ : ∃ (m129_s0 : Int32), m129_s0 = (own_m8_129_s0 ws p2 p3) ∧ own_Pre p e below (s₁.setTop (entryFrame m #[(.ref a0), (.ref a1), (.int p2), (.int p3)] 7)) (T591.setTop (mkF m 129 #[.val (.ref a0), .val (.ref a1), .val (.int p2), .val (.int p3), .val (.int x4_104_593), .val (.int x5_17_549), .val (.int m60_s0)] [(.int m129_s0), (.ref a0)])) := by
                by_cases hc121 : (ws.getD (((p2 + p3) - (1 : Int32))).toNatClampNeg (0 : Int32)) = (13 : Int32)
                · have pre600 : own_Pre p e below (s₁.setTop (entryFrame m #[(.ref a0), (.ref a1), (.int p2), (.int p3)] 7)) (T591.setTop (mkF m 129 #[.val (.ref a0), .val (.ref a1), .val (.int p2), .val (.int p3), .val (.int x4_104_593), .val (.int x5_17_549), .val (.int m60_s0)] [(.int (1 : Int32)), (.ref a0)])) := fun t k => pre599 t (by
                      show Steps p.tables e below (T591.setTop (mkF m 121 #[.val (.ref a0), .val (.ref a1), .val (.int p2), .val (.int p3), .val (.int x4_104_593), .val (.int x5_17_549), .val (.int m60_s0)] [(.int (13 : Int32)), (.int (ws.getD (((p2 + p3) - (1 : Int32))).toNatClampNeg (0 : Int32))), (.ref a0)])) _
                      refine XS.icmpNo X591.here hx rfl (hb hby d8_121) rfl (teq hc121).2 ?_
                      refine XS.iconst X591.here hx rfl (hb hby d8_124) ?_
                      refine XS.goto X591.here hx rfl (pc0 := 125) (pc' := 129) rfl (hb hby d8_125) (by decide) (by decide) ?_
                      exact k)
                  refine ⟨_, ?_, pre600⟩
                  all_goals (first | (simp only [own_m8_129_s0, if_pos hc121]; done) | (simp [own_m8_129_s0, if_pos hc121]; done))
                · have pre601 : own_Pre p e below (s₁.setTop (entryFrame m #[(.ref a0), (.ref a1), (.int p2), (.int p3)] 7)) (T591.setTop (mkF m 129 #[.val (.ref a0), .val (.ref a1), .val (.int p2), .val (.int p3), .val (.int x4_104_593), .val (.int x5_17_549), .val (.int m60_s0)] [(.int (0 : Int32)), (.ref a0)])) := fun t k => pre599 t (by
                      show Steps p.tables e below (T591.setTop (mkF m 121 #[.val (.ref a0), .val (.ref a1), .val (.int p2), .val (.int p3), .val (.int x4_104_593), .val (.int x5_17_549), .val (.int m60_s0)] [(.int (13 : Int32)), (.int (ws.getD (((p2 + p3) - (1 : Int32))).toNatClampNeg (0 : Int32))), (.ref a0)])) _
                      refine XS.icmpYes X591.here hx rfl (pc0 := 121) (pc' := 128) rfl (hb hby d8_121) rfl (feq hc121).2 (by decide) (by decide) ?_
                      refine XS.iconst X591.here hx rfl (hb hby d8_128) ?_
                      exact k)
                  refine ⟨_, ?_, pre601⟩
                  all_goals (first | (simp only [own_m8_129_s0, if_neg hc121]; done) | (simp [own_m8_129_s0, if_neg hc121]; done))
              have f602 := (E_a0.wr W591)
              have f603 := (F_a0_afterCarriageReturn.other W591 (Or.inr (slot_ne (Or.inl (hw _ (List.mem_of_getElem? (i := 48) rfl))) (Or.inl (hw _ (List.mem_of_getElem? (i := 38) rfl))) (by decide) (t := .boolean) (t' := .long) (by decide) (by decide))))
              obtain ⟨T604, h604, X604, e604, W604, st604⟩ := putFN X591 hx hZ hown (hw _ (List.mem_of_getElem? (i := 47) rfl)) Via.refl e591 f603 f602 (Or.inl (hw _ (List.mem_of_getElem? (i := 48) rfl))) (hw _ (List.mem_of_getElem? (i := 12) rfl)) (ty := .boolean) (v' := (.int (nar .boolean m129_s0))) (by decide) rfl (fits_nar_bool _) (g := (mkF m 129 #[.val (.ref a0), .val (.ref a1), .val (.int p2), .val (.int p3), .val (.int x4_104_593), .val (.int x5_17_549), .val (.int m60_s0)] [(.int m129_s0), (.ref a0)])) rfl rfl (hb hby d8_129)
              have Fw604 := f603.same W604
              have N604 := Fr.snoc X604 N591 g_a0
              have kp605 : Keep h0 h604 [a0] := kp592.wr W604 (Or.inl (List.mem_of_getElem? (i := 0) rfl))
              have f606 := ((F_a0_passed.other W591 (Or.inr (slot_ne (Or.inl (hw _ (List.mem_of_getElem? (i := 36) rfl))) (Or.inl (hw _ (List.mem_of_getElem? (i := 38) rfl))) (by decide) (t := .long) (t' := .long) (by decide) (by decide)))).other W604 (Or.inr (slot_ne (Or.inl (hw _ (List.mem_of_getElem? (i := 36) rfl))) (Or.inl (hw _ (List.mem_of_getElem? (i := 48) rfl))) (by decide) (t := .long) (t' := .boolean) (by decide) (by decide))))
              obtain ⟨T607, X607, e607, st607⟩ := getF X604 hx hZ hown (host := "") (Or.inl (hw _ (List.mem_of_getElem? (i := 35) rfl))) Via.refl e604 f606 (g := (mkF m 134 #[.val (.ref a0), .val (.ref a1), .val (.int p2), .val (.int p3), .val (.int x4_104_593), .val (.int x5_17_549), .val (.int m60_s0)] [(.ref a0), (.ref a0)])) rfl rfl (hb hby d8_134)
              have f608 := (f602.wr W604)
              obtain ⟨T609, h609, X609, e609, W609, st609⟩ := putF X607 hx hZ hown (host := "") (Or.inl (hw _ (List.mem_of_getElem? (i := 35) rfl))) Via.refl e607 f606 f608 (Or.inl (hw _ (List.mem_of_getElem? (i := 36) rfl))) (hw _ (List.mem_of_getElem? (i := 12) rfl)) (ty := .long) (by decide) rfl rfl (g := (mkF m 140 #[.val (.ref a0), .val (.ref a1), .val (.int p2), .val (.int p3), .val (.int x4_104_593), .val (.int x5_17_549), .val (.int m60_s0)] [(.long (ps + (p3).toInt64)), (.ref a0)])) rfl rfl (hb hby d8_140)
              have Fw609 := f606.same W609
              have N609 := Fr.snoc X609 N604 g_a0
              have kp610 : Keep h0 h609 [a0] := kp605.wr W609 (Or.inl (List.mem_of_getElem? (i := 0) rfl))
              obtain ⟨fs, hr, hrun, hended, hW, hsame⟩ := X609.leave (v := none) (fun _ => rfl)
              refine ⟨_, _, pre598 _ ?_, hrun, hended, _, _, rfl, ?_, ⟨_, rfl⟩, hW, hsame.mono (by decide) (by decide)⟩
              · show Steps p.tables e below (T591.setTop (mkF m 129 #[.val (.ref a0), .val (.ref a1), .val (.int p2), .val (.int p3), .val (.int x4_104_593), .val (.int x5_17_549), .val (.int m60_s0)] [(.int m129_s0), (.ref a0)])) _
                refine st604 _ ?_
                refine XS.aloadN X604.here hx rfl (hb hby d8_132) rfl rfl ?_
                refine XS.dup X604.here hx rfl (hb hby d8_133) rfl rfl ?_
                refine st607 _ ?_
                refine XS.iloadN X607.here hx rfl (hb hby d8_137) rfl ?_
                show Steps p.tables e below (T607.setTop (mkF m 138 #[.val (.ref a0), .val (.ref a1), .val (.int p2), .val (.int p3), .val (.int x4_104_593), .val (.int x5_17_549), .val (.int m60_s0)] [(.int p3), (.long ps), (.ref a0)])) _
                refine XS.i2l X607.here hx rfl (hb hby d8_138) rfl ?_
                refine XS.ladd X607.here hx rfl (hb hby d8_139) rfl ?_
                refine st609 _ ?_
                show Steps p.tables e below (T609.setTop (mkF m 143 #[.val (.ref a0), .val (.ref a1), .val (.int p2), .val (.int p3), .val (.int x4_104_593), .val (.int x5_17_549), .val (.int m60_s0)] [])) _
                exact X609.returnOut hx Bd.returns (hb hby d8_143) hr
              · show Q8 Z a0 a1 p2 p3 k z ws ln ps ls cr h0 n0 _ T609.heap _
                rw [e609]
                unfold Q8
                have f611 := (f608.wr W609)
                have f612 := (((F_a0_line.other W591 (Or.inr (slot_ne (Or.inl (hw _ (List.mem_of_getElem? (i := 21) rfl))) (Or.inl (hw _ (List.mem_of_getElem? (i := 38) rfl))) (by decide) (t := .int) (t' := .long) (by decide) (by decide)))).other W604 (Or.inr (slot_ne (Or.inl (hw _ (List.mem_of_getElem? (i := 21) rfl))) (Or.inl (hw _ (List.mem_of_getElem? (i := 48) rfl))) (by decide) (t := .int) (t' := .boolean) (by decide) (by decide)))).other W609 (Or.inr (slot_ne (Or.inl (hw _ (List.mem_of_getElem? (i := 21) rfl))) (Or.inl (hw _ (List.mem_of_getElem? (i := 36) rfl))) (by decide) (t := .int) (t' := .long) (by decide) (by decide))))
                have f613 := ((Fw591.other W604 (Or.inr (slot_ne (Or.inl (hw _ (List.mem_of_getElem? (i := 38) rfl))) (Or.inl (hw _ (List.mem_of_getElem? (i := 48) rfl))) (by decide) (t := .long) (t' := .boolean) (by decide) (by decide)))).other W609 (Or.inr (slot_ne (Or.inl (hw _ (List.mem_of_getElem? (i := 38) rfl))) (Or.inl (hw _ (List.mem_of_getElem? (i := 36) rfl))) (by decide) (t := .long) (t' := .long) (by decide) (by decide))))
                have f614 := (Fw604.other W609 (Or.inr (slot_ne (Or.inl (hw _ (List.mem_of_getElem? (i := 48) rfl))) (Or.inl (hw _ (List.mem_of_getElem? (i := 36) rfl))) (by decide) (t := .boolean) (t' := .long) (by decide) (by decide))))
                refine ⟨rfl, N609, kp610, f611, ?_, ?_, ?_, ?_⟩
                · rw [show (own_p8_line p2 p3 ws ln cr) = ln from (by subst hm129_s0 hx4_104_593 hm60_s0 hx5_17_549 hx4_104 hx5_17; simp only [own_p8_line, if_neg hk0, if_neg hk1, if_neg hc21, if_neg hc28, if_pos hc21_2, if_neg hc71])]; exact f612
                · rw [show (own_p8_passed p3 ps) = (ps + (p3).toInt64) from (by subst hm129_s0 hx4_104_593 hm60_s0 hx5_17_549 hx4_104 hx5_17; simp only [own_p8_passed, if_neg hk0, if_neg hk1, if_neg hc21, if_neg hc28, if_pos hc21_2, if_neg hc71])]; exact Fw609
                · rw [show (own_p8_lineStart p2 p3 ws ps ls) = (((ps + (x4_104).toInt64) - (p2).toInt64) + (1 : Int64)) from (by subst hm129_s0 hx4_104_593 hm60_s0 hx5_17_549 hx4_104 hx5_17; simp only [own_p8_lineStart, if_neg hk0, if_neg hk1, if_neg hc21, if_neg hc28, if_pos hc21_2, if_neg hc71])]; exact f613
                · rw [show (own_p8_afterCarriageReturn p2 p3 ws cr) = (nar .boolean m129_s0) from (by subst hm129_s0 hx4_104_593 hm60_s0 hx5_17_549 hx4_104 hx5_17; simp only [own_p8_afterCarriageReturn, if_neg hk0, if_neg hk1, if_neg hc21, if_neg hc28, if_pos hc21_2, if_neg hc71])]; exact f614
          · have pre615 : own_Pre p e below (s₁.setTop (entryFrame m #[(.ref a0), (.ref a1), (.int p2), (.int p3)] 7)) (s₁.setTop (mkF m 28 #[.val (.ref a0), .val (.ref a1), .val (.int p2), .val (.int p3), .val (.int x4_104), .val (.int x5_17_549), .unset] [(.int (13 : Int32)), (.int x5_17_549)])) := fun t k => pre551 t (by
                show Steps p.tables e below (s₁.setTop (mkF m 21 #[.val (.ref a0), .val (.ref a1), .val (.int p2), .val (.int p3), .val (.int x4_104), .val (.int x5_17_549), .unset] [(.int (10 : Int32)), (.int x5_17_549)])) _
                refine XS.icmpNo X0.here hx rfl (hb hby d8_21) rfl (feq hc21_2).1 ?_
                refine XS.iload X0.here hx rfl (hb hby d8_24) rfl ?_
                refine XS.bipush X0.here hx rfl (hb hby d8_26) ?_
                exact k)
            by_cases hc28_2 : x5_17_549 = (13 : Int32)
            · have hc34 : (p2 < x4_104) := by rw [hx4_104]; exact own_l34 hrg
              obtain ⟨cl616, Ar616, hin616, hat616⟩ := own_AI.at V_a1 (j := (x4_104 - (1 : Int32))) (by rw [hx4_104, own_back]; exact hi0 (own_pos2 hk2))
              have pre619 : own_Pre p e below (s₁.setTop (entryFrame m #[(.ref a0), (.ref a1), (.int p2), (.int p3)] 7)) (s₁.setTop (mkF m 45 #[.val (.ref a0), .val (.ref a1), .val (.int p2), .val (.int p3), .val (.int x4_104), .val (.int x5_17_549), .unset] [(.int (13 : Int32)), (.int (ws.getD ((x4_104 - (1 : Int32))).toNatClampNeg (0 : Int32)))])) := fun t k => pre615 t (by
                  show Steps p.tables e below (s₁.setTop (mkF m 28 #[.val (.ref a0), .val (.ref a1), .val (.int p2), .val (.int p3), .val (.int x4_104), .val (.int x5_17_549), .unset] [(.int (13 : Int32)), (.int x5_17_549)])) _
                  refine XS.icmpNo X0.here hx rfl (hb hby d8_28) rfl (teq hc28_2).2 ?_
                  refine XS.iload X0.here hx rfl (hb hby d8_31) rfl ?_
                  refine XS.iloadN X0.here hx rfl (hb hby d8_33) rfl ?_
                  refine XS.icmpNo X0.here hx rfl (hb hby d8_34) rfl (tlt hc34).2.2.2 ?_
                  refine XS.aloadN X0.here hx rfl (hb hby d8_37) rfl rfl ?_
                  show Steps p.tables e below (s₁.setTop (mkF m 38 #[.val (.ref a0), .val (.ref a1), .val (.int p2), .val (.int p3), .val (.int x4_104), .val (.int x5_17_549), .unset] [(.ref a1)])) _
                  refine XS.iload X0.here hx rfl (hb hby d8_38) rfl ?_
                  refine XS.iconst X0.here hx rfl (hb hby d8_40) ?_
                  refine XS.isub X0.here hx rfl (hb hby d8_41) rfl ?_
                  refine X0.caload hx (j := (x4_104 - (1 : Int32))) (v := (.int (ws.getD ((x4_104 - (1 : Int32))).toNatClampNeg (0 : Int32)))) (by rw [e0]; exact Ar616.1) (State.isArrayOf_alike hZ.alike Ar616.2.1) Ar616.2.2 hin616 hat616 (g := (mkF m 42 #[.val (.ref a0), .val (.ref a1), .val (.int p2), .val (.int p3), .val (.int x4_104), .val (.int x5_17_549), .unset] [(.int (x4_104 - (1 : Int32))), (.ref a1)])) rfl rfl (hb hby d8_42) _ ?_
                  refine XS.bipush X0.here hx rfl (hb hby d8_43) ?_
                  exact k)
              obtain ⟨m60_s0, hm60_s0, pre618⟩ : ∃ (m60_s0 : Int32), m60_s0 = (own_m8_60_s0 ws x4_104) ∧ own_Pre p e below (s₁.setTop (entryFrame m #[(.ref a0), (.ref a1), (.int p2), (.int p3)] 7)) (s₁.setTop (mkF m 60 #[.val (.ref a0), .val (.ref a1), .val (.int p2), .val (.int p3), .val (.int x4_104), .val (.int x5_17_549), .unset] [(.int m60_s0)])) := by
                by_cases hc45 : (ws.getD ((x4_104 - (1 : Int32))).toNatClampNeg (0 : Int32)) = (13 : Int32)
                · have pre620 : own_Pre p e below (s₁.setTop (entryFrame m #[(.ref a0), (.ref a1), (.int p2), (.int p3)] 7)) (s₁.setTop (mkF m 60 #[.val (.ref a0), .val (.ref a1), .val (.int p2), .val (.int p3), .val (.int x4_104), .val (.int x5_17_549), .unset] [(.int (1 : Int32))])) := fun t k => pre619 t (by
                      show Steps p.tables e below (s₁.setTop (mkF m 45 #[.val (.ref a0), .val (.ref a1), .val (.int p2), .val (.int p3), .val (.int x4_104), .val (.int x5_17_549), .unset] [(.int (13 : Int32)), (.int (ws.getD ((x4_104 - (1 : Int32))).toNatClampNeg (0 : Int32)))])) _
                      refine XS.icmpNo X0.here hx rfl (hb hby d8_45) rfl (teq hc45).2 ?_
                      refine XS.iconst X0.here hx rfl (hb hby d8_48) ?_
                      refine XS.goto X0.here hx rfl (pc0 := 49) (pc' := 60) rfl (hb hby d8_49) (by decide) (by decide) ?_
                      exact k)
                  refine ⟨_, ?_, pre620⟩
                  all_goals (first | (simp only [own_m8_60_s0, if_pos hc45]; done) | (simp [own_m8_60_s0, if_pos hc45]; done))
                · have pre621 : own_Pre p e below (s₁.setTop (entryFrame m #[(.ref a0), (.ref a1), (.int p2), (.int p3)] 7)) (s₁.setTop (mkF m 60 #[.val (.ref a0), .val (.ref a1), .val (.int p2), .val (.int p3), .val (.int x4_104), .val (.int x5_17_549), .unset] [(.int (0 : Int32))])) := fun t k => pre619 t (by
                      show Steps p.tables e below (s₁.setTop (mkF m 45 #[.val (.ref a0), .val (.ref a1), .val (.int p2), .val (.int p3), .val (.int x4_104), .val (.int x5_17_549), .unset] [(.int (13 : Int32)), (.int (ws.getD ((x4_104 - (1 : Int32))).toNatClampNeg (0 : Int32)))])) _
                      refine XS.icmpYes X0.here hx rfl (pc0 := 45) (pc' := 52) rfl (hb hby d8_45) rfl (feq hc45).2 (by decide) (by decide) ?_
                      refine XS.iconst X0.here hx rfl (hb hby d8_52) ?_
                      refine XS.goto X0.here hx rfl (pc0 := 53) (pc' := 60) rfl (hb hby d8_53) (by decide) (by decide) ?_
                      exact k)
                  refine ⟨_, ?_, pre621⟩
                  all_goals (first | (simp only [own_m8_60_s0, if_neg hc45]; done) | (simp [own_m8_60_s0, if_neg hc45]; done))
              have hc66 : (x5_17_549 = (13 : Int32)) := hc28_2
              obtain ⟨T622, X622, e622, st622⟩ := getF X0 hx hZ hown (host := "") (Or.inl (hw _ (List.mem_of_getElem? (i := 20) rfl))) Via.refl e0 F_a0_line (g := (mkF m 76 #[.val (.ref a0), .val (.ref a1), .val (.int p2), .val (.int p3), .val (.int x4_104), .val (.int x5_17_549), .val (.int m60_s0)] [(.ref a0), (.ref a0)])) rfl rfl (hb hby d8_76)
              obtain ⟨T623, h623, X623, e623, W623, st623⟩ := putF X622 hx hZ hown (host := "") (Or.inl (hw _ (List.mem_of_getElem? (i := 20) rfl))) Via.refl e622 F_a0_line E_a0 (Or.inl (hw _ (List.mem_of_getElem? (i := 21) rfl))) (hw _ (List.mem_of_getElem? (i := 12) rfl)) (ty := .int) (by decide) rfl rfl (g := (mkF m 81 #[.val (.ref a0), .val (.ref a1), .val (.int p2), .val (.int p3), .val (.int x4_104), .val (.int x5_17_549), .val (.int m60_s0)] [(.int (ln + (1 : Int32))), (.ref a0)])) rfl rfl (hb hby d8_81)
              have Fw623 := F_a0_line.same W623
              have N623 := Fr.snoc X623 N0 g_a0
              have kp624 : Keep h0 h623 [a0] := (Keep.refl h0 [a0]).wr W623 (Or.inl (List.mem_of_getElem? (i := 0) rfl))
              have f625 := (F_a0_passed.other W623 (Or.inr (slot_ne (Or.inl (hw _ (List.mem_of_getElem? (i := 36) rfl))) (Or.inl (hw _ (List.mem_of_getElem? (i := 21) rfl))) (by decide) (t := .long) (t' := .int) (by decide) (by decide))))
              obtain ⟨T626, X626, e626, st626⟩ := getF X623 hx hZ hown (host := "") (Or.inl (hw _ (List.mem_of_getElem? (i := 35) rfl))) Via.refl e623 f625 (g := (mkF m 86 #[.val (.ref a0), .val (.ref a1), .val (.int p2), .val (.int p3), .val (.int x4_104), .val (.int x5_17_549), .val (.int m60_s0)] [(.ref a0), (.ref a0)])) rfl rfl (hb hby d8_86)
              have f627 := (E_a0.wr W623)
              have f628 := (F_a0_lineStart.other W623 (Or.inr (slot_ne (Or.inl (hw _ (List.mem_of_getElem? (i := 38) rfl))) (Or.inl (hw _ (List.mem_of_getElem? (i := 21) rfl))) (by decide) (t := .long) (t' := .int) (by decide) (by decide))))
              obtain ⟨T629, h629, X629, e629, W629, st629⟩ := putF X626 hx hZ hown (host := "") (Or.inl (hw _ (List.mem_of_getElem? (i := 37) rfl))) Via.refl e626 f628 f627 (Or.inl (hw _ (List.mem_of_getElem? (i := 38) rfl))) (hw _ (List.mem_of_getElem? (i := 12) rfl)) (ty := .long) (by decide) rfl rfl (g := (mkF m 98 #[.val (.ref a0), .val (.ref a1), .val (.int p2), .val (.int p3), .val (.int x4_104), .val (.int x5_17_549), .val (.int m60_s0)] [(.long (((ps + (x4_104).toInt64) - (p2).toInt64) + (1 : Int64))), (.ref a0)])) rfl rfl (hb hby d8_98)
              have Fw629 := f628.same W629
              have N629 := Fr.snoc X629 N623 g_a0
              have kp630 : Keep h0 h629 [a0] := kp624.wr W629 (Or.inl (List.mem_of_getElem? (i := 0) rfl))
              obtain ⟨x4_104_631, hx4_104_631, pre632⟩ : ∃ z : Int32, z = (x4_104 + (1 : Int32)) ∧ own_Pre p e below (s₁.setTop (entryFrame m #[(.ref a0), (.ref a1), (.int p2), (.int p3)] 7)) (T629.setTop (mkF m 104 #[.val (.ref a0), .val (.ref a1), .val (.int p2), .val (.int p3), .val (.int z), .val (.int x5_17_549), .val (.int m60_s0)] [])) := ⟨_, rfl, fun t k => pre618 t (by
                  show Steps p.tables e below (s₁.setTop (mkF m 60 #[.val (.ref a0), .val (.ref a1), .val (.int p2), .val (.int p3), .val (.int x4_104), .val (.int x5_17_549), .unset] [(.int m60_s0)])) _
                  refine XS.istore X0.here hx rfl (hb hby d8_60) rfl (l' := #[.val (.ref a0), .val (.ref a1), .val (.int p2), .val (.int p3), .val (.int x4_104), .val (.int x5_17_549), .val (.int m60_s0)]) rfl ?_
                  refine XS.iload X0.here hx rfl (hb hby d8_62) rfl ?_
                  refine XS.bipush X0.here hx rfl (hb hby d8_64) ?_
                  refine XS.icmpYes X0.here hx rfl (pc0 := 66) (pc' := 74) rfl (hb hby d8_66) rfl (teq hc66).1 (by decide) (by decide) ?_
                  refine XS.aloadN X0.here hx rfl (hb hby d8_74) rfl rfl ?_
                  show Steps p.tables e below (s₁.setTop (mkF m 75 #[.val (.ref a0), .val (.ref a1), .val (.int p2), .val (.int p3), .val (.int x4_104), .val (.int x5_17_549), .val (.int m60_s0)] [(.ref a0)])) _
                  refine XS.dup X0.here hx rfl (hb hby d8_75) rfl rfl ?_
                  refine st622 _ ?_
                  refine XS.iconst X622.here hx rfl (hb hby d8_79) ?_
                  refine XS.iadd X622.here hx rfl (hb hby d8_80) rfl ?_
                  refine st623 _ ?_
                  show Steps p.tables e below (T623.setTop (mkF m 84 #[.val (.ref a0), .val (.ref a1), .val (.int p2), .val (.int p3), .val (.int x4_104), .val (.int x5_17_549), .val (.int m60_s0)] [])) _
                  refine XS.aloadN X623.here hx rfl (hb hby d8_84) rfl rfl ?_
                  refine XS.aloadN X623.here hx rfl (hb hby d8_85) rfl rfl ?_
                  refine st626 _ ?_
                  refine XS.iload X626.here hx rfl (hb hby d8_89) rfl ?_
                  refine XS.i2l X626.here hx rfl (hb hby d8_91) rfl ?_
                  show Steps p.tables e below (T626.setTop (mkF m 92 #[.val (.ref a0), .val (.ref a1), .val (.int p2), .val (.int p3), .val (.int x4_104), .val (.int x5_17_549), .val (.int m60_s0)] [(.long (x4_104).toInt64), (.long ps), (.ref a0)])) _
                  refine XS.ladd X626.here hx rfl (hb hby d8_92) rfl ?_
                  refine XS.iloadN X626.here hx rfl (hb hby d8_93) rfl ?_
                  refine XS.i2l X626.here hx rfl (hb hby d8_94) rfl ?_
                  refine XS.lsub X626.here hx rfl (hb hby d8_95) rfl ?_
                  refine XS.lconst X626.here hx rfl (hb hby d8_96) ?_
                  show Steps p.tables e below (T626.setTop (mkF m 97 #[.val (.ref a0), .val (.ref a1), .val (.int p2), .val (.int p3), .val (.int x4_104), .val (.int x5_17_549), .val (.int m60_s0)] [(.long (1 : Int64)), (.long ((ps + (x4_104).toInt64) - (p2).toInt64)), (.ref a0)])) _
                  refine XS.ladd X626.here hx rfl (hb hby d8_97) rfl ?_
                  refine st629 _ ?_
                  refine XS.iinc X629.here hx rfl (hb hby d8_101) rfl (l' := #[.val (.ref a0), .val (.ref a1), .val (.int p2), .val (.int p3), .val (.int (x4_104 + (1 : Int32))), .val (.int x5_17_549), .val (.int m60_s0)]) rfl ?_
                  exact k)⟩
              have hc8_3 : ¬ (x4_104_631 < (p2 + p3)) := by rw [hx4_104_631, hx4_104]; exact own_l23 hk2 hrg
              have hc108 : ((0 : Int32) < p3) := by rw [hk2]; decide
              have f633 := ((V_a1.other W623 ne_a1_a0).other W629 ne_a1_a0)
              obtain ⟨cl634, Ar634, hin634, hat634⟩ := own_AI.at f633 (j := ((p2 + p3) - (1 : Int32))) (by rw [hk2, own_back2]; exact hi1 (own_pos22 hk2))
              have pre637 : own_Pre p e below (s₁.setTop (entryFrame m #[(.ref a0), (.ref a1), (.int p2), (.int p3)] 7)) (T629.setTop (mkF m 121 #[.val (.ref a0), .val (.ref a1), .val (.int p2), .val (.int p3), .val (.int x4_104_631), .val (.int x5_17_549), .val (.int m60_s0)] [(.int (13 : Int32)), (.int (ws.getD (((p2 + p3) - (1 : Int32))).toNatClampNeg (0 : Int32))), (.ref a0)])) := fun t k => pre632 t (by
                  show Steps p.tables e below (T629.setTop (mkF m 104 #[.val (.ref a0), .val (.ref a1), .val (.int p2), .val (.int p3), .val (.int x4_104_631), .val (.int x5_17_549), .val (.int m60_s0)] [])) _
                  refine XS.goto X629.here hx rfl (pc0 := 104) (pc' := 3) rfl (hb hby d8_104) (by decide) (by decide) ?_
                  refine XS.iload X629.here hx rfl (hb hby d8_3) rfl ?_
                  refine XS.iloadN X629.here hx rfl (hb hby d8_5) rfl ?_
                  refine XS.iloadN X629.here hx rfl (hb hby d8_6) rfl ?_
                  refine XS.iadd X629.here hx rfl (hb hby d8_7) rfl ?_
                  show Steps p.tables e below (T629.setTop (mkF m 8 #[.val (.ref a0), .val (.ref a1), .val (.int p2), .val (.int p3), .val (.int x4_104_631), .val (.int x5_17_549), .val (.int m60_s0)] [(.int (p2 + p3)), (.int x4_104_631)])) _
                  refine XS.icmpYes X629.here hx rfl (pc0 := 8) (pc' := 107) rfl (hb hby d8_8) rfl (flt hc8_3).2.1 (by decide) (by decide) ?_
                  refine XS.iloadN X629.here hx rfl (hb hby d8_107) rfl ?_
                  refine XS.ifNo X629.here hx rfl (hb hby d8_108) rfl ((if0 _ _).trans (tlt hc108).2.2.2) ?_
                  refine XS.aloadN X629.here hx rfl (hb hby d8_111) rfl rfl ?_
                  refine XS.aloadN X629.here hx rfl (hb hby d8_112) rfl rfl ?_
                  show Steps p.tables e below (T629.setTop (mkF m 113 #[.val (.ref a0), .val (.ref a1), .val (.int p2), .val (.int p3), .val (.int x4_104_631), .val (.int x5_17_549), .val (.int m60_s0)] [(.ref a1), (.ref a0)])) _
                  refine XS.iloadN X629.here hx rfl (hb hby d8_113) rfl ?_
                  refine XS.iloadN X629.here hx rfl (hb hby d8_114) rfl ?_
                  refine XS.iadd X629.here hx rfl (hb hby d8_115) rfl ?_
                  refine XS.iconst X629.here hx rfl (hb hby d8_116) ?_
                  refine XS.isub X629.here hx rfl (hb hby d8_117) rfl ?_
                  show Steps p.tables e below (T629.setTop (mkF m 118 #[.val (.ref a0), .val (.ref a1), .val (.int p2), .val (.int p3), .val (.int x4_104_631), .val (.int x5_17_549), .val (.int m60_s0)] [(.int ((p2 + p3) - (1 : Int32))), (.ref a1), (.ref a0)])) _
                  refine X629.caload hx (j := ((p2 + p3) - (1 : Int32))) (v := (.int (ws.getD (((p2 + p3) - (1 : Int32))).toNatClampNeg (0 : Int32)))) (by rw [e629]; exact Ar634.1) (State.isArrayOf_alike hZ.alike Ar634.2.1) Ar634.2.2 hin634 hat634 (g := (mkF m 118 #[.val (.ref a0), .val (.ref a1), .val (.int p2), .val (.int p3), .val (.int x4_104_631), .val (.int x5_17_549), .val (.int m60_s0)] [(.int ((p2 + p3) - (1 : Int32))), (.ref a1), (.ref a0)])) rfl rfl (hb hby d8_118) _ ?_
                  refine XS.bipush X629.here hx rfl (hb hby d8_119) ?_
                  exact k)
              obtain ⟨m129_s0, hm129_s0, pre636⟩ : ∃ (m129_s0 : Int32), m129_s0 = (own_m8_129_s0 ws p2 p3) ∧ own_Pre p e below (s₁.setTop (entryFrame m #[(.ref a0), (.ref a1), (.int p2), (.int p3)] 7)) (T629.setTop (mkF m 129 #[.val (.ref a0), .val (.ref a1), .val (.int p2), .val (.int p3), .val (.int x4_104_631), .val (.int x5_17_549), .val (.int m60_s0)] [(.int m129_s0), (.ref a0)])) := by
                by_cases hc121 : (ws.getD (((p2 + p3) - (1 : Int32))).toNatClampNeg (0 : Int32)) = (13 : Int32)
                · have pre638 : own_Pre p e below (s₁.setTop (entryFrame m #[(.ref a0), (.ref a1), (.int p2), (.int p3)] 7)) (T629.setTop (mkF m 129 #[.val (.ref a0), .val (.ref a1), .val (.int p2), .val (.int p3), .val (.int x4_104_631), .val (.int x5_17_549), .val (.int m60_s0)] [(.int (1 : Int32)), (.ref a0)])) := fun t k => pre637 t (by
                      show Steps p.tables e below (T629.setTop (mkF m 121 #[.val (.ref a0), .val (.ref a1), .val (.int p2), .val (.int p3), .val (.int x4_104_631), .val (.int x5_17_549), .val (.int m60_s0)] [(.int (13 : Int32)), (.int (ws.getD (((p2 + p3) - (1 : Int32))).toNatClampNeg (0 : Int32))), (.ref a0)])) _
                      refine XS.icmpNo X629.here hx rfl (hb hby d8_121) rfl (teq hc121).2 ?_
                      refine XS.iconst X629.here hx rfl (hb hby d8_124) ?_
                      refine XS.goto X629.here hx rfl (pc0 := 125) (pc' := 129) rfl (hb hby d8_125) (by decide) (by decide) ?_
                      exact k)
                  refine ⟨_, ?_, pre638⟩
                  all_goals (first | (simp only [own_m8_129_s0, if_pos hc121]; done) | (simp [own_m8_129_s0, if_pos hc121]; done))
                · have pre639 : own_Pre p e below (s₁.setTop (entryFrame m #[(.ref a0), (.ref a1), (.int p2), (.int p3)] 7)) (T629.setTop (mkF m 129 #[.val (.ref a0), .val (.ref a1), .val (.int p2), .val (.int p3), .val (.int x4_104_631), .val (.int x5_17_549), .val (.int m60_s0)] [(.int (0 : Int32)), (.ref a0)])) := fun t k => pre637 t (by
                      show Steps p.tables e below (T629.setTop (mkF m 121 #[.val (.ref a0), .val (.ref a1), .val (.int p2), .val (.int p3), .val (.int x4_104_631), .val (.int x5_17_549), .val (.int m60_s0)] [(.int (13 : Int32)), (.int (ws.getD (((p2 + p3) - (1 : Int32))).toNatClampNeg (0 : Int32))), (.ref a0)])) _
                      refine XS.icmpYes X629.here hx rfl (pc0 := 121) (pc' := 128) rfl (hb hby d8_121) rfl (feq hc121).2 (by decide) (by decide) ?_
                      refine XS.iconst X629.here hx rfl (hb hby d8_128) ?_
                      exact k)
                  refine ⟨_, ?_, pre639⟩
                  all_goals (first | (simp only [own_m8_129_s0, if_neg hc121]; done) | (simp [own_m8_129_s0, if_neg hc121]; done))
              have f640 := (f627.wr W629)
              have f641 := ((F_a0_afterCarriageReturn.other W623 (Or.inr (slot_ne (Or.inl (hw _ (List.mem_of_getElem? (i := 48) rfl))) (Or.inl (hw _ (List.mem_of_getElem? (i := 21) rfl))) (by decide) (t := .boolean) (t' := .int) (by decide) (by decide)))).other W629 (Or.inr (slot_ne (Or.inl (hw _ (List.mem_of_getElem? (i := 48) rfl))) (Or.inl (hw _ (List.mem_of_getElem? (i := 38) rfl))) (by decide) (t := .boolean) (t' := .long) (by decide) (by decide))))
              obtain ⟨T642, h642, X642, e642, W642, st642⟩ := putFN X629 hx hZ hown (hw _ (List.mem_of_getElem? (i := 47) rfl)) Via.refl e629 f641 f640 (Or.inl (hw _ (List.mem_of_getElem? (i := 48) rfl))) (hw _ (List.mem_of_getElem? (i := 12) rfl)) (ty := .boolean) (v' := (.int (nar .boolean m129_s0))) (by decide) rfl (fits_nar_bool _) (g := (mkF m 129 #[.val (.ref a0), .val (.ref a1), .val (.int p2), .val (.int p3), .val (.int x4_104_631), .val (.int x5_17_549), .val (.int m60_s0)] [(.int m129_s0), (.ref a0)])) rfl rfl (hb hby d8_129)
              have Fw642 := f641.same W642
              have N642 := Fr.snoc X642 N629 g_a0
              have kp643 : Keep h0 h642 [a0] := kp630.wr W642 (Or.inl (List.mem_of_getElem? (i := 0) rfl))
              have f644 := ((f625.other W629 (Or.inr (slot_ne (Or.inl (hw _ (List.mem_of_getElem? (i := 36) rfl))) (Or.inl (hw _ (List.mem_of_getElem? (i := 38) rfl))) (by decide) (t := .long) (t' := .long) (by decide) (by decide)))).other W642 (Or.inr (slot_ne (Or.inl (hw _ (List.mem_of_getElem? (i := 36) rfl))) (Or.inl (hw _ (List.mem_of_getElem? (i := 48) rfl))) (by decide) (t := .long) (t' := .boolean) (by decide) (by decide))))
              obtain ⟨T645, X645, e645, st645⟩ := getF X642 hx hZ hown (host := "") (Or.inl (hw _ (List.mem_of_getElem? (i := 35) rfl))) Via.refl e642 f644 (g := (mkF m 134 #[.val (.ref a0), .val (.ref a1), .val (.int p2), .val (.int p3), .val (.int x4_104_631), .val (.int x5_17_549), .val (.int m60_s0)] [(.ref a0), (.ref a0)])) rfl rfl (hb hby d8_134)
              have f646 := (f640.wr W642)
              obtain ⟨T647, h647, X647, e647, W647, st647⟩ := putF X645 hx hZ hown (host := "") (Or.inl (hw _ (List.mem_of_getElem? (i := 35) rfl))) Via.refl e645 f644 f646 (Or.inl (hw _ (List.mem_of_getElem? (i := 36) rfl))) (hw _ (List.mem_of_getElem? (i := 12) rfl)) (ty := .long) (by decide) rfl rfl (g := (mkF m 140 #[.val (.ref a0), .val (.ref a1), .val (.int p2), .val (.int p3), .val (.int x4_104_631), .val (.int x5_17_549), .val (.int m60_s0)] [(.long (ps + (p3).toInt64)), (.ref a0)])) rfl rfl (hb hby d8_140)
              have Fw647 := f644.same W647
              have N647 := Fr.snoc X647 N642 g_a0
              have kp648 : Keep h0 h647 [a0] := kp643.wr W647 (Or.inl (List.mem_of_getElem? (i := 0) rfl))
              obtain ⟨fs, hr, hrun, hended, hW, hsame⟩ := X647.leave (v := none) (fun _ => rfl)
              refine ⟨_, _, pre636 _ ?_, hrun, hended, _, _, rfl, ?_, ⟨_, rfl⟩, hW, hsame.mono (by decide) (by decide)⟩
              · show Steps p.tables e below (T629.setTop (mkF m 129 #[.val (.ref a0), .val (.ref a1), .val (.int p2), .val (.int p3), .val (.int x4_104_631), .val (.int x5_17_549), .val (.int m60_s0)] [(.int m129_s0), (.ref a0)])) _
                refine st642 _ ?_
                refine XS.aloadN X642.here hx rfl (hb hby d8_132) rfl rfl ?_
                refine XS.dup X642.here hx rfl (hb hby d8_133) rfl rfl ?_
                refine st645 _ ?_
                refine XS.iloadN X645.here hx rfl (hb hby d8_137) rfl ?_
                show Steps p.tables e below (T645.setTop (mkF m 138 #[.val (.ref a0), .val (.ref a1), .val (.int p2), .val (.int p3), .val (.int x4_104_631), .val (.int x5_17_549), .val (.int m60_s0)] [(.int p3), (.long ps), (.ref a0)])) _
                refine XS.i2l X645.here hx rfl (hb hby d8_138) rfl ?_
                refine XS.ladd X645.here hx rfl (hb hby d8_139) rfl ?_
                refine st647 _ ?_
                show Steps p.tables e below (T647.setTop (mkF m 143 #[.val (.ref a0), .val (.ref a1), .val (.int p2), .val (.int p3), .val (.int x4_104_631), .val (.int x5_17_549), .val (.int m60_s0)] [])) _
                exact X647.returnOut hx Bd.returns (hb hby d8_143) hr
              · show Q8 Z a0 a1 p2 p3 k z ws ln ps ls cr h0 n0 _ T647.heap _
                rw [e647]
                unfold Q8
                have f649 := (f646.wr W647)
                have f650 := (((Fw623.other W629 (Or.inr (slot_ne (Or.inl (hw _ (List.mem_of_getElem? (i := 21) rfl))) (Or.inl (hw _ (List.mem_of_getElem? (i := 38) rfl))) (by decide) (t := .int) (t' := .long) (by decide) (by decide)))).other W642 (Or.inr (slot_ne (Or.inl (hw _ (List.mem_of_getElem? (i := 21) rfl))) (Or.inl (hw _ (List.mem_of_getElem? (i := 48) rfl))) (by decide) (t := .int) (t' := .boolean) (by decide) (by decide)))).other W647 (Or.inr (slot_ne (Or.inl (hw _ (List.mem_of_getElem? (i := 21) rfl))) (Or.inl (hw _ (List.mem_of_getElem? (i := 36) rfl))) (by decide) (t := .int) (t' := .long) (by decide) (by decide))))
                have f651 := ((Fw629.other W642 (Or.inr (slot_ne (Or.inl (hw _ (List.mem_of_getElem? (i := 38) rfl))) (Or.inl (hw _ (List.mem_of_getElem? (i := 48) rfl))) (by decide) (t := .long) (t' := .boolean) (by decide) (by decide)))).other W647 (Or.inr (slot_ne (Or.inl (hw _ (List.mem_of_getElem? (i := 38) rfl))) (Or.inl (hw _ (List.mem_of_getElem? (i := 36) rfl))) (by decide) (t := .long) (t' := .long) (by decide) (by decide))))
                have f652 := (Fw642.other W647 (Or.inr (slot_ne (Or.inl (hw _ (List.mem_of_getElem? (i := 48) rfl))) (Or.inl (hw _ (List.mem_of_getElem? (i := 36) rfl))) (by decide) (t := .boolean) (t' := .long) (by decide) (by decide))))
                refine ⟨rfl, N647, kp648, f649, ?_, ?_, ?_, ?_⟩
                · rw [show (own_p8_line p2 p3 ws ln cr) = (ln + (1 : Int32)) from (by subst hm129_s0 hx4_104_631 hm60_s0 hx5_17_549 hx4_104 hx5_17; simp only [own_p8_line, if_neg hk0, if_neg hk1, if_neg hc21, if_neg hc28, if_neg hc21_2, if_pos hc28_2])]; exact f650
                · rw [show (own_p8_passed p3 ps) = (ps + (p3).toInt64) from (by subst hm129_s0 hx4_104_631 hm60_s0 hx5_17_549 hx4_104 hx5_17; simp only [own_p8_passed, if_neg hk0, if_neg hk1, if_neg hc21, if_neg hc28, if_neg hc21_2, if_pos hc28_2])]; exact Fw647
                · rw [show (own_p8_lineStart p2 p3 ws ps ls) = (((ps + (x4_104).toInt64) - (p2).toInt64) + (1 : Int64)) from (by subst hm129_s0 hx4_104_631 hm60_s0 hx5_17_549 hx4_104 hx5_17; simp only [own_p8_lineStart, if_neg hk0, if_neg hk1, if_neg hc21, if_neg hc28, if_neg hc21_2, if_pos hc28_2])]; exact f651
                · rw [show (own_p8_afterCarriageReturn p2 p3 ws cr) = (nar .boolean m129_s0) from (by subst hm129_s0 hx4_104_631 hm60_s0 hx5_17_549 hx4_104 hx5_17; simp only [own_p8_afterCarriageReturn, if_neg hk0, if_neg hk1, if_neg hc21, if_neg hc28, if_neg hc21_2, if_pos hc28_2])]; exact f652
            · obtain ⟨x4_104_653, hx4_104_653, pre654⟩ : ∃ z : Int32, z = (x4_104 + (1 : Int32)) ∧ own_Pre p e below (s₁.setTop (entryFrame m #[(.ref a0), (.ref a1), (.int p2), (.int p3)] 7)) (s₁.setTop (mkF m 104 #[.val (.ref a0), .val (.ref a1), .val (.int p2), .val (.int p3), .val (.int z), .val (.int x5_17_549), .unset] [])) := ⟨_, rfl, fun t k => pre615 t (by
                  show Steps p.tables e below (s₁.setTop (mkF m 28 #[.val (.ref a0), .val (.ref a1), .val (.int p2), .val (.int p3), .val (.int x4_104), .val (.int x5_17_549), .unset] [(.int (13 : Int32)), (.int x5_17_549)])) _
                  refine XS.icmpYes X0.here hx rfl (pc0 := 28) (pc' := 101) rfl (hb hby d8_28) rfl (feq hc28_2).2 (by decide) (by decide) ?_
                  refine XS.iinc X0.here hx rfl (hb hby d8_101) rfl (l' := #[.val (.ref a0), .val (.ref a1), .val (.int p2), .val (.int p3), .val (.int (x4_104 + (1 : Int32))), .val (.int x5_17_549), .unset]) rfl ?_
                  exact k)⟩
              have hc8_3 : ¬ (x4_104_653 < (p2 + p3)) := by rw [hx4_104_653, hx4_104]; exact own_l23 hk2 hrg
              have hc108 : ((0 : Int32) < p3) := by rw [hk2]; decide
              obtain ⟨cl655, Ar655, hin655, hat655⟩ := own_AI.at V_a1 (j := ((p2 + p3) - (1 : Int32))) (by rw [hk2, own_back2]; exact hi1 (own_pos22 hk2))
              have pre658 : own_Pre p e below (s₁.setTop (entryFrame m #[(.ref a0), (.ref a1), (.int p2), (.int p3)] 7)) (s₁.setTop (mkF m 121 #[.val (.ref a0), .val (.ref a1), .val (.int p2), .val (.int p3), .val (.int x4_104_653), .val (.int x5_17_549), .unset] [(.int (13 : Int32)), (.int (ws.getD (((p2 + p3) - (1 : Int32))).toNatClampNeg (0 : Int32))), (.ref a0)])) := fun t k => pre654 t (by
                  show Steps p.tables e below (s₁.setTop (mkF m 104 #[.val (.ref a0), .val (.ref a1), .val (.int p2), .val (.int p3), .val (.int x4_104_653), .val (.int x5_17_549), .unset] [])) _
                  refine XS.goto X0.here hx rfl (pc0 := 104) (pc' := 3) rfl (hb hby d8_104) (by decide) (by decide) ?_
                  refine XS.iload X0.here hx rfl (hb hby d8_3) rfl ?_
                  refine XS.iloadN X0.here hx rfl (hb hby d8_5) rfl ?_
                  refine XS.iloadN X0.here hx rfl (hb hby d8_6) rfl ?_
                  refine XS.iadd X0.here hx rfl (hb hby d8_7) rfl ?_
                  show Steps p.tables e below (s₁.setTop (mkF m 8 #[.val (.ref a0), .val (.ref a1), .val (.int p2), .val (.int p3), .val (.int x4_104_653), .val (.int x5_17_549), .unset] [(.int (p2 + p3)), (.int x4_104_653)])) _
                  refine XS.icmpYes X0.here hx rfl (pc0 := 8) (pc' := 107) rfl (hb hby d8_8) rfl (flt hc8_3).2.1 (by decide) (by decide) ?_
                  refine XS.iloadN X0.here hx rfl (hb hby d8_107) rfl ?_
                  refine XS.ifNo X0.here hx rfl (hb hby d8_108) rfl ((if0 _ _).trans (tlt hc108).2.2.2) ?_
                  refine XS.aloadN X0.here hx rfl (hb hby d8_111) rfl rfl ?_
                  refine XS.aloadN X0.here hx rfl (hb hby d8_112) rfl rfl ?_
                  show Steps p.tables e below (s₁.setTop (mkF m 113 #[.val (.ref a0), .val (.ref a1), .val (.int p2), .val (.int p3), .val (.int x4_104_653), .val (.int x5_17_549), .unset] [(.ref a1), (.ref a0)])) _
                  refine XS.iloadN X0.here hx rfl (hb hby d8_113) rfl ?_
                  refine XS.iloadN X0.here hx rfl (hb hby d8_114) rfl ?_
                  refine XS.iadd X0.here hx rfl (hb hby d8_115) rfl ?_
                  refine XS.iconst X0.here hx rfl (hb hby d8_116) ?_
                  refine XS.isub X0.here hx rfl (hb hby d8_117) rfl ?_
                  show Steps p.tables e below (s₁.setTop (mkF m 118 #[.val (.ref a0), .val (.ref a1), .val (.int p2), .val (.int p3), .val (.int x4_104_653), .val (.int x5_17_549), .unset] [(.int ((p2 + p3) - (1 : Int32))), (.ref a1), (.ref a0)])) _
                  refine X0.caload hx (j := ((p2 + p3) - (1 : Int32))) (v := (.int (ws.getD (((p2 + p3) - (1 : Int32))).toNatClampNeg (0 : Int32)))) (by rw [e0]; exact Ar655.1) (State.isArrayOf_alike hZ.alike Ar655.2.1) Ar655.2.2 hin655 hat655 (g := (mkF m 118 #[.val (.ref a0), .val (.ref a1), .val (.int p2), .val (.int p3), .val (.int x4_104_653), .val (.int x5_17_549), .unset] [(.int ((p2 + p3) - (1 : Int32))), (.ref a1), (.ref a0)])) rfl rfl (hb hby d8_118) _ ?_
                  refine XS.bipush X0.here hx rfl (hb hby d8_119) ?_
                  exact k)
              obtain ⟨m129_s0, hm129_s0, pre657⟩ : ∃ (m129_s0 : Int32), m129_s0 = (own_m8_129_s0 ws p2 p3) ∧ own_Pre p e below (s₁.setTop (entryFrame m #[(.ref a0), (.ref a1), (.int p2), (.int p3)] 7)) (s₁.setTop (mkF m 129 #[.val (.ref a0), .val (.ref a1), .val (.int p2), .val (.int p3), .val (.int x4_104_653), .val (.int x5_17_549), .unset] [(.int m129_s0), (.ref a0)])) := by
                by_cases hc121 : (ws.getD (((p2 + p3) - (1 : Int32))).toNatClampNeg (0 : Int32)) = (13 : Int32)
                · have pre659 : own_Pre p e below (s₁.setTop (entryFrame m #[(.ref a0), (.ref a1), (.int p2), (.int p3)] 7)) (s₁.setTop (mkF m 129 #[.val (.ref a0), .val (.ref a1), .val (.int p2), .val (.int p3), .val (.int x4_104_653), .val (.int x5_17_549), .unset] [(.int (1 : Int32)), (.ref a0)])) := fun t k => pre658 t (by
                      show Steps p.tables e below (s₁.setTop (mkF m 121 #[.val (.ref a0), .val (.ref a1), .val (.int p2), .val (.int p3), .val (.int x4_104_653), .val (.int x5_17_549), .unset] [(.int (13 : Int32)), (.int (ws.getD (((p2 + p3) - (1 : Int32))).toNatClampNeg (0 : Int32))), (.ref a0)])) _
                      refine XS.icmpNo X0.here hx rfl (hb hby d8_121) rfl (teq hc121).2 ?_
                      refine XS.iconst X0.here hx rfl (hb hby d8_124) ?_
                      refine XS.goto X0.here hx rfl (pc0 := 125) (pc' := 129) rfl (hb hby d8_125) (by decide) (by decide) ?_
                      exact k)
                  refine ⟨_, ?_, pre659⟩
                  all_goals (first | (simp only [own_m8_129_s0, if_pos hc121]; done) | (simp [own_m8_129_s0, if_pos hc121]; done))
                · have pre660 : own_Pre p e below (s₁.setTop (entryFrame m #[(.ref a0), (.ref a1), (.int p2), (.int p3)] 7)) (s₁.setTop (mkF m 129 #[.val (.ref a0), .val (.ref a1), .val (.int p2), .val (.int p3), .val (.int x4_104_653), .val (.int x5_17_549), .unset] [(.int (0 : Int32)), (.ref a0)])) := fun t k => pre658 t (by
                      show Steps p.tables e below (s₁.setTop (mkF m 121 #[.val (.ref a0), .val (.ref a1), .val (.int p2), .val (.int p3), .val (.int x4_104_653), .val (.int x5_17_549), .unset] [(.int (13 : Int32)), (.int (ws.getD (((p2 + p3) - (1 : Int32))).toNatClampNeg (0 : Int32))), (.ref a0)])) _
                      refine XS.icmpYes X0.here hx rfl (pc0 := 121) (pc' := 128) rfl (hb hby d8_121) rfl (feq hc121).2 (by decide) (by decide) ?_
                      refine XS.iconst X0.here hx rfl (hb hby d8_128) ?_
                      exact k)
                  refine ⟨_, ?_, pre660⟩
                  all_goals (first | (simp only [own_m8_129_s0, if_neg hc121]; done) | (simp [own_m8_129_s0, if_neg hc121]; done))
              obtain ⟨T661, h661, X661, e661, W661, st661⟩ := putFN X0 hx hZ hown (hw _ (List.mem_of_getElem? (i := 47) rfl)) Via.refl e0 F_a0_afterCarriageReturn E_a0 (Or.inl (hw _ (List.mem_of_getElem? (i := 48) rfl))) (hw _ (List.mem_of_getElem? (i := 12) rfl)) (ty := .boolean) (v' := (.int (nar .boolean m129_s0))) (by decide) rfl (fits_nar_bool _) (g := (mkF m 129 #[.val (.ref a0), .val (.ref a1), .val (.int p2), .val (.int p3), .val (.int x4_104_653), .val (.int x5_17_549), .unset] [(.int m129_s0), (.ref a0)])) rfl rfl (hb hby d8_129)
              have Fw661 := F_a0_afterCarriageReturn.same W661
              have N661 := Fr.snoc X661 N0 g_a0
              have kp662 : Keep h0 h661 [a0] := (Keep.refl h0 [a0]).wr W661 (Or.inl (List.mem_of_getElem? (i := 0) rfl))
              have f663 := (F_a0_passed.other W661 (Or.inr (slot_ne (Or.inl (hw _ (List.mem_of_getElem? (i := 36) rfl))) (Or.inl (hw _ (List.mem_of_getElem? (i := 48) rfl))) (by decide) (t := .long) (t' := .boolean) (by decide) (by decide))))
              obtain ⟨T664, X664, e664, st664⟩ := getF X661 hx hZ hown (host := "") (Or.inl (hw _ (List.mem_of_getElem? (i := 35) rfl))) Via.refl e661 f663 (g := (mkF m 134 #[.val (.ref a0), .val (.ref a1), .val (.int p2), .val (.int p3), .val (.int x4_104_653), .val (.int x5_17_549), .unset] [(.ref a0), (.ref a0)])) rfl rfl (hb hby d8_134)
              have f665 := (E_a0.wr W661)
              obtain ⟨T666, h666, X666, e666, W666, st666⟩ := putF X664 hx hZ hown (host := "") (Or.inl (hw _ (List.mem_of_getElem? (i := 35) rfl))) Via.refl e664 f663 f665 (Or.inl (hw _ (List.mem_of_getElem? (i := 36) rfl))) (hw _ (List.mem_of_getElem? (i := 12) rfl)) (ty := .long) (by decide) rfl rfl (g := (mkF m 140 #[.val (.ref a0), .val (.ref a1), .val (.int p2), .val (.int p3), .val (.int x4_104_653), .val (.int x5_17_549), .unset] [(.long (ps + (p3).toInt64)), (.ref a0)])) rfl rfl (hb hby d8_140)
              have Fw666 := f663.same W666
              have N666 := Fr.snoc X666 N661 g_a0
              have kp667 : Keep h0 h666 [a0] := kp662.wr W666 (Or.inl (List.mem_of_getElem? (i := 0) rfl))
              obtain ⟨fs, hr, hrun, hended, hW, hsame⟩ := X666.leave (v := none) (fun _ => rfl)
              refine ⟨_, _, pre657 _ ?_, hrun, hended, _, _, rfl, ?_, ⟨_, rfl⟩, hW, hsame.mono (by decide) (by decide)⟩
              · show Steps p.tables e below (s₁.setTop (mkF m 129 #[.val (.ref a0), .val (.ref a1), .val (.int p2), .val (.int p3), .val (.int x4_104_653), .val (.int x5_17_549), .unset] [(.int m129_s0), (.ref a0)])) _
                refine st661 _ ?_
                refine XS.aloadN X661.here hx rfl (hb hby d8_132) rfl rfl ?_
                refine XS.dup X661.here hx rfl (hb hby d8_133) rfl rfl ?_
                refine st664 _ ?_
                refine XS.iloadN X664.here hx rfl (hb hby d8_137) rfl ?_
                show Steps p.tables e below (T664.setTop (mkF m 138 #[.val (.ref a0), .val (.ref a1), .val (.int p2), .val (.int p3), .val (.int x4_104_653), .val (.int x5_17_549), .unset] [(.int p3), (.long ps), (.ref a0)])) _
                refine XS.i2l X664.here hx rfl (hb hby d8_138) rfl ?_
                refine XS.ladd X664.here hx rfl (hb hby d8_139) rfl ?_
                refine st666 _ ?_
                show Steps p.tables e below (T666.setTop (mkF m 143 #[.val (.ref a0), .val (.ref a1), .val (.int p2), .val (.int p3), .val (.int x4_104_653), .val (.int x5_17_549), .unset] [])) _
                exact X666.returnOut hx Bd.returns (hb hby d8_143) hr
              · show Q8 Z a0 a1 p2 p3 k z ws ln ps ls cr h0 n0 _ T666.heap _
                rw [e666]
                unfold Q8
                have f668 := (f665.wr W666)
                have f669 := ((F_a0_line.other W661 (Or.inr (slot_ne (Or.inl (hw _ (List.mem_of_getElem? (i := 21) rfl))) (Or.inl (hw _ (List.mem_of_getElem? (i := 48) rfl))) (by decide) (t := .int) (t' := .boolean) (by decide) (by decide)))).other W666 (Or.inr (slot_ne (Or.inl (hw _ (List.mem_of_getElem? (i := 21) rfl))) (Or.inl (hw _ (List.mem_of_getElem? (i := 36) rfl))) (by decide) (t := .int) (t' := .long) (by decide) (by decide))))
                have f670 := ((F_a0_lineStart.other W661 (Or.inr (slot_ne (Or.inl (hw _ (List.mem_of_getElem? (i := 38) rfl))) (Or.inl (hw _ (List.mem_of_getElem? (i := 48) rfl))) (by decide) (t := .long) (t' := .boolean) (by decide) (by decide)))).other W666 (Or.inr (slot_ne (Or.inl (hw _ (List.mem_of_getElem? (i := 38) rfl))) (Or.inl (hw _ (List.mem_of_getElem? (i := 36) rfl))) (by decide) (t := .long) (t' := .long) (by decide) (by decide))))
                have f671 := (Fw661.other W666 (Or.inr (slot_ne (Or.inl (hw _ (List.mem_of_getElem? (i := 48) rfl))) (Or.inl (hw _ (List.mem_of_getElem? (i := 36) rfl))) (by decide) (t := .boolean) (t' := .long) (by decide) (by decide))))
                refine ⟨rfl, N666, kp667, f668, ?_, ?_, ?_, ?_⟩
                · rw [show (own_p8_line p2 p3 ws ln cr) = ln from (by subst hm129_s0 hx4_104_653 hx5_17_549 hx4_104 hx5_17; simp only [own_p8_line, if_neg hk0, if_neg hk1, if_neg hc21, if_neg hc28, if_neg hc21_2, if_neg hc28_2])]; exact f669
                · rw [show (own_p8_passed p3 ps) = (ps + (p3).toInt64) from (by subst hm129_s0 hx4_104_653 hx5_17_549 hx4_104 hx5_17; simp only [own_p8_passed, if_neg hk0, if_neg hk1, if_neg hc21, if_neg hc28, if_neg hc21_2, if_neg hc28_2])]; exact Fw666
                · rw [show (own_p8_lineStart p2 p3 ws ps ls) = ls from (by subst hm129_s0 hx4_104_653 hx5_17_549 hx4_104 hx5_17; simp only [own_p8_lineStart, if_neg hk0, if_neg hk1, if_neg hc21, if_neg hc28, if_neg hc21_2, if_neg hc28_2])]; exact f670
                · rw [show (own_p8_afterCarriageReturn p2 p3 ws cr) = (nar .boolean m129_s0) from (by subst hm129_s0 hx4_104_653 hx5_17_549 hx4_104 hx5_17; simp only [own_p8_afterCarriageReturn, if_neg hk0, if_neg hk1, if_neg hc21, if_neg hc28, if_neg hc21_2, if_neg hc28_2])]; exact f671
theorem pd_3 : parseMethodDescriptor "(JI)C" = some ⟨[.long, .int], some .char⟩ := by decide +kernel
theorem pd_4 : parseMethodDescriptor "()V" = some ⟨[], none⟩ := by decide +kernel
theorem pd_5 : parseMethodDescriptor "(Lcom/example/trawl/trawl/dtd/TextPosition;I)Z" = some ⟨[(.object "com/example/trawl/trawl/dtd/TextPosition"), .int], some .boolean⟩ := by decide +kernel
theorem pd_6 : parseMethodDescriptor "([CII)V" = some ⟨[(.array .char), .int, .int], none⟩ := by decide +kernel
theorem pd_7 : parseMethodDescriptor "(I[CII)I" = some ⟨[.int, (.array .char), .int, .int], some .int⟩ := by decide +kernel
theorem ef_0 (m : MethodId) (q0 : Int64) (q1 : Int64) (p2 : Int32) : entryFrame m #[(.long q0), (.long q1), (.int p2)] maxLocals = mkF m 0 #[.val (.long q0), .second, .val (.long q1), .second, .val (.int p2), .unset, .unset, .unset, .unset, .unset, .unset, .unset, .unset, .unset, .unset, .unset] [] := by first | (simp [entryFrame, mkF, argsToLocals, Value.category, maxLocals]; done) | rfl
/-- what the packed int says of the position -/
def own_Inv (ln : Int32) (ps ls : Int64) (cr st : Int32) (b : Int) : Prop := 1 ≤ ln.toInt ∧ ln.toInt ≤ b + 1 ∧ 0 ≤ ls.toInt ∧ ls.toInt ≤ ps.toInt ∧ ps.toInt ≤ b ∧ 0 ≤ cr.toInt ∧ cr.toInt ≤ 1 ∧ st.toInt = ln.toInt * 256 + (ps.toInt - ls.toInt + 1) * 2 + cr.toInt
theorem own_parts (st : Int32) (l c r : Int) (h : st.toInt = l * 256 + c * 2 + r) (hl : 0 ≤ l ∧ l ≤ 10) (hc : 0 ≤ c ∧ c ≤ 10) (hr : 0 ≤ r ∧ r ≤ 1) :
    (((st).toUInt32 >>> ((8 : Int32) &&& 31).toUInt32).toInt32).toInt = l ∧ ((((st).toUInt32 >>> ((1 : Int32) &&& 31).toUInt32).toInt32 &&& (127 : Int32))).toInt = c ∧ (st &&& (1 : Int32)).toInt = r := by
  have a := c_iushr st 8 8 (by decide) (by decide)
  have b := c_iushr st 1 1 (by decide) (by decide)
  have m := c_mask (((st).toUInt32 >>> ((1 : Int32) &&& 31).toUInt32).toInt32) 127 7 (by decide) (by decide)
  have n := c_mask st 1 1 (by decide) (by decide)
  refine ⟨?_, ?_, ?_⟩
  · rw [a]; omega
  · rw [m, b]; omega
  · rw [n]; omega
theorem own_pack (L C R : Int32) (hl : 0 ≤ L.toInt ∧ L.toInt ≤ 20) (hc : 0 ≤ C.toInt ∧ C.toInt ≤ 20) (hr : 0 ≤ R.toInt ∧ R.toInt ≤ 1) : (((L <<< ((8 : Int32) &&& 31)) ||| (C <<< ((1 : Int32) &&& 31))) ||| R).toInt = L.toInt * 256 + C.toInt * 2 + R.toInt := by
  have s1 := c_ishl L 8 8 (by decide)
  have s2 := c_ishl C 1 1 (by decide)
  have r1 := rng32 (L <<< ((8 : Int32) &&& 31))
  have r2 := rng32 (C <<< ((1 : Int32) &&& 31))
  generalize L <<< ((8 : Int32) &&& 31) = A at *
  generalize C <<< ((1 : Int32) &&& 31) = B at *
  have o1 := c_or A B 8 (by decide) 256 rfl (by omega) (by omega) (by omega)
  have r3 := rng32 (A ||| B)
  have o2 := c_or (A ||| B) R 1 (by decide) 2 rfl (by omega) (by omega) (by omega)
  have r4 := rng32 (A ||| B ||| R)
  omega
theorem own_inc (x : Int32) (h : 0 ≤ x.toInt ∧ x.toInt ≤ 20) : (x + (1 : Int32)).toInt = x.toInt + 1 := by
  have := c_iadd x 1
  have e : (1 : Int32).toInt = 1 := rfl
  have r := rng32 (x + 1)
  omega
/-- one sign -/
theorem own_step (st ch : Int32) (l c r : Int) (h : st.toInt = l * 256 + c * 2 + r) (hl : 0 ≤ l ∧ l ≤ 10) (hc : 0 ≤ c ∧ c ≤ 10) (hr : 0 ≤ r ∧ r ≤ 1) :
    (ch = 13 → (own_f10 st ch).toInt = (l + 1) * 256 + 1 * 2 + 1) ∧ (ch = 10 → r = 0 → (own_f10 st ch).toInt = (l + 1) * 256 + 1 * 2) ∧ (ch = 10 → r = 1 → (own_f10 st ch).toInt = l * 256 + 1 * 2) ∧ (¬ ch = 13 → ¬ ch = 10 → (own_f10 st ch).toInt = l * 256 + (c + 1) * 2) := by
  obtain ⟨p1, p2, p3⟩ := own_parts st l c r h hl hc hr
  unfold own_f10
  generalize ((st).toUInt32 >>> ((8 : Int32) &&& 31).toUInt32).toInt32 = L at *
  generalize (((st).toUInt32 >>> ((1 : Int32) &&& 31).toUInt32).toInt32 &&& (127 : Int32)) = C at *
  have e1 : (1 : Int32).toInt = 1 := rfl
  have e0 : (0 : Int32).toInt = 0 := rfl
  have iL := own_inc L (by omega)
  have iC := own_inc C (by omega)
  refine ⟨fun q => ?_, fun q q' => ?_, fun q q' => ?_, fun q q' => ?_⟩
  · subst q
    have a : own_m10_64_l2 13 L (own_m10_23_s0 st) = L + 1 := by unfold own_m10_64_l2; rw [if_pos rfl]
    have b : own_m10_64_l3 13 C = 1 := by unfold own_m10_64_l3; rw [if_pos rfl]
    have d : own_m10_83_s0 13 = 1 := by unfold own_m10_83_s0; rw [if_pos rfl]
    rw [a, b, d, own_pack _ _ _ (by omega) (by omega) (by omega)]; omega
  · subst q
    have z : own_m10_23_s0 st = 0 := by unfold own_m10_23_s0; rw [if_pos (Int32.toInt_inj.mp (by omega))]
    have a : own_m10_64_l2 10 L (own_m10_23_s0 st) = L + 1 := by unfold own_m10_64_l2 own_m10_55_l2; rw [if_neg (by decide), if_pos rfl, if_pos z]
    have b : own_m10_64_l3 10 C = 1 := by unfold own_m10_64_l3; rw [if_neg (by decide), if_pos rfl]
    have d : own_m10_83_s0 10 = 0 := by unfold own_m10_83_s0; rw [if_neg (by decide)]
    rw [a, b, d, own_pack _ _ _ (by omega) (by omega) (by omega)]; omega
  · subst q
    have z : ¬ own_m10_23_s0 st = 0 := by
      unfold own_m10_23_s0; rw [if_neg (fun w => by rw [w] at p3; omega)]; decide
    have a : own_m10_64_l2 10 L (own_m10_23_s0 st) = L := by unfold own_m10_64_l2 own_m10_55_l2; rw [if_neg (by decide), if_pos rfl, if_neg z]
    have b : own_m10_64_l3 10 C = 1 := by unfold own_m10_64_l3; rw [if_neg (by decide), if_pos rfl]
    have d : own_m10_83_s0 10 = 0 := by unfold own_m10_83_s0; rw [if_neg (by decide)]
    rw [a, b, d, own_pack _ _ _ (by omega) (by omega) (by omega)]; omega
  · have a : own_m10_64_l2 ch L (own_m10_23_s0 st) = L := by unfold own_m10_64_l2; rw [if_neg q, if_neg q']
    have b : own_m10_64_l3 ch C = C + 1 := by unfold own_m10_64_l3; rw [if_neg q, if_neg q']
    have d : own_m10_83_s0 ch = 0 := by unfold own_m10_83_s0; rw [if_neg q]
    rw [a, b, d, own_pack _ _ _ (by omega) (by omega) (by omega)]; omega
theorem own_agree (ln : Int32) (ps ls : Int64) (cr st : Int32) (b : Int) (I : own_Inv ln ps ls cr st b) (hb : b ≤ 8) : own_f5 st ln ps ls = 1 := by
  obtain ⟨i1, i2, i3, i4, i5, i6, i7, i8⟩ := I
  obtain ⟨p1, p2, -⟩ := own_parts st ln.toInt (ps.toInt - ls.toInt + 1) cr.toInt i8 (by omega) (by omega) (by omega)
  unfold own_f5
  rw [if_pos (Int32.toInt_inj.mp (by omega)), if_pos]
  apply Int32.toInt_inj.mp
  rw [p2]
  unfold own_f7
  have s := c_lsub ps ls
  have r := rng64 (ps - ls)
  have t := c_l2i (ps - ls)
  have r2 := rng32 (ps - ls).toInt32
  rw [own_inc _ (by omega)]
  omega
theorem own_ls (ps x : Int64) (h : 0 ≤ ps.toInt ∧ ps.toInt ≤ 20) : ((ps + x) - x + (1 : Int64)).toInt = ps.toInt + 1 := by
  rw [Int64.add_sub_cancel]
  have := c_ladd ps 1
  have e : (1 : Int64).toInt = 1 := rfl
  have r := rng64 (ps + 1)
  omega
theorem own_ls2 (ps : Int64) (q : Int32) (h : 0 ≤ ps.toInt ∧ ps.toInt ≤ 20) (hq : ¬ q < (0 : Int32) ∧ q < (4 : Int32)) : ((ps + (q + (1 : Int32)).toInt64) - q.toInt64 + (1 : Int64)).toInt = ps.toInt + 2 := by
  have s := own_s1 hq
  have a := c_i2l (q + 1)
  have b := c_i2l q
  have e : (1 : Int64).toInt = 1 := rfl
  have c1 := c_ladd ps (q + 1).toInt64
  have r1 := rng64 (ps + (q + 1).toInt64)
  have c2 := c_lsub (ps + (q + 1).toInt64) q.toInt64
  have r2 := rng64 (ps + (q + 1).toInt64 - q.toInt64)
  have c3 := c_ladd (ps + (q + 1).toInt64 - q.toInt64) 1
  have r3 := rng64 (ps + (q + 1).toInt64 - q.toInt64 + 1)
  omega
theorem own_pass (p2 p3 : Int32) (ws : List Int32) (ln : Int32) (ps ls : Int64) (cr st : Int32) (b : Int) (hcn : p3 = (0 : Int32) ∨ p3 = (1 : Int32) ∨ p3 = (2 : Int32)) (hrg : ¬ p2 < (0 : Int32) ∧ p2 < (4 : Int32)) (I : own_Inv ln ps ls cr st b) (hb : b ≤ 4) :
    own_Inv (own_p8_line p2 p3 ws ln cr) (own_p8_passed p3 ps) (own_p8_lineStart p2 p3 ws ps ls) (own_p8_afterCarriageReturn p2 p3 ws cr) (own_f9 st p2 p3 ws) (b + 2) := by
  have I0 := I
  obtain ⟨i1, i2, i3, i4, i5, i6, i7, i8⟩ := I
  have e0 : (0 : Int32).toInt = 0 := rfl
  have e1 : (1 : Int32).toInt = 1 := rfl
  have E1 : (1 : Int64).toInt = 1 := rfl
  have nb0 : nar .boolean (0 : Int32) = 0 := by decide
  have nb1 : nar .boolean (1 : Int32) = 1 := by decide
  have iL := own_inc ln (by omega)
  have iLL := own_inc (ln + 1) (by omega)
  have l1 := own_ls ps p2.toInt64 (by omega)
  have l2 := own_ls2 ps p2 (by omega) hrg
  have cr01 : cr = 0 ∨ cr = 1 := by
    rcases (by omega : cr.toInt = 0 ∨ cr.toInt = 1) with h | h
    · exact Or.inl (Int32.toInt_inj.mp h)
    · exact Or.inr (Int32.toInt_inj.mp h)
  rcases hcn with rfl | rfl | rfl
  · have f : own_f9 st p2 0 ws = st := by unfold own_f9; rw [if_neg (by decide), if_neg (by decide)]
    have g1 : own_p8_line p2 0 ws ln cr = ln := by unfold own_p8_line; rw [if_pos rfl]
    have g2 : own_p8_lineStart p2 0 ws ps ls = ls := by unfold own_p8_lineStart; rw [if_pos rfl]
    have g3 : own_p8_afterCarriageReturn p2 0 ws cr = cr := by unfold own_p8_afterCarriageReturn; rw [if_pos rfl]
    have g4 : own_p8_passed 0 ps = ps := by unfold own_p8_passed; exact Int64.add_zero ps
    rw [f, g1, g2, g3, g4]
    exact ⟨i1, by omega, i3, i4, by omega, i6, i7, i8⟩
  · have f : own_f9 st p2 1 ws = own_f10 st (ws.getD p2.toNatClampNeg 0) := by unfold own_f9; rw [if_pos (by decide), if_neg (by decide)]
    have g4 : (own_p8_passed 1 ps).toInt = ps.toInt + 1 := by
      unfold own_p8_passed
      have a := c_ladd ps (1 : Int32).toInt64
      have c := c_i2l 1
      have r := rng64 (ps + (1 : Int32).toInt64)
      omega
    have g3 : own_p8_afterCarriageReturn p2 1 ws cr = nar .boolean (if ws.getD p2.toNatClampNeg 0 = 13 then 1 else 0) := by
      unfold own_p8_afterCarriageReturn own_m8_129_s0; rw [if_neg (by decide), own_back]
    have S := own_step st (ws.getD p2.toNatClampNeg 0) _ _ _ i8 (by omega) (by omega) (by omega)
    rw [f, g3]
    unfold own_Inv
    rw [g4]
    unfold own_p8_line own_p8_lineStart
    rw [if_neg (by decide : ¬ (1 : Int32) = 0), if_pos rfl, if_neg (by decide : ¬ (1 : Int32) = 0), if_pos rfl]
    generalize ws.getD p2.toNatClampNeg 0 = c0 at *
    by_cases h10 : c0 = 10
    · have h13 : ¬ c0 = 13 := by rw [h10]; decide
      simp only [if_pos h10, if_neg h13, nb0]
      rcases cr01 with k | k
      · have s := S.2.1 h10 (by rw [k]; rfl)
        simp only [if_pos k]
        omega
      · have s := S.2.2.1 h10 (by rw [k]; rfl)
        simp only [if_neg (by rw [k]; decide : ¬ cr = 0)]
        omega
    · by_cases h13 : c0 = 13
      · have s := S.1 h13
        simp only [if_neg h10, if_pos h13, nb1]
        omega
      · have s := S.2.2.2 h13 h10
        simp only [if_neg h10, if_neg h13, nb0]
        omega
  · have f : own_f9 st p2 2 ws = own_f10 (own_f10 st (ws.getD p2.toNatClampNeg 0)) (ws.getD (p2 + 1).toNatClampNeg 0) := by unfold own_f9; rw [if_pos (by decide), if_pos (by decide)]
    have g4 : (own_p8_passed 2 ps).toInt = ps.toInt + 2 := by
      unfold own_p8_passed
      have a := c_ladd ps (2 : Int32).toInt64
      have c := c_i2l 2
      have e2 : (2 : Int32).toInt = 2 := rfl
      have r := rng64 (ps + (2 : Int32).toInt64)
      omega
    have g3 : own_p8_afterCarriageReturn p2 2 ws cr = nar .boolean (if ws.getD (p2 + 1).toNatClampNeg 0 = 13 then 1 else 0) := by
      unfold own_p8_afterCarriageReturn own_m8_129_s0; rw [if_neg (by decide), own_back2]
    have g5 : own_m8_60_s0 ws (p2 + 1) = if ws.getD p2.toNatClampNeg 0 = 13 then 1 else 0 := by
      unfold own_m8_60_s0; rw [own_back]
    have S := own_step st (ws.getD p2.toNatClampNeg 0) _ _ _ i8 (by omega) (by omega) (by omega)
    have S2 := fun (l c r : Int) (h : (own_f10 st (ws.getD p2.toNatClampNeg 0)).toInt = l * 256 + c * 2 + r) hl hc hr => own_step (own_f10 st (ws.getD p2.toNatClampNeg 0)) (ws.getD (p2 + 1).toNatClampNeg 0) l c r h hl hc hr
    rw [f, g3]
    unfold own_Inv
    rw [g4]
    unfold own_p8_line own_p8_lineStart
    simp only [if_neg (by decide : ¬ (2 : Int32) = 0), if_neg (by decide : ¬ (2 : Int32) = 1), g5]
    generalize own_f10 st (ws.getD p2.toNatClampNeg 0) = s1 at *
    generalize ws.getD p2.toNatClampNeg 0 = c0 at *
    generalize ws.getD (p2 + 1).toNatClampNeg 0 = c1 at *
    have n13 : ¬ (10 : Int32) = 13 := by decide
    have n10 : ¬ (13 : Int32) = 10 := by decide
    by_cases h10 : c0 = 10
    · have h13 : ¬ c0 = 13 := by rw [h10]; decide
      rcases cr01 with k | k
      · have s := S.2.1 h10 (by rw [k]; rfl)
        have T := S2 (ln.toInt + 1) 1 0 (by omega) (by omega) (by omega) (by omega)
        by_cases j10 : c1 = 10
        · have j13 : ¬ c1 = 13 := by rw [j10]; decide
          have t := T.2.1 j10 rfl
          simp only [if_pos h10, if_neg h13, if_pos k, if_pos j10, if_neg j13, nb0, if_true]
          omega
        · by_cases j13 : c1 = 13
          · have t := T.1 j13
            simp only [if_pos h10, if_neg h13, if_pos k, if_neg j10, if_pos j13, nb1]
            omega
          · have t := T.2.2.2 j13 j10
            simp only [if_pos h10, if_neg h13, if_pos k, if_neg j10, if_neg j13, nb0]
            omega
      · have k' : ¬ cr = 0 := by rw [k]; decide
        have s := S.2.2.1 h10 (by rw [k]; rfl)
        have T := S2 ln.toInt 1 0 (by omega) (by omega) (by omega) (by omega)
        by_cases j10 : c1 = 10
        · have j13 : ¬ c1 = 13 := by rw [j10]; decide
          have t := T.2.1 j10 rfl
          simp only [if_pos h10, if_neg h13, if_neg k', if_pos j10, if_neg j13, nb0, if_true]
          omega
        · by_cases j13 : c1 = 13
          · have t := T.1 j13
            simp only [if_pos h10, if_neg h13, if_neg k', if_neg j10, if_pos j13, nb1]
            omega
          · have t := T.2.2.2 j13 j10
            simp only [if_pos h10, if_neg h13, if_neg k', if_neg j10, if_neg j13, nb0]
            omega
    · by_cases h13 : c0 = 13
      · have s := S.1 h13
        have T := S2 (ln.toInt + 1) 1 1 (by omega) (by omega) (by omega) (by omega)
        by_cases j10 : c1 = 10
        · have j13 : ¬ c1 = 13 := by rw [j10]; decide
          have t := T.2.2.1 j10 rfl
          simp only [if_neg h10, if_pos h13, if_pos j10, if_neg j13, nb0, if_neg (by decide : ¬ (1 : Int32) = 0)]
          omega
        · by_cases j13 : c1 = 13
          · have t := T.1 j13
            simp only [if_neg h10, if_pos h13, if_neg j10, if_pos j13, nb1]
            omega
          · have t := T.2.2.2 j13 j10
            simp only [if_neg h10, if_pos h13, if_neg j10, if_neg j13, nb0]
            omega
      · have s := S.2.2.2 h13 h10
        have T := S2 ln.toInt (ps.toInt - ls.toInt + 1 + 1) 0 (by omega) (by omega) (by omega) (by omega)
        by_cases j10 : c1 = 10
        · have j13 : ¬ c1 = 13 := by rw [j10]; decide
          have t := T.2.1 j10 rfl
          simp only [if_neg h10, if_neg h13, if_pos j10, if_neg j13, nb0, if_true]
          omega
        · by_cases j13 : c1 = 13
          · have t := T.1 j13
            simp only [if_neg h10, if_neg h13, if_neg j10, if_pos j13, nb1]
            omega
          · have t := T.2.2.2 j13 j10
            simp only [if_neg h10, if_neg h13, if_neg j10, if_neg j13, nb0]
            omega
/-- how many, and from where -/
theorem own_cnt {y : Int32} (n : Int32) (hn : n = (y &&& (3 : Int32)) % (3 : Int32)) : n = (0 : Int32) ∨ n = (1 : Int32) ∨ n = (2 : Int32) := by
  have h1 := c_mask y 3 2 (by decide) (by decide)
  have h2 := (c_irem (y &&& (3 : Int32)) (3 : Int32) 3 rfl).1 (by omega)
  rw [← hn] at h2
  have h3 : n.toInt = 0 ∨ n.toInt = 1 ∨ n.toInt = 2 := by omega
  simp only [← Int32.toInt_inj]
  exact h3
theorem own_nz {y : Int32} (n : Int32) (hn : n = (y &&& (3 : Int32)) % (3 : Int32)) : (4 : Int32) - n ≠ 0 := by
  rcases own_cnt n hn with rfl | rfl | rfl <;> decide
theorem own_off {y w : Int32} (n o : Int32) (hn : n = (y &&& (3 : Int32)) % (3 : Int32)) (ho : o = (w &&& (3 : Int32)) % ((4 : Int32) - n)) : (¬ o < (0 : Int32) ∧ o < (4 : Int32)) ∧ ((0 : Int32) < n → ¬ o < 0 ∧ o < (3 : Int32)) ∧ ((1 : Int32) < n → ¬ (o + (1 : Int32)) < 0 ∧ (o + (1 : Int32)) < (3 : Int32)) := by
  have h1 := c_mask w 3 2 (by decide) (by decide)
  have e0 : (0 : Int32).toInt = 0 := rfl
  have e1 : (1 : Int32).toInt = 1 := rfl
  have e2 : (2 : Int32).toInt = 2 := rfl
  have e3 : (3 : Int32).toInt = 3 := rfl
  have e4 : (4 : Int32).toInt = 4 := rfl
  have ci := c_iadd o 1
  have ri := rng32 (o + 1)
  rcases own_cnt n hn with rfl | rfl | rfl
  · have h2 := (c_irem (w &&& (3 : Int32)) ((4 : Int32) - 0) 4 rfl).1 (by omega)
    rw [← ho] at h2
    simp only [Int32.lt_iff_toInt_lt]
    omega
  · have h2 := (c_irem (w &&& (3 : Int32)) ((4 : Int32) - 1) 3 rfl).1 (by omega)
    rw [← ho] at h2
    simp only [Int32.lt_iff_toInt_lt]
    omega
  · have h2 := (c_irem (w &&& (3 : Int32)) ((4 : Int32) - 2) 2 rfl).1 (by omega)
    rw [← ho] at h2
    simp only [Int32.lt_iff_toInt_lt]
    omega

def Q0 (Z : State) (q0 : Int64) (q1 : Int64) (p2 : Int32) (h0 : Heap) (n0 : Nat) (v : Option Value) (h : Heap) (L : List Loc) : Prop := v = some (.int (1 : Int32)) ∧ Fr n0 L
set_option maxRecDepth 65536 in
set_option maxHeartbeats 40000000 in
theorem rm0 (l : Launch) (Z : State) (aw : Array Value) (hw : ∀ d ∈ tables_1, d.before aw Z = true) (wq : List Jvm.Cond) (q0 : Int64) (q1 : Int64) (p2 : Int32) (h0 : Heap) (n0 : Nat) (Z0 : n0 ≤ h0.size) :
    MetFree l x (head1 (Jvm.Cond.code x code maxLocals ret :: wq) room_1) (fun a U => a = #[(.long q0), (.long q1), (.int p2)] ∧ Z.Warmed39 U.vm ∧ U.heap = h0) (fun _ _ _ _ _ => True) (fun _ U o U' => ∃ v L, o = .returned v ∧ Q0 Z q0 q1 p2 h0 n0 v U'.heap L ∧ FrameEnd U o U' L 4 13) := by
  refine MetFree.of_bodySF (plainFor_of_name pn_0) hisR ?_
  intro p e s m args below meth c s₁ Bd hml0 hP hK
  obtain ⟨rfl, hZ, hh⟩ := hP
  have hx := Bd.exec
  have hby := Bd.bytes
  have hml : c.maxLocals = 16 := hml0
  have hown : s.vm.findClass "com/example/trawl/trawl/dtd/TextPositionPassPinLaw" = some m.cls := findClass_of_methodNamed Bd.named
  have hnm := (name_of_methodNamed Bd.named Bd.method).1
  have X0 : Stand p l e room_1 s m #[(.long q0), (.long q1), (.int p2)] below meth c s₁ [] 0 0 := Stand.of_body Bd
  have e0 : s₁.heap = h0 := by rw [← hh, Bd.state]; rfl
  have N0 := Fr.nil n0
  have pre0 : own_Pre p e below (s₁.setTop (entryFrame m #[(.long q0), (.long q1), (.int p2)] maxLocals)) (s₁.setTop (mkF m 0 #[.val (.long q0), .second, .val (.long q1), .second, .val (.int p2), .unset, .unset, .unset, .unset, .unset, .unset, .unset, .unset, .unset, .unset, .unset] [])) := fun t k => castTop (ef_0 m q0 q1 p2) k
  obtain ⟨T1, h1, k1, X1, e1, E1, A1, st1⟩ := newP X0 hx hZ (hw _ (List.mem_of_getElem? (i := 0) rfl)) e0 (g := (mkF m 1 #[.val (.long q0), .second, .val (.long q1), .second, .val (.int p2), .unset, .unset, .unset, .unset, .unset, .unset, .unset, .unset, .unset, .unset, .unset] [(.int (3 : Int32))])) rfl (hb hby at_1) rfl (by decide) (cap := 3) (by decide) (by decide) (by decide) (by decide)
  obtain ⟨b1, gq1⟩ : ∃ z, z = (h0).size := ⟨_, rfl⟩
  rw [← gq1] at A1 st1
  have g_b1 : n0 ≤ b1 := Nat.le_trans Z0 (Nat.le_of_eq gq1.symm)
  have V_b1 : own_AI Z h1 b1 k1 .char (3 : Int32) (List.replicate 3 (0 : Int32)) := own_AI.new 3 A1 (by decide) (by decide) rfl
  have z3 : n0 ≤ (h1).size := (Nat.le_trans Z0 E1.1)
  obtain ⟨T2, h2, k2, X2, e2, E2, A2, st2⟩ := newP X1 hx hZ (hw _ (List.mem_of_getElem? (i := 0) rfl)) e1 (g := (mkF m 6 #[.val (.long q0), .second, .val (.long q1), .second, .val (.int p2), .val (.ref b1), .unset, .unset, .unset, .unset, .unset, .unset, .unset, .unset, .unset, .unset] [(.int (3 : Int32))])) rfl (hb hby at_6) rfl (by decide) (cap := 3) (by decide) (by decide) (by decide) (by decide)
  obtain ⟨b2, gq2⟩ : ∃ z, z = (h1).size := ⟨_, rfl⟩
  rw [← gq2] at A2 st2
  have ne_b1_b2 : b1 ≠ b2 := Nat.ne_of_lt (Nat.lt_of_lt_of_le V_b1.lt (Nat.le_of_eq gq2.symm))
  have g_b2 : n0 ≤ b2 := Nat.le_trans z3 (Nat.le_of_eq gq2.symm)
  have V_b2 : own_AI Z h2 b2 k2 .char (3 : Int32) (List.replicate 3 (0 : Int32)) := own_AI.new 3 A2 (by decide) (by decide) rfl
  have z5 : n0 ≤ (h2).size := (Nat.le_trans z3 E2.1)
  obtain ⟨T4, h4, k4, X4, e4, E4, A4, st4⟩ := newP X2 hx hZ (hw _ (List.mem_of_getElem? (i := 0) rfl)) e2 (g := (mkF m 11 #[.val (.long q0), .second, .val (.long q1), .second, .val (.int p2), .val (.ref b1), .val (.ref b2), .unset, .unset, .unset, .unset, .unset, .unset, .unset, .unset, .unset] [(.int (3 : Int32))])) rfl (hb hby at_11) rfl (by decide) (cap := 3) (by decide) (by decide) (by decide) (by decide)
  obtain ⟨b4, gq4⟩ : ∃ z, z = (h2).size := ⟨_, rfl⟩
  rw [← gq4] at A4 st4
  have f6 := (V_b1.ext E2)
  have ne_b1_b4 : b1 ≠ b4 := Nat.ne_of_lt (Nat.lt_of_lt_of_le f6.lt (Nat.le_of_eq gq4.symm))
  have ne_b2_b4 : b2 ≠ b4 := Nat.ne_of_lt (Nat.lt_of_lt_of_le V_b2.lt (Nat.le_of_eq gq4.symm))
  have g_b4 : n0 ≤ b4 := Nat.le_trans z5 (Nat.le_of_eq gq4.symm)
  have V_b4 : own_AI Z h4 b4 k4 .char (3 : Int32) (List.replicate 3 (0 : Int32)) := own_AI.new 3 A4 (by decide) (by decide) rfl
  have z8 : n0 ≤ (h4).size := (Nat.le_trans z5 E4.1)
  obtain ⟨_, _, ⟨T7, L7, k7, n7⟩, -, X7, ⟨Lc7, hQ7, l7, y7, z7⟩, st7⟩ := Jvm.LawKit.callS X4 hx (y := (⟨"com/example/trawl/trawl/dtd/TextPositionPassPinLaw", "ch", "(JI)C"⟩ : MethodName)) hown (mvT hZ (hw _ (List.mem_of_getElem? (i := 1) rfl))) (mvT hZ (hw _ (List.mem_of_getElem? (i := 2) rfl))) (mvT hZ (hw _ (List.mem_of_getElem? (i := 3) rfl))) (mvT hZ (hw _ (List.mem_of_getElem? (i := 4) rfl))) (by decide) (backOf (W := 2) (rm1 l Z aw hw [] (q0) ((0 : Int32)) (h4) n0 z8) hZ (hw _ (List.mem_of_getElem? (i := 4) rfl)) (hw _ (List.mem_of_getElem? (i := 3) rfl)) (by decide) (by decide)) (g := (mkF m 20 #[.val (.long q0), .second, .val (.long q1), .second, .val (.int p2), .val (.ref b1), .val (.ref b2), .val (.ref b4), .unset, .unset, .unset, .unset, .unset, .unset, .unset, .unset] [(.int (0 : Int32)), (.long q0), (.int (0 : Int32)), (.ref b1)])) rfl (by rw [hml]; rfl) (argsL := [(.long q0), (.int (0 : Int32))]) (rest := [(.int (0 : Int32)), (.ref b1)]) (lenOf pd_3 rfl) rfl (by show 2 * 0 + _ ≤ _; exact Nat.le_of_eq rfl) (hb hby at_20) (fun _ _ => ⟨rfl, e4, (by decide : 3 + 0 ≤ _), (by decide : 9 + 0 ≤ _)⟩)
  dsimp only [Pt.U, Pt.locs, Pt.cells, Pt.slots] at X7 l7 y7 z7 st7 hQ7
  rw [l7, y7, z7] at X7
  obtain ⟨rfl, Nq7, eq7⟩ := hQ7
  have N7 := Fr.app N0 Nq7
  have f9 := (f6.ext E4)
  obtain ⟨cl10, Ar10, hin10, set10⟩ := own_AI.arr f9 (j := (0 : Int32)) ⟨by decide, by decide⟩
  obtain ⟨T10, h10, X10, e10, W10, st10⟩ := stC X7 hx hZ eq7 Ar10 (j := (0 : Int32)) hin10 (g := (mkF m 23 #[.val (.long q0), .second, .val (.long q1), .second, .val (.int p2), .val (.ref b1), .val (.ref b2), .val (.ref b4), .unset, .unset, .unset, .unset, .unset, .unset, .unset, .unset] [(.int (own_f1 q0 ((0 : Int32)))), (.int (0 : Int32)), (.ref b1)])) rfl rfl (hb hby at_23)
  have V10 : own_AI Z h10 b1 k1 .char (3 : Int32) ((List.replicate 3 (0 : Int32)).set 0 (nar .char (own_f1 q0 ((0 : Int32))))) := set10 _ _ (fits_nar_char _) W10
  obtain ⟨ws10, hws10⟩ : ∃ z, z = ((List.replicate 3 (0 : Int32)).set 0 (nar .char (own_f1 q0 ((0 : Int32))))) := ⟨_, rfl⟩
  rw [← hws10] at V10
  have N10 := Fr.snoc X10 N7 g_b1
  have z12 : n0 ≤ (h10).size := (Nat.le_trans z8 (Keep.of_wr W10).1)
  obtain ⟨_, _, ⟨T11, L11, k11, n11⟩, -, X11, ⟨Lc11, hQ11, l11, y11, z11⟩, st11⟩ := Jvm.LawKit.callS X10 hx (y := (⟨"com/example/trawl/trawl/dtd/TextPositionPassPinLaw", "ch", "(JI)C"⟩ : MethodName)) hown (mvT hZ (hw _ (List.mem_of_getElem? (i := 1) rfl))) (mvT hZ (hw _ (List.mem_of_getElem? (i := 2) rfl))) (mvT hZ (hw _ (List.mem_of_getElem? (i := 3) rfl))) (mvT hZ (hw _ (List.mem_of_getElem? (i := 4) rfl))) (by decide) (backOf (W := 2) (rm1 l Z aw hw [] (q0) ((1 : Int32)) (h10) n0 z12) hZ (hw _ (List.mem_of_getElem? (i := 4) rfl)) (hw _ (List.mem_of_getElem? (i := 3) rfl)) (by decide) (by decide)) (g := (mkF m 29 #[.val (.long q0), .second, .val (.long q1), .second, .val (.int p2), .val (.ref b1), .val (.ref b2), .val (.ref b4), .unset, .unset, .unset, .unset, .unset, .unset, .unset, .unset] [(.int (1 : Int32)), (.long q0), (.int (1 : Int32)), (.ref b1)])) rfl (by rw [hml]; rfl) (argsL := [(.long q0), (.int (1 : Int32))]) (rest := [(.int (1 : Int32)), (.ref b1)]) (lenOf pd_3 rfl) rfl (by show 2 * 0 + _ ≤ _; exact Nat.le_of_eq rfl) (hb hby at_29) (fun _ _ => ⟨rfl, e10, (by decide : 3 + 0 ≤ _), (by decide : 9 + 0 ≤ _)⟩)
  dsimp only [Pt.U, Pt.locs, Pt.cells, Pt.slots] at X11 l11 y11 z11 st11 hQ11
  rw [l11, y11, z11] at X11
  obtain ⟨rfl, Nq11, eq11⟩ := hQ11
  have N11 := Fr.app N10 Nq11
  obtain ⟨cl13, Ar13, hin13, set13⟩ := own_AI.arr V10 (j := (1 : Int32)) ⟨by decide, by decide⟩
  obtain ⟨T13, h13, X13, e13, W13, st13⟩ := stC X11 hx hZ eq11 Ar13 (j := (1 : Int32)) hin13 (g := (mkF m 32 #[.val (.long q0), .second, .val (.long q1), .second, .val (.int p2), .val (.ref b1), .val (.ref b2), .val (.ref b4), .unset, .unset, .unset, .unset, .unset, .unset, .unset, .unset] [(.int (own_f1 q0 ((1 : Int32)))), (.int (1 : Int32)), (.ref b1)])) rfl rfl (hb hby at_32)
  have V13 : own_AI Z h13 b1 k1 .char (3 : Int32) (ws10.set 1 (nar .char (own_f1 q0 ((1 : Int32))))) := set13 _ _ (fits_nar_char _) W13
  obtain ⟨ws13, hws13⟩ : ∃ z, z = (ws10.set 1 (nar .char (own_f1 q0 ((1 : Int32))))) := ⟨_, rfl⟩
  rw [← hws13] at V13
  have N13 := Fr.snoc X13 N11 g_b1
  have z15 : n0 ≤ (h13).size := (Nat.le_trans z12 (Keep.of_wr W13).1)
  obtain ⟨_, _, ⟨T14, L14, k14, n14⟩, -, X14, ⟨Lc14, hQ14, l14, y14, z14⟩, st14⟩ := Jvm.LawKit.callS X13 hx (y := (⟨"com/example/trawl/trawl/dtd/TextPositionPassPinLaw", "ch", "(JI)C"⟩ : MethodName)) hown (mvT hZ (hw _ (List.mem_of_getElem? (i := 1) rfl))) (mvT hZ (hw _ (List.mem_of_getElem? (i := 2) rfl))) (mvT hZ (hw _ (List.mem_of_getElem? (i := 3) rfl))) (mvT hZ (hw _ (List.mem_of_getElem? (i := 4) rfl))) (by decide) (backOf (W := 2) (rm1 l Z aw hw [] (q0) ((2 : Int32)) (h13) n0 z15) hZ (hw _ (List.mem_of_getElem? (i := 4) rfl)) (hw _ (List.mem_of_getElem? (i := 3) rfl)) (by decide) (by decide)) (g := (mkF m 38 #[.val (.long q0), .second, .val (.long q1), .second, .val (.int p2), .val (.ref b1), .val (.ref b2), .val (.ref b4), .unset, .unset, .unset, .unset, .unset, .unset, .unset, .unset] [(.int (2 : Int32)), (.long q0), (.int (2 : Int32)), (.ref b1)])) rfl (by rw [hml]; rfl) (argsL := [(.long q0), (.int (2 : Int32))]) (rest := [(.int (2 : Int32)), (.ref b1)]) (lenOf pd_3 rfl) rfl (by show 2 * 0 + _ ≤ _; exact Nat.le_of_eq rfl) (hb hby at_38) (fun _ _ => ⟨rfl, e13, (by decide : 3 + 0 ≤ _), (by decide : 9 + 0 ≤ _)⟩)
  dsimp only [Pt.U, Pt.locs, Pt.cells, Pt.slots] at X14 l14 y14 z14 st14 hQ14
  rw [l14, y14, z14] at X14
  obtain ⟨rfl, Nq14, eq14⟩ := hQ14
  have N14 := Fr.app N13 Nq14
  obtain ⟨cl16, Ar16, hin16, set16⟩ := own_AI.arr V13 (j := (2 : Int32)) ⟨by decide, by decide⟩
  obtain ⟨T16, h16, X16, e16, W16, st16⟩ := stC X14 hx hZ eq14 Ar16 (j := (2 : Int32)) hin16 (g := (mkF m 41 #[.val (.long q0), .second, .val (.long q1), .second, .val (.int p2), .val (.ref b1), .val (.ref b2), .val (.ref b4), .unset, .unset, .unset, .unset, .unset, .unset, .unset, .unset] [(.int (own_f1 q0 ((2 : Int32)))), (.int (2 : Int32)), (.ref b1)])) rfl rfl (hb hby at_41)
  have V16 : own_AI Z h16 b1 k1 .char (3 : Int32) (ws13.set 2 (nar .char (own_f1 q0 ((2 : Int32))))) := set16 _ _ (fits_nar_char _) W16
  obtain ⟨ws16, hws16⟩ : ∃ z, z = (ws13.set 2 (nar .char (own_f1 q0 ((2 : Int32))))) := ⟨_, rfl⟩
  rw [← hws16] at V16
  have N16 := Fr.snoc X16 N14 g_b1
  have z18 : n0 ≤ (h16).size := (Nat.le_trans z15 (Keep.of_wr W16).1)
  obtain ⟨_, _, ⟨T17, L17, k17, n17⟩, -, X17, ⟨Lc17, hQ17, l17, y17, z17⟩, st17⟩ := Jvm.LawKit.callS X16 hx (y := (⟨"com/example/trawl/trawl/dtd/TextPositionPassPinLaw", "ch", "(JI)C"⟩ : MethodName)) hown (mvT hZ (hw _ (List.mem_of_getElem? (i := 1) rfl))) (mvT hZ (hw _ (List.mem_of_getElem? (i := 2) rfl))) (mvT hZ (hw _ (List.mem_of_getElem? (i := 3) rfl))) (mvT hZ (hw _ (List.mem_of_getElem? (i := 4) rfl))) (by decide) (backOf (W := 2) (rm1 l Z aw hw [] (q0) ((3 : Int32)) (h16) n0 z18) hZ (hw _ (List.mem_of_getElem? (i := 4) rfl)) (hw _ (List.mem_of_getElem? (i := 3) rfl)) (by decide) (by decide)) (g := (mkF m 47 #[.val (.long q0), .second, .val (.long q1), .second, .val (.int p2), .val (.ref b1), .val (.ref b2), .val (.ref b4), .unset, .unset, .unset, .unset, .unset, .unset, .unset, .unset] [(.int (3 : Int32)), (.long q0), (.int (0 : Int32)), (.ref b2)])) rfl (by rw [hml]; rfl) (argsL := [(.long q0), (.int (3 : Int32))]) (rest := [(.int (0 : Int32)), (.ref b2)]) (lenOf pd_3 rfl) rfl (by show 2 * 0 + _ ≤ _; exact Nat.le_of_eq rfl) (hb hby at_47) (fun _ _ => ⟨rfl, e16, (by decide : 3 + 0 ≤ _), (by decide : 9 + 0 ≤ _)⟩)
  dsimp only [Pt.U, Pt.locs, Pt.cells, Pt.slots] at X17 l17 y17 z17 st17 hQ17
  rw [l17, y17, z17] at X17
  obtain ⟨rfl, Nq17, eq17⟩ := hQ17
  have N17 := Fr.app N16 Nq17
  have f19 := ((((V_b2.ext E4).other W10 (Ne.symm ne_b1_b2)).other W13 (Ne.symm ne_b1_b2)).other W16 (Ne.symm ne_b1_b2))
  obtain ⟨cl20, Ar20, hin20, set20⟩ := own_AI.arr f19 (j := (0 : Int32)) ⟨by decide, by decide⟩
  obtain ⟨T20, h20, X20, e20, W20, st20⟩ := stC X17 hx hZ eq17 Ar20 (j := (0 : Int32)) hin20 (g := (mkF m 50 #[.val (.long q0), .second, .val (.long q1), .second, .val (.int p2), .val (.ref b1), .val (.ref b2), .val (.ref b4), .unset, .unset, .unset, .unset, .unset, .unset, .unset, .unset] [(.int (own_f1 q0 ((3 : Int32)))), (.int (0 : Int32)), (.ref b2)])) rfl rfl (hb hby at_50)
  have V20 : own_AI Z h20 b2 k2 .char (3 : Int32) ((List.replicate 3 (0 : Int32)).set 0 (nar .char (own_f1 q0 ((3 : Int32))))) := set20 _ _ (fits_nar_char _) W20
  obtain ⟨ws20, hws20⟩ : ∃ z, z = ((List.replicate 3 (0 : Int32)).set 0 (nar .char (own_f1 q0 ((3 : Int32))))) := ⟨_, rfl⟩
  rw [← hws20] at V20
  have N20 := Fr.snoc X20 N17 g_b2
  have z22 : n0 ≤ (h20).size := (Nat.le_trans z18 (Keep.of_wr W20).1)
  obtain ⟨_, _, ⟨T21, L21, k21, n21⟩, -, X21, ⟨Lc21, hQ21, l21, y21, z21⟩, st21⟩ := Jvm.LawKit.callS X20 hx (y := (⟨"com/example/trawl/trawl/dtd/TextPositionPassPinLaw", "ch", "(JI)C"⟩ : MethodName)) hown (mvT hZ (hw _ (List.mem_of_getElem? (i := 1) rfl))) (mvT hZ (hw _ (List.mem_of_getElem? (i := 2) rfl))) (mvT hZ (hw _ (List.mem_of_getElem? (i := 3) rfl))) (mvT hZ (hw _ (List.mem_of_getElem? (i := 4) rfl))) (by decide) (backOf (W := 2) (rm1 l Z aw hw [] (q0) ((4 : Int32)) (h20) n0 z22) hZ (hw _ (List.mem_of_getElem? (i := 4) rfl)) (hw _ (List.mem_of_getElem? (i := 3) rfl)) (by decide) (by decide)) (g := (mkF m 56 #[.val (.long q0), .second, .val (.long q1), .second, .val (.int p2), .val (.ref b1), .val (.ref b2), .val (.ref b4), .unset, .unset, .unset, .unset, .unset, .unset, .unset, .unset] [(.int (4 : Int32)), (.long q0), (.int (1 : Int32)), (.ref b2)])) rfl (by rw [hml]; rfl) (argsL := [(.long q0), (.int (4 : Int32))]) (rest := [(.int (1 : Int32)), (.ref b2)]) (lenOf pd_3 rfl) rfl (by show 2 * 0 + _ ≤ _; exact Nat.le_of_eq rfl) (hb hby at_56) (fun _ _ => ⟨rfl, e20, (by decide : 3 + 0 ≤ _), (by decide : 9 + 0 ≤ _)⟩)
  dsimp only [Pt.U, Pt.locs, Pt.cells, Pt.slots] at X21 l21 y21 z21 st21 hQ21
  rw [l21, y21, z21] at X21
  obtain ⟨rfl, Nq21, eq21⟩ := hQ21
  have N21 := Fr.app N20 Nq21
  obtain ⟨cl23, Ar23, hin23, set23⟩ := own_AI.arr V20 (j := (1 : Int32)) ⟨by decide, by decide⟩
  obtain ⟨T23, h23, X23, e23, W23, st23⟩ := stC X21 hx hZ eq21 Ar23 (j := (1 : Int32)) hin23 (g := (mkF m 59 #[.val (.long q0), .second, .val (.long q1), .second, .val (.int p2), .val (.ref b1), .val (.ref b2), .val (.ref b4), .unset, .unset, .unset, .unset, .unset, .unset, .unset, .unset] [(.int (own_f1 q0 ((4 : Int32)))), (.int (1 : Int32)), (.ref b2)])) rfl rfl (hb hby at_59)
  have V23 : own_AI Z h23 b2 k2 .char (3 : Int32) (ws20.set 1 (nar .char (own_f1 q0 ((4 : Int32))))) := set23 _ _ (fits_nar_char _) W23
  obtain ⟨ws23, hws23⟩ : ∃ z, z = (ws20.set 1 (nar .char (own_f1 q0 ((4 : Int32))))) := ⟨_, rfl⟩
  rw [← hws23] at V23
  have N23 := Fr.snoc X23 N21 g_b2
  have z25 : n0 ≤ (h23).size := (Nat.le_trans z22 (Keep.of_wr W23).1)
  obtain ⟨_, _, ⟨T24, L24, k24, n24⟩, -, X24, ⟨Lc24, hQ24, l24, y24, z24⟩, st24⟩ := Jvm.LawKit.callS X23 hx (y := (⟨"com/example/trawl/trawl/dtd/TextPositionPassPinLaw", "ch", "(JI)C"⟩ : MethodName)) hown (mvT hZ (hw _ (List.mem_of_getElem? (i := 1) rfl))) (mvT hZ (hw _ (List.mem_of_getElem? (i := 2) rfl))) (mvT hZ (hw _ (List.mem_of_getElem? (i := 3) rfl))) (mvT hZ (hw _ (List.mem_of_getElem? (i := 4) rfl))) (by decide) (backOf (W := 2) (rm1 l Z aw hw [] (q0) ((5 : Int32)) (h23) n0 z25) hZ (hw _ (List.mem_of_getElem? (i := 4) rfl)) (hw _ (List.mem_of_getElem? (i := 3) rfl)) (by decide) (by decide)) (g := (mkF m 65 #[.val (.long q0), .second, .val (.long q1), .second, .val (.int p2), .val (.ref b1), .val (.ref b2), .val (.ref b4), .unset, .unset, .unset, .unset, .unset, .unset, .unset, .unset] [(.int (5 : Int32)), (.long q0), (.int (2 : Int32)), (.ref b2)])) rfl (by rw [hml]; rfl) (argsL := [(.long q0), (.int (5 : Int32))]) (rest := [(.int (2 : Int32)), (.ref b2)]) (lenOf pd_3 rfl) rfl (by show 2 * 0 + _ ≤ _; exact Nat.le_of_eq rfl) (hb hby at_65) (fun _ _ => ⟨rfl, e23, (by decide : 3 + 0 ≤ _), (by decide : 9 + 0 ≤ _)⟩)
  dsimp only [Pt.U, Pt.locs, Pt.cells, Pt.slots] at X24 l24 y24 z24 st24 hQ24
  rw [l24, y24, z24] at X24
  obtain ⟨rfl, Nq24, eq24⟩ := hQ24
  have N24 := Fr.app N23 Nq24
  obtain ⟨cl26, Ar26, hin26, set26⟩ := own_AI.arr V23 (j := (2 : Int32)) ⟨by decide, by decide⟩
  obtain ⟨T26, h26, X26, e26, W26, st26⟩ := stC X24 hx hZ eq24 Ar26 (j := (2 : Int32)) hin26 (g := (mkF m 68 #[.val (.long q0), .second, .val (.long q1), .second, .val (.int p2), .val (.ref b1), .val (.ref b2), .val (.ref b4), .unset, .unset, .unset, .unset, .unset, .unset, .unset, .unset] [(.int (own_f1 q0 ((5 : Int32)))), (.int (2 : Int32)), (.ref b2)])) rfl rfl (hb hby at_68)
  have V26 : own_AI Z h26 b2 k2 .char (3 : Int32) (ws23.set 2 (nar .char (own_f1 q0 ((5 : Int32))))) := set26 _ _ (fits_nar_char _) W26
  obtain ⟨ws26, hws26⟩ : ∃ z, z = (ws23.set 2 (nar .char (own_f1 q0 ((5 : Int32))))) := ⟨_, rfl⟩
  rw [← hws26] at V26
  have N26 := Fr.snoc X26 N24 g_b2
  have z28 : n0 ≤ (h26).size := (Nat.le_trans z25 (Keep.of_wr W26).1)
  obtain ⟨_, _, ⟨T27, L27, k27, n27⟩, -, X27, ⟨Lc27, hQ27, l27, y27, z27⟩, st27⟩ := Jvm.LawKit.callS X26 hx (y := (⟨"com/example/trawl/trawl/dtd/TextPositionPassPinLaw", "ch", "(JI)C"⟩ : MethodName)) hown (mvT hZ (hw _ (List.mem_of_getElem? (i := 1) rfl))) (mvT hZ (hw _ (List.mem_of_getElem? (i := 2) rfl))) (mvT hZ (hw _ (List.mem_of_getElem? (i := 3) rfl))) (mvT hZ (hw _ (List.mem_of_getElem? (i := 4) rfl))) (by decide) (backOf (W := 2) (rm1 l Z aw hw [] (q1) ((0 : Int32)) (h26) n0 z28) hZ (hw _ (List.mem_of_getElem? (i := 4) rfl)) (hw _ (List.mem_of_getElem? (i := 3) rfl)) (by decide) (by decide)) (g := (mkF m 74 #[.val (.long q0), .second, .val (.long q1), .second, .val (.int p2), .val (.ref b1), .val (.ref b2), .val (.ref b4), .unset, .unset, .unset, .unset, .unset, .unset, .unset, .unset] [(.int (0 : Int32)), (.long q1), (.int (0 : Int32)), (.ref b4)])) rfl (by rw [hml]; rfl) (argsL := [(.long q1), (.int (0 : Int32))]) (rest := [(.int (0 : Int32)), (.ref b4)]) (lenOf pd_3 rfl) rfl (by show 2 * 0 + _ ≤ _; exact Nat.le_of_eq rfl) (hb hby at_74) (fun _ _ => ⟨rfl, e26, (by decide : 3 + 0 ≤ _), (by decide : 9 + 0 ≤ _)⟩)
  dsimp only [Pt.U, Pt.locs, Pt.cells, Pt.slots] at X27 l27 y27 z27 st27 hQ27
  rw [l27, y27, z27] at X27
  obtain ⟨rfl, Nq27, eq27⟩ := hQ27
  have N27 := Fr.app N26 Nq27
  have f29 := ((((((V_b4.other W10 (Ne.symm ne_b1_b4)).other W13 (Ne.symm ne_b1_b4)).other W16 (Ne.symm ne_b1_b4)).other W20 (Ne.symm ne_b2_b4)).other W23 (Ne.symm ne_b2_b4)).other W26 (Ne.symm ne_b2_b4))
  obtain ⟨cl30, Ar30, hin30, set30⟩ := own_AI.arr f29 (j := (0 : Int32)) ⟨by decide, by decide⟩
  obtain ⟨T30, h30, X30, e30, W30, st30⟩ := stC X27 hx hZ eq27 Ar30 (j := (0 : Int32)) hin30 (g := (mkF m 77 #[.val (.long q0), .second, .val (.long q1), .second, .val (.int p2), .val (.ref b1), .val (.ref b2), .val (.ref b4), .unset, .unset, .unset, .unset, .unset, .unset, .unset, .unset] [(.int (own_f1 q1 ((0 : Int32)))), (.int (0 : Int32)), (.ref b4)])) rfl rfl (hb hby at_77)
  have V30 : own_AI Z h30 b4 k4 .char (3 : Int32) ((List.replicate 3 (0 : Int32)).set 0 (nar .char (own_f1 q1 ((0 : Int32))))) := set30 _ _ (fits_nar_char _) W30
  obtain ⟨ws30, hws30⟩ : ∃ z, z = ((List.replicate 3 (0 : Int32)).set 0 (nar .char (own_f1 q1 ((0 : Int32))))) := ⟨_, rfl⟩
  rw [← hws30] at V30
  have N30 := Fr.snoc X30 N27 g_b4
  have z32 : n0 ≤ (h30).size := (Nat.le_trans z28 (Keep.of_wr W30).1)
  obtain ⟨_, _, ⟨T31, L31, k31, n31⟩, -, X31, ⟨Lc31, hQ31, l31, y31, z31⟩, st31⟩ := Jvm.LawKit.callS X30 hx (y := (⟨"com/example/trawl/trawl/dtd/TextPositionPassPinLaw", "ch", "(JI)C"⟩ : MethodName)) hown (mvT hZ (hw _ (List.mem_of_getElem? (i := 1) rfl))) (mvT hZ (hw _ (List.mem_of_getElem? (i := 2) rfl))) (mvT hZ (hw _ (List.mem_of_getElem? (i := 3) rfl))) (mvT hZ (hw _ (List.mem_of_getElem? (i := 4) rfl))) (by decide) (backOf (W := 2) (rm1 l Z aw hw [] (q1) ((1 : Int32)) (h30) n0 z32) hZ (hw _ (List.mem_of_getElem? (i := 4) rfl)) (hw _ (List.mem_of_getElem? (i := 3) rfl)) (by decide) (by decide)) (g := (mkF m 83 #[.val (.long q0), .second, .val (.long q1), .second, .val (.int p2), .val (.ref b1), .val (.ref b2), .val (.ref b4), .unset, .unset, .unset, .unset, .unset, .unset, .unset, .unset] [(.int (1 : Int32)), (.long q1), (.int (1 : Int32)), (.ref b4)])) rfl (by rw [hml]; rfl) (argsL := [(.long q1), (.int (1 : Int32))]) (rest := [(.int (1 : Int32)), (.ref b4)]) (lenOf pd_3 rfl) rfl (by show 2 * 0 + _ ≤ _; exact Nat.le_of_eq rfl) (hb hby at_83) (fun _ _ => ⟨rfl, e30, (by decide : 3 + 0 ≤ _), (by decide : 9 + 0 ≤ _)⟩)
  dsimp only [Pt.U, Pt.locs, Pt.cells, Pt.slots] at X31 l31 y31 z31 st31 hQ31
  rw [l31, y31, z31] at X31
  obtain ⟨rfl, Nq31, eq31⟩ := hQ31
  have N31 := Fr.app N30 Nq31
  obtain ⟨cl33, Ar33, hin33, set33⟩ := own_AI.arr V30 (j := (1 : Int32)) ⟨by decide, by decide⟩
  obtain ⟨T33, h33, X33, e33, W33, st33⟩ := stC X31 hx hZ eq31 Ar33 (j := (1 : Int32)) hin33 (g := (mkF m 86 #[.val (.long q0), .second, .val (.long q1), .second, .val (.int p2), .val (.ref b1), .val (.ref b2), .val (.ref b4), .unset, .unset, .unset, .unset, .unset, .unset, .unset, .unset] [(.int (own_f1 q1 ((1 : Int32)))), (.int (1 : Int32)), (.ref b4)])) rfl rfl (hb hby at_86)
  have V33 : own_AI Z h33 b4 k4 .char (3 : Int32) (ws30.set 1 (nar .char (own_f1 q1 ((1 : Int32))))) := set33 _ _ (fits_nar_char _) W33
  obtain ⟨ws33, hws33⟩ : ∃ z, z = (ws30.set 1 (nar .char (own_f1 q1 ((1 : Int32))))) := ⟨_, rfl⟩
  rw [← hws33] at V33
  have N33 := Fr.snoc X33 N31 g_b4
  have z35 : n0 ≤ (h33).size := (Nat.le_trans z32 (Keep.of_wr W33).1)
  obtain ⟨_, _, ⟨T34, L34, k34, n34⟩, -, X34, ⟨Lc34, hQ34, l34, y34, z34⟩, st34⟩ := Jvm.LawKit.callS X33 hx (y := (⟨"com/example/trawl/trawl/dtd/TextPositionPassPinLaw", "ch", "(JI)C"⟩ : MethodName)) hown (mvT hZ (hw _ (List.mem_of_getElem? (i := 1) rfl))) (mvT hZ (hw _ (List.mem_of_getElem? (i := 2) rfl))) (mvT hZ (hw _ (List.mem_of_getElem? (i := 3) rfl))) (mvT hZ (hw _ (List.mem_of_getElem? (i := 4) rfl))) (by decide) (backOf (W := 2) (rm1 l Z aw hw [] (q1) ((2 : Int32)) (h33) n0 z35) hZ (hw _ (List.mem_of_getElem? (i := 4) rfl)) (hw _ (List.mem_of_getElem? (i := 3) rfl)) (by decide) (by decide)) (g := (mkF m 92 #[.val (.long q0), .second, .val (.long q1), .second, .val (.int p2), .val (.ref b1), .val (.ref b2), .val (.ref b4), .unset, .unset, .unset, .unset, .unset, .unset, .unset, .unset] [(.int (2 : Int32)), (.long q1), (.int (2 : Int32)), (.ref b4)])) rfl (by rw [hml]; rfl) (argsL := [(.long q1), (.int (2 : Int32))]) (rest := [(.int (2 : Int32)), (.ref b4)]) (lenOf pd_3 rfl) rfl (by show 2 * 0 + _ ≤ _; exact Nat.le_of_eq rfl) (hb hby at_92) (fun _ _ => ⟨rfl, e33, (by decide : 3 + 0 ≤ _), (by decide : 9 + 0 ≤ _)⟩)
  dsimp only [Pt.U, Pt.locs, Pt.cells, Pt.slots] at X34 l34 y34 z34 st34 hQ34
  rw [l34, y34, z34] at X34
  obtain ⟨rfl, Nq34, eq34⟩ := hQ34
  have N34 := Fr.app N33 Nq34
  obtain ⟨cl36, Ar36, hin36, set36⟩ := own_AI.arr V33 (j := (2 : Int32)) ⟨by decide, by decide⟩
  obtain ⟨T36, h36, X36, e36, W36, st36⟩ := stC X34 hx hZ eq34 Ar36 (j := (2 : Int32)) hin36 (g := (mkF m 95 #[.val (.long q0), .second, .val (.long q1), .second, .val (.int p2), .val (.ref b1), .val (.ref b2), .val (.ref b4), .unset, .unset, .unset, .unset, .unset, .unset, .unset, .unset] [(.int (own_f1 q1 ((2 : Int32)))), (.int (2 : Int32)), (.ref b4)])) rfl rfl (hb hby at_95)
  have V36 : own_AI Z h36 b4 k4 .char (3 : Int32) (ws33.set 2 (nar .char (own_f1 q1 ((2 : Int32))))) := set36 _ _ (fits_nar_char _) W36
  obtain ⟨ws36, hws36⟩ : ∃ z, z = (ws33.set 2 (nar .char (own_f1 q1 ((2 : Int32))))) := ⟨_, rfl⟩
  rw [← hws36] at V36
  have N36 := Fr.snoc X36 N34 g_b4
  obtain ⟨x8_104, hx8_104, pre37⟩ : ∃ z : Int32, z = ((p2 &&& (3 : Int32)) % (3 : Int32)) ∧ own_Pre p e below (s₁.setTop (entryFrame m #[(.long q0), (.long q1), (.int p2)] maxLocals)) (T36.setTop (mkF m 104 #[.val (.long q0), .second, .val (.long q1), .second, .val (.int p2), .val (.ref b1), .val (.ref b2), .val (.ref b4), .val (.int z), .unset, .unset, .unset, .unset, .unset, .unset, .unset] [])) := ⟨_, rfl, fun t k => pre0 t (by
      show Steps p.tables e below (s₁.setTop (mkF m 0 #[.val (.long q0), .second, .val (.long q1), .second, .val (.int p2), .unset, .unset, .unset, .unset, .unset, .unset, .unset, .unset, .unset, .unset, .unset] [])) _
      refine XS.iconst X0.here hx rfl (hb hby at_0) ?_
      refine st1 _ ?_
      refine XS.astore X1.here hx rfl (hb hby at_3) rfl rfl (l' := #[.val (.long q0), .second, .val (.long q1), .second, .val (.int p2), .val (.ref b1), .unset, .unset, .unset, .unset, .unset, .unset, .unset, .unset, .unset, .unset]) rfl ?_
      refine XS.iconst X1.here hx rfl (hb hby at_5) ?_
      refine st2 _ ?_
      show Steps p.tables e below (T2.setTop (mkF m 8 #[.val (.long q0), .second, .val (.long q1), .second, .val (.int p2), .val (.ref b1), .unset, .unset, .unset, .unset, .unset, .unset, .unset, .unset, .unset, .unset] [(.ref b2)])) _
      refine XS.astore X2.here hx rfl (hb hby at_8) rfl rfl (l' := #[.val (.long q0), .second, .val (.long q1), .second, .val (.int p2), .val (.ref b1), .val (.ref b2), .unset, .unset, .unset, .unset, .unset, .unset, .unset, .unset, .unset]) rfl ?_
      refine XS.iconst X2.here hx rfl (hb hby at_10) ?_
      refine st4 _ ?_
      refine XS.astore X4.here hx rfl (hb hby at_13) rfl rfl (l' := #[.val (.long q0), .second, .val (.long q1), .second, .val (.int p2), .val (.ref b1), .val (.ref b2), .val (.ref b4), .unset, .unset, .unset, .unset, .unset, .unset, .unset, .unset]) rfl ?_
      refine XS.aload X4.here hx rfl (hb hby at_15) rfl rfl ?_
      show Steps p.tables e below (T4.setTop (mkF m 17 #[.val (.long q0), .second, .val (.long q1), .second, .val (.int p2), .val (.ref b1), .val (.ref b2), .val (.ref b4), .unset, .unset, .unset, .unset, .unset, .unset, .unset, .unset] [(.ref b1)])) _
      refine XS.iconst X4.here hx rfl (hb hby at_17) ?_
      refine XS.lloadN X4.here hx rfl (hb hby at_18) rfl ?_
      refine XS.iconst X4.here hx rfl (hb hby at_19) ?_
      refine st7 _ ?_
      refine st10 _ ?_
      show Steps p.tables e below (T10.setTop (mkF m 24 #[.val (.long q0), .second, .val (.long q1), .second, .val (.int p2), .val (.ref b1), .val (.ref b2), .val (.ref b4), .unset, .unset, .unset, .unset, .unset, .unset, .unset, .unset] [])) _
      refine XS.aload X10.here hx rfl (hb hby at_24) rfl rfl ?_
      refine XS.iconst X10.here hx rfl (hb hby at_26) ?_
      refine XS.lloadN X10.here hx rfl (hb hby at_27) rfl ?_
      refine XS.iconst X10.here hx rfl (hb hby at_28) ?_
      refine st11 _ ?_
      show Steps p.tables e below (T11.setTop (mkF m 32 #[.val (.long q0), .second, .val (.long q1), .second, .val (.int p2), .val (.ref b1), .val (.ref b2), .val (.ref b4), .unset, .unset, .unset, .unset, .unset, .unset, .unset, .unset] [(.int (own_f1 q0 ((1 : Int32)))), (.int (1 : Int32)), (.ref b1)])) _
      refine st13 _ ?_
      refine XS.aload X13.here hx rfl (hb hby at_33) rfl rfl ?_
      refine XS.iconst X13.here hx rfl (hb hby at_35) ?_
      refine XS.lloadN X13.here hx rfl (hb hby at_36) rfl ?_
      refine XS.iconst X13.here hx rfl (hb hby at_37) ?_
      show Steps p.tables e below (T13.setTop (mkF m 38 #[.val (.long q0), .second, .val (.long q1), .second, .val (.int p2), .val (.ref b1), .val (.ref b2), .val (.ref b4), .unset, .unset, .unset, .unset, .unset, .unset, .unset, .unset] [(.int (2 : Int32)), (.long q0), (.int (2 : Int32)), (.ref b1)])) _
      refine st14 _ ?_
      refine st16 _ ?_
      refine XS.aload X16.here hx rfl (hb hby at_42) rfl rfl ?_
      refine XS.iconst X16.here hx rfl (hb hby at_44) ?_
      refine XS.lloadN X16.here hx rfl (hb hby at_45) rfl ?_
      show Steps p.tables e below (T16.setTop (mkF m 46 #[.val (.long q0), .second, .val (.long q1), .second, .val (.int p2), .val (.ref b1), .val (.ref b2), .val (.ref b4), .unset, .unset, .unset, .unset, .unset, .unset, .unset, .unset] [(.long q0), (.int (0 : Int32)), (.ref b2)])) _
      refine XS.iconst X16.here hx rfl (hb hby at_46) ?_
      refine st17 _ ?_
      refine st20 _ ?_
      refine XS.aload X20.here hx rfl (hb hby at_51) rfl rfl ?_
      refine XS.iconst X20.here hx rfl (hb hby at_53) ?_
      show Steps p.tables e below (T20.setTop (mkF m 54 #[.val (.long q0), .second, .val (.long q1), .second, .val (.int p2), .val (.ref b1), .val (.ref b2), .val (.ref b4), .unset, .unset, .unset, .unset, .unset, .unset, .unset, .unset] [(.int (1 : Int32)), (.ref b2)])) _
      refine XS.lloadN X20.here hx rfl (hb hby at_54) rfl ?_
      refine XS.iconst X20.here hx rfl (hb hby at_55) ?_
      refine st21 _ ?_
      refine st23 _ ?_
      refine XS.aload X23.here hx rfl (hb hby at_60) rfl rfl ?_
      show Steps p.tables e below (T23.setTop (mkF m 62 #[.val (.long q0), .second, .val (.long q1), .second, .val (.int p2), .val (.ref b1), .val (.ref b2), .val (.ref b4), .unset, .unset, .unset, .unset, .unset, .unset, .unset, .unset] [(.ref b2)])) _
      refine XS.iconst X23.here hx rfl (hb hby at_62) ?_
      refine XS.lloadN X23.here hx rfl (hb hby at_63) rfl ?_
      refine XS.iconst X23.here hx rfl (hb hby at_64) ?_
      refine st24 _ ?_
      refine st26 _ ?_
      show Steps p.tables e below (T26.setTop (mkF m 69 #[.val (.long q0), .second, .val (.long q1), .second, .val (.int p2), .val (.ref b1), .val (.ref b2), .val (.ref b4), .unset, .unset, .unset, .unset, .unset, .unset, .unset, .unset] [])) _
      refine XS.aload X26.here hx rfl (hb hby at_69) rfl rfl ?_
      refine XS.iconst X26.here hx rfl (hb hby at_71) ?_
      refine XS.lloadN X26.here hx rfl (hb hby at_72) rfl ?_
      refine XS.iconst X26.here hx rfl (hb hby at_73) ?_
      refine st27 _ ?_
      show Steps p.tables e below (T27.setTop (mkF m 77 #[.val (.long q0), .second, .val (.long q1), .second, .val (.int p2), .val (.ref b1), .val (.ref b2), .val (.ref b4), .unset, .unset, .unset, .unset, .unset, .unset, .unset, .unset] [(.int (own_f1 q1 ((0 : Int32)))), (.int (0 : Int32)), (.ref b4)])) _
      refine st30 _ ?_
      refine XS.aload X30.here hx rfl (hb hby at_78) rfl rfl ?_
      refine XS.iconst X30.here hx rfl (hb hby at_80) ?_
      refine XS.lloadN X30.here hx rfl (hb hby at_81) rfl ?_
      refine XS.iconst X30.here hx rfl (hb hby at_82) ?_
      show Steps p.tables e below (T30.setTop (mkF m 83 #[.val (.long q0), .second, .val (.long q1), .second, .val (.int p2), .val (.ref b1), .val (.ref b2), .val (.ref b4), .unset, .unset, .unset, .unset, .unset, .unset, .unset, .unset] [(.int (1 : Int32)), (.long q1), (.int (1 : Int32)), (.ref b4)])) _
      refine st31 _ ?_
      refine st33 _ ?_
      refine XS.aload X33.here hx rfl (hb hby at_87) rfl rfl ?_
      refine XS.iconst X33.here hx rfl (hb hby at_89) ?_
      refine XS.lloadN X33.here hx rfl (hb hby at_90) rfl ?_
      show Steps p.tables e below (T33.setTop (mkF m 91 #[.val (.long q0), .second, .val (.long q1), .second, .val (.int p2), .val (.ref b1), .val (.ref b2), .val (.ref b4), .unset, .unset, .unset, .unset, .unset, .unset, .unset, .unset] [(.long q1), (.int (2 : Int32)), (.ref b4)])) _
      refine XS.iconst X33.here hx rfl (hb hby at_91) ?_
      refine st34 _ ?_
      refine st36 _ ?_
      refine XS.iload X36.here hx rfl (hb hby at_96) rfl ?_
      refine XS.iconst X36.here hx rfl (hb hby at_98) ?_
      show Steps p.tables e below (T36.setTop (mkF m 99 #[.val (.long q0), .second, .val (.long q1), .second, .val (.int p2), .val (.ref b1), .val (.ref b2), .val (.ref b4), .unset, .unset, .unset, .unset, .unset, .unset, .unset, .unset] [(.int (3 : Int32)), (.int p2)])) _
      refine XS.iand X36.here hx rfl (hb hby at_99) rfl ?_
      refine XS.iconst X36.here hx rfl (hb hby at_100) ?_
      refine iremM X36 hx rfl (hb hby at_101) rfl (by decide) ?_
      refine XS.istore X36.here hx rfl (hb hby at_102) rfl (l' := #[.val (.long q0), .second, .val (.long q1), .second, .val (.int p2), .val (.ref b1), .val (.ref b2), .val (.ref b4), .val (.int ((p2 &&& (3 : Int32)) % (3 : Int32))), .unset, .unset, .unset, .unset, .unset, .unset, .unset]) rfl ?_
      exact k)⟩
  obtain ⟨x9_117, hx9_117, pre38⟩ : ∃ z : Int32, z = ((((p2).toUInt32 >>> ((2 : Int32) &&& 31).toUInt32).toInt32 &&& (3 : Int32)) % ((4 : Int32) - x8_104)) ∧ own_Pre p e below (s₁.setTop (entryFrame m #[(.long q0), (.long q1), (.int p2)] maxLocals)) (T36.setTop (mkF m 117 #[.val (.long q0), .second, .val (.long q1), .second, .val (.int p2), .val (.ref b1), .val (.ref b2), .val (.ref b4), .val (.int x8_104), .val (.int z), .unset, .unset, .unset, .unset, .unset, .unset] [])) := ⟨_, rfl, fun t k => pre37 t (by
      show Steps p.tables e below (T36.setTop (mkF m 104 #[.val (.long q0), .second, .val (.long q1), .second, .val (.int p2), .val (.ref b1), .val (.ref b2), .val (.ref b4), .val (.int x8_104), .unset, .unset, .unset, .unset, .unset, .unset, .unset] [])) _
      refine XS.iload X36.here hx rfl (hb hby at_104) rfl ?_
      refine XS.iconst X36.here hx rfl (hb hby at_106) ?_
      refine XS.iushr X36.here hx rfl (hb hby at_107) rfl ?_
      refine XS.iconst X36.here hx rfl (hb hby at_108) ?_
      refine XS.iand X36.here hx rfl (hb hby at_109) rfl ?_
      show Steps p.tables e below (T36.setTop (mkF m 110 #[.val (.long q0), .second, .val (.long q1), .second, .val (.int p2), .val (.ref b1), .val (.ref b2), .val (.ref b4), .val (.int x8_104), .unset, .unset, .unset, .unset, .unset, .unset, .unset] [(.int (((p2).toUInt32 >>> ((2 : Int32) &&& 31).toUInt32).toInt32 &&& (3 : Int32)))])) _
      refine XS.iconst X36.here hx rfl (hb hby at_110) ?_
      refine XS.iload X36.here hx rfl (hb hby at_111) rfl ?_
      refine XS.isub X36.here hx rfl (hb hby at_113) rfl ?_
      refine iremM X36 hx rfl (hb hby at_114) rfl (own_nz _ hx8_104) ?_
      refine XS.istore X36.here hx rfl (hb hby at_115) rfl (l' := #[.val (.long q0), .second, .val (.long q1), .second, .val (.int p2), .val (.ref b1), .val (.ref b2), .val (.ref b4), .val (.int x8_104), .val (.int ((((p2).toUInt32 >>> ((2 : Int32) &&& 31).toUInt32).toInt32 &&& (3 : Int32)) % ((4 : Int32) - x8_104))), .unset, .unset, .unset, .unset, .unset, .unset]) rfl ?_
      exact k)⟩
  obtain ⟨x10_127, hx10_127, pre39⟩ : ∃ z : Int32, z = ((((p2).toUInt32 >>> ((4 : Int32) &&& 31).toUInt32).toInt32 &&& (3 : Int32)) % (3 : Int32)) ∧ own_Pre p e below (s₁.setTop (entryFrame m #[(.long q0), (.long q1), (.int p2)] maxLocals)) (T36.setTop (mkF m 127 #[.val (.long q0), .second, .val (.long q1), .second, .val (.int p2), .val (.ref b1), .val (.ref b2), .val (.ref b4), .val (.int x8_104), .val (.int x9_117), .val (.int z), .unset, .unset, .unset, .unset, .unset] [])) := ⟨_, rfl, fun t k => pre38 t (by
      show Steps p.tables e below (T36.setTop (mkF m 117 #[.val (.long q0), .second, .val (.long q1), .second, .val (.int p2), .val (.ref b1), .val (.ref b2), .val (.ref b4), .val (.int x8_104), .val (.int x9_117), .unset, .unset, .unset, .unset, .unset, .unset] [])) _
      refine XS.iload X36.here hx rfl (hb hby at_117) rfl ?_
      refine XS.iconst X36.here hx rfl (hb hby at_119) ?_
      refine XS.iushr X36.here hx rfl (hb hby at_120) rfl ?_
      refine XS.iconst X36.here hx rfl (hb hby at_121) ?_
      refine XS.iand X36.here hx rfl (hb hby at_122) rfl ?_
      show Steps p.tables e below (T36.setTop (mkF m 123 #[.val (.long q0), .second, .val (.long q1), .second, .val (.int p2), .val (.ref b1), .val (.ref b2), .val (.ref b4), .val (.int x8_104), .val (.int x9_117), .unset, .unset, .unset, .unset, .unset, .unset] [(.int (((p2).toUInt32 >>> ((4 : Int32) &&& 31).toUInt32).toInt32 &&& (3 : Int32)))])) _
      refine XS.iconst X36.here hx rfl (hb hby at_123) ?_
      refine iremM X36 hx rfl (hb hby at_124) rfl (by decide) ?_
      refine XS.istore X36.here hx rfl (hb hby at_125) rfl (l' := #[.val (.long q0), .second, .val (.long q1), .second, .val (.int p2), .val (.ref b1), .val (.ref b2), .val (.ref b4), .val (.int x8_104), .val (.int x9_117), .val (.int ((((p2).toUInt32 >>> ((4 : Int32) &&& 31).toUInt32).toInt32 &&& (3 : Int32)) % (3 : Int32))), .unset, .unset, .unset, .unset, .unset]) rfl ?_
      exact k)⟩
  obtain ⟨x11_141, hx11_141, pre40⟩ : ∃ z : Int32, z = ((((p2).toUInt32 >>> ((6 : Int32) &&& 31).toUInt32).toInt32 &&& (3 : Int32)) % ((4 : Int32) - x10_127)) ∧ own_Pre p e below (s₁.setTop (entryFrame m #[(.long q0), (.long q1), (.int p2)] maxLocals)) (T36.setTop (mkF m 141 #[.val (.long q0), .second, .val (.long q1), .second, .val (.int p2), .val (.ref b1), .val (.ref b2), .val (.ref b4), .val (.int x8_104), .val (.int x9_117), .val (.int x10_127), .val (.int z), .unset, .unset, .unset, .unset] [])) := ⟨_, rfl, fun t k => pre39 t (by
      show Steps p.tables e below (T36.setTop (mkF m 127 #[.val (.long q0), .second, .val (.long q1), .second, .val (.int p2), .val (.ref b1), .val (.ref b2), .val (.ref b4), .val (.int x8_104), .val (.int x9_117), .val (.int x10_127), .unset, .unset, .unset, .unset, .unset] [])) _
      refine XS.iload X36.here hx rfl (hb hby at_127) rfl ?_
      refine XS.bipush X36.here hx rfl (hb hby at_129) ?_
      refine XS.iushr X36.here hx rfl (hb hby at_131) rfl ?_
      refine XS.iconst X36.here hx rfl (hb hby at_132) ?_
      refine XS.iand X36.here hx rfl (hb hby at_133) rfl ?_
      show Steps p.tables e below (T36.setTop (mkF m 134 #[.val (.long q0), .second, .val (.long q1), .second, .val (.int p2), .val (.ref b1), .val (.ref b2), .val (.ref b4), .val (.int x8_104), .val (.int x9_117), .val (.int x10_127), .unset, .unset, .unset, .unset, .unset] [(.int (((p2).toUInt32 >>> ((6 : Int32) &&& 31).toUInt32).toInt32 &&& (3 : Int32)))])) _
      refine XS.iconst X36.here hx rfl (hb hby at_134) ?_
      refine XS.iload X36.here hx rfl (hb hby at_135) rfl ?_
      refine XS.isub X36.here hx rfl (hb hby at_137) rfl ?_
      refine iremM X36 hx rfl (hb hby at_138) rfl (own_nz _ hx10_127) ?_
      refine XS.istore X36.here hx rfl (hb hby at_139) rfl (l' := #[.val (.long q0), .second, .val (.long q1), .second, .val (.int p2), .val (.ref b1), .val (.ref b2), .val (.ref b4), .val (.int x8_104), .val (.int x9_117), .val (.int x10_127), .val (.int ((((p2).toUInt32 >>> ((6 : Int32) &&& 31).toUInt32).toInt32 &&& (3 : Int32)) % ((4 : Int32) - x10_127))), .unset, .unset, .unset, .unset]) rfl ?_
      exact k)⟩
  obtain ⟨x12_152, hx12_152, pre41⟩ : ∃ z : Int32, z = ((((p2).toUInt32 >>> ((8 : Int32) &&& 31).toUInt32).toInt32 &&& (3 : Int32)) % (3 : Int32)) ∧ own_Pre p e below (s₁.setTop (entryFrame m #[(.long q0), (.long q1), (.int p2)] maxLocals)) (T36.setTop (mkF m 152 #[.val (.long q0), .second, .val (.long q1), .second, .val (.int p2), .val (.ref b1), .val (.ref b2), .val (.ref b4), .val (.int x8_104), .val (.int x9_117), .val (.int x10_127), .val (.int x11_141), .val (.int z), .unset, .unset, .unset] [])) := ⟨_, rfl, fun t k => pre40 t (by
      show Steps p.tables e below (T36.setTop (mkF m 141 #[.val (.long q0), .second, .val (.long q1), .second, .val (.int p2), .val (.ref b1), .val (.ref b2), .val (.ref b4), .val (.int x8_104), .val (.int x9_117), .val (.int x10_127), .val (.int x11_141), .unset, .unset, .unset, .unset] [])) _
      refine XS.iload X36.here hx rfl (hb hby at_141) rfl ?_
      refine XS.bipush X36.here hx rfl (hb hby at_143) ?_
      refine XS.iushr X36.here hx rfl (hb hby at_145) rfl ?_
      refine XS.iconst X36.here hx rfl (hb hby at_146) ?_
      refine XS.iand X36.here hx rfl (hb hby at_147) rfl ?_
      show Steps p.tables e below (T36.setTop (mkF m 148 #[.val (.long q0), .second, .val (.long q1), .second, .val (.int p2), .val (.ref b1), .val (.ref b2), .val (.ref b4), .val (.int x8_104), .val (.int x9_117), .val (.int x10_127), .val (.int x11_141), .unset, .unset, .unset, .unset] [(.int (((p2).toUInt32 >>> ((8 : Int32) &&& 31).toUInt32).toInt32 &&& (3 : Int32)))])) _
      refine XS.iconst X36.here hx rfl (hb hby at_148) ?_
      refine iremM X36 hx rfl (hb hby at_149) rfl (by decide) ?_
      refine XS.istore X36.here hx rfl (hb hby at_150) rfl (l' := #[.val (.long q0), .second, .val (.long q1), .second, .val (.int p2), .val (.ref b1), .val (.ref b2), .val (.ref b4), .val (.int x8_104), .val (.int x9_117), .val (.int x10_127), .val (.int x11_141), .val (.int ((((p2).toUInt32 >>> ((8 : Int32) &&& 31).toUInt32).toInt32 &&& (3 : Int32)) % (3 : Int32))), .unset, .unset, .unset]) rfl ?_
      exact k)⟩
  obtain ⟨x13_166, hx13_166, pre42⟩ : ∃ z : Int32, z = ((((p2).toUInt32 >>> ((10 : Int32) &&& 31).toUInt32).toInt32 &&& (3 : Int32)) % ((4 : Int32) - x12_152)) ∧ own_Pre p e below (s₁.setTop (entryFrame m #[(.long q0), (.long q1), (.int p2)] maxLocals)) (T36.setTop (mkF m 166 #[.val (.long q0), .second, .val (.long q1), .second, .val (.int p2), .val (.ref b1), .val (.ref b2), .val (.ref b4), .val (.int x8_104), .val (.int x9_117), .val (.int x10_127), .val (.int x11_141), .val (.int x12_152), .val (.int z), .unset, .unset] [])) := ⟨_, rfl, fun t k => pre41 t (by
      show Steps p.tables e below (T36.setTop (mkF m 152 #[.val (.long q0), .second, .val (.long q1), .second, .val (.int p2), .val (.ref b1), .val (.ref b2), .val (.ref b4), .val (.int x8_104), .val (.int x9_117), .val (.int x10_127), .val (.int x11_141), .val (.int x12_152), .unset, .unset, .unset] [])) _
      refine XS.iload X36.here hx rfl (hb hby at_152) rfl ?_
      refine XS.bipush X36.here hx rfl (hb hby at_154) ?_
      refine XS.iushr X36.here hx rfl (hb hby at_156) rfl ?_
      refine XS.iconst X36.here hx rfl (hb hby at_157) ?_
      refine XS.iand X36.here hx rfl (hb hby at_158) rfl ?_
      show Steps p.tables e below (T36.setTop (mkF m 159 #[.val (.long q0), .second, .val (.long q1), .second, .val (.int p2), .val (.ref b1), .val (.ref b2), .val (.ref b4), .val (.int x8_104), .val (.int x9_117), .val (.int x10_127), .val (.int x11_141), .val (.int x12_152), .unset, .unset, .unset] [(.int (((p2).toUInt32 >>> ((10 : Int32) &&& 31).toUInt32).toInt32 &&& (3 : Int32)))])) _
      refine XS.iconst X36.here hx rfl (hb hby at_159) ?_
      refine XS.iload X36.here hx rfl (hb hby at_160) rfl ?_
      refine XS.isub X36.here hx rfl (hb hby at_162) rfl ?_
      refine iremM X36 hx rfl (hb hby at_163) rfl (own_nz _ hx12_152) ?_
      refine XS.istore X36.here hx rfl (hb hby at_164) rfl (l' := #[.val (.long q0), .second, .val (.long q1), .second, .val (.int p2), .val (.ref b1), .val (.ref b2), .val (.ref b4), .val (.int x8_104), .val (.int x9_117), .val (.int x10_127), .val (.int x11_141), .val (.int x12_152), .val (.int ((((p2).toUInt32 >>> ((10 : Int32) &&& 31).toUInt32).toInt32 &&& (3 : Int32)) % ((4 : Int32) - x12_152))), .unset, .unset]) rfl ?_
      exact k)⟩
  have z44 : n0 ≤ (h36).size := (Nat.le_trans z35 (Keep.of_wr W36).1)
  obtain ⟨T43, h43, X43, e43, E43, A43, D43, -, st43⟩ := newO X36 hx hZ hown (hw _ (List.mem_of_getElem? (i := 11) rfl)) (hw _ (List.mem_of_getElem? (i := 12) rfl)) (hw _ (List.mem_of_getElem? (i := 13) rfl)) e36 (g := (mkF m 166 #[.val (.long q0), .second, .val (.long q1), .second, .val (.int p2), .val (.ref b1), .val (.ref b2), .val (.ref b4), .val (.int x8_104), .val (.int x9_117), .val (.int x10_127), .val (.int x11_141), .val (.int x12_152), .val (.int x13_166), .unset, .unset] [])) rfl (hb hby at_166) (by decide) (by decide)
  obtain ⟨b43, gq43⟩ : ∃ z, z = (h36).size := ⟨_, rfl⟩
  rw [← gq43] at A43 D43 st43
  have f45 := ((((((V16.other W20 ne_b1_b2).other W23 ne_b1_b2).other W26 ne_b1_b2).other W30 ne_b1_b4).other W33 ne_b1_b4).other W36 ne_b1_b4)
  have ne_b1_b43 : b1 ≠ b43 := Nat.ne_of_lt (Nat.lt_of_lt_of_le f45.lt (Nat.le_of_eq gq43.symm))
  have f46 := (((V26.other W30 ne_b2_b4).other W33 ne_b2_b4).other W36 ne_b2_b4)
  have ne_b2_b43 : b2 ≠ b43 := Nat.ne_of_lt (Nat.lt_of_lt_of_le f46.lt (Nat.le_of_eq gq43.symm))
  have ne_b4_b43 : b4 ≠ b43 := Nat.ne_of_lt (Nat.lt_of_lt_of_le V36.lt (Nat.le_of_eq gq43.symm))
  have g_b43 : n0 ≤ b43 := Nat.le_trans z44 (Nat.le_of_eq gq43.symm)
  have F_b43_line : Fld Z h43 b43 "com/example/trawl/trawl/dtd/TextPosition" "line" "I" (.int (0 : Int32)) := D43 (Or.inl (hw _ (List.mem_of_getElem? (i := 21) rfl))) (ty := .int) (by decide)
  have F_b43_passed : Fld Z h43 b43 "com/example/trawl/trawl/dtd/TextPosition" "passed" "J" (.long (0 : Int64)) := D43 (Or.inl (hw _ (List.mem_of_getElem? (i := 36) rfl))) (ty := .long) (by decide)
  have F_b43_lineStart : Fld Z h43 b43 "com/example/trawl/trawl/dtd/TextPosition" "lineStart" "J" (.long (0 : Int64)) := D43 (Or.inl (hw _ (List.mem_of_getElem? (i := 38) rfl))) (ty := .long) (by decide)
  have F_b43_afterCarriageReturn : Fld Z h43 b43 "com/example/trawl/trawl/dtd/TextPosition" "afterCarriageReturn" "Z" (.int (0 : Int32)) := D43 (Or.inl (hw _ (List.mem_of_getElem? (i := 48) rfl))) (ty := .boolean) (by decide)
  have z48 : n0 ≤ (h43).size := (Nat.le_trans z44 E43.1)
  obtain ⟨_, _, ⟨T47, L47, k47, n47⟩, -, X47, ⟨Lc47, hQ47, l47, y47, z47⟩, st47⟩ := X43.specialBack hx (y := (⟨"com/example/trawl/trawl/dtd/TextPosition", "<init>", "()V"⟩ : MethodName)) rfl hown (mvT hZ (hw _ (List.mem_of_getElem? (i := 14) rfl))) (mvT hZ (hw _ (List.mem_of_getElem? (i := 15) rfl))) (mvT hZ (hw _ (List.mem_of_getElem? (i := 16) rfl))) (by decide) (backOf (W := 1) (rm3 l Z aw hw [] (b43) (h43) n0 z48 A43 F_b43_line F_b43_passed F_b43_lineStart F_b43_afterCarriageReturn g_b43) hZ (hw _ (List.mem_of_getElem? (i := 16) rfl)) (hw _ (List.mem_of_getElem? (i := 13) rfl)) (by decide) (by decide)) (g := (mkF m 170 #[.val (.long q0), .second, .val (.long q1), .second, .val (.int p2), .val (.ref b1), .val (.ref b2), .val (.ref b4), .val (.int x8_104), .val (.int x9_117), .val (.int x10_127), .val (.int x11_141), .val (.int x12_152), .val (.int x13_166), .unset, .unset] [(.ref b43), (.ref b43)])) rfl (by rw [hml]; rfl) (Steps.refl _) (a := b43) (argsL := []) (rest := [(.ref b43)]) (lenOf pd_4 rfl) rfl (by show 2 * 0 + _ ≤ _; exact Nat.le_of_eq rfl) (hb hby at_170) (fun _ _ => ⟨rfl, e43, (by decide : 4 + 0 ≤ _), (by decide : 13 + 0 ≤ _)⟩)
  dsimp only [Pt.U, Pt.locs, Pt.cells, Pt.slots] at X47 l47 y47 z47 st47 hQ47
  rw [l47, y47, z47] at X47
  obtain ⟨rfl, Nq47, K47, po47_0, po47_1, po47_2, po47_3, po47_4⟩ := hQ47
  have N47 := Fr.app N36 Nq47
  obtain ⟨x15_180, hx15_180, pre49⟩ : ∃ z : Int32, z = (258 : Int32) ∧ own_Pre p e below (s₁.setTop (entryFrame m #[(.long q0), (.long q1), (.int p2)] maxLocals)) (T47.setTop (mkF m 180 #[.val (.long q0), .second, .val (.long q1), .second, .val (.int p2), .val (.ref b1), .val (.ref b2), .val (.ref b4), .val (.int x8_104), .val (.int x9_117), .val (.int x10_127), .val (.int x11_141), .val (.int x12_152), .val (.int x13_166), .val (.ref b43), .val (.int z)] [])) := ⟨_, rfl, fun t k => pre42 t (by
      show Steps p.tables e below (T36.setTop (mkF m 166 #[.val (.long q0), .second, .val (.long q1), .second, .val (.int p2), .val (.ref b1), .val (.ref b2), .val (.ref b4), .val (.int x8_104), .val (.int x9_117), .val (.int x10_127), .val (.int x11_141), .val (.int x12_152), .val (.int x13_166), .unset, .unset] [])) _
      refine st43 _ ?_
      refine XS.dup X43.here hx rfl (hb hby at_169) rfl rfl ?_
      refine st47.trans ?_
      refine XS.astore X47.here hx rfl (hb hby at_173) rfl rfl (l' := #[.val (.long q0), .second, .val (.long q1), .second, .val (.int p2), .val (.ref b1), .val (.ref b2), .val (.ref b4), .val (.int x8_104), .val (.int x9_117), .val (.int x10_127), .val (.int x11_141), .val (.int x12_152), .val (.int x13_166), .val (.ref b43), .unset]) rfl ?_
      refine XS.sipush X47.here hx rfl (hb hby at_175) ?_
      show Steps p.tables e below (T47.setTop (mkF m 178 #[.val (.long q0), .second, .val (.long q1), .second, .val (.int p2), .val (.ref b1), .val (.ref b2), .val (.ref b4), .val (.int x8_104), .val (.int x9_117), .val (.int x10_127), .val (.int x11_141), .val (.int x12_152), .val (.int x13_166), .val (.ref b43), .unset] [(.int (258 : Int32))])) _
      refine XS.istore X47.here hx rfl (hb hby at_178) rfl (l' := #[.val (.long q0), .second, .val (.long q1), .second, .val (.int p2), .val (.ref b1), .val (.ref b2), .val (.ref b4), .val (.int x8_104), .val (.int x9_117), .val (.int x10_127), .val (.int x11_141), .val (.int x12_152), .val (.int x13_166), .val (.ref b43), .val (.int (258 : Int32))]) rfl ?_
      exact k)⟩
  have I0 : own_Inv (1 : Int32) (0 : Int64) (0 : Int64) (0 : Int32) x15_180 0 := by rw [hx15_180]; unfold own_Inv; decide
  have z51 : n0 ≤ (T47.heap).size := (Nat.le_trans z48 K47.1)
  obtain ⟨_, _, ⟨T50, L50, k50, n50⟩, -, X50, ⟨Lc50, hQ50, l50, y50, z50⟩, st50⟩ := Jvm.LawKit.callS X47 hx (y := (⟨"com/example/trawl/trawl/dtd/TextPositionPassPinLaw", "agrees", "(Lcom/example/trawl/trawl/dtd/TextPosition;I)Z"⟩ : MethodName)) hown (mvT hZ (hw _ (List.mem_of_getElem? (i := 22) rfl))) (mvT hZ (hw _ (List.mem_of_getElem? (i := 23) rfl))) (mvT hZ (hw _ (List.mem_of_getElem? (i := 3) rfl))) (mvT hZ (hw _ (List.mem_of_getElem? (i := 24) rfl))) (by decide) (backOf (W := 0) (rm5 l Z aw hw [] (b43) (x15_180) ((1 : Int32)) ((0 : Int64)) ((0 : Int64)) (T47.heap) n0 z51 po47_0 po47_1 po47_2 po47_3) hZ (hw _ (List.mem_of_getElem? (i := 24) rfl)) (hw _ (List.mem_of_getElem? (i := 3) rfl)) (by decide) (by decide)) (g := (mkF m 184 #[.val (.long q0), .second, .val (.long q1), .second, .val (.int p2), .val (.ref b1), .val (.ref b2), .val (.ref b4), .val (.int x8_104), .val (.int x9_117), .val (.int x10_127), .val (.int x11_141), .val (.int x12_152), .val (.int x13_166), .val (.ref b43), .val (.int x15_180)] [(.int x15_180), (.ref b43)])) rfl (by rw [hml]; rfl) (argsL := [(.ref b43), (.int x15_180)]) (rest := []) (lenOf pd_5 rfl) rfl (by show 2 * 0 + _ ≤ _; exact Nat.le_of_eq rfl) (hb hby at_184) (fun _ _ => ⟨rfl, rfl, (by decide : 4 + 0 ≤ _), (by decide : 13 + 0 ≤ _)⟩)
  dsimp only [Pt.U, Pt.locs, Pt.cells, Pt.slots] at X50 l50 y50 z50 st50 hQ50
  rw [l50, y50, z50] at X50
  obtain ⟨rfl, Nq50, eq50⟩ := hQ50
  have N50 := Fr.app N47 Nq50
  have hc187 : ¬ ((own_f5 x15_180 ((1 : Int32)) ((0 : Int64)) ((0 : Int64))) = (0 : Int32)) := by rw [own_agree _ _ _ _ _ _ I0 (by decide)]; decide
  have f53 := ((f45.ext E43).keep K47 (ninS ne_b1_b43 nin0))
  obtain ⟨cq52, kq52, q52a, q52b, q52c⟩ := isOf hZ eq50 po47_0
  obtain ⟨_, _, ⟨T52, L52, k52, n52⟩, -, X52, ⟨Lc52, hQ52, l52, y52, z52⟩, st52⟩ := X50.virtualBack hx (y := (⟨"com/example/trawl/trawl/dtd/TextPosition", "pass", "([CII)V"⟩ : MethodName)) (z := (⟨"com/example/trawl/trawl/dtd/TextPosition", "pass", "([CII)V"⟩ : MethodName)) hown (mvT hZ (hw _ (List.mem_of_getElem? (i := 39) rfl))) (mvT hZ (hw _ (List.mem_of_getElem? (i := 40) rfl))) (notFace_of_selects (args := #[]) (mvT hZ (hw _ (List.mem_of_getElem? (i := 42) rfl)))) (mvT hZ (hw _ (List.mem_of_getElem? (i := 42) rfl))) (mvT hZ (hw _ (List.mem_of_getElem? (i := 41) rfl))) (by decide) (backOf (W := 0) (rm8 l Z aw hw [] (b43) (b1) (x9_117) (x8_104) (k1) ((3 : Int32)) (ws16) ((1 : Int32)) ((0 : Int64)) ((0 : Int64)) ((0 : Int32)) (T47.heap) n0 z51 po47_0 f53 ne_b1_b43 po47_1 po47_2 po47_3 po47_4 g_b43 (own_cnt x8_104 hx8_104) (own_off x8_104 x9_117 hx8_104 hx9_117).1 (own_off x8_104 x9_117 hx8_104 hx9_117).2.1 (own_off x8_104 x9_117 hx8_104 hx9_117).2.2) hZ (hw _ (List.mem_of_getElem? (i := 43) rfl)) (hw _ (List.mem_of_getElem? (i := 13) rfl)) (by decide) (by decide)) q52a q52c (g := (mkF m 200 #[.val (.long q0), .second, .val (.long q1), .second, .val (.int p2), .val (.ref b1), .val (.ref b2), .val (.ref b4), .val (.int x8_104), .val (.int x9_117), .val (.int x10_127), .val (.int x11_141), .val (.int x12_152), .val (.int x13_166), .val (.ref b43), .val (.int x15_180)] [(.int x8_104), (.int x9_117), (.ref b1), (.ref b43)])) rfl (by rw [hml]; rfl) (Steps.refl _) (argsL := [(.ref b1), (.int x9_117), (.int x8_104)]) (rest := []) (lenOf pd_6 rfl) rfl (by show 2 * 0 + _ ≤ _; exact Nat.le_of_eq rfl) (hb hby at_200) (fun _ _ => ⟨rfl, eq50, (by decide : 4 + 0 ≤ _), (by decide : 13 + 0 ≤ _)⟩)
  dsimp only [Pt.U, Pt.locs, Pt.cells, Pt.slots] at X52 l52 y52 z52 st52 hQ52
  rw [l52, y52, z52] at X52
  obtain ⟨rfl, Nq52, K52, po52_0, po52_1, po52_2, po52_3, po52_4⟩ := hQ52
  have N52 := Fr.app N50 Nq52
  obtain ⟨u52_line, hu52_line⟩ : ∃ z, z = (own_p8_line x9_117 x8_104 ws16 (1 : Int32) (0 : Int32)) := ⟨_, rfl⟩
  rw [← hu52_line] at po52_1
  obtain ⟨u52_passed, hu52_passed⟩ : ∃ z, z = (own_p8_passed x8_104 (0 : Int64)) := ⟨_, rfl⟩
  rw [← hu52_passed] at po52_2
  obtain ⟨u52_lineStart, hu52_lineStart⟩ : ∃ z, z = (own_p8_lineStart x9_117 x8_104 ws16 (0 : Int64) (0 : Int64)) := ⟨_, rfl⟩
  rw [← hu52_lineStart] at po52_3
  obtain ⟨u52_afterCarriageReturn, hu52_afterCarriageReturn⟩ : ∃ z, z = (own_p8_afterCarriageReturn x9_117 x8_104 ws16 (0 : Int32)) := ⟨_, rfl⟩
  rw [← hu52_afterCarriageReturn] at po52_4
  have f55 := (f53.keep K52 (ninS ne_b1_b43 nin0))
  have z56 : n0 ≤ (T52.heap).size := (Nat.le_trans z51 K52.1)
  obtain ⟨_, _, ⟨T54, L54, k54, n54⟩, -, X54, ⟨Lc54, hQ54, l54, y54, z54⟩, st54⟩ := Jvm.LawKit.callS X52 hx (y := (⟨"com/example/trawl/trawl/dtd/TextPositionPassPinLaw", "stepN", "(I[CII)I"⟩ : MethodName)) hown (mvT hZ (hw _ (List.mem_of_getElem? (i := 44) rfl))) (mvT hZ (hw _ (List.mem_of_getElem? (i := 45) rfl))) (mvT hZ (hw _ (List.mem_of_getElem? (i := 3) rfl))) (mvT hZ (hw _ (List.mem_of_getElem? (i := 46) rfl))) (by decide) (backOf (W := 0) (rm9 l Z aw hw [] (x15_180) (b1) (x9_117) (x8_104) (k1) ((3 : Int32)) (ws16) (T52.heap) n0 z56 f55 (own_off x8_104 x9_117 hx8_104 hx9_117).2.1 (own_off x8_104 x9_117 hx8_104 hx9_117).2.2) hZ (hw _ (List.mem_of_getElem? (i := 46) rfl)) (hw _ (List.mem_of_getElem? (i := 3) rfl)) (by decide) (by decide)) (g := (mkF m 211 #[.val (.long q0), .second, .val (.long q1), .second, .val (.int p2), .val (.ref b1), .val (.ref b2), .val (.ref b4), .val (.int x8_104), .val (.int x9_117), .val (.int x10_127), .val (.int x11_141), .val (.int x12_152), .val (.int x13_166), .val (.ref b43), .val (.int x15_180)] [(.int x8_104), (.int x9_117), (.ref b1), (.int x15_180)])) rfl (by rw [hml]; rfl) (argsL := [(.int x15_180), (.ref b1), (.int x9_117), (.int x8_104)]) (rest := []) (lenOf pd_7 rfl) rfl (by show 2 * 0 + _ ≤ _; exact Nat.le_of_eq rfl) (hb hby at_211) (fun _ _ => ⟨rfl, rfl, (by decide : 4 + 0 ≤ _), (by decide : 13 + 0 ≤ _)⟩)
  dsimp only [Pt.U, Pt.locs, Pt.cells, Pt.slots] at X54 l54 y54 z54 st54 hQ54
  rw [l54, y54, z54] at X54
  obtain ⟨rfl, Nq54, eq54⟩ := hQ54
  have N54 := Fr.app N52 Nq54
  obtain ⟨x15_216, hx15_216, pre57⟩ : ∃ z : Int32, z = (own_f9 x15_180 x9_117 x8_104 ws16) ∧ own_Pre p e below (s₁.setTop (entryFrame m #[(.long q0), (.long q1), (.int p2)] maxLocals)) (T54.setTop (mkF m 216 #[.val (.long q0), .second, .val (.long q1), .second, .val (.int p2), .val (.ref b1), .val (.ref b2), .val (.ref b4), .val (.int x8_104), .val (.int x9_117), .val (.int x10_127), .val (.int x11_141), .val (.int x12_152), .val (.int x13_166), .val (.ref b43), .val (.int z)] [])) := ⟨_, rfl, fun t k => pre49 t (by
      show Steps p.tables e below (T47.setTop (mkF m 180 #[.val (.long q0), .second, .val (.long q1), .second, .val (.int p2), .val (.ref b1), .val (.ref b2), .val (.ref b4), .val (.int x8_104), .val (.int x9_117), .val (.int x10_127), .val (.int x11_141), .val (.int x12_152), .val (.int x13_166), .val (.ref b43), .val (.int x15_180)] [])) _
      refine XS.aload X47.here hx rfl (hb hby at_180) rfl rfl ?_
      refine XS.iload X47.here hx rfl (hb hby at_182) rfl ?_
      refine st50 _ ?_
      refine XS.ifYes X50.here hx rfl (pc0 := 187) (pc' := 192) rfl (hb hby at_187) rfl ((if0 _ _).trans (feq hc187).2) (by decide) (by decide) ?_
      refine XS.aload X50.here hx rfl (hb hby at_192) rfl rfl ?_
      show Steps p.tables e below (T50.setTop (mkF m 194 #[.val (.long q0), .second, .val (.long q1), .second, .val (.int p2), .val (.ref b1), .val (.ref b2), .val (.ref b4), .val (.int x8_104), .val (.int x9_117), .val (.int x10_127), .val (.int x11_141), .val (.int x12_152), .val (.int x13_166), .val (.ref b43), .val (.int x15_180)] [(.ref b43)])) _
      refine XS.aload X50.here hx rfl (hb hby at_194) rfl rfl ?_
      refine XS.iload X50.here hx rfl (hb hby at_196) rfl ?_
      refine XS.iload X50.here hx rfl (hb hby at_198) rfl ?_
      refine st52.trans ?_
      refine XS.iload X52.here hx rfl (hb hby at_203) rfl ?_
      show Steps p.tables e below (T52.setTop (mkF m 205 #[.val (.long q0), .second, .val (.long q1), .second, .val (.int p2), .val (.ref b1), .val (.ref b2), .val (.ref b4), .val (.int x8_104), .val (.int x9_117), .val (.int x10_127), .val (.int x11_141), .val (.int x12_152), .val (.int x13_166), .val (.ref b43), .val (.int x15_180)] [(.int x15_180)])) _
      refine XS.aload X52.here hx rfl (hb hby at_205) rfl rfl ?_
      refine XS.iload X52.here hx rfl (hb hby at_207) rfl ?_
      refine XS.iload X52.here hx rfl (hb hby at_209) rfl ?_
      refine st54 _ ?_
      refine XS.istore X54.here hx rfl (hb hby at_214) rfl (l' := #[.val (.long q0), .second, .val (.long q1), .second, .val (.int p2), .val (.ref b1), .val (.ref b2), .val (.ref b4), .val (.int x8_104), .val (.int x9_117), .val (.int x10_127), .val (.int x11_141), .val (.int x12_152), .val (.int x13_166), .val (.ref b43), .val (.int (own_f9 x15_180 x9_117 x8_104 ws16))]) rfl ?_
      exact k)⟩
  have I1 : own_Inv u52_line u52_passed u52_lineStart u52_afterCarriageReturn x15_216 2 := by
    rw [hu52_line, hu52_passed, hu52_lineStart, hu52_afterCarriageReturn, hx15_216]
    exact own_pass _ _ _ _ _ _ _ _ 0 (own_cnt x8_104 hx8_104) (own_off x8_104 x9_117 hx8_104 hx9_117).1 I0 (by decide)
  obtain ⟨_, _, ⟨T58, L58, k58, n58⟩, -, X58, ⟨Lc58, hQ58, l58, y58, z58⟩, st58⟩ := Jvm.LawKit.callS X54 hx (y := (⟨"com/example/trawl/trawl/dtd/TextPositionPassPinLaw", "agrees", "(Lcom/example/trawl/trawl/dtd/TextPosition;I)Z"⟩ : MethodName)) hown (mvT hZ (hw _ (List.mem_of_getElem? (i := 22) rfl))) (mvT hZ (hw _ (List.mem_of_getElem? (i := 23) rfl))) (mvT hZ (hw _ (List.mem_of_getElem? (i := 3) rfl))) (mvT hZ (hw _ (List.mem_of_getElem? (i := 24) rfl))) (by decide) (backOf (W := 0) (rm5 l Z aw hw [] (b43) (x15_216) (u52_line) (u52_passed) (u52_lineStart) (T52.heap) n0 z56 po52_0 po52_1 po52_2 po52_3) hZ (hw _ (List.mem_of_getElem? (i := 24) rfl)) (hw _ (List.mem_of_getElem? (i := 3) rfl)) (by decide) (by decide)) (g := (mkF m 220 #[.val (.long q0), .second, .val (.long q1), .second, .val (.int p2), .val (.ref b1), .val (.ref b2), .val (.ref b4), .val (.int x8_104), .val (.int x9_117), .val (.int x10_127), .val (.int x11_141), .val (.int x12_152), .val (.int x13_166), .val (.ref b43), .val (.int x15_216)] [(.int x15_216), (.ref b43)])) rfl (by rw [hml]; rfl) (argsL := [(.ref b43), (.int x15_216)]) (rest := []) (lenOf pd_5 rfl) rfl (by show 2 * 0 + _ ≤ _; exact Nat.le_of_eq rfl) (hb hby at_220) (fun _ _ => ⟨rfl, eq54, (by decide : 4 + 0 ≤ _), (by decide : 13 + 0 ≤ _)⟩)
  dsimp only [Pt.U, Pt.locs, Pt.cells, Pt.slots] at X58 l58 y58 z58 st58 hQ58
  rw [l58, y58, z58] at X58
  obtain ⟨rfl, Nq58, eq58⟩ := hQ58
  have N58 := Fr.app N54 Nq58
  have hc223 : ¬ ((own_f5 x15_216 u52_line u52_passed u52_lineStart) = (0 : Int32)) := by rw [own_agree _ _ _ _ _ _ I1 (by decide)]; decide
  have f60 := (((f46.ext E43).keep K47 (ninS ne_b2_b43 nin0)).keep K52 (ninS ne_b2_b43 nin0))
  obtain ⟨cq59, kq59, q59a, q59b, q59c⟩ := isOf hZ eq58 po52_0
  obtain ⟨_, _, ⟨T59, L59, k59, n59⟩, -, X59, ⟨Lc59, hQ59, l59, y59, z59⟩, st59⟩ := X58.virtualBack hx (y := (⟨"com/example/trawl/trawl/dtd/TextPosition", "pass", "([CII)V"⟩ : MethodName)) (z := (⟨"com/example/trawl/trawl/dtd/TextPosition", "pass", "([CII)V"⟩ : MethodName)) hown (mvT hZ (hw _ (List.mem_of_getElem? (i := 39) rfl))) (mvT hZ (hw _ (List.mem_of_getElem? (i := 40) rfl))) (notFace_of_selects (args := #[]) (mvT hZ (hw _ (List.mem_of_getElem? (i := 42) rfl)))) (mvT hZ (hw _ (List.mem_of_getElem? (i := 42) rfl))) (mvT hZ (hw _ (List.mem_of_getElem? (i := 41) rfl))) (by decide) (backOf (W := 0) (rm8 l Z aw hw [] (b43) (b2) (x11_141) (x10_127) (k2) ((3 : Int32)) (ws26) (u52_line) (u52_passed) (u52_lineStart) (u52_afterCarriageReturn) (T52.heap) n0 z56 po52_0 f60 ne_b2_b43 po52_1 po52_2 po52_3 po52_4 g_b43 (own_cnt x10_127 hx10_127) (own_off x10_127 x11_141 hx10_127 hx11_141).1 (own_off x10_127 x11_141 hx10_127 hx11_141).2.1 (own_off x10_127 x11_141 hx10_127 hx11_141).2.2) hZ (hw _ (List.mem_of_getElem? (i := 43) rfl)) (hw _ (List.mem_of_getElem? (i := 13) rfl)) (by decide) (by decide)) q59a q59c (g := (mkF m 236 #[.val (.long q0), .second, .val (.long q1), .second, .val (.int p2), .val (.ref b1), .val (.ref b2), .val (.ref b4), .val (.int x8_104), .val (.int x9_117), .val (.int x10_127), .val (.int x11_141), .val (.int x12_152), .val (.int x13_166), .val (.ref b43), .val (.int x15_216)] [(.int x10_127), (.int x11_141), (.ref b2), (.ref b43)])) rfl (by rw [hml]; rfl) (Steps.refl _) (argsL := [(.ref b2), (.int x11_141), (.int x10_127)]) (rest := []) (lenOf pd_6 rfl) rfl (by show 2 * 0 + _ ≤ _; exact Nat.le_of_eq rfl) (hb hby at_236) (fun _ _ => ⟨rfl, eq58, (by decide : 4 + 0 ≤ _), (by decide : 13 + 0 ≤ _)⟩)
  dsimp only [Pt.U, Pt.locs, Pt.cells, Pt.slots] at X59 l59 y59 z59 st59 hQ59
  rw [l59, y59, z59] at X59
  obtain ⟨rfl, Nq59, K59, po59_0, po59_1, po59_2, po59_3, po59_4⟩ := hQ59
  have N59 := Fr.app N58 Nq59
  obtain ⟨u59_line, hu59_line⟩ : ∃ z, z = (own_p8_line x11_141 x10_127 ws26 u52_line u52_afterCarriageReturn) := ⟨_, rfl⟩
  rw [← hu59_line] at po59_1
  obtain ⟨u59_passed, hu59_passed⟩ : ∃ z, z = (own_p8_passed x10_127 u52_passed) := ⟨_, rfl⟩
  rw [← hu59_passed] at po59_2
  obtain ⟨u59_lineStart, hu59_lineStart⟩ : ∃ z, z = (own_p8_lineStart x11_141 x10_127 ws26 u52_passed u52_lineStart) := ⟨_, rfl⟩
  rw [← hu59_lineStart] at po59_3
  obtain ⟨u59_afterCarriageReturn, hu59_afterCarriageReturn⟩ : ∃ z, z = (own_p8_afterCarriageReturn x11_141 x10_127 ws26 u52_afterCarriageReturn) := ⟨_, rfl⟩
  rw [← hu59_afterCarriageReturn] at po59_4
  have f62 := (f60.keep K59 (ninS ne_b2_b43 nin0))
  have z63 : n0 ≤ (T59.heap).size := (Nat.le_trans z56 K59.1)
  obtain ⟨_, _, ⟨T61, L61, k61, n61⟩, -, X61, ⟨Lc61, hQ61, l61, y61, z61⟩, st61⟩ := Jvm.LawKit.callS X59 hx (y := (⟨"com/example/trawl/trawl/dtd/TextPositionPassPinLaw", "stepN", "(I[CII)I"⟩ : MethodName)) hown (mvT hZ (hw _ (List.mem_of_getElem? (i := 44) rfl))) (mvT hZ (hw _ (List.mem_of_getElem? (i := 45) rfl))) (mvT hZ (hw _ (List.mem_of_getElem? (i := 3) rfl))) (mvT hZ (hw _ (List.mem_of_getElem? (i := 46) rfl))) (by decide) (backOf (W := 0) (rm9 l Z aw hw [] (x15_216) (b2) (x11_141) (x10_127) (k2) ((3 : Int32)) (ws26) (T59.heap) n0 z63 f62 (own_off x10_127 x11_141 hx10_127 hx11_141).2.1 (own_off x10_127 x11_141 hx10_127 hx11_141).2.2) hZ (hw _ (List.mem_of_getElem? (i := 46) rfl)) (hw _ (List.mem_of_getElem? (i := 3) rfl)) (by decide) (by decide)) (g := (mkF m 247 #[.val (.long q0), .second, .val (.long q1), .second, .val (.int p2), .val (.ref b1), .val (.ref b2), .val (.ref b4), .val (.int x8_104), .val (.int x9_117), .val (.int x10_127), .val (.int x11_141), .val (.int x12_152), .val (.int x13_166), .val (.ref b43), .val (.int x15_216)] [(.int x10_127), (.int x11_141), (.ref b2), (.int x15_216)])) rfl (by rw [hml]; rfl) (argsL := [(.int x15_216), (.ref b2), (.int x11_141), (.int x10_127)]) (rest := []) (lenOf pd_7 rfl) rfl (by show 2 * 0 + _ ≤ _; exact Nat.le_of_eq rfl) (hb hby at_247) (fun _ _ => ⟨rfl, rfl, (by decide : 4 + 0 ≤ _), (by decide : 13 + 0 ≤ _)⟩)
  dsimp only [Pt.U, Pt.locs, Pt.cells, Pt.slots] at X61 l61 y61 z61 st61 hQ61
  rw [l61, y61, z61] at X61
  obtain ⟨rfl, Nq61, eq61⟩ := hQ61
  have N61 := Fr.app N59 Nq61
  obtain ⟨x15_252, hx15_252, pre64⟩ : ∃ z : Int32, z = (own_f9 x15_216 x11_141 x10_127 ws26) ∧ own_Pre p e below (s₁.setTop (entryFrame m #[(.long q0), (.long q1), (.int p2)] maxLocals)) (T61.setTop (mkF m 252 #[.val (.long q0), .second, .val (.long q1), .second, .val (.int p2), .val (.ref b1), .val (.ref b2), .val (.ref b4), .val (.int x8_104), .val (.int x9_117), .val (.int x10_127), .val (.int x11_141), .val (.int x12_152), .val (.int x13_166), .val (.ref b43), .val (.int z)] [])) := ⟨_, rfl, fun t k => pre57 t (by
      show Steps p.tables e below (T54.setTop (mkF m 216 #[.val (.long q0), .second, .val (.long q1), .second, .val (.int p2), .val (.ref b1), .val (.ref b2), .val (.ref b4), .val (.int x8_104), .val (.int x9_117), .val (.int x10_127), .val (.int x11_141), .val (.int x12_152), .val (.int x13_166), .val (.ref b43), .val (.int x15_216)] [])) _
      refine XS.aload X54.here hx rfl (hb hby at_216) rfl rfl ?_
      refine XS.iload X54.here hx rfl (hb hby at_218) rfl ?_
      refine st58 _ ?_
      refine XS.ifYes X58.here hx rfl (pc0 := 223) (pc' := 228) rfl (hb hby at_223) rfl ((if0 _ _).trans (feq hc223).2) (by decide) (by decide) ?_
      refine XS.aload X58.here hx rfl (hb hby at_228) rfl rfl ?_
      show Steps p.tables e below (T58.setTop (mkF m 230 #[.val (.long q0), .second, .val (.long q1), .second, .val (.int p2), .val (.ref b1), .val (.ref b2), .val (.ref b4), .val (.int x8_104), .val (.int x9_117), .val (.int x10_127), .val (.int x11_141), .val (.int x12_152), .val (.int x13_166), .val (.ref b43), .val (.int x15_216)] [(.ref b43)])) _
      refine XS.aload X58.here hx rfl (hb hby at_230) rfl rfl ?_
      refine XS.iload X58.here hx rfl (hb hby at_232) rfl ?_
      refine XS.iload X58.here hx rfl (hb hby at_234) rfl ?_
      refine st59.trans ?_
      refine XS.iload X59.here hx rfl (hb hby at_239) rfl ?_
      show Steps p.tables e below (T59.setTop (mkF m 241 #[.val (.long q0), .second, .val (.long q1), .second, .val (.int p2), .val (.ref b1), .val (.ref b2), .val (.ref b4), .val (.int x8_104), .val (.int x9_117), .val (.int x10_127), .val (.int x11_141), .val (.int x12_152), .val (.int x13_166), .val (.ref b43), .val (.int x15_216)] [(.int x15_216)])) _
      refine XS.aload X59.here hx rfl (hb hby at_241) rfl rfl ?_
      refine XS.iload X59.here hx rfl (hb hby at_243) rfl ?_
      refine XS.iload X59.here hx rfl (hb hby at_245) rfl ?_
      refine st61 _ ?_
      refine XS.istore X61.here hx rfl (hb hby at_250) rfl (l' := #[.val (.long q0), .second, .val (.long q1), .second, .val (.int p2), .val (.ref b1), .val (.ref b2), .val (.ref b4), .val (.int x8_104), .val (.int x9_117), .val (.int x10_127), .val (.int x11_141), .val (.int x12_152), .val (.int x13_166), .val (.ref b43), .val (.int (own_f9 x15_216 x11_141 x10_127 ws26))]) rfl ?_
      exact k)⟩
  have I2 : own_Inv u59_line u59_passed u59_lineStart u59_afterCarriageReturn x15_252 4 := by
    rw [hu59_line, hu59_passed, hu59_lineStart, hu59_afterCarriageReturn, hx15_252]
    exact own_pass _ _ _ _ _ _ _ _ 2 (own_cnt x10_127 hx10_127) (own_off x10_127 x11_141 hx10_127 hx11_141).1 I1 (by decide)
  obtain ⟨_, _, ⟨T65, L65, k65, n65⟩, -, X65, ⟨Lc65, hQ65, l65, y65, z65⟩, st65⟩ := Jvm.LawKit.callS X61 hx (y := (⟨"com/example/trawl/trawl/dtd/TextPositionPassPinLaw", "agrees", "(Lcom/example/trawl/trawl/dtd/TextPosition;I)Z"⟩ : MethodName)) hown (mvT hZ (hw _ (List.mem_of_getElem? (i := 22) rfl))) (mvT hZ (hw _ (List.mem_of_getElem? (i := 23) rfl))) (mvT hZ (hw _ (List.mem_of_getElem? (i := 3) rfl))) (mvT hZ (hw _ (List.mem_of_getElem? (i := 24) rfl))) (by decide) (backOf (W := 0) (rm5 l Z aw hw [] (b43) (x15_252) (u59_line) (u59_passed) (u59_lineStart) (T59.heap) n0 z63 po59_0 po59_1 po59_2 po59_3) hZ (hw _ (List.mem_of_getElem? (i := 24) rfl)) (hw _ (List.mem_of_getElem? (i := 3) rfl)) (by decide) (by decide)) (g := (mkF m 256 #[.val (.long q0), .second, .val (.long q1), .second, .val (.int p2), .val (.ref b1), .val (.ref b2), .val (.ref b4), .val (.int x8_104), .val (.int x9_117), .val (.int x10_127), .val (.int x11_141), .val (.int x12_152), .val (.int x13_166), .val (.ref b43), .val (.int x15_252)] [(.int x15_252), (.ref b43)])) rfl (by rw [hml]; rfl) (argsL := [(.ref b43), (.int x15_252)]) (rest := []) (lenOf pd_5 rfl) rfl (by show 2 * 0 + _ ≤ _; exact Nat.le_of_eq rfl) (hb hby at_256) (fun _ _ => ⟨rfl, eq61, (by decide : 4 + 0 ≤ _), (by decide : 13 + 0 ≤ _)⟩)
  dsimp only [Pt.U, Pt.locs, Pt.cells, Pt.slots] at X65 l65 y65 z65 st65 hQ65
  rw [l65, y65, z65] at X65
  obtain ⟨rfl, Nq65, eq65⟩ := hQ65
  have N65 := Fr.app N61 Nq65
  have hc259 : ¬ ((own_f5 x15_252 u59_line u59_passed u59_lineStart) = (0 : Int32)) := by rw [own_agree _ _ _ _ _ _ I2 (by decide)]; decide
  have f67 := ((((V36.ext E43).keep K47 (ninS ne_b4_b43 nin0)).keep K52 (ninS ne_b4_b43 nin0)).keep K59 (ninS ne_b4_b43 nin0))
  obtain ⟨cq66, kq66, q66a, q66b, q66c⟩ := isOf hZ eq65 po59_0
  obtain ⟨_, _, ⟨T66, L66, k66, n66⟩, -, X66, ⟨Lc66, hQ66, l66, y66, z66⟩, st66⟩ := X65.virtualBack hx (y := (⟨"com/example/trawl/trawl/dtd/TextPosition", "pass", "([CII)V"⟩ : MethodName)) (z := (⟨"com/example/trawl/trawl/dtd/TextPosition", "pass", "([CII)V"⟩ : MethodName)) hown (mvT hZ (hw _ (List.mem_of_getElem? (i := 39) rfl))) (mvT hZ (hw _ (List.mem_of_getElem? (i := 40) rfl))) (notFace_of_selects (args := #[]) (mvT hZ (hw _ (List.mem_of_getElem? (i := 42) rfl)))) (mvT hZ (hw _ (List.mem_of_getElem? (i := 42) rfl))) (mvT hZ (hw _ (List.mem_of_getElem? (i := 41) rfl))) (by decide) (backOf (W := 0) (rm8 l Z aw hw [] (b43) (b4) (x13_166) (x12_152) (k4) ((3 : Int32)) (ws36) (u59_line) (u59_passed) (u59_lineStart) (u59_afterCarriageReturn) (T59.heap) n0 z63 po59_0 f67 ne_b4_b43 po59_1 po59_2 po59_3 po59_4 g_b43 (own_cnt x12_152 hx12_152) (own_off x12_152 x13_166 hx12_152 hx13_166).1 (own_off x12_152 x13_166 hx12_152 hx13_166).2.1 (own_off x12_152 x13_166 hx12_152 hx13_166).2.2) hZ (hw _ (List.mem_of_getElem? (i := 43) rfl)) (hw _ (List.mem_of_getElem? (i := 13) rfl)) (by decide) (by decide)) q66a q66c (g := (mkF m 272 #[.val (.long q0), .second, .val (.long q1), .second, .val (.int p2), .val (.ref b1), .val (.ref b2), .val (.ref b4), .val (.int x8_104), .val (.int x9_117), .val (.int x10_127), .val (.int x11_141), .val (.int x12_152), .val (.int x13_166), .val (.ref b43), .val (.int x15_252)] [(.int x12_152), (.int x13_166), (.ref b4), (.ref b43)])) rfl (by rw [hml]; rfl) (Steps.refl _) (argsL := [(.ref b4), (.int x13_166), (.int x12_152)]) (rest := []) (lenOf pd_6 rfl) rfl (by show 2 * 0 + _ ≤ _; exact Nat.le_of_eq rfl) (hb hby at_272) (fun _ _ => ⟨rfl, eq65, (by decide : 4 + 0 ≤ _), (by decide : 13 + 0 ≤ _)⟩)
  dsimp only [Pt.U, Pt.locs, Pt.cells, Pt.slots] at X66 l66 y66 z66 st66 hQ66
  rw [l66, y66, z66] at X66
  obtain ⟨rfl, Nq66, K66, po66_0, po66_1, po66_2, po66_3, po66_4⟩ := hQ66
  have N66 := Fr.app N65 Nq66
  obtain ⟨u66_line, hu66_line⟩ : ∃ z, z = (own_p8_line x13_166 x12_152 ws36 u59_line u59_afterCarriageReturn) := ⟨_, rfl⟩
  rw [← hu66_line] at po66_1
  obtain ⟨u66_passed, hu66_passed⟩ : ∃ z, z = (own_p8_passed x12_152 u59_passed) := ⟨_, rfl⟩
  rw [← hu66_passed] at po66_2
  obtain ⟨u66_lineStart, hu66_lineStart⟩ : ∃ z, z = (own_p8_lineStart x13_166 x12_152 ws36 u59_passed u59_lineStart) := ⟨_, rfl⟩
  rw [← hu66_lineStart] at po66_3
  obtain ⟨u66_afterCarriageReturn, hu66_afterCarriageReturn⟩ : ∃ z, z = (own_p8_afterCarriageReturn x13_166 x12_152 ws36 u59_afterCarriageReturn) := ⟨_, rfl⟩
  rw [← hu66_afterCarriageReturn] at po66_4
  have f69 := (f67.keep K66 (ninS ne_b4_b43 nin0))
  have z70 : n0 ≤ (T66.heap).size := (Nat.le_trans z63 K66.1)
  obtain ⟨_, _, ⟨T68, L68, k68, n68⟩, -, X68, ⟨Lc68, hQ68, l68, y68, z68⟩, st68⟩ := Jvm.LawKit.callS X66 hx (y := (⟨"com/example/trawl/trawl/dtd/TextPositionPassPinLaw", "stepN", "(I[CII)I"⟩ : MethodName)) hown (mvT hZ (hw _ (List.mem_of_getElem? (i := 44) rfl))) (mvT hZ (hw _ (List.mem_of_getElem? (i := 45) rfl))) (mvT hZ (hw _ (List.mem_of_getElem? (i := 3) rfl))) (mvT hZ (hw _ (List.mem_of_getElem? (i := 46) rfl))) (by decide) (backOf (W := 0) (rm9 l Z aw hw [] (x15_252) (b4) (x13_166) (x12_152) (k4) ((3 : Int32)) (ws36) (T66.heap) n0 z70 f69 (own_off x12_152 x13_166 hx12_152 hx13_166).2.1 (own_off x12_152 x13_166 hx12_152 hx13_166).2.2) hZ (hw _ (List.mem_of_getElem? (i := 46) rfl)) (hw _ (List.mem_of_getElem? (i := 3) rfl)) (by decide) (by decide)) (g := (mkF m 283 #[.val (.long q0), .second, .val (.long q1), .second, .val (.int p2), .val (.ref b1), .val (.ref b2), .val (.ref b4), .val (.int x8_104), .val (.int x9_117), .val (.int x10_127), .val (.int x11_141), .val (.int x12_152), .val (.int x13_166), .val (.ref b43), .val (.int x15_252)] [(.int x12_152), (.int x13_166), (.ref b4), (.int x15_252)])) rfl (by rw [hml]; rfl) (argsL := [(.int x15_252), (.ref b4), (.int x13_166), (.int x12_152)]) (rest := []) (lenOf pd_7 rfl) rfl (by show 2 * 0 + _ ≤ _; exact Nat.le_of_eq rfl) (hb hby at_283) (fun _ _ => ⟨rfl, rfl, (by decide : 4 + 0 ≤ _), (by decide : 13 + 0 ≤ _)⟩)
  dsimp only [Pt.U, Pt.locs, Pt.cells, Pt.slots] at X68 l68 y68 z68 st68 hQ68
  rw [l68, y68, z68] at X68
  obtain ⟨rfl, Nq68, eq68⟩ := hQ68
  have N68 := Fr.app N66 Nq68
  obtain ⟨x15_288, hx15_288, pre71⟩ : ∃ z : Int32, z = (own_f9 x15_252 x13_166 x12_152 ws36) ∧ own_Pre p e below (s₁.setTop (entryFrame m #[(.long q0), (.long q1), (.int p2)] maxLocals)) (T68.setTop (mkF m 288 #[.val (.long q0), .second, .val (.long q1), .second, .val (.int p2), .val (.ref b1), .val (.ref b2), .val (.ref b4), .val (.int x8_104), .val (.int x9_117), .val (.int x10_127), .val (.int x11_141), .val (.int x12_152), .val (.int x13_166), .val (.ref b43), .val (.int z)] [])) := ⟨_, rfl, fun t k => pre64 t (by
      show Steps p.tables e below (T61.setTop (mkF m 252 #[.val (.long q0), .second, .val (.long q1), .second, .val (.int p2), .val (.ref b1), .val (.ref b2), .val (.ref b4), .val (.int x8_104), .val (.int x9_117), .val (.int x10_127), .val (.int x11_141), .val (.int x12_152), .val (.int x13_166), .val (.ref b43), .val (.int x15_252)] [])) _
      refine XS.aload X61.here hx rfl (hb hby at_252) rfl rfl ?_
      refine XS.iload X61.here hx rfl (hb hby at_254) rfl ?_
      refine st65 _ ?_
      refine XS.ifYes X65.here hx rfl (pc0 := 259) (pc' := 264) rfl (hb hby at_259) rfl ((if0 _ _).trans (feq hc259).2) (by decide) (by decide) ?_
      refine XS.aload X65.here hx rfl (hb hby at_264) rfl rfl ?_
      show Steps p.tables e below (T65.setTop (mkF m 266 #[.val (.long q0), .second, .val (.long q1), .second, .val (.int p2), .val (.ref b1), .val (.ref b2), .val (.ref b4), .val (.int x8_104), .val (.int x9_117), .val (.int x10_127), .val (.int x11_141), .val (.int x12_152), .val (.int x13_166), .val (.ref b43), .val (.int x15_252)] [(.ref b43)])) _
      refine XS.aload X65.here hx rfl (hb hby at_266) rfl rfl ?_
      refine XS.iload X65.here hx rfl (hb hby at_268) rfl ?_
      refine XS.iload X65.here hx rfl (hb hby at_270) rfl ?_
      refine st66.trans ?_
      refine XS.iload X66.here hx rfl (hb hby at_275) rfl ?_
      show Steps p.tables e below (T66.setTop (mkF m 277 #[.val (.long q0), .second, .val (.long q1), .second, .val (.int p2), .val (.ref b1), .val (.ref b2), .val (.ref b4), .val (.int x8_104), .val (.int x9_117), .val (.int x10_127), .val (.int x11_141), .val (.int x12_152), .val (.int x13_166), .val (.ref b43), .val (.int x15_252)] [(.int x15_252)])) _
      refine XS.aload X66.here hx rfl (hb hby at_277) rfl rfl ?_
      refine XS.iload X66.here hx rfl (hb hby at_279) rfl ?_
      refine XS.iload X66.here hx rfl (hb hby at_281) rfl ?_
      refine st68 _ ?_
      refine XS.istore X68.here hx rfl (hb hby at_286) rfl (l' := #[.val (.long q0), .second, .val (.long q1), .second, .val (.int p2), .val (.ref b1), .val (.ref b2), .val (.ref b4), .val (.int x8_104), .val (.int x9_117), .val (.int x10_127), .val (.int x11_141), .val (.int x12_152), .val (.int x13_166), .val (.ref b43), .val (.int (own_f9 x15_252 x13_166 x12_152 ws36))]) rfl ?_
      exact k)⟩
  have I3 : own_Inv u66_line u66_passed u66_lineStart u66_afterCarriageReturn x15_288 6 := by
    rw [hu66_line, hu66_passed, hu66_lineStart, hu66_afterCarriageReturn, hx15_288]
    exact own_pass _ _ _ _ _ _ _ _ 4 (own_cnt x12_152 hx12_152) (own_off x12_152 x13_166 hx12_152 hx13_166).1 I2 (by decide)
  obtain ⟨_, _, ⟨T72, L72, k72, n72⟩, -, X72, ⟨Lc72, hQ72, l72, y72, z72⟩, st72⟩ := Jvm.LawKit.callS X68 hx (y := (⟨"com/example/trawl/trawl/dtd/TextPositionPassPinLaw", "agrees", "(Lcom/example/trawl/trawl/dtd/TextPosition;I)Z"⟩ : MethodName)) hown (mvT hZ (hw _ (List.mem_of_getElem? (i := 22) rfl))) (mvT hZ (hw _ (List.mem_of_getElem? (i := 23) rfl))) (mvT hZ (hw _ (List.mem_of_getElem? (i := 3) rfl))) (mvT hZ (hw _ (List.mem_of_getElem? (i := 24) rfl))) (by decide) (backOf (W := 0) (rm5 l Z aw hw [] (b43) (x15_288) (u66_line) (u66_passed) (u66_lineStart) (T66.heap) n0 z70 po66_0 po66_1 po66_2 po66_3) hZ (hw _ (List.mem_of_getElem? (i := 24) rfl)) (hw _ (List.mem_of_getElem? (i := 3) rfl)) (by decide) (by decide)) (g := (mkF m 292 #[.val (.long q0), .second, .val (.long q1), .second, .val (.int p2), .val (.ref b1), .val (.ref b2), .val (.ref b4), .val (.int x8_104), .val (.int x9_117), .val (.int x10_127), .val (.int x11_141), .val (.int x12_152), .val (.int x13_166), .val (.ref b43), .val (.int x15_288)] [(.int x15_288), (.ref b43)])) rfl (by rw [hml]; rfl) (argsL := [(.ref b43), (.int x15_288)]) (rest := []) (lenOf pd_5 rfl) rfl (by show 2 * 0 + _ ≤ _; exact Nat.le_of_eq rfl) (hb hby at_292) (fun _ _ => ⟨rfl, eq68, (by decide : 4 + 0 ≤ _), (by decide : 13 + 0 ≤ _)⟩)
  dsimp only [Pt.U, Pt.locs, Pt.cells, Pt.slots] at X72 l72 y72 z72 st72 hQ72
  rw [l72, y72, z72] at X72
  obtain ⟨rfl, Nq72, eq72⟩ := hQ72
  have N72 := Fr.app N68 Nq72
  obtain ⟨fs, hr, hrun, hended, hW, hsame⟩ := X72.leave (v := some (.int (nar .boolean (own_f5 x15_288 u66_line u66_passed u66_lineStart)))) (fun h => by rw [Bd.returns] at h; cases h)
  refine ⟨_, _, pre71 _ ?_, hrun, hended, _, _, rfl, ?_, ⟨_, rfl⟩, hW, hsame.mono (by decide) (by decide)⟩
  · show Steps p.tables e below (T68.setTop (mkF m 288 #[.val (.long q0), .second, .val (.long q1), .second, .val (.int p2), .val (.ref b1), .val (.ref b2), .val (.ref b4), .val (.int x8_104), .val (.int x9_117), .val (.int x10_127), .val (.int x11_141), .val (.int x12_152), .val (.int x13_166), .val (.ref b43), .val (.int x15_288)] [])) _
    refine XS.aload X68.here hx rfl (hb hby at_288) rfl rfl ?_
    refine XS.iload X68.here hx rfl (hb hby at_290) rfl ?_
    refine st72 _ ?_
    show Steps p.tables e below (T72.setTop (mkF m 295 #[.val (.long q0), .second, .val (.long q1), .second, .val (.int p2), .val (.ref b1), .val (.ref b2), .val (.ref b4), .val (.int x8_104), .val (.int x9_117), .val (.int x10_127), .val (.int x11_141), .val (.int x12_152), .val (.int x13_166), .val (.ref b43), .val (.int x15_288)] [(.int (own_f5 x15_288 u66_line u66_passed u66_lineStart))])) _
    exact retN X72 hx (t := .boolean) Bd.returns (by simp) (hb hby at_295) hr
  · show Q0 Z q0 q1 p2 h0 n0 _ T72.heap _
    rw [eq72]
    unfold Q0
    refine ⟨?_, N72⟩
    · simp only [own_agree _ _ _ _ _ _ I3 (by decide)]; decide
set_option maxRecDepth 65536 in
set_option maxHeartbeats 40000000 in
theorem comes_1 {Post : Tables → Env → Array Value → State → Outcome → State → Prop} (hpost : ∀ tb e args s v u, (limb_1_1.after args s (.returned v) u = true ∧ limb_1_2.after args s (.returned v) u = true ∧ True) → FrameEnd s (.returned v) u (Jvm.fieldLocs frame_1_writes args s ++ Jvm.arrayLocs frame_1_arrays args s ++ Jvm.staticLocs frame_1_statics s) 16 128 → Post tb e args s (.returned v) u) :
    ArmFor flags0 classFile x code maxLocals ret World_1 tables_1 room_1 Calls_1 rest_1 Pre_1 Post := by
  intro l hfl _ _ p e ha hc hk s m args below hf hA hF happ hP
  obtain ⟨hcalls, hrest, hpre⟩ := hP
  obtain ⟨-, -, -, hnamed, -, -, -, hat⟩ := (Spec.applies_iff hf).mp happ
  obtain ⟨hg, hn⟩ := and_e (Cond.before_iff.mp (show (Jvm.Cond.and given_1 narrow_1).before args s = true from hpre))
  obtain ⟨gv1, gv2⟩ := and_e hg
  obtain ⟨gv3, gv4⟩ := and_e gv2
  obtain ⟨gv5, gv6⟩ := and_e gv4
  obtain ⟨w0, w1, w2, rfl⟩ : ∃ w0 w1 w2 : Value, args = #[w0, w1, w2] := by
    have hs : args.size = 3 := by simpa [Cond.value, given_1] using gv1
    obtain ⟨L⟩ := args
    match L, hs with
    | [w0, w1, w2], _ => exact ⟨w0, w1, w2, rfl⟩
  have hw := fun d (hd : d ∈ tables_1) => atoms_spec (ws := Jvm.Cond.code x code maxLocals ret :: tables_1) hat d (List.mem_cons_of_mem _ hd)
  obtain ⟨i0, ei0⟩ := isL_v gv3
  obtain rfl : w0 = (.long i0) := Option.some.inj ei0
  obtain ⟨i1, ei1⟩ := isL_v gv5
  obtain rfl : w1 = (.long i1) := Option.some.inj ei1
  obtain ⟨i2, ei2⟩ := is_v gv6
  obtain rfl : w2 = (.int i2) := Option.some.inj ei2
  obtain ⟨n, o, h1, h2, h3, _, L, rfl, ⟨rfl, N⟩, hq⟩ := rm0 l s _ hw tables_1 i0 i1 i2 s.heap s.heap.size (Nat.le_refl _) p e ha hc hk s m _ below hf ((Spec.applies_iff_loose hf).mp happ).1 ⟨rfl, State.Warmed39.refl s, rfl⟩ trivial
  refine ⟨n, _, h1, h2, h3, hpost _ _ _ _ _ _ ⟨Cond.after_iff.mpr rfl, Cond.after_iff.mpr (eq_i res_at (Term.int_eval (1)) rfl), trivial⟩ ⟨hq.1, hq.2.1, (hq.2.2.sift fun y hy => Or.inr (N y hy)).mono (by decide) (by decide)⟩⟩
theorem main_1_1 : Claimed_1_1 := comes_1 fun _ _ _ _ _ _ h hF => ⟨h.1, hF⟩
theorem main_1_2 : Claimed_1_2 := comes_1 fun _ _ _ _ _ _ h hF => ⟨h.2.1, hF⟩
end Jvm.Pilot.@@N@@
namespace Jvm.Pilot.@@N@@
open Jvm Jvm.ClassFile Sem Op Lib Jvm.Free Jvm.Stand Jvm.Pilot.@@N@@.Jvm.D
/-! MADE BY PROGRAM (witnessworld.py) out of the Statement's table words and the real class files: 11 classes; the members and pool entries that the words name. The judged class is class 1, her method 6. -/
namespace start1
open Jvm.ClassFile
def u (s : String) : CpInfo := .utf8 (stringToUtf16 s)
/-- a pool by its gaps: so many unusable entries, then the entry; so many at the end -/
def gap : Nat → List CpInfo → List CpInfo
  | 0, r => r
  | n + 1, r => .unusable :: gap n r
def poolList (es : List (Nat × CpInfo)) (last : Nat) : List CpInfo := es.foldr (fun e r => gap e.1 (e.2 :: r)) (gap last [])
def pool (es : List (Nat × CpInfo)) (last : Nat) : Array CpInfo := ⟨poolList es last⟩
def fileOf (pool : Array CpInfo) (this : Nat) (attrs : Array Attribute := #[]) (ms : Array MethodInfo := #[]) (fl : Nat := 33) (sup : Nat := 0) (ifs : Array Nat := #[]) (fds : Array FieldInfo := #[]) : ClassFile where
  minorVersion := 0
  majorVersion := 65
  constantPool := pool
  accessFlags := fl
  thisClass := this
  superClass := sup
  interfaces := ifs
  fields := fds
  methods := ms
  attributes := attrs
def plain (name : String) (sup : Option ClassId) : Class where
  name := name
  kind := .ordinary
  loader := none
  accessFlags := 33
  super := sup
  interfaces := #[]
  cf := none
  fields := #[]
  methods := #[]
  instanceTypes := #[]
  staticTypes := #[]
  resolved := #[]
  callSites := []
  init := .initialized
  statics := none
  mirror := none

def pool0 : Array CpInfo := pool [(5, u "<init>"), (0, u "()V"), (1, .class_ 10), (1, u "java/lang/Object")] 113

def k0c0 : Code := { maxStack := 0, maxLocals := 1, code := object_method_1_code, exceptionTable := #[], attributes := #[] }
def k0m0 : Method := { name := "<init>", desc := "()V", sig := { parameters := [], returnType := none }, accessFlags := 1, code := some k0c0 }
/-- java/lang/Object -/
def k0 : Class := { plain "java/lang/Object" none with
  accessFlags := 33
  interfaces := #[]
  cf := some (fileOf pool0 8 #[] #[{ accessFlags := 1, nameIndex := 5, descriptorIndex := 6, attributes := #[] }] 33 0 #[] #[])
  fields := #[]
  methods := #[k0m0]
  instanceTypes := #[]
  staticTypes := #[]
  resolved := Array.replicate 124 none
  statics := none }

def pool1 : Array CpInfo := pool [(2, .class_ 4), (0, .nameAndType 5 6), (0, u "java/lang/Object"), (0, u "<init>"), (0, u "()V"), (0, .long 3), (1, .long 255), (1, .long 1023), (1, .methodref 14 15), (0, .class_ 16), (0, .nameAndType 17 18), (0, u "com/example/trawl/trawl/dtd/TextPositionPassPinLaw"), (0, u "decode"), (0, u "(J)C"), (0, .methodref 14 20), (0, .nameAndType 21 22), (0, u "step"), (0, u "(IC)I"), (0, .methodref 24 25), (0, .class_ 26), (0, .nameAndType 27 28), (0, u "com/example/trawl/trawl/dtd/TextPosition"), (0, u "line"), (0, u "()I"), (0, .methodref 24 30), (0, .nameAndType 31 28), (0, u "column"), (0, .methodref 14 33), (0, .nameAndType 34 35), (0, u "ch"), (0, u "(JI)C"), (0, .methodref 24 3), (0, .methodref 14 38), (0, .nameAndType 39 40), (0, u "agrees"), (0, u "(Lcom/example/trawl/trawl/dtd/TextPosition;I)Z"), (0, .methodref 24 42), (0, .nameAndType 43 44), (0, u "pass"), (0, u "([CII)V"), (0, .methodref 14 46), (0, .nameAndType 47 48), (0, u "stepN"), (0, u "(I[CII)I"), (3, u "law"), (0, u "(JJI)Z")] 4

def k1m0 : Method := { name := "<init>", desc := "()V", sig := { parameters := [], returnType := none }, accessFlags := 1, code := none }
def k1c1 : Code := { maxStack := 4, maxLocals := 3, code := method_2_code, exceptionTable := #[], attributes := #[] }
def k1m1 : Method := { name := "decode", desc := "(J)C", sig := { parameters := [.long], returnType := some .char }, accessFlags := 10, code := some k1c1 }
def k1c2 : Code := { maxStack := 4, maxLocals := 3, code := method_3_code, exceptionTable := #[], attributes := #[] }
def k1m2 : Method := { name := "ch", desc := "(JI)C", sig := { parameters := [.long, .int], returnType := some .char }, accessFlags := 10, code := some k1c2 }
def k1c3 : Code := { maxStack := 3, maxLocals := 5, code := method_4_code, exceptionTable := #[], attributes := #[] }
def k1m3 : Method := { name := "step", desc := "(IC)I", sig := { parameters := [.int, .char], returnType := some .int }, accessFlags := 10, code := some k1c3 }
def k1c4 : Code := { maxStack := 4, maxLocals := 5, code := method_5_code, exceptionTable := #[], attributes := #[] }
def k1m4 : Method := { name := "stepN", desc := "(I[CII)I", sig := { parameters := [.int, (.array .char), .int, .int], returnType := some .int }, accessFlags := 10, code := some k1c4 }
def k1c5 : Code := { maxStack := 3, maxLocals := 2, code := method_6_code, exceptionTable := #[], attributes := #[] }
def k1m5 : Method := { name := "agrees", desc := "(Lcom/example/trawl/trawl/dtd/TextPosition;I)Z", sig := { parameters := [(.object "com/example/trawl/trawl/dtd/TextPosition"), .int], returnType := some .boolean }, accessFlags := 10, code := some k1c5 }
def k1c6 : Code := { maxStack := 5, maxLocals := 16, code := code, exceptionTable := #[], attributes := #[] }
def k1m6 : Method := { name := "law", desc := "(JJI)Z", sig := { parameters := [.long, .long, .int], returnType := some .boolean }, accessFlags := 9, code := some k1c6 }
/-- com/example/trawl/trawl/dtd/TextPositionPassPinLaw -/
def k1 : Class := { plain "com/example/trawl/trawl/dtd/TextPositionPassPinLaw" (some 0) with
  accessFlags := 49
  interfaces := #[]
  cf := some (fileOf pool1 14 #[] #[{ accessFlags := 1, nameIndex := 5, descriptorIndex := 6, attributes := #[] }, { accessFlags := 10, nameIndex := 17, descriptorIndex := 18, attributes := #[] }, { accessFlags := 10, nameIndex := 34, descriptorIndex := 35, attributes := #[] }, { accessFlags := 10, nameIndex := 21, descriptorIndex := 22, attributes := #[] }, { accessFlags := 10, nameIndex := 47, descriptorIndex := 48, attributes := #[] }, { accessFlags := 10, nameIndex := 39, descriptorIndex := 40, attributes := #[] }, { accessFlags := 9, nameIndex := 52, descriptorIndex := 53, attributes := #[] }] 49 2 #[] #[])
  fields := #[]
  methods := #[k1m0, k1m1, k1m2, k1m3, k1m4, k1m5, k1m6]
  instanceTypes := #[]
  staticTypes := #[]
  resolved := Array.replicate 58 none
  statics := none }

def pool2 : Array CpInfo := pool [(1, .methodref 2 3), (0, .class_ 4), (0, .nameAndType 5 6), (0, u "java/lang/Object"), (0, u "<init>"), (0, u "()V"), (0, .fieldref 8 9), (0, .class_ 10), (0, .nameAndType 11 12), (0, u "com/example/trawl/trawl/dtd/TextPosition"), (0, u "line"), (0, u "I"), (1, .fieldref 8 15), (0, .nameAndType 16 17), (0, u "passed"), (0, u "J"), (0, .fieldref 8 19), (0, .nameAndType 20 17), (0, u "lineStart"), (0, .fieldref 8 22), (0, .nameAndType 23 24), (0, u "afterCarriageReturn"), (0, u "Z"), (4, u "pass"), (0, u "([CII)V"), (3, u "()I"), (0, u "column")] 2

def k2c0 : Code := { maxStack := 2, maxLocals := 1, code := prog_22_method_1_code, exceptionTable := #[], attributes := #[] }
def k2m0 : Method := { name := "<init>", desc := "()V", sig := { parameters := [], returnType := none }, accessFlags := 1, code := some k2c0 }
def k2c1 : Code := { maxStack := 5, maxLocals := 7, code := prog_22_method_3_code, exceptionTable := #[], attributes := #[] }
def k2m1 : Method := { name := "pass", desc := "([CII)V", sig := { parameters := [(.array .char), .int, .int], returnType := none }, accessFlags := 1, code := some k2c1 }
def k2c2 : Code := { maxStack := 1, maxLocals := 1, code := prog_22_method_4_code, exceptionTable := #[], attributes := #[] }
def k2m2 : Method := { name := "line", desc := "()I", sig := { parameters := [], returnType := some .int }, accessFlags := 1, code := some k2c2 }
def k2c3 : Code := { maxStack := 4, maxLocals := 1, code := prog_22_method_5_code, exceptionTable := #[], attributes := #[] }
def k2m3 : Method := { name := "column", desc := "()I", sig := { parameters := [], returnType := some .int }, accessFlags := 1, code := some k2c3 }
/-- com/example/trawl/trawl/dtd/TextPosition -/
def k2 : Class := { plain "com/example/trawl/trawl/dtd/TextPosition" (some 0) with
  accessFlags := 49
  interfaces := #[]
  cf := some (fileOf pool2 8 #[] #[{ accessFlags := 1, nameIndex := 5, descriptorIndex := 6, attributes := #[] }, { accessFlags := 1, nameIndex := 29, descriptorIndex := 30, attributes := #[] }, { accessFlags := 1, nameIndex := 11, descriptorIndex := 34, attributes := #[] }, { accessFlags := 1, nameIndex := 35, descriptorIndex := 34, attributes := #[] }] 49 2 #[] #[{ accessFlags := 2, nameIndex := 11, descriptorIndex := 12, attributes := #[] }, { accessFlags := 2, nameIndex := 16, descriptorIndex := 17, attributes := #[] }, { accessFlags := 2, nameIndex := 20, descriptorIndex := 17, attributes := #[] }, { accessFlags := 2, nameIndex := 23, descriptorIndex := 24, attributes := #[] }])
  fields := #[{ name := "line", type := .int, accessFlags := 2, slot := 0, constantValue := 0 }, { name := "passed", type := .long, accessFlags := 2, slot := 1, constantValue := 0 }, { name := "lineStart", type := .long, accessFlags := 2, slot := 2, constantValue := 0 }, { name := "afterCarriageReturn", type := .boolean, accessFlags := 2, slot := 3, constantValue := 0 }]
  methods := #[k2m0, k2m1, k2m2, k2m3]
  instanceTypes := #[.int, .long, .long, .boolean]
  staticTypes := #[]
  resolved := Array.replicate 38 none
  statics := none }

def pool3 : Array CpInfo := pool [(1, u "java/lang/Cloneable"), (0, .class_ 1), (0, u "java/lang/Object"), (0, .class_ 3)] 3

/-- java/lang/Cloneable -/
def k3 : Class := { plain "java/lang/Cloneable" (some 0) with
  accessFlags := 1537
  interfaces := #[]
  cf := some (fileOf pool3 2 #[] #[] 1537 4 #[] #[])
  fields := #[]
  methods := #[]
  instanceTypes := #[]
  staticTypes := #[]
  resolved := Array.replicate 8 none
  statics := none }

def pool4 : Array CpInfo := pool [(1, u "java/io/Serializable"), (0, .class_ 1), (0, u "java/lang/Object"), (0, .class_ 3)] 3

/-- java/io/Serializable -/
def k4 : Class := { plain "java/io/Serializable" (some 0) with
  accessFlags := 1537
  interfaces := #[]
  cf := some (fileOf pool4 2 #[] #[] 1537 4 #[] #[])
  fields := #[]
  methods := #[]
  instanceTypes := #[]
  staticTypes := #[]
  resolved := Array.replicate 8 none
  statics := none }

/-- the primitive byte -/
def k5 : Class := { plain "byte" none with kind := .primitive 'B', accessFlags := 0x411 }
/-- [B -/
def k6 : Class := { plain "[B" (some 0) with kind := .array 5 .byte, interfaces := #[3, 4], accessFlags := 1041 }

/-- the primitive char -/
def k7 : Class := { plain "char" none with kind := .primitive 'C', accessFlags := 0x411 }
/-- [C -/
def k8 : Class := { plain "[C" (some 0) with kind := .array 7 .char, interfaces := #[3, 4], accessFlags := 1041 }

/-- the primitive int -/
def k9 : Class := { plain "int" none with kind := .primitive 'I', accessFlags := 0x411 }
/-- [I -/
def k10 : Class := { plain "[I" (some 0) with kind := .array 9 .int, interfaces := #[3, 4], accessFlags := 1041 }

def heap : Heap := #[]
def classes : Array Class := #[k0, k1, k2, k3, k4, k5, k6, k7, k8, k9, k10]
def interned : List (Array UInt16 × Addr) := []
def slotsUsed : Nat := 0
def theMethod : MethodId := ⟨1, 6⟩
def args0 : Array Value := #[.long 5, .long 6, .int 3]
def aboutOver (below : List Frame) : State where
  vm := { classes := classes, interned := interned.toArray }
  heap := heap
  slotsUsed := slotsUsed
  threads := #[{ frames := .invoking theMethod args0 :: below }]
def below0 : List Frame := [.native { method := ⟨0, 0⟩, args := #[] }]
def about1 : State := aboutOver below0
def p0 : Program := .bare "" "" ""
def e0 : Env := launch0.env 0 0 0
theorem w_frames : about1.frames = Frame.invoking theMethod args0 :: below0 := rfl
set_option maxRecDepth 65536 in
theorem w_args : argsFit about1.vm theMethod args0 = true := by decide +kernel
set_option maxRecDepth 65536 in
theorem w_heap : heapFits about1 = true := by decide +kernel
set_option maxRecDepth 65536 in
theorem w_runnable : about1.curStatus? = some .runnable := by decide +kernel
set_option maxRecDepth 65536 in
theorem w_alone : about1.alone = true := by decide +kernel
set_option maxRecDepth 65536 in
theorem w_named : about1.methodNamed? x = some theMethod := by decide +kernel
set_option maxRecDepth 65536 in
theorem w_hears : about1.hears theMethod below0 = true := by decide +kernel
set_option maxRecDepth 65536 in
theorem w_ripe : about1.ripe theMethod args0 below0 = true := by decide +kernel
theorem w_running : about1.status = .running := rfl
set_option maxRecDepth 65536 in
theorem w_room : about1.hasRoom e0.platform room_1 = true :=
  launch0.hasRoom_least _ room_1 (by decide +kernel) (by decide +kernel) (by decide +kernel) (by decide +kernel) (by decide +kernel) (by decide +kernel)
theorem allAtoms_all (ts : List Jvm.Cond) (a : Array Jvm.Value) (st : Jvm.State) : (allAtoms ts).before a st = ts.all (fun c => c.before a st) := by
  induction ts with
  | nil => rfl
  | cons c t ih =>
    show (Jvm.Cond.and c (allAtoms t)).before a st = _
    rw [Jvm.Cond.before_and, ih, List.all_cons]
def words1 : List Jvm.Cond := Jvm.Cond.code x code maxLocals ret :: tables_1
/-- a 'code' word, met by the world's own term for the bytes: nothing is compared byte by byte -/
theorem code_word {y : MethodName} {bytes : ByteArray} {mx : Nat} {rt : Option FieldType} {a : Array Value} {s : State} {m : MethodId} {meth : Method} {c : Code} (h1 : s.methodNamed? y = some m) (h2 : s.vm.method? m = some meth) (h3 : meth.code = some c) (h4 : c.code = bytes)
    (h5 : (c.maxLocals == mx && c.exceptionTable.isEmpty && decide (c.maxStack ≤ mostOperands) && decide (meth.sig.returnType = rt) && !meth.locks && decide (parseMethodDescriptor y.desc = some meth.sig)) = true) : (Jvm.Cond.code y bytes mx rt).before a s = true := by
  simp only [Bool.and_eq_true, beq_iff_eq, Bool.not_eq_true', decide_eq_true_eq] at h5
  obtain ⟨⟨⟨⟨⟨g1, g2⟩, g3⟩, g4⟩, g5⟩, g6⟩ := h5
  simp [Cond.before, Cond.holds, Cond.value, h1, h2, h3, h4, g1, g2, g3, g4, g5, g6]
def isCode : Jvm.Cond → Bool
  | .code _ _ _ _ => true
  | _ => false
theorem all_split {L : List Jvm.Cond} {P : Jvm.Cond → Bool} (h1 : L.all (fun c => isCode c || P c) = true) (h2 : ∀ c ∈ L.filter isCode, P c = true) : L.all P = true := by
  refine List.all_eq_true.mpr fun c hc => ?_
  have h := List.all_eq_true.mp h1 c hc
  rcases Bool.eq_false_or_eq_true (isCode c) with hi | hi
  · exact h2 c (List.mem_filter.mpr ⟨hc, hi⟩)
  · simpa [hi] using h
set_option maxRecDepth 65536 in
theorem w_c0 : (Jvm.Cond.code x code maxLocals ret).before args0 about1 = true := code_word (m := ⟨1, 6⟩) (meth := k1m6) (c := k1c6) (by decide +kernel) rfl rfl rfl (by decide +kernel)
set_option maxRecDepth 65536 in
theorem w_c1 : (Jvm.Cond.code ({ cls := "com/example/trawl/trawl/dtd/TextPositionPassPinLaw", name := "ch", desc := "(JI)C" } : Jvm.MethodName) method_3_code (3 : Nat) (Option.some Jvm.ClassFile.FieldType.char)).before args0 about1 = true := code_word (m := ⟨1, 2⟩) (meth := k1m2) (c := k1c2) (by decide +kernel) rfl rfl rfl (by decide +kernel)
set_option maxRecDepth 65536 in
theorem w_c2 : (Jvm.Cond.code ({ cls := "com/example/trawl/trawl/dtd/TextPositionPassPinLaw", name := "decode", desc := "(J)C" } : Jvm.MethodName) method_2_code (3 : Nat) (Option.some Jvm.ClassFile.FieldType.char)).before args0 about1 = true := code_word (m := ⟨1, 1⟩) (meth := k1m1) (c := k1c1) (by decide +kernel) rfl rfl rfl (by decide +kernel)
set_option maxRecDepth 65536 in
theorem w_c3 : (Jvm.Cond.code ({ cls := "com/example/trawl/trawl/dtd/TextPosition", name := "<init>", desc := "()V" } : Jvm.MethodName) prog_22_method_1_code (1 : Nat) (Option.none : Option Jvm.ClassFile.FieldType)).before args0 about1 = true := code_word (m := ⟨2, 0⟩) (meth := k2m0) (c := k2c0) (by decide +kernel) rfl rfl rfl (by decide +kernel)
set_option maxRecDepth 65536 in
theorem w_c4 : (Jvm.Cond.code ({ cls := "java/lang/Object", name := "<init>", desc := "()V" } : Jvm.MethodName) object_method_1_code (1 : Nat) (Option.none : Option Jvm.ClassFile.FieldType)).before args0 about1 = true := code_word (m := ⟨0, 0⟩) (meth := k0m0) (c := k0c0) (by decide +kernel) rfl rfl rfl (by decide +kernel)
set_option maxRecDepth 65536 in
theorem w_c5 : (Jvm.Cond.code ({ cls := "com/example/trawl/trawl/dtd/TextPositionPassPinLaw", name := "agrees", desc := "(Lcom/example/trawl/trawl/dtd/TextPosition;I)Z" } : Jvm.MethodName) method_6_code (2 : Nat) (Option.some Jvm.ClassFile.FieldType.boolean)).before args0 about1 = true := code_word (m := ⟨1, 5⟩) (meth := k1m5) (c := k1c5) (by decide +kernel) rfl rfl rfl (by decide +kernel)
set_option maxRecDepth 65536 in
theorem w_c6 : (Jvm.Cond.code ({ cls := "com/example/trawl/trawl/dtd/TextPosition", name := "line", desc := "()I" } : Jvm.MethodName) prog_22_method_4_code (1 : Nat) (Option.some Jvm.ClassFile.FieldType.int)).before args0 about1 = true := code_word (m := ⟨2, 2⟩) (meth := k2m2) (c := k2c2) (by decide +kernel) rfl rfl rfl (by decide +kernel)
set_option maxRecDepth 65536 in
theorem w_c7 : (Jvm.Cond.code ({ cls := "com/example/trawl/trawl/dtd/TextPosition", name := "column", desc := "()I" } : Jvm.MethodName) prog_22_method_5_code (1 : Nat) (Option.some Jvm.ClassFile.FieldType.int)).before args0 about1 = true := code_word (m := ⟨2, 3⟩) (meth := k2m3) (c := k2c3) (by decide +kernel) rfl rfl rfl (by decide +kernel)
set_option maxRecDepth 65536 in
theorem w_c8 : (Jvm.Cond.code ({ cls := "com/example/trawl/trawl/dtd/TextPosition", name := "pass", desc := "([CII)V" } : Jvm.MethodName) prog_22_method_3_code (7 : Nat) (Option.none : Option Jvm.ClassFile.FieldType)).before args0 about1 = true := code_word (m := ⟨2, 1⟩) (meth := k2m1) (c := k2c1) (by decide +kernel) rfl rfl rfl (by decide +kernel)
set_option maxRecDepth 65536 in
theorem w_c9 : (Jvm.Cond.code ({ cls := "com/example/trawl/trawl/dtd/TextPositionPassPinLaw", name := "stepN", desc := "(I[CII)I" } : Jvm.MethodName) method_5_code (5 : Nat) (Option.some Jvm.ClassFile.FieldType.int)).before args0 about1 = true := code_word (m := ⟨1, 4⟩) (meth := k1m4) (c := k1c4) (by decide +kernel) rfl rfl rfl (by decide +kernel)
set_option maxRecDepth 65536 in
theorem w_c10 : (Jvm.Cond.code ({ cls := "com/example/trawl/trawl/dtd/TextPositionPassPinLaw", name := "step", desc := "(IC)I" } : Jvm.MethodName) method_4_code (5 : Nat) (Option.some Jvm.ClassFile.FieldType.int)).before args0 about1 = true := code_word (m := ⟨1, 3⟩) (meth := k1m3) (c := k1c3) (by decide +kernel) rfl rfl rfl (by decide +kernel)
def codes1 : List Jvm.Cond := [Jvm.Cond.code x code maxLocals ret, Jvm.Cond.code ({ cls := "com/example/trawl/trawl/dtd/TextPositionPassPinLaw", name := "ch", desc := "(JI)C" } : Jvm.MethodName) method_3_code (3 : Nat) (Option.some Jvm.ClassFile.FieldType.char), Jvm.Cond.code ({ cls := "com/example/trawl/trawl/dtd/TextPositionPassPinLaw", name := "decode", desc := "(J)C" } : Jvm.MethodName) method_2_code (3 : Nat) (Option.some Jvm.ClassFile.FieldType.char), Jvm.Cond.code ({ cls := "com/example/trawl/trawl/dtd/TextPosition", name := "<init>", desc := "()V" } : Jvm.MethodName) prog_22_method_1_code (1 : Nat) (Option.none : Option Jvm.ClassFile.FieldType), Jvm.Cond.code ({ cls := "java/lang/Object", name := "<init>", desc := "()V" } : Jvm.MethodName) object_method_1_code (1 : Nat) (Option.none : Option Jvm.ClassFile.FieldType), Jvm.Cond.code ({ cls := "com/example/trawl/trawl/dtd/TextPositionPassPinLaw", name := "agrees", desc := "(Lcom/example/trawl/trawl/dtd/TextPosition;I)Z" } : Jvm.MethodName) method_6_code (2 : Nat) (Option.some Jvm.ClassFile.FieldType.boolean), Jvm.Cond.code ({ cls := "com/example/trawl/trawl/dtd/TextPosition", name := "line", desc := "()I" } : Jvm.MethodName) prog_22_method_4_code (1 : Nat) (Option.some Jvm.ClassFile.FieldType.int), Jvm.Cond.code ({ cls := "com/example/trawl/trawl/dtd/TextPosition", name := "column", desc := "()I" } : Jvm.MethodName) prog_22_method_5_code (1 : Nat) (Option.some Jvm.ClassFile.FieldType.int), Jvm.Cond.code ({ cls := "com/example/trawl/trawl/dtd/TextPosition", name := "pass", desc := "([CII)V" } : Jvm.MethodName) prog_22_method_3_code (7 : Nat) (Option.none : Option Jvm.ClassFile.FieldType), Jvm.Cond.code ({ cls := "com/example/trawl/trawl/dtd/TextPositionPassPinLaw", name := "stepN", desc := "(I[CII)I" } : Jvm.MethodName) method_5_code (5 : Nat) (Option.some Jvm.ClassFile.FieldType.int), Jvm.Cond.code ({ cls := "com/example/trawl/trawl/dtd/TextPositionPassPinLaw", name := "step", desc := "(IC)I" } : Jvm.MethodName) method_4_code (5 : Nat) (Option.some Jvm.ClassFile.FieldType.int)]
set_option maxRecDepth 65536 in
theorem codes_eq : words1.filter isCode = codes1 := rfl
theorem w_codes : ∀ c ∈ words1.filter isCode, c.before args0 about1 = true := by
  rw [codes_eq]
  intro c hc
  simp only [codes1, List.mem_cons, List.not_mem_nil, or_false] at hc
  rcases hc with rfl | rfl | rfl | rfl | rfl | rfl | rfl | rfl | rfl | rfl | rfl
  · exact w_c0
  · exact w_c1
  · exact w_c2
  · exact w_c3
  · exact w_c4
  · exact w_c5
  · exact w_c6
  · exact w_c7
  · exact w_c8
  · exact w_c9
  · exact w_c10
set_option maxRecDepth 65536 in
theorem w_t1 : (words1.take 24).all (fun c => isCode c || c.before args0 about1) = true := by decide +kernel
set_option maxRecDepth 65536 in
theorem w_t2 : ((words1.drop 24).take 24).all (fun c => isCode c || c.before args0 about1) = true := by decide +kernel
set_option maxRecDepth 65536 in
theorem w_t3 : ((words1.drop 24).drop 24).all (fun c => isCode c || c.before args0 about1) = true := by decide +kernel
theorem w_tables : (allAtoms (Jvm.Cond.code x code maxLocals ret :: tables_1)).before args0 about1 = true := by
  rw [allAtoms_all]
  show words1.all (fun c => c.before args0 about1) = true
  refine all_split ?_ w_codes
  rw [← List.take_append_drop 24 words1, List.all_append, w_t1, ← List.take_append_drop 24 (words1.drop 24), List.all_append, w_t2, w_t3]
  rfl
set_option maxRecDepth 65536 in
theorem w_case : (Jvm.Cond.and given_1 narrow_1).before args0 about1 = true := by decide +kernel
theorem w_applies : (headSpec (Jvm.Cond.code x code maxLocals ret :: tables_1) room_1).applies x e0.platform about1 = true :=
  (Spec.applies_iff w_frames).mpr ⟨w_running, w_runnable, w_alone, w_named, w_hears, w_ripe, w_room, w_tables⟩
theorem atStart : AtStart classFile x code maxLocals ret World_1 tables_1 room_1 Calls_1 rest_1 Pre_1 launch0 p0 e0 about1 theMethod args0 below0 :=
  ⟨lists_1, trivial, launch0.admits_env _ _ _, launch0.least_env, fairChoices_fair.cas, fairChoices_fair.clock, w_frames, w_args, w_heap, w_applies, trivial, trivial, w_case⟩
end start1
theorem witness_1 : WitnessClaimed_1 := ⟨start1.p0, start1.e0, start1.about1, start1.theMethod, start1.args0, start1.below0, start1.atStart⟩
end Jvm.Pilot.@@N@@
