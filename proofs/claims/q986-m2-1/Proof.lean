import JvmDerived
import JvmDerived.Pilot.@@N@@Statement
import JvmDerived.Pilot.@@N@@Code
set_option linter.unusedVariables false
set_option linter.unusedSimpArgs false
namespace Jvm.RoadKit
open Sem ClassFile Op Lib Jvm.Stand Jvm.Free Jvm.LawKit
section New
variable {p : Program} {l : Launch} {e : Env} {R : Room} {s : State} {m : MethodId} {args : Array Value} {below : List Frame} {meth : Method} {c : Code} {T : State} {locs : List Loc} {cells slots : Nat}
theorem retI (X : Stand p l e R s m args below meth c T locs cells slots) (hx : p.tables.exec = Jvm.exec) {pc : Nat} {Ls : Array Slot} {z : Int32} {rest : List Value} (hret : meth.sig.returnType = some .int) (hd : decode c.code pc = .ok (.ireturn, 1)) {fs : List Frame}
    (hl : ∀ (f : JFrame) (acts : List Action), f.method = m → f.locked = none → f.entered = [] → (doReturn e (T.setTop f) acts (some (.int z))).1 = T.setFrames fs) : Steps p.tables e below (T.setTop (mkF m pc Ls (.int z :: rest))) (T.setFrames fs) := by
  have hm' : T.vm.method? m = some meth := X.method'
  have hn : narrow .int (.int z) = .int z := rfl
  show Steps p.tables e below (T.setTop { method := m, pc := pc, locals := Ls, stack := _ :: rest, locked := none }) _
  jvm_step X.here [X.here.top, hx, hd, hm', hret, hn]
  first | (intro acts; rw [hl _ acts rfl rfl rfl]) | rw [hl _ _ rfl rfl rfl]
  exact Steps.refl _
end New
end Jvm.RoadKit
namespace Jvm.Pilot.@@N@@
open Jvm Jvm.ClassFile Sem Op Lib Jvm.Free Jvm.Stand Jvm.LawKit Jvm.RoadKit Bundle Jvm.Pilot.@@N@@.Jvm.D
/-- from the state 'cur' on is enough -/
def own_Pre (p : Program) (e : Env) (below : List Frame) (start cur : State) : Prop := ∀ t, Steps p.tables e below cur t → Steps p.tables e below start t
/-- an array of ints (bytes, chars, booleans): its length z, its components ws (at least so many) -/
def own_AI (Z : State) (h : Heap) (a : Addr) (k : ClassId) (ty : FieldType) (z : Int32) (ws : List Int32) : Prop := Arv Z h a k ty z (ws.map Value.int) (.int 0) ∧ z.toNatClampNeg ≤ ws.length
def own_AJ (Z : State) (h : Heap) (a : Addr) (k : ClassId) (ty : FieldType) (z : Int32) (ws : List Int64) : Prop := Arv Z h a k ty z (ws.map Value.long) (.long 0) ∧ z.toNatClampNeg ≤ ws.length
section OwnA
variable {Z : State} {h h' : Heap} {a b : Addr} {k : ClassId} {ty : FieldType} {z : Int32} {ws : List Int32} {wl : List Int64} {sl : Nat} {v : Value} {L : List Addr}
theorem own_AI.lt (F : own_AI Z h a k ty z ws) : a < h.size := Arv.lt F.1
theorem own_AI.ext (F : own_AI Z h a k ty z ws) (E : Ext h h') : own_AI Z h' a k ty z ws := ⟨Arv.ext F.1 E, F.2⟩
theorem own_AI.other (F : own_AI Z h b k ty z ws) (W : Wr h h' a sl v) (q : b ≠ a) : own_AI Z h' b k ty z ws := ⟨Arv.other F.1 W q, F.2⟩
theorem own_AI.keep (F : own_AI Z h a k ty z ws) (K : Keep h h' L) (q : a ∉ L) : own_AI Z h' a k ty z ws := ⟨Arv.keep F.1 K q, F.2⟩
theorem own_AJ.lt (F : own_AJ Z h a k ty z wl) : a < h.size := Arv.lt F.1
theorem own_AJ.ext (F : own_AJ Z h a k ty z wl) (E : Ext h h') : own_AJ Z h' a k ty z wl := ⟨Arv.ext F.1 E, F.2⟩
theorem own_AJ.other (F : own_AJ Z h b k ty z wl) (W : Wr h h' a sl v) (q : b ≠ a) : own_AJ Z h' b k ty z wl := ⟨Arv.other F.1 W q, F.2⟩
theorem own_AJ.keep (F : own_AJ Z h a k ty z wl) (K : Keep h h' L) (q : a ∉ L) : own_AJ Z h' a k ty z wl := ⟨Arv.keep F.1 K q, F.2⟩
theorem own_AI.new (n : Nat) (A : Arr Z h a (newA k ty z) ty) (q : ¬ z < 0) (hn : z.toNatClampNeg ≤ n) (hd : defaultValue ty = .int 0) : own_AI Z h a k ty z (List.replicate n (0 : Int32)) := by
  have := Arv.new A q
  rw [hd] at this
  have r := this.pad (pad_rep [] (.int 0) n)
  exact ⟨by simpa [List.map_replicate] using r, by simpa using hn⟩
theorem own_AJ.new (n : Nat) (A : Arr Z h a (newA k ty z) ty) (q : ¬ z < 0) (hn : z.toNatClampNeg ≤ n) (hd : defaultValue ty = .long 0) : own_AJ Z h a k ty z (List.replicate n (0 : Int64)) := by
  have := Arv.new A q
  rw [hd] at this
  have r := this.pad (pad_rep [] (.long 0) n)
  exact ⟨by simpa [List.map_replicate] using r, by simpa using hn⟩
theorem own_getI (ws : List Int32) (i : Nat) : (ws.map Value.int).getD i (.int 0) = .int (ws.getD i 0) := by
  simp only [List.getD_eq_getElem?_getD, List.getElem?_map]
  cases ws[i]? <;> rfl
theorem own_getJ (ws : List Int64) (i : Nat) : (ws.map Value.long).getD i (.long 0) = .long (ws.getD i 0) := by
  simp only [List.getD_eq_getElem?_getD, List.getElem?_map]
  cases ws[i]? <;> rfl
theorem own_AI.at (F : own_AI Z h a k ty z ws) {j : Int32} (q : ¬ j < 0 ∧ j < z) : ∃ cl : Cell, Arr Z h a cl ty ∧ ¬ (j < 0 ∨ cl.slots.size ≤ j.toNatClampNeg) ∧ cl.slots[j.toNatClampNeg]? = some (.int (ws.getD j.toNatClampNeg 0)) := by
  obtain ⟨⟨cl, A, -, S, -, H, -⟩, -⟩ := F
  have hin := inb_of S q
  exact ⟨cl, A, hin, H.at hin (own_getI _ _)⟩
theorem own_AJ.at (F : own_AJ Z h a k ty z wl) {j : Int32} (q : ¬ j < 0 ∧ j < z) : ∃ cl : Cell, Arr Z h a cl ty ∧ ¬ (j < 0 ∨ cl.slots.size ≤ j.toNatClampNeg) ∧ cl.slots[j.toNatClampNeg]? = some (.long (wl.getD j.toNatClampNeg 0)) := by
  obtain ⟨⟨cl, A, -, S, -, H, -⟩, -⟩ := F
  have hin := inb_of S q
  exact ⟨cl, A, hin, H.at hin (own_getJ _ _)⟩
theorem own_AI.arr (F : own_AI Z h a k ty z ws) {j : Int32} (q : ¬ j < 0 ∧ j < z) : ∃ cl : Cell, Arr Z h a cl ty ∧ ¬ (j < 0 ∨ cl.slots.size ≤ j.toNatClampNeg) ∧ ∀ (h' : Heap) (x : Int32), fits ty (.int x) = true → Wr h h' a j.toNatClampNeg (.int x) → own_AI Z h' a k ty z (ws.set j.toNatClampNeg x) := by
  obtain ⟨⟨cl, A, q1, S, q3, H, G⟩, ln⟩ := F
  have hin := inb_of S q
  refine ⟨cl, A, hin, fun h' x hv W => ?_⟩
  have hl : j.toNatClampNeg < ws.length := by
    rcases Nat.lt_or_ge j.toNatClampNeg ws.length with u | u
    · exact u
    · exact absurd (Or.inr (by omega)) hin
  have := Arv.set A q1 S q3 H G hv W _ rfl (by simpa using hl)
  rw [← List.map_set] at this
  exact ⟨this, by simpa using ln⟩
theorem own_AJ.arr (F : own_AJ Z h a k ty z wl) {j : Int32} (q : ¬ j < 0 ∧ j < z) : ∃ cl : Cell, Arr Z h a cl ty ∧ ¬ (j < 0 ∨ cl.slots.size ≤ j.toNatClampNeg) ∧ ∀ (h' : Heap) (x : Int64), fits ty (.long x) = true → Wr h h' a j.toNatClampNeg (.long x) → own_AJ Z h' a k ty z (wl.set j.toNatClampNeg x) := by
  obtain ⟨⟨cl, A, q1, S, q3, H, G⟩, ln⟩ := F
  have hin := inb_of S q
  refine ⟨cl, A, hin, fun h' x hv W => ?_⟩
  have hl : j.toNatClampNeg < wl.length := by
    rcases Nat.lt_or_ge j.toNatClampNeg wl.length with u | u
    · exact u
    · exact absurd (Or.inr (by omega)) hin
  have := Arv.set A q1 S q3 H G hv W _ rfl (by simpa using hl)
  rw [← List.map_set] at this
  exact ⟨this, by simpa using ln⟩
theorem own_AI.len (F : own_AI Z h a k ty z ws) : ∃ cl : Cell, Arr Z h a cl ty ∧ cl.slots.size = z.toNatClampNeg ∧ ¬ z < 0 := by
  obtain ⟨⟨cl, A, -, S, q3, -, -⟩, -⟩ := F
  exact ⟨cl, A, S, q3⟩
theorem own_AJ.len (F : own_AJ Z h a k ty z wl) : ∃ cl : Cell, Arr Z h a cl ty ∧ cl.slots.size = z.toNatClampNeg ∧ ¬ z < 0 := by
  obtain ⟨⟨cl, A, -, S, q3, -, -⟩, -⟩ := F
  exact ⟨cl, A, S, q3⟩
end OwnA
/-- a private method selects itself, where another method of its class is known to be no interface's -/
theorem own_selp {s : State} {args args' : Array Value} {y z : MethodName} (hz : (Cond.selects z.cls z z).before args s = true) (hc : z.cls = y.cls) (hpriv : s.PrivateAt y) (hinst : (Cond.instanceMethod y).before args s = true) (hy : y.cls ≠ "java/lang/invoke/MethodHandle" ∧ y.cls ≠ "java/lang/invoke/VarHandle") : (Cond.selects y.cls y y).before args s = true := by
  obtain ⟨c2, r2, m2, -, -, q3, -, kP, hkP, hkPi⟩ := Cond.selects_spec hz
  have hf := findClass_of_methodNamed q3
  rw [hc] at hf
  exact selects_self_of_private hf hkP hkPi hpriv hinst hy
/-- what holds of every byte -/
theorem own_bytes {P : Int32 → Prop} (H : ∀ i : Fin 256, P (Int32.ofInt ((i.1 : Int) - 128))) (x : Int32) : P x.toInt8.toInt32 := by
  obtain ⟨-, h1, h2⟩ := c_i2b x
  have e : x.toInt8.toInt32 = Int32.ofInt (((⟨(x.toInt8.toInt32.toInt + 128).toNat, by omega⟩ : Fin 256).1 : Int) - 128) := by
    apply Int32.toInt_inj.mp
    show _ = (Int32.ofInt (((x.toInt8.toInt32.toInt + 128).toNat : Int) - 128)).toInt
    rw [Int32.toInt_ofInt_of_le (by omega) (by omega)]
    omega
  rw [e]
  exact H _


theorem d1_0 : decode prog_6_method_4_code 0 = .ok (.iload_n 0, 1) := by decide +kernel
theorem d1_1 : decode prog_6_method_4_code 1 = .ok (.tableswitch 111 1 23 #[107, 107, 107, 107, 107, 107, 111, 111, 111, 107, 111, 111, 111, 111, 111, 107, 107, 107, 107, 107, 107, 107, 107], 107) := by decide +kernel
theorem d1_108 : decode prog_6_method_4_code 108 = .ok (.iconst 1, 1) := by decide +kernel
theorem d1_109 : decode prog_6_method_4_code 109 = .ok (.goto 4, 3) := by decide +kernel
theorem d1_112 : decode prog_6_method_4_code 112 = .ok (.iconst 0, 1) := by decide +kernel
theorem d1_113 : decode prog_6_method_4_code 113 = .ok (.ireturn, 1) := by decide +kernel
theorem pn_0 : plainName "com/example/tubeline/tubeline/astm/Control" = true := by first | (simp [plainName, overriddenIn]; done) | decide +kernel
theorem ef_1 (m : MethodId) (p0 : Int32) : entryFrame m #[(.int p0)] 1 = mkF m 0 #[.val (.int p0)] [] := by first | (simp [entryFrame, mkF, argsToLocals, Value.category]; done) | rfl
def own_f1 (p0 : Int32) : Int32 := (if p0 = (1 : Int32) then (1 : Int32) else (if p0 = (2 : Int32) then (1 : Int32) else (if p0 = (3 : Int32) then (1 : Int32) else (if p0 = (4 : Int32) then (1 : Int32) else (if p0 = (5 : Int32) then (1 : Int32) else (if p0 = (6 : Int32) then (1 : Int32) else (if p0 = (7 : Int32) then (0 : Int32) else (if p0 = (8 : Int32) then (0 : Int32) else (if p0 = (9 : Int32) then (0 : Int32) else (if p0 = (10 : Int32) then (1 : Int32) else (if p0 = (11 : Int32) then (0 : Int32) else (if p0 = (12 : Int32) then (0 : Int32) else (if p0 = (13 : Int32) then (0 : Int32) else (if p0 = (14 : Int32) then (0 : Int32) else (if p0 = (15 : Int32) then (0 : Int32) else (if p0 = (16 : Int32) then (1 : Int32) else (if p0 = (17 : Int32) then (1 : Int32) else (if p0 = (18 : Int32) then (1 : Int32) else (if p0 = (19 : Int32) then (1 : Int32) else (if p0 = (20 : Int32) then (1 : Int32) else (if p0 = (21 : Int32) then (1 : Int32) else (if p0 = (22 : Int32) then (1 : Int32) else (if p0 = (23 : Int32) then (1 : Int32) else (0 : Int32))))))))))))))))))))))))
def Q1 (Z : State) (p0 : Int32) (h0 : Heap) (n0 : Nat) (v : Option Value) (h : Heap) (L : List Loc) : Prop := v = some (.int (own_f1 p0)) ∧ Fr n0 L ∧ h = h0
set_option maxRecDepth 65536 in
set_option maxHeartbeats 40000000 in
theorem rm1 (l : Launch) (Z : State) (a0 : Array Value) (hw : ∀ d ∈ tables_1, d.before a0 Z = true) (ws : List Jvm.Cond) (p0 : Int32) (h0 : Heap) (n0 : Nat) (Z0 : n0 ≤ h0.size) :
    MetFree l (⟨"com/example/tubeline/tubeline/astm/Control", "isRestricted", "(B)Z"⟩ : MethodName) (head1 (Jvm.Cond.code (⟨"com/example/tubeline/tubeline/astm/Control", "isRestricted", "(B)Z"⟩ : MethodName) prog_6_method_4_code 1 (some .boolean) :: ws) ({ frames := 0, cells := 0, slots := 0, locals := 0 } : Room)) (fun a U => a = #[(.int p0)] ∧ Z.Warmed39 U.vm ∧ U.heap = h0) (fun _ _ _ _ _ => True) (fun _ U o U' => ∃ v L, o = .returned v ∧ Q1 Z p0 h0 n0 v U'.heap L ∧ FrameEnd U o U' L ({ frames := 0, cells := 0, slots := 0, locals := 0 } : Room).cells ({ frames := 0, cells := 0, slots := 0, locals := 0 } : Room).slots) := by
  refine MetFree.of_bodySF (plainFor_of_name pn_0) hisR ?_
  intro p e s m args below meth c s₁ Bd hml0 hP hK
  obtain ⟨rfl, hZ, hh⟩ := hP
  have hx := Bd.exec
  have hby := Bd.bytes
  have hml : c.maxLocals = 1 := hml0
  have hown : s.vm.findClass "com/example/tubeline/tubeline/astm/Control" = some m.cls := findClass_of_methodNamed Bd.named
  have hnm := (name_of_methodNamed Bd.named Bd.method).1
  have X0 : Stand p l e ({ frames := 0, cells := 0, slots := 0, locals := 0 } : Room) s m #[(.int p0)] below meth c s₁ [] 0 0 := Stand.of_body Bd
  have e0 : s₁.heap = h0 := by rw [← hh, Bd.state]; rfl
  have N0 := Fr.nil n0
  have pre0 : own_Pre p e below (s₁.setTop (entryFrame m #[(.int p0)] 1)) (s₁.setTop (mkF m 0 #[.val (.int p0)] [])) := fun t k => castTop (ef_1 m p0) k
  have pre1 : own_Pre p e below (s₁.setTop (entryFrame m #[(.int p0)] 1)) (s₁.setTop (mkF m 1 #[.val (.int p0)] [(.int p0)])) := fun t k => pre0 t (by
      show Steps p.tables e below (s₁.setTop (mkF m 0 #[.val (.int p0)] [])) _
      refine XS.iloadN X0.here hx rfl (hb hby d1_0) rfl ?_
      exact k)
  by_cases hs1_1 : p0 = (1 : Int32)
  · obtain ⟨fs, hr, hrun, hended, hW, hsame⟩ := X0.leave (v := some (.int (1 : Int32))) (fun h => by rw [Bd.returns] at h; cases h)
    refine ⟨_, _, pre1 _ ?_, hrun, hended, _, _, rfl, ?_, ⟨_, rfl⟩, hW, hsame.mono (by decide) (by decide)⟩
    · show Steps p.tables e below (s₁.setTop (mkF m 1 #[.val (.int p0)] [(.int p0)])) _
      refine XS.tswIn X0.here hx rfl (o := 107) (pc0 := 1) (pc' := 108) rfl (hb hby d1_1) rfl (by rw [hs1_1]; decide) (by rw [hs1_1]; rfl) (by decide) (by decide) ?_
      show Steps p.tables e below (s₁.setTop (mkF m 108 #[.val (.int p0)] [])) _
      refine XS.iconst X0.here hx rfl (hb hby d1_108) ?_
      show Steps p.tables e below (s₁.setTop (mkF m 109 #[.val (.int p0)] [(.int (1 : Int32))])) _
      refine XS.goto X0.here hx rfl (pc0 := 109) (pc' := 113) rfl (hb hby d1_109) (by decide) (by decide) ?_
      show Steps p.tables e below (s₁.setTop (mkF m 113 #[.val (.int p0)] [(.int (1 : Int32))])) _
      exact retN X0 hx (t := .boolean) Bd.returns (by simp) (hb hby d1_113) hr
    · show Q1 Z p0 h0 n0 _ s₁.heap _
      rw [e0]
      unfold Q1
      refine ⟨?_, N0, rfl⟩
      · simp only [own_f1, if_pos hs1_1]
  · by_cases hs1_2 : p0 = (2 : Int32)
    · obtain ⟨fs, hr, hrun, hended, hW, hsame⟩ := X0.leave (v := some (.int (1 : Int32))) (fun h => by rw [Bd.returns] at h; cases h)
      refine ⟨_, _, pre1 _ ?_, hrun, hended, _, _, rfl, ?_, ⟨_, rfl⟩, hW, hsame.mono (by decide) (by decide)⟩
      · show Steps p.tables e below (s₁.setTop (mkF m 1 #[.val (.int p0)] [(.int p0)])) _
        refine XS.tswIn X0.here hx rfl (o := 107) (pc0 := 1) (pc' := 108) rfl (hb hby d1_1) rfl (by rw [hs1_2]; decide) (by rw [hs1_2]; rfl) (by decide) (by decide) ?_
        show Steps p.tables e below (s₁.setTop (mkF m 108 #[.val (.int p0)] [])) _
        refine XS.iconst X0.here hx rfl (hb hby d1_108) ?_
        show Steps p.tables e below (s₁.setTop (mkF m 109 #[.val (.int p0)] [(.int (1 : Int32))])) _
        refine XS.goto X0.here hx rfl (pc0 := 109) (pc' := 113) rfl (hb hby d1_109) (by decide) (by decide) ?_
        show Steps p.tables e below (s₁.setTop (mkF m 113 #[.val (.int p0)] [(.int (1 : Int32))])) _
        exact retN X0 hx (t := .boolean) Bd.returns (by simp) (hb hby d1_113) hr
      · show Q1 Z p0 h0 n0 _ s₁.heap _
        rw [e0]
        unfold Q1
        refine ⟨?_, N0, rfl⟩
        · simp only [own_f1, if_neg hs1_1, if_pos hs1_2]
    · by_cases hs1_3 : p0 = (3 : Int32)
      · obtain ⟨fs, hr, hrun, hended, hW, hsame⟩ := X0.leave (v := some (.int (1 : Int32))) (fun h => by rw [Bd.returns] at h; cases h)
        refine ⟨_, _, pre1 _ ?_, hrun, hended, _, _, rfl, ?_, ⟨_, rfl⟩, hW, hsame.mono (by decide) (by decide)⟩
        · show Steps p.tables e below (s₁.setTop (mkF m 1 #[.val (.int p0)] [(.int p0)])) _
          refine XS.tswIn X0.here hx rfl (o := 107) (pc0 := 1) (pc' := 108) rfl (hb hby d1_1) rfl (by rw [hs1_3]; decide) (by rw [hs1_3]; rfl) (by decide) (by decide) ?_
          show Steps p.tables e below (s₁.setTop (mkF m 108 #[.val (.int p0)] [])) _
          refine XS.iconst X0.here hx rfl (hb hby d1_108) ?_
          show Steps p.tables e below (s₁.setTop (mkF m 109 #[.val (.int p0)] [(.int (1 : Int32))])) _
          refine XS.goto X0.here hx rfl (pc0 := 109) (pc' := 113) rfl (hb hby d1_109) (by decide) (by decide) ?_
          show Steps p.tables e below (s₁.setTop (mkF m 113 #[.val (.int p0)] [(.int (1 : Int32))])) _
          exact retN X0 hx (t := .boolean) Bd.returns (by simp) (hb hby d1_113) hr
        · show Q1 Z p0 h0 n0 _ s₁.heap _
          rw [e0]
          unfold Q1
          refine ⟨?_, N0, rfl⟩
          · simp only [own_f1, if_neg hs1_1, if_neg hs1_2, if_pos hs1_3]
      · by_cases hs1_4 : p0 = (4 : Int32)
        · obtain ⟨fs, hr, hrun, hended, hW, hsame⟩ := X0.leave (v := some (.int (1 : Int32))) (fun h => by rw [Bd.returns] at h; cases h)
          refine ⟨_, _, pre1 _ ?_, hrun, hended, _, _, rfl, ?_, ⟨_, rfl⟩, hW, hsame.mono (by decide) (by decide)⟩
          · show Steps p.tables e below (s₁.setTop (mkF m 1 #[.val (.int p0)] [(.int p0)])) _
            refine XS.tswIn X0.here hx rfl (o := 107) (pc0 := 1) (pc' := 108) rfl (hb hby d1_1) rfl (by rw [hs1_4]; decide) (by rw [hs1_4]; rfl) (by decide) (by decide) ?_
            show Steps p.tables e below (s₁.setTop (mkF m 108 #[.val (.int p0)] [])) _
            refine XS.iconst X0.here hx rfl (hb hby d1_108) ?_
            show Steps p.tables e below (s₁.setTop (mkF m 109 #[.val (.int p0)] [(.int (1 : Int32))])) _
            refine XS.goto X0.here hx rfl (pc0 := 109) (pc' := 113) rfl (hb hby d1_109) (by decide) (by decide) ?_
            show Steps p.tables e below (s₁.setTop (mkF m 113 #[.val (.int p0)] [(.int (1 : Int32))])) _
            exact retN X0 hx (t := .boolean) Bd.returns (by simp) (hb hby d1_113) hr
          · show Q1 Z p0 h0 n0 _ s₁.heap _
            rw [e0]
            unfold Q1
            refine ⟨?_, N0, rfl⟩
            · simp only [own_f1, if_neg hs1_1, if_neg hs1_2, if_neg hs1_3, if_pos hs1_4]
        · by_cases hs1_5 : p0 = (5 : Int32)
          · obtain ⟨fs, hr, hrun, hended, hW, hsame⟩ := X0.leave (v := some (.int (1 : Int32))) (fun h => by rw [Bd.returns] at h; cases h)
            refine ⟨_, _, pre1 _ ?_, hrun, hended, _, _, rfl, ?_, ⟨_, rfl⟩, hW, hsame.mono (by decide) (by decide)⟩
            · show Steps p.tables e below (s₁.setTop (mkF m 1 #[.val (.int p0)] [(.int p0)])) _
              refine XS.tswIn X0.here hx rfl (o := 107) (pc0 := 1) (pc' := 108) rfl (hb hby d1_1) rfl (by rw [hs1_5]; decide) (by rw [hs1_5]; rfl) (by decide) (by decide) ?_
              show Steps p.tables e below (s₁.setTop (mkF m 108 #[.val (.int p0)] [])) _
              refine XS.iconst X0.here hx rfl (hb hby d1_108) ?_
              show Steps p.tables e below (s₁.setTop (mkF m 109 #[.val (.int p0)] [(.int (1 : Int32))])) _
              refine XS.goto X0.here hx rfl (pc0 := 109) (pc' := 113) rfl (hb hby d1_109) (by decide) (by decide) ?_
              show Steps p.tables e below (s₁.setTop (mkF m 113 #[.val (.int p0)] [(.int (1 : Int32))])) _
              exact retN X0 hx (t := .boolean) Bd.returns (by simp) (hb hby d1_113) hr
            · show Q1 Z p0 h0 n0 _ s₁.heap _
              rw [e0]
              unfold Q1
              refine ⟨?_, N0, rfl⟩
              · simp only [own_f1, if_neg hs1_1, if_neg hs1_2, if_neg hs1_3, if_neg hs1_4, if_pos hs1_5]
          · by_cases hs1_6 : p0 = (6 : Int32)
            · obtain ⟨fs, hr, hrun, hended, hW, hsame⟩ := X0.leave (v := some (.int (1 : Int32))) (fun h => by rw [Bd.returns] at h; cases h)
              refine ⟨_, _, pre1 _ ?_, hrun, hended, _, _, rfl, ?_, ⟨_, rfl⟩, hW, hsame.mono (by decide) (by decide)⟩
              · show Steps p.tables e below (s₁.setTop (mkF m 1 #[.val (.int p0)] [(.int p0)])) _
                refine XS.tswIn X0.here hx rfl (o := 107) (pc0 := 1) (pc' := 108) rfl (hb hby d1_1) rfl (by rw [hs1_6]; decide) (by rw [hs1_6]; rfl) (by decide) (by decide) ?_
                show Steps p.tables e below (s₁.setTop (mkF m 108 #[.val (.int p0)] [])) _
                refine XS.iconst X0.here hx rfl (hb hby d1_108) ?_
                show Steps p.tables e below (s₁.setTop (mkF m 109 #[.val (.int p0)] [(.int (1 : Int32))])) _
                refine XS.goto X0.here hx rfl (pc0 := 109) (pc' := 113) rfl (hb hby d1_109) (by decide) (by decide) ?_
                show Steps p.tables e below (s₁.setTop (mkF m 113 #[.val (.int p0)] [(.int (1 : Int32))])) _
                exact retN X0 hx (t := .boolean) Bd.returns (by simp) (hb hby d1_113) hr
              · show Q1 Z p0 h0 n0 _ s₁.heap _
                rw [e0]
                unfold Q1
                refine ⟨?_, N0, rfl⟩
                · simp only [own_f1, if_neg hs1_1, if_neg hs1_2, if_neg hs1_3, if_neg hs1_4, if_neg hs1_5, if_pos hs1_6]
            · by_cases hs1_7 : p0 = (7 : Int32)
              · obtain ⟨fs, hr, hrun, hended, hW, hsame⟩ := X0.leave (v := some (.int (0 : Int32))) (fun h => by rw [Bd.returns] at h; cases h)
                refine ⟨_, _, pre1 _ ?_, hrun, hended, _, _, rfl, ?_, ⟨_, rfl⟩, hW, hsame.mono (by decide) (by decide)⟩
                · show Steps p.tables e below (s₁.setTop (mkF m 1 #[.val (.int p0)] [(.int p0)])) _
                  refine XS.tswIn X0.here hx rfl (o := 111) (pc0 := 1) (pc' := 112) rfl (hb hby d1_1) rfl (by rw [hs1_7]; decide) (by rw [hs1_7]; rfl) (by decide) (by decide) ?_
                  show Steps p.tables e below (s₁.setTop (mkF m 112 #[.val (.int p0)] [])) _
                  refine XS.iconst X0.here hx rfl (hb hby d1_112) ?_
                  show Steps p.tables e below (s₁.setTop (mkF m 113 #[.val (.int p0)] [(.int (0 : Int32))])) _
                  exact retN X0 hx (t := .boolean) Bd.returns (by simp) (hb hby d1_113) hr
                · show Q1 Z p0 h0 n0 _ s₁.heap _
                  rw [e0]
                  unfold Q1
                  refine ⟨?_, N0, rfl⟩
                  · simp only [own_f1, if_neg hs1_1, if_neg hs1_2, if_neg hs1_3, if_neg hs1_4, if_neg hs1_5, if_neg hs1_6, if_pos hs1_7]
              · by_cases hs1_8 : p0 = (8 : Int32)
                · obtain ⟨fs, hr, hrun, hended, hW, hsame⟩ := X0.leave (v := some (.int (0 : Int32))) (fun h => by rw [Bd.returns] at h; cases h)
                  refine ⟨_, _, pre1 _ ?_, hrun, hended, _, _, rfl, ?_, ⟨_, rfl⟩, hW, hsame.mono (by decide) (by decide)⟩
                  · show Steps p.tables e below (s₁.setTop (mkF m 1 #[.val (.int p0)] [(.int p0)])) _
                    refine XS.tswIn X0.here hx rfl (o := 111) (pc0 := 1) (pc' := 112) rfl (hb hby d1_1) rfl (by rw [hs1_8]; decide) (by rw [hs1_8]; rfl) (by decide) (by decide) ?_
                    show Steps p.tables e below (s₁.setTop (mkF m 112 #[.val (.int p0)] [])) _
                    refine XS.iconst X0.here hx rfl (hb hby d1_112) ?_
                    show Steps p.tables e below (s₁.setTop (mkF m 113 #[.val (.int p0)] [(.int (0 : Int32))])) _
                    exact retN X0 hx (t := .boolean) Bd.returns (by simp) (hb hby d1_113) hr
                  · show Q1 Z p0 h0 n0 _ s₁.heap _
                    rw [e0]
                    unfold Q1
                    refine ⟨?_, N0, rfl⟩
                    · simp only [own_f1, if_neg hs1_1, if_neg hs1_2, if_neg hs1_3, if_neg hs1_4, if_neg hs1_5, if_neg hs1_6, if_neg hs1_7, if_pos hs1_8]
                · by_cases hs1_9 : p0 = (9 : Int32)
                  · obtain ⟨fs, hr, hrun, hended, hW, hsame⟩ := X0.leave (v := some (.int (0 : Int32))) (fun h => by rw [Bd.returns] at h; cases h)
                    refine ⟨_, _, pre1 _ ?_, hrun, hended, _, _, rfl, ?_, ⟨_, rfl⟩, hW, hsame.mono (by decide) (by decide)⟩
                    · show Steps p.tables e below (s₁.setTop (mkF m 1 #[.val (.int p0)] [(.int p0)])) _
                      refine XS.tswIn X0.here hx rfl (o := 111) (pc0 := 1) (pc' := 112) rfl (hb hby d1_1) rfl (by rw [hs1_9]; decide) (by rw [hs1_9]; rfl) (by decide) (by decide) ?_
                      show Steps p.tables e below (s₁.setTop (mkF m 112 #[.val (.int p0)] [])) _
                      refine XS.iconst X0.here hx rfl (hb hby d1_112) ?_
                      show Steps p.tables e below (s₁.setTop (mkF m 113 #[.val (.int p0)] [(.int (0 : Int32))])) _
                      exact retN X0 hx (t := .boolean) Bd.returns (by simp) (hb hby d1_113) hr
                    · show Q1 Z p0 h0 n0 _ s₁.heap _
                      rw [e0]
                      unfold Q1
                      refine ⟨?_, N0, rfl⟩
                      · simp only [own_f1, if_neg hs1_1, if_neg hs1_2, if_neg hs1_3, if_neg hs1_4, if_neg hs1_5, if_neg hs1_6, if_neg hs1_7, if_neg hs1_8, if_pos hs1_9]
                  · by_cases hs1_10 : p0 = (10 : Int32)
                    · obtain ⟨fs, hr, hrun, hended, hW, hsame⟩ := X0.leave (v := some (.int (1 : Int32))) (fun h => by rw [Bd.returns] at h; cases h)
                      refine ⟨_, _, pre1 _ ?_, hrun, hended, _, _, rfl, ?_, ⟨_, rfl⟩, hW, hsame.mono (by decide) (by decide)⟩
                      · show Steps p.tables e below (s₁.setTop (mkF m 1 #[.val (.int p0)] [(.int p0)])) _
                        refine XS.tswIn X0.here hx rfl (o := 107) (pc0 := 1) (pc' := 108) rfl (hb hby d1_1) rfl (by rw [hs1_10]; decide) (by rw [hs1_10]; rfl) (by decide) (by decide) ?_
                        show Steps p.tables e below (s₁.setTop (mkF m 108 #[.val (.int p0)] [])) _
                        refine XS.iconst X0.here hx rfl (hb hby d1_108) ?_
                        show Steps p.tables e below (s₁.setTop (mkF m 109 #[.val (.int p0)] [(.int (1 : Int32))])) _
                        refine XS.goto X0.here hx rfl (pc0 := 109) (pc' := 113) rfl (hb hby d1_109) (by decide) (by decide) ?_
                        show Steps p.tables e below (s₁.setTop (mkF m 113 #[.val (.int p0)] [(.int (1 : Int32))])) _
                        exact retN X0 hx (t := .boolean) Bd.returns (by simp) (hb hby d1_113) hr
                      · show Q1 Z p0 h0 n0 _ s₁.heap _
                        rw [e0]
                        unfold Q1
                        refine ⟨?_, N0, rfl⟩
                        · simp only [own_f1, if_neg hs1_1, if_neg hs1_2, if_neg hs1_3, if_neg hs1_4, if_neg hs1_5, if_neg hs1_6, if_neg hs1_7, if_neg hs1_8, if_neg hs1_9, if_pos hs1_10]
                    · by_cases hs1_11 : p0 = (11 : Int32)
                      · obtain ⟨fs, hr, hrun, hended, hW, hsame⟩ := X0.leave (v := some (.int (0 : Int32))) (fun h => by rw [Bd.returns] at h; cases h)
                        refine ⟨_, _, pre1 _ ?_, hrun, hended, _, _, rfl, ?_, ⟨_, rfl⟩, hW, hsame.mono (by decide) (by decide)⟩
                        · show Steps p.tables e below (s₁.setTop (mkF m 1 #[.val (.int p0)] [(.int p0)])) _
                          refine XS.tswIn X0.here hx rfl (o := 111) (pc0 := 1) (pc' := 112) rfl (hb hby d1_1) rfl (by rw [hs1_11]; decide) (by rw [hs1_11]; rfl) (by decide) (by decide) ?_
                          show Steps p.tables e below (s₁.setTop (mkF m 112 #[.val (.int p0)] [])) _
                          refine XS.iconst X0.here hx rfl (hb hby d1_112) ?_
                          show Steps p.tables e below (s₁.setTop (mkF m 113 #[.val (.int p0)] [(.int (0 : Int32))])) _
                          exact retN X0 hx (t := .boolean) Bd.returns (by simp) (hb hby d1_113) hr
                        · show Q1 Z p0 h0 n0 _ s₁.heap _
                          rw [e0]
                          unfold Q1
                          refine ⟨?_, N0, rfl⟩
                          · simp only [own_f1, if_neg hs1_1, if_neg hs1_2, if_neg hs1_3, if_neg hs1_4, if_neg hs1_5, if_neg hs1_6, if_neg hs1_7, if_neg hs1_8, if_neg hs1_9, if_neg hs1_10, if_pos hs1_11]
                      · by_cases hs1_12 : p0 = (12 : Int32)
                        · obtain ⟨fs, hr, hrun, hended, hW, hsame⟩ := X0.leave (v := some (.int (0 : Int32))) (fun h => by rw [Bd.returns] at h; cases h)
                          refine ⟨_, _, pre1 _ ?_, hrun, hended, _, _, rfl, ?_, ⟨_, rfl⟩, hW, hsame.mono (by decide) (by decide)⟩
                          · show Steps p.tables e below (s₁.setTop (mkF m 1 #[.val (.int p0)] [(.int p0)])) _
                            refine XS.tswIn X0.here hx rfl (o := 111) (pc0 := 1) (pc' := 112) rfl (hb hby d1_1) rfl (by rw [hs1_12]; decide) (by rw [hs1_12]; rfl) (by decide) (by decide) ?_
                            show Steps p.tables e below (s₁.setTop (mkF m 112 #[.val (.int p0)] [])) _
                            refine XS.iconst X0.here hx rfl (hb hby d1_112) ?_
                            show Steps p.tables e below (s₁.setTop (mkF m 113 #[.val (.int p0)] [(.int (0 : Int32))])) _
                            exact retN X0 hx (t := .boolean) Bd.returns (by simp) (hb hby d1_113) hr
                          · show Q1 Z p0 h0 n0 _ s₁.heap _
                            rw [e0]
                            unfold Q1
                            refine ⟨?_, N0, rfl⟩
                            · simp only [own_f1, if_neg hs1_1, if_neg hs1_2, if_neg hs1_3, if_neg hs1_4, if_neg hs1_5, if_neg hs1_6, if_neg hs1_7, if_neg hs1_8, if_neg hs1_9, if_neg hs1_10, if_neg hs1_11, if_pos hs1_12]
                        · by_cases hs1_13 : p0 = (13 : Int32)
                          · obtain ⟨fs, hr, hrun, hended, hW, hsame⟩ := X0.leave (v := some (.int (0 : Int32))) (fun h => by rw [Bd.returns] at h; cases h)
                            refine ⟨_, _, pre1 _ ?_, hrun, hended, _, _, rfl, ?_, ⟨_, rfl⟩, hW, hsame.mono (by decide) (by decide)⟩
                            · show Steps p.tables e below (s₁.setTop (mkF m 1 #[.val (.int p0)] [(.int p0)])) _
                              refine XS.tswIn X0.here hx rfl (o := 111) (pc0 := 1) (pc' := 112) rfl (hb hby d1_1) rfl (by rw [hs1_13]; decide) (by rw [hs1_13]; rfl) (by decide) (by decide) ?_
                              show Steps p.tables e below (s₁.setTop (mkF m 112 #[.val (.int p0)] [])) _
                              refine XS.iconst X0.here hx rfl (hb hby d1_112) ?_
                              show Steps p.tables e below (s₁.setTop (mkF m 113 #[.val (.int p0)] [(.int (0 : Int32))])) _
                              exact retN X0 hx (t := .boolean) Bd.returns (by simp) (hb hby d1_113) hr
                            · show Q1 Z p0 h0 n0 _ s₁.heap _
                              rw [e0]
                              unfold Q1
                              refine ⟨?_, N0, rfl⟩
                              · simp only [own_f1, if_neg hs1_1, if_neg hs1_2, if_neg hs1_3, if_neg hs1_4, if_neg hs1_5, if_neg hs1_6, if_neg hs1_7, if_neg hs1_8, if_neg hs1_9, if_neg hs1_10, if_neg hs1_11, if_neg hs1_12, if_pos hs1_13]
                          · by_cases hs1_14 : p0 = (14 : Int32)
                            · obtain ⟨fs, hr, hrun, hended, hW, hsame⟩ := X0.leave (v := some (.int (0 : Int32))) (fun h => by rw [Bd.returns] at h; cases h)
                              refine ⟨_, _, pre1 _ ?_, hrun, hended, _, _, rfl, ?_, ⟨_, rfl⟩, hW, hsame.mono (by decide) (by decide)⟩
                              · show Steps p.tables e below (s₁.setTop (mkF m 1 #[.val (.int p0)] [(.int p0)])) _
                                refine XS.tswIn X0.here hx rfl (o := 111) (pc0 := 1) (pc' := 112) rfl (hb hby d1_1) rfl (by rw [hs1_14]; decide) (by rw [hs1_14]; rfl) (by decide) (by decide) ?_
                                show Steps p.tables e below (s₁.setTop (mkF m 112 #[.val (.int p0)] [])) _
                                refine XS.iconst X0.here hx rfl (hb hby d1_112) ?_
                                show Steps p.tables e below (s₁.setTop (mkF m 113 #[.val (.int p0)] [(.int (0 : Int32))])) _
                                exact retN X0 hx (t := .boolean) Bd.returns (by simp) (hb hby d1_113) hr
                              · show Q1 Z p0 h0 n0 _ s₁.heap _
                                rw [e0]
                                unfold Q1
                                refine ⟨?_, N0, rfl⟩
                                · simp only [own_f1, if_neg hs1_1, if_neg hs1_2, if_neg hs1_3, if_neg hs1_4, if_neg hs1_5, if_neg hs1_6, if_neg hs1_7, if_neg hs1_8, if_neg hs1_9, if_neg hs1_10, if_neg hs1_11, if_neg hs1_12, if_neg hs1_13, if_pos hs1_14]
                            · by_cases hs1_15 : p0 = (15 : Int32)
                              · obtain ⟨fs, hr, hrun, hended, hW, hsame⟩ := X0.leave (v := some (.int (0 : Int32))) (fun h => by rw [Bd.returns] at h; cases h)
                                refine ⟨_, _, pre1 _ ?_, hrun, hended, _, _, rfl, ?_, ⟨_, rfl⟩, hW, hsame.mono (by decide) (by decide)⟩
                                · show Steps p.tables e below (s₁.setTop (mkF m 1 #[.val (.int p0)] [(.int p0)])) _
                                  refine XS.tswIn X0.here hx rfl (o := 111) (pc0 := 1) (pc' := 112) rfl (hb hby d1_1) rfl (by rw [hs1_15]; decide) (by rw [hs1_15]; rfl) (by decide) (by decide) ?_
                                  show Steps p.tables e below (s₁.setTop (mkF m 112 #[.val (.int p0)] [])) _
                                  refine XS.iconst X0.here hx rfl (hb hby d1_112) ?_
                                  show Steps p.tables e below (s₁.setTop (mkF m 113 #[.val (.int p0)] [(.int (0 : Int32))])) _
                                  exact retN X0 hx (t := .boolean) Bd.returns (by simp) (hb hby d1_113) hr
                                · show Q1 Z p0 h0 n0 _ s₁.heap _
                                  rw [e0]
                                  unfold Q1
                                  refine ⟨?_, N0, rfl⟩
                                  · simp only [own_f1, if_neg hs1_1, if_neg hs1_2, if_neg hs1_3, if_neg hs1_4, if_neg hs1_5, if_neg hs1_6, if_neg hs1_7, if_neg hs1_8, if_neg hs1_9, if_neg hs1_10, if_neg hs1_11, if_neg hs1_12, if_neg hs1_13, if_neg hs1_14, if_pos hs1_15]
                              · by_cases hs1_16 : p0 = (16 : Int32)
                                · obtain ⟨fs, hr, hrun, hended, hW, hsame⟩ := X0.leave (v := some (.int (1 : Int32))) (fun h => by rw [Bd.returns] at h; cases h)
                                  refine ⟨_, _, pre1 _ ?_, hrun, hended, _, _, rfl, ?_, ⟨_, rfl⟩, hW, hsame.mono (by decide) (by decide)⟩
                                  · show Steps p.tables e below (s₁.setTop (mkF m 1 #[.val (.int p0)] [(.int p0)])) _
                                    refine XS.tswIn X0.here hx rfl (o := 107) (pc0 := 1) (pc' := 108) rfl (hb hby d1_1) rfl (by rw [hs1_16]; decide) (by rw [hs1_16]; rfl) (by decide) (by decide) ?_
                                    show Steps p.tables e below (s₁.setTop (mkF m 108 #[.val (.int p0)] [])) _
                                    refine XS.iconst X0.here hx rfl (hb hby d1_108) ?_
                                    show Steps p.tables e below (s₁.setTop (mkF m 109 #[.val (.int p0)] [(.int (1 : Int32))])) _
                                    refine XS.goto X0.here hx rfl (pc0 := 109) (pc' := 113) rfl (hb hby d1_109) (by decide) (by decide) ?_
                                    show Steps p.tables e below (s₁.setTop (mkF m 113 #[.val (.int p0)] [(.int (1 : Int32))])) _
                                    exact retN X0 hx (t := .boolean) Bd.returns (by simp) (hb hby d1_113) hr
                                  · show Q1 Z p0 h0 n0 _ s₁.heap _
                                    rw [e0]
                                    unfold Q1
                                    refine ⟨?_, N0, rfl⟩
                                    · simp only [own_f1, if_neg hs1_1, if_neg hs1_2, if_neg hs1_3, if_neg hs1_4, if_neg hs1_5, if_neg hs1_6, if_neg hs1_7, if_neg hs1_8, if_neg hs1_9, if_neg hs1_10, if_neg hs1_11, if_neg hs1_12, if_neg hs1_13, if_neg hs1_14, if_neg hs1_15, if_pos hs1_16]
                                · by_cases hs1_17 : p0 = (17 : Int32)
                                  · obtain ⟨fs, hr, hrun, hended, hW, hsame⟩ := X0.leave (v := some (.int (1 : Int32))) (fun h => by rw [Bd.returns] at h; cases h)
                                    refine ⟨_, _, pre1 _ ?_, hrun, hended, _, _, rfl, ?_, ⟨_, rfl⟩, hW, hsame.mono (by decide) (by decide)⟩
                                    · show Steps p.tables e below (s₁.setTop (mkF m 1 #[.val (.int p0)] [(.int p0)])) _
                                      refine XS.tswIn X0.here hx rfl (o := 107) (pc0 := 1) (pc' := 108) rfl (hb hby d1_1) rfl (by rw [hs1_17]; decide) (by rw [hs1_17]; rfl) (by decide) (by decide) ?_
                                      show Steps p.tables e below (s₁.setTop (mkF m 108 #[.val (.int p0)] [])) _
                                      refine XS.iconst X0.here hx rfl (hb hby d1_108) ?_
                                      show Steps p.tables e below (s₁.setTop (mkF m 109 #[.val (.int p0)] [(.int (1 : Int32))])) _
                                      refine XS.goto X0.here hx rfl (pc0 := 109) (pc' := 113) rfl (hb hby d1_109) (by decide) (by decide) ?_
                                      show Steps p.tables e below (s₁.setTop (mkF m 113 #[.val (.int p0)] [(.int (1 : Int32))])) _
                                      exact retN X0 hx (t := .boolean) Bd.returns (by simp) (hb hby d1_113) hr
                                    · show Q1 Z p0 h0 n0 _ s₁.heap _
                                      rw [e0]
                                      unfold Q1
                                      refine ⟨?_, N0, rfl⟩
                                      · simp only [own_f1, if_neg hs1_1, if_neg hs1_2, if_neg hs1_3, if_neg hs1_4, if_neg hs1_5, if_neg hs1_6, if_neg hs1_7, if_neg hs1_8, if_neg hs1_9, if_neg hs1_10, if_neg hs1_11, if_neg hs1_12, if_neg hs1_13, if_neg hs1_14, if_neg hs1_15, if_neg hs1_16, if_pos hs1_17]
                                  · by_cases hs1_18 : p0 = (18 : Int32)
                                    · obtain ⟨fs, hr, hrun, hended, hW, hsame⟩ := X0.leave (v := some (.int (1 : Int32))) (fun h => by rw [Bd.returns] at h; cases h)
                                      refine ⟨_, _, pre1 _ ?_, hrun, hended, _, _, rfl, ?_, ⟨_, rfl⟩, hW, hsame.mono (by decide) (by decide)⟩
                                      · show Steps p.tables e below (s₁.setTop (mkF m 1 #[.val (.int p0)] [(.int p0)])) _
                                        refine XS.tswIn X0.here hx rfl (o := 107) (pc0 := 1) (pc' := 108) rfl (hb hby d1_1) rfl (by rw [hs1_18]; decide) (by rw [hs1_18]; rfl) (by decide) (by decide) ?_
                                        show Steps p.tables e below (s₁.setTop (mkF m 108 #[.val (.int p0)] [])) _
                                        refine XS.iconst X0.here hx rfl (hb hby d1_108) ?_
                                        show Steps p.tables e below (s₁.setTop (mkF m 109 #[.val (.int p0)] [(.int (1 : Int32))])) _
                                        refine XS.goto X0.here hx rfl (pc0 := 109) (pc' := 113) rfl (hb hby d1_109) (by decide) (by decide) ?_
                                        show Steps p.tables e below (s₁.setTop (mkF m 113 #[.val (.int p0)] [(.int (1 : Int32))])) _
                                        exact retN X0 hx (t := .boolean) Bd.returns (by simp) (hb hby d1_113) hr
                                      · show Q1 Z p0 h0 n0 _ s₁.heap _
                                        rw [e0]
                                        unfold Q1
                                        refine ⟨?_, N0, rfl⟩
                                        · simp only [own_f1, if_neg hs1_1, if_neg hs1_2, if_neg hs1_3, if_neg hs1_4, if_neg hs1_5, if_neg hs1_6, if_neg hs1_7, if_neg hs1_8, if_neg hs1_9, if_neg hs1_10, if_neg hs1_11, if_neg hs1_12, if_neg hs1_13, if_neg hs1_14, if_neg hs1_15, if_neg hs1_16, if_neg hs1_17, if_pos hs1_18]
                                    · by_cases hs1_19 : p0 = (19 : Int32)
                                      · obtain ⟨fs, hr, hrun, hended, hW, hsame⟩ := X0.leave (v := some (.int (1 : Int32))) (fun h => by rw [Bd.returns] at h; cases h)
                                        refine ⟨_, _, pre1 _ ?_, hrun, hended, _, _, rfl, ?_, ⟨_, rfl⟩, hW, hsame.mono (by decide) (by decide)⟩
                                        · show Steps p.tables e below (s₁.setTop (mkF m 1 #[.val (.int p0)] [(.int p0)])) _
                                          refine XS.tswIn X0.here hx rfl (o := 107) (pc0 := 1) (pc' := 108) rfl (hb hby d1_1) rfl (by rw [hs1_19]; decide) (by rw [hs1_19]; rfl) (by decide) (by decide) ?_
                                          show Steps p.tables e below (s₁.setTop (mkF m 108 #[.val (.int p0)] [])) _
                                          refine XS.iconst X0.here hx rfl (hb hby d1_108) ?_
                                          show Steps p.tables e below (s₁.setTop (mkF m 109 #[.val (.int p0)] [(.int (1 : Int32))])) _
                                          refine XS.goto X0.here hx rfl (pc0 := 109) (pc' := 113) rfl (hb hby d1_109) (by decide) (by decide) ?_
                                          show Steps p.tables e below (s₁.setTop (mkF m 113 #[.val (.int p0)] [(.int (1 : Int32))])) _
                                          exact retN X0 hx (t := .boolean) Bd.returns (by simp) (hb hby d1_113) hr
                                        · show Q1 Z p0 h0 n0 _ s₁.heap _
                                          rw [e0]
                                          unfold Q1
                                          refine ⟨?_, N0, rfl⟩
                                          · simp only [own_f1, if_neg hs1_1, if_neg hs1_2, if_neg hs1_3, if_neg hs1_4, if_neg hs1_5, if_neg hs1_6, if_neg hs1_7, if_neg hs1_8, if_neg hs1_9, if_neg hs1_10, if_neg hs1_11, if_neg hs1_12, if_neg hs1_13, if_neg hs1_14, if_neg hs1_15, if_neg hs1_16, if_neg hs1_17, if_neg hs1_18, if_pos hs1_19]
                                      · by_cases hs1_20 : p0 = (20 : Int32)
                                        · obtain ⟨fs, hr, hrun, hended, hW, hsame⟩ := X0.leave (v := some (.int (1 : Int32))) (fun h => by rw [Bd.returns] at h; cases h)
                                          refine ⟨_, _, pre1 _ ?_, hrun, hended, _, _, rfl, ?_, ⟨_, rfl⟩, hW, hsame.mono (by decide) (by decide)⟩
                                          · show Steps p.tables e below (s₁.setTop (mkF m 1 #[.val (.int p0)] [(.int p0)])) _
                                            refine XS.tswIn X0.here hx rfl (o := 107) (pc0 := 1) (pc' := 108) rfl (hb hby d1_1) rfl (by rw [hs1_20]; decide) (by rw [hs1_20]; rfl) (by decide) (by decide) ?_
                                            show Steps p.tables e below (s₁.setTop (mkF m 108 #[.val (.int p0)] [])) _
                                            refine XS.iconst X0.here hx rfl (hb hby d1_108) ?_
                                            show Steps p.tables e below (s₁.setTop (mkF m 109 #[.val (.int p0)] [(.int (1 : Int32))])) _
                                            refine XS.goto X0.here hx rfl (pc0 := 109) (pc' := 113) rfl (hb hby d1_109) (by decide) (by decide) ?_
                                            show Steps p.tables e below (s₁.setTop (mkF m 113 #[.val (.int p0)] [(.int (1 : Int32))])) _
                                            exact retN X0 hx (t := .boolean) Bd.returns (by simp) (hb hby d1_113) hr
                                          · show Q1 Z p0 h0 n0 _ s₁.heap _
                                            rw [e0]
                                            unfold Q1
                                            refine ⟨?_, N0, rfl⟩
                                            · simp only [own_f1, if_neg hs1_1, if_neg hs1_2, if_neg hs1_3, if_neg hs1_4, if_neg hs1_5, if_neg hs1_6, if_neg hs1_7, if_neg hs1_8, if_neg hs1_9, if_neg hs1_10, if_neg hs1_11, if_neg hs1_12, if_neg hs1_13, if_neg hs1_14, if_neg hs1_15, if_neg hs1_16, if_neg hs1_17, if_neg hs1_18, if_neg hs1_19, if_pos hs1_20]
                                        · by_cases hs1_21 : p0 = (21 : Int32)
                                          · obtain ⟨fs, hr, hrun, hended, hW, hsame⟩ := X0.leave (v := some (.int (1 : Int32))) (fun h => by rw [Bd.returns] at h; cases h)
                                            refine ⟨_, _, pre1 _ ?_, hrun, hended, _, _, rfl, ?_, ⟨_, rfl⟩, hW, hsame.mono (by decide) (by decide)⟩
                                            · show Steps p.tables e below (s₁.setTop (mkF m 1 #[.val (.int p0)] [(.int p0)])) _
                                              refine XS.tswIn X0.here hx rfl (o := 107) (pc0 := 1) (pc' := 108) rfl (hb hby d1_1) rfl (by rw [hs1_21]; decide) (by rw [hs1_21]; rfl) (by decide) (by decide) ?_
                                              show Steps p.tables e below (s₁.setTop (mkF m 108 #[.val (.int p0)] [])) _
                                              refine XS.iconst X0.here hx rfl (hb hby d1_108) ?_
                                              show Steps p.tables e below (s₁.setTop (mkF m 109 #[.val (.int p0)] [(.int (1 : Int32))])) _
                                              refine XS.goto X0.here hx rfl (pc0 := 109) (pc' := 113) rfl (hb hby d1_109) (by decide) (by decide) ?_
                                              show Steps p.tables e below (s₁.setTop (mkF m 113 #[.val (.int p0)] [(.int (1 : Int32))])) _
                                              exact retN X0 hx (t := .boolean) Bd.returns (by simp) (hb hby d1_113) hr
                                            · show Q1 Z p0 h0 n0 _ s₁.heap _
                                              rw [e0]
                                              unfold Q1
                                              refine ⟨?_, N0, rfl⟩
                                              · simp only [own_f1, if_neg hs1_1, if_neg hs1_2, if_neg hs1_3, if_neg hs1_4, if_neg hs1_5, if_neg hs1_6, if_neg hs1_7, if_neg hs1_8, if_neg hs1_9, if_neg hs1_10, if_neg hs1_11, if_neg hs1_12, if_neg hs1_13, if_neg hs1_14, if_neg hs1_15, if_neg hs1_16, if_neg hs1_17, if_neg hs1_18, if_neg hs1_19, if_neg hs1_20, if_pos hs1_21]
                                          · by_cases hs1_22 : p0 = (22 : Int32)
                                            · obtain ⟨fs, hr, hrun, hended, hW, hsame⟩ := X0.leave (v := some (.int (1 : Int32))) (fun h => by rw [Bd.returns] at h; cases h)
                                              refine ⟨_, _, pre1 _ ?_, hrun, hended, _, _, rfl, ?_, ⟨_, rfl⟩, hW, hsame.mono (by decide) (by decide)⟩
                                              · show Steps p.tables e below (s₁.setTop (mkF m 1 #[.val (.int p0)] [(.int p0)])) _
                                                refine XS.tswIn X0.here hx rfl (o := 107) (pc0 := 1) (pc' := 108) rfl (hb hby d1_1) rfl (by rw [hs1_22]; decide) (by rw [hs1_22]; rfl) (by decide) (by decide) ?_
                                                show Steps p.tables e below (s₁.setTop (mkF m 108 #[.val (.int p0)] [])) _
                                                refine XS.iconst X0.here hx rfl (hb hby d1_108) ?_
                                                show Steps p.tables e below (s₁.setTop (mkF m 109 #[.val (.int p0)] [(.int (1 : Int32))])) _
                                                refine XS.goto X0.here hx rfl (pc0 := 109) (pc' := 113) rfl (hb hby d1_109) (by decide) (by decide) ?_
                                                show Steps p.tables e below (s₁.setTop (mkF m 113 #[.val (.int p0)] [(.int (1 : Int32))])) _
                                                exact retN X0 hx (t := .boolean) Bd.returns (by simp) (hb hby d1_113) hr
                                              · show Q1 Z p0 h0 n0 _ s₁.heap _
                                                rw [e0]
                                                unfold Q1
                                                refine ⟨?_, N0, rfl⟩
                                                · simp only [own_f1, if_neg hs1_1, if_neg hs1_2, if_neg hs1_3, if_neg hs1_4, if_neg hs1_5, if_neg hs1_6, if_neg hs1_7, if_neg hs1_8, if_neg hs1_9, if_neg hs1_10, if_neg hs1_11, if_neg hs1_12, if_neg hs1_13, if_neg hs1_14, if_neg hs1_15, if_neg hs1_16, if_neg hs1_17, if_neg hs1_18, if_neg hs1_19, if_neg hs1_20, if_neg hs1_21, if_pos hs1_22]
                                            · by_cases hs1_23 : p0 = (23 : Int32)
                                              · obtain ⟨fs, hr, hrun, hended, hW, hsame⟩ := X0.leave (v := some (.int (1 : Int32))) (fun h => by rw [Bd.returns] at h; cases h)
                                                refine ⟨_, _, pre1 _ ?_, hrun, hended, _, _, rfl, ?_, ⟨_, rfl⟩, hW, hsame.mono (by decide) (by decide)⟩
                                                · show Steps p.tables e below (s₁.setTop (mkF m 1 #[.val (.int p0)] [(.int p0)])) _
                                                  refine XS.tswIn X0.here hx rfl (o := 107) (pc0 := 1) (pc' := 108) rfl (hb hby d1_1) rfl (by rw [hs1_23]; decide) (by rw [hs1_23]; rfl) (by decide) (by decide) ?_
                                                  show Steps p.tables e below (s₁.setTop (mkF m 108 #[.val (.int p0)] [])) _
                                                  refine XS.iconst X0.here hx rfl (hb hby d1_108) ?_
                                                  show Steps p.tables e below (s₁.setTop (mkF m 109 #[.val (.int p0)] [(.int (1 : Int32))])) _
                                                  refine XS.goto X0.here hx rfl (pc0 := 109) (pc' := 113) rfl (hb hby d1_109) (by decide) (by decide) ?_
                                                  show Steps p.tables e below (s₁.setTop (mkF m 113 #[.val (.int p0)] [(.int (1 : Int32))])) _
                                                  exact retN X0 hx (t := .boolean) Bd.returns (by simp) (hb hby d1_113) hr
                                                · show Q1 Z p0 h0 n0 _ s₁.heap _
                                                  rw [e0]
                                                  unfold Q1
                                                  refine ⟨?_, N0, rfl⟩
                                                  · simp only [own_f1, if_neg hs1_1, if_neg hs1_2, if_neg hs1_3, if_neg hs1_4, if_neg hs1_5, if_neg hs1_6, if_neg hs1_7, if_neg hs1_8, if_neg hs1_9, if_neg hs1_10, if_neg hs1_11, if_neg hs1_12, if_neg hs1_13, if_neg hs1_14, if_neg hs1_15, if_neg hs1_16, if_neg hs1_17, if_neg hs1_18, if_neg hs1_19, if_neg hs1_20, if_neg hs1_21, if_neg hs1_22, if_pos hs1_23]
                                              · have hout : (p0).toInt < 1 ∨ (p0).toInt > 23 := by
                                                  have := mt Int32.toInt_inj.mp hs1_1
                                                  have := mt Int32.toInt_inj.mp hs1_2
                                                  have := mt Int32.toInt_inj.mp hs1_3
                                                  have := mt Int32.toInt_inj.mp hs1_4
                                                  have := mt Int32.toInt_inj.mp hs1_5
                                                  have := mt Int32.toInt_inj.mp hs1_6
                                                  have := mt Int32.toInt_inj.mp hs1_7
                                                  have := mt Int32.toInt_inj.mp hs1_8
                                                  have := mt Int32.toInt_inj.mp hs1_9
                                                  have := mt Int32.toInt_inj.mp hs1_10
                                                  have := mt Int32.toInt_inj.mp hs1_11
                                                  have := mt Int32.toInt_inj.mp hs1_12
                                                  have := mt Int32.toInt_inj.mp hs1_13
                                                  have := mt Int32.toInt_inj.mp hs1_14
                                                  have := mt Int32.toInt_inj.mp hs1_15
                                                  have := mt Int32.toInt_inj.mp hs1_16
                                                  have := mt Int32.toInt_inj.mp hs1_17
                                                  have := mt Int32.toInt_inj.mp hs1_18
                                                  have := mt Int32.toInt_inj.mp hs1_19
                                                  have := mt Int32.toInt_inj.mp hs1_20
                                                  have := mt Int32.toInt_inj.mp hs1_21
                                                  have := mt Int32.toInt_inj.mp hs1_22
                                                  have := mt Int32.toInt_inj.mp hs1_23
                                                  simp only [Int32.reduceToInt] at *; omega
                                                obtain ⟨fs, hr, hrun, hended, hW, hsame⟩ := X0.leave (v := some (.int (0 : Int32))) (fun h => by rw [Bd.returns] at h; cases h)
                                                refine ⟨_, _, pre1 _ ?_, hrun, hended, _, _, rfl, ?_, ⟨_, rfl⟩, hW, hsame.mono (by decide) (by decide)⟩
                                                · show Steps p.tables e below (s₁.setTop (mkF m 1 #[.val (.int p0)] [(.int p0)])) _
                                                  refine XS.tswOut X0.here hx rfl (pc0 := 1) (pc' := 112) rfl (hb hby d1_1) rfl hout (by decide) (by decide) ?_
                                                  show Steps p.tables e below (s₁.setTop (mkF m 112 #[.val (.int p0)] [])) _
                                                  refine XS.iconst X0.here hx rfl (hb hby d1_112) ?_
                                                  show Steps p.tables e below (s₁.setTop (mkF m 113 #[.val (.int p0)] [(.int (0 : Int32))])) _
                                                  exact retN X0 hx (t := .boolean) Bd.returns (by simp) (hb hby d1_113) hr
                                                · show Q1 Z p0 h0 n0 _ s₁.heap _
                                                  rw [e0]
                                                  unfold Q1
                                                  refine ⟨?_, N0, rfl⟩
                                                  · simp only [own_f1, if_neg hs1_1, if_neg hs1_2, if_neg hs1_3, if_neg hs1_4, if_neg hs1_5, if_neg hs1_6, if_neg hs1_7, if_neg hs1_8, if_neg hs1_9, if_neg hs1_10, if_neg hs1_11, if_neg hs1_12, if_neg hs1_13, if_neg hs1_14, if_neg hs1_15, if_neg hs1_16, if_neg hs1_17, if_neg hs1_18, if_neg hs1_19, if_neg hs1_20, if_neg hs1_21, if_neg hs1_22, if_neg hs1_23]
theorem pd_0 : parseMethodDescriptor "(B)Z" = some ⟨[.byte], some .boolean⟩ := by decide +kernel
theorem pn_1 : plainName "com/example/tubeline/tubeline/astm/ControlIsRestrictedPinLaw" = true := by first | (simp [plainName, overriddenIn]; done) | decide +kernel
theorem ef_0 (m : MethodId) (p0 : Int32) : entryFrame m #[(.int p0)] maxLocals = mkF m 0 #[.val (.int p0), .unset, .unset, .unset] [] := by first | (simp [entryFrame, mkF, argsToLocals, Value.category, maxLocals]; done) | rfl
def own_m0_39_s0 (v0 : Int32) : Int32 := (if v0 < (1 : Int32) then (if v0 < (16 : Int32) then (if v0 = (10 : Int32) then (1 : Int32) else (0 : Int32)) else (if (23 : Int32) < v0 then (if v0 = (10 : Int32) then (1 : Int32) else (0 : Int32)) else (1 : Int32))) else (if (6 : Int32) < v0 then (if v0 < (16 : Int32) then (if v0 = (10 : Int32) then (1 : Int32) else (0 : Int32)) else (if (23 : Int32) < v0 then (if v0 = (10 : Int32) then (1 : Int32) else (0 : Int32)) else (1 : Int32))) else (1 : Int32)))
theorem own_plain (p0 x m : Int32) (hx : x = p0.toInt8.toInt32) (hm : m = own_m0_39_s0 x) : own_f1 x = m := by
  subst hm; subst hx
  exact own_bytes (P := fun x => own_f1 x = own_m0_39_s0 x) (by decide +kernel) p0
def Q0 (Z : State) (p0 : Int32) (h0 : Heap) (n0 : Nat) (v : Option Value) (h : Heap) (L : List Loc) : Prop := v = some (.int (1 : Int32)) ∧ Fr n0 L
set_option maxRecDepth 65536 in
set_option maxHeartbeats 40000000 in
theorem rm0 (l : Launch) (Z : State) (a0 : Array Value) (hw : ∀ d ∈ tables_1, d.before a0 Z = true) (ws : List Jvm.Cond) (p0 : Int32) (h0 : Heap) (n0 : Nat) (Z0 : n0 ≤ h0.size) :
    MetFree l x (head1 (Jvm.Cond.code x code maxLocals ret :: ws) room_1) (fun a U => a = #[(.int p0)] ∧ Z.Warmed39 U.vm ∧ U.heap = h0) (fun _ _ _ _ _ => True) (fun _ U o U' => ∃ v L, o = .returned v ∧ Q0 Z p0 h0 n0 v U'.heap L ∧ FrameEnd U o U' L 0 0) := by
  refine MetFree.of_bodySF (plainFor_of_name pn_1) hisR ?_
  intro p e s m args below meth c s₁ Bd hml0 hP hK
  obtain ⟨rfl, hZ, hh⟩ := hP
  have hx := Bd.exec
  have hby := Bd.bytes
  have hml : c.maxLocals = 4 := hml0
  have hown : s.vm.findClass "com/example/tubeline/tubeline/astm/ControlIsRestrictedPinLaw" = some m.cls := findClass_of_methodNamed Bd.named
  have hnm := (name_of_methodNamed Bd.named Bd.method).1
  have X0 : Stand p l e room_1 s m #[(.int p0)] below meth c s₁ [] 0 0 := Stand.of_body Bd
  have e0 : s₁.heap = h0 := by rw [← hh, Bd.state]; rfl
  have N0 := Fr.nil n0
  have pre0 : own_Pre p e below (s₁.setTop (entryFrame m #[(.int p0)] maxLocals)) (s₁.setTop (mkF m 0 #[.val (.int p0), .unset, .unset, .unset] [])) := fun t k => castTop (ef_0 m p0) k
  obtain ⟨x1_3, hx1_3, pre1⟩ : ∃ z : Int32, z = (p0).toInt8.toInt32 ∧ own_Pre p e below (s₁.setTop (entryFrame m #[(.int p0)] maxLocals)) (s₁.setTop (mkF m 3 #[.val (.int p0), .val (.int z), .unset, .unset] [])) := ⟨_, rfl, fun t k => pre0 t (by
      show Steps p.tables e below (s₁.setTop (mkF m 0 #[.val (.int p0), .unset, .unset, .unset] [])) _
      refine XS.iloadN X0.here hx rfl (hb hby at_0) rfl ?_
      show Steps p.tables e below (s₁.setTop (mkF m 1 #[.val (.int p0), .unset, .unset, .unset] [(.int p0)])) _
      refine XS.i2b X0.here hx rfl (hb hby at_1) rfl ?_
      show Steps p.tables e below (s₁.setTop (mkF m 2 #[.val (.int p0), .unset, .unset, .unset] [(.int (p0).toInt8.toInt32)])) _
      refine XS.istoreN X0.here hx rfl (hb hby at_2) rfl (l' := #[.val (.int p0), .val (.int (p0).toInt8.toInt32), .unset, .unset]) rfl ?_
      exact k)⟩
  have pre4 : own_Pre p e below (s₁.setTop (entryFrame m #[(.int p0)] maxLocals)) (s₁.setTop (mkF m 7 #[.val (.int p0), .val (.int x1_3), .val (.int x1_3), .unset] [(.int (1 : Int32)), (.int x1_3)])) := fun t k => pre1 t (by
      show Steps p.tables e below (s₁.setTop (mkF m 3 #[.val (.int p0), .val (.int x1_3), .unset, .unset] [])) _
      refine XS.iloadN X0.here hx rfl (hb hby at_3) rfl ?_
      show Steps p.tables e below (s₁.setTop (mkF m 4 #[.val (.int p0), .val (.int x1_3), .unset, .unset] [(.int x1_3)])) _
      refine XS.istoreN X0.here hx rfl (hb hby at_4) rfl (l' := #[.val (.int p0), .val (.int x1_3), .val (.int x1_3), .unset]) rfl ?_
      show Steps p.tables e below (s₁.setTop (mkF m 5 #[.val (.int p0), .val (.int x1_3), .val (.int x1_3), .unset] [])) _
      refine XS.iloadN X0.here hx rfl (hb hby at_5) rfl ?_
      show Steps p.tables e below (s₁.setTop (mkF m 6 #[.val (.int p0), .val (.int x1_3), .val (.int x1_3), .unset] [(.int x1_3)])) _
      refine XS.iconst X0.here hx rfl (hb hby at_6) ?_
      exact k)
  obtain ⟨m39_s0, hm39_s0, pre3⟩ : ∃ (m39_s0 : Int32), m39_s0 = (own_m0_39_s0 x1_3) ∧ own_Pre p e below (s₁.setTop (entryFrame m #[(.int p0)] maxLocals)) (s₁.setTop (mkF m 39 #[.val (.int p0), .val (.int x1_3), .val (.int x1_3), .unset] [(.int m39_s0)])) := by
    by_cases hc7 : x1_3 < (1 : Int32)
    · have pre5 : own_Pre p e below (s₁.setTop (entryFrame m #[(.int p0)] maxLocals)) (s₁.setTop (mkF m 19 #[.val (.int p0), .val (.int x1_3), .val (.int x1_3), .unset] [(.int (16 : Int32)), (.int x1_3)])) := fun t k => pre4 t (by
          show Steps p.tables e below (s₁.setTop (mkF m 7 #[.val (.int p0), .val (.int x1_3), .val (.int x1_3), .unset] [(.int (1 : Int32)), (.int x1_3)])) _
          refine XS.icmpYes X0.here hx rfl (pc0 := 7) (pc' := 16) rfl (hb hby at_7) rfl (tlt hc7).1 (by decide) (by decide) ?_
          show Steps p.tables e below (s₁.setTop (mkF m 16 #[.val (.int p0), .val (.int x1_3), .val (.int x1_3), .unset] [])) _
          refine XS.iloadN X0.here hx rfl (hb hby at_16) rfl ?_
          show Steps p.tables e below (s₁.setTop (mkF m 17 #[.val (.int p0), .val (.int x1_3), .val (.int x1_3), .unset] [(.int x1_3)])) _
          refine XS.bipush X0.here hx rfl (hb hby at_17) ?_
          exact k)
      by_cases hc19 : x1_3 < (16 : Int32)
      · have pre6 : own_Pre p e below (s₁.setTop (entryFrame m #[(.int p0)] maxLocals)) (s₁.setTop (mkF m 31 #[.val (.int p0), .val (.int x1_3), .val (.int x1_3), .unset] [(.int (10 : Int32)), (.int x1_3)])) := fun t k => pre5 t (by
            show Steps p.tables e below (s₁.setTop (mkF m 19 #[.val (.int p0), .val (.int x1_3), .val (.int x1_3), .unset] [(.int (16 : Int32)), (.int x1_3)])) _
            refine XS.icmpYes X0.here hx rfl (pc0 := 19) (pc' := 28) rfl (hb hby at_19) rfl (tlt hc19).1 (by decide) (by decide) ?_
            show Steps p.tables e below (s₁.setTop (mkF m 28 #[.val (.int p0), .val (.int x1_3), .val (.int x1_3), .unset] [])) _
            refine XS.iloadN X0.here hx rfl (hb hby at_28) rfl ?_
            show Steps p.tables e below (s₁.setTop (mkF m 29 #[.val (.int p0), .val (.int x1_3), .val (.int x1_3), .unset] [(.int x1_3)])) _
            refine XS.bipush X0.here hx rfl (hb hby at_29) ?_
            exact k)
        by_cases hc31 : x1_3 = (10 : Int32)
        · have pre7 : own_Pre p e below (s₁.setTop (entryFrame m #[(.int p0)] maxLocals)) (s₁.setTop (mkF m 39 #[.val (.int p0), .val (.int x1_3), .val (.int x1_3), .unset] [(.int (1 : Int32))])) := fun t k => pre6 t (by
              show Steps p.tables e below (s₁.setTop (mkF m 31 #[.val (.int p0), .val (.int x1_3), .val (.int x1_3), .unset] [(.int (10 : Int32)), (.int x1_3)])) _
              refine XS.icmpNo X0.here hx rfl (hb hby at_31) rfl (teq hc31).2 ?_
              show Steps p.tables e below (s₁.setTop (mkF m 34 #[.val (.int p0), .val (.int x1_3), .val (.int x1_3), .unset] [])) _
              refine XS.iconst X0.here hx rfl (hb hby at_34) ?_
              show Steps p.tables e below (s₁.setTop (mkF m 35 #[.val (.int p0), .val (.int x1_3), .val (.int x1_3), .unset] [(.int (1 : Int32))])) _
              refine XS.goto X0.here hx rfl (pc0 := 35) (pc' := 39) rfl (hb hby at_35) (by decide) (by decide) ?_
              exact k)
          refine ⟨_, ?_, pre7⟩
          all_goals (first | (simp only [own_m0_39_s0, if_pos hc7, if_pos hc19, if_pos hc31]; done) | (simp [own_m0_39_s0, if_pos hc7, if_pos hc19, if_pos hc31]; done))
        · have pre8 : own_Pre p e below (s₁.setTop (entryFrame m #[(.int p0)] maxLocals)) (s₁.setTop (mkF m 39 #[.val (.int p0), .val (.int x1_3), .val (.int x1_3), .unset] [(.int (0 : Int32))])) := fun t k => pre6 t (by
              show Steps p.tables e below (s₁.setTop (mkF m 31 #[.val (.int p0), .val (.int x1_3), .val (.int x1_3), .unset] [(.int (10 : Int32)), (.int x1_3)])) _
              refine XS.icmpYes X0.here hx rfl (pc0 := 31) (pc' := 38) rfl (hb hby at_31) rfl (feq hc31).2 (by decide) (by decide) ?_
              show Steps p.tables e below (s₁.setTop (mkF m 38 #[.val (.int p0), .val (.int x1_3), .val (.int x1_3), .unset] [])) _
              refine XS.iconst X0.here hx rfl (hb hby at_38) ?_
              exact k)
          refine ⟨_, ?_, pre8⟩
          all_goals (first | (simp only [own_m0_39_s0, if_pos hc7, if_pos hc19, if_neg hc31]; done) | (simp [own_m0_39_s0, if_pos hc7, if_pos hc19, if_neg hc31]; done))
      · have pre9 : own_Pre p e below (s₁.setTop (entryFrame m #[(.int p0)] maxLocals)) (s₁.setTop (mkF m 25 #[.val (.int p0), .val (.int x1_3), .val (.int x1_3), .unset] [(.int (23 : Int32)), (.int x1_3)])) := fun t k => pre5 t (by
            show Steps p.tables e below (s₁.setTop (mkF m 19 #[.val (.int p0), .val (.int x1_3), .val (.int x1_3), .unset] [(.int (16 : Int32)), (.int x1_3)])) _
            refine XS.icmpNo X0.here hx rfl (hb hby at_19) rfl (flt hc19).1 ?_
            show Steps p.tables e below (s₁.setTop (mkF m 22 #[.val (.int p0), .val (.int x1_3), .val (.int x1_3), .unset] [])) _
            refine XS.iloadN X0.here hx rfl (hb hby at_22) rfl ?_
            show Steps p.tables e below (s₁.setTop (mkF m 23 #[.val (.int p0), .val (.int x1_3), .val (.int x1_3), .unset] [(.int x1_3)])) _
            refine XS.bipush X0.here hx rfl (hb hby at_23) ?_
            exact k)
        by_cases hc25 : (23 : Int32) < x1_3
        · have pre10 : own_Pre p e below (s₁.setTop (entryFrame m #[(.int p0)] maxLocals)) (s₁.setTop (mkF m 31 #[.val (.int p0), .val (.int x1_3), .val (.int x1_3), .unset] [(.int (10 : Int32)), (.int x1_3)])) := fun t k => pre9 t (by
              show Steps p.tables e below (s₁.setTop (mkF m 25 #[.val (.int p0), .val (.int x1_3), .val (.int x1_3), .unset] [(.int (23 : Int32)), (.int x1_3)])) _
              refine XS.icmpNo X0.here hx rfl (hb hby at_25) rfl (tlt hc25).2.2.2 ?_
              show Steps p.tables e below (s₁.setTop (mkF m 28 #[.val (.int p0), .val (.int x1_3), .val (.int x1_3), .unset] [])) _
              refine XS.iloadN X0.here hx rfl (hb hby at_28) rfl ?_
              show Steps p.tables e below (s₁.setTop (mkF m 29 #[.val (.int p0), .val (.int x1_3), .val (.int x1_3), .unset] [(.int x1_3)])) _
              refine XS.bipush X0.here hx rfl (hb hby at_29) ?_
              exact k)
          by_cases hc31 : x1_3 = (10 : Int32)
          · have pre11 : own_Pre p e below (s₁.setTop (entryFrame m #[(.int p0)] maxLocals)) (s₁.setTop (mkF m 39 #[.val (.int p0), .val (.int x1_3), .val (.int x1_3), .unset] [(.int (1 : Int32))])) := fun t k => pre10 t (by
                show Steps p.tables e below (s₁.setTop (mkF m 31 #[.val (.int p0), .val (.int x1_3), .val (.int x1_3), .unset] [(.int (10 : Int32)), (.int x1_3)])) _
                refine XS.icmpNo X0.here hx rfl (hb hby at_31) rfl (teq hc31).2 ?_
                show Steps p.tables e below (s₁.setTop (mkF m 34 #[.val (.int p0), .val (.int x1_3), .val (.int x1_3), .unset] [])) _
                refine XS.iconst X0.here hx rfl (hb hby at_34) ?_
                show Steps p.tables e below (s₁.setTop (mkF m 35 #[.val (.int p0), .val (.int x1_3), .val (.int x1_3), .unset] [(.int (1 : Int32))])) _
                refine XS.goto X0.here hx rfl (pc0 := 35) (pc' := 39) rfl (hb hby at_35) (by decide) (by decide) ?_
                exact k)
            refine ⟨_, ?_, pre11⟩
            all_goals (first | (simp only [own_m0_39_s0, if_pos hc7, if_neg hc19, if_pos hc25, if_pos hc31]; done) | (simp [own_m0_39_s0, if_pos hc7, if_neg hc19, if_pos hc25, if_pos hc31]; done))
          · have pre12 : own_Pre p e below (s₁.setTop (entryFrame m #[(.int p0)] maxLocals)) (s₁.setTop (mkF m 39 #[.val (.int p0), .val (.int x1_3), .val (.int x1_3), .unset] [(.int (0 : Int32))])) := fun t k => pre10 t (by
                show Steps p.tables e below (s₁.setTop (mkF m 31 #[.val (.int p0), .val (.int x1_3), .val (.int x1_3), .unset] [(.int (10 : Int32)), (.int x1_3)])) _
                refine XS.icmpYes X0.here hx rfl (pc0 := 31) (pc' := 38) rfl (hb hby at_31) rfl (feq hc31).2 (by decide) (by decide) ?_
                show Steps p.tables e below (s₁.setTop (mkF m 38 #[.val (.int p0), .val (.int x1_3), .val (.int x1_3), .unset] [])) _
                refine XS.iconst X0.here hx rfl (hb hby at_38) ?_
                exact k)
            refine ⟨_, ?_, pre12⟩
            all_goals (first | (simp only [own_m0_39_s0, if_pos hc7, if_neg hc19, if_pos hc25, if_neg hc31]; done) | (simp [own_m0_39_s0, if_pos hc7, if_neg hc19, if_pos hc25, if_neg hc31]; done))
        · have pre13 : own_Pre p e below (s₁.setTop (entryFrame m #[(.int p0)] maxLocals)) (s₁.setTop (mkF m 39 #[.val (.int p0), .val (.int x1_3), .val (.int x1_3), .unset] [(.int (1 : Int32))])) := fun t k => pre9 t (by
              show Steps p.tables e below (s₁.setTop (mkF m 25 #[.val (.int p0), .val (.int x1_3), .val (.int x1_3), .unset] [(.int (23 : Int32)), (.int x1_3)])) _
              refine XS.icmpYes X0.here hx rfl (pc0 := 25) (pc' := 34) rfl (hb hby at_25) rfl (flt hc25).2.2.2 (by decide) (by decide) ?_
              show Steps p.tables e below (s₁.setTop (mkF m 34 #[.val (.int p0), .val (.int x1_3), .val (.int x1_3), .unset] [])) _
              refine XS.iconst X0.here hx rfl (hb hby at_34) ?_
              show Steps p.tables e below (s₁.setTop (mkF m 35 #[.val (.int p0), .val (.int x1_3), .val (.int x1_3), .unset] [(.int (1 : Int32))])) _
              refine XS.goto X0.here hx rfl (pc0 := 35) (pc' := 39) rfl (hb hby at_35) (by decide) (by decide) ?_
              exact k)
          refine ⟨_, ?_, pre13⟩
          all_goals (first | (simp only [own_m0_39_s0, if_pos hc7, if_neg hc19, if_neg hc25]; done) | (simp [own_m0_39_s0, if_pos hc7, if_neg hc19, if_neg hc25]; done))
    · have pre14 : own_Pre p e below (s₁.setTop (entryFrame m #[(.int p0)] maxLocals)) (s₁.setTop (mkF m 13 #[.val (.int p0), .val (.int x1_3), .val (.int x1_3), .unset] [(.int (6 : Int32)), (.int x1_3)])) := fun t k => pre4 t (by
          show Steps p.tables e below (s₁.setTop (mkF m 7 #[.val (.int p0), .val (.int x1_3), .val (.int x1_3), .unset] [(.int (1 : Int32)), (.int x1_3)])) _
          refine XS.icmpNo X0.here hx rfl (hb hby at_7) rfl (flt hc7).1 ?_
          show Steps p.tables e below (s₁.setTop (mkF m 10 #[.val (.int p0), .val (.int x1_3), .val (.int x1_3), .unset] [])) _
          refine XS.iloadN X0.here hx rfl (hb hby at_10) rfl ?_
          show Steps p.tables e below (s₁.setTop (mkF m 11 #[.val (.int p0), .val (.int x1_3), .val (.int x1_3), .unset] [(.int x1_3)])) _
          refine XS.bipush X0.here hx rfl (hb hby at_11) ?_
          exact k)
      by_cases hc13 : (6 : Int32) < x1_3
      · have pre15 : own_Pre p e below (s₁.setTop (entryFrame m #[(.int p0)] maxLocals)) (s₁.setTop (mkF m 19 #[.val (.int p0), .val (.int x1_3), .val (.int x1_3), .unset] [(.int (16 : Int32)), (.int x1_3)])) := fun t k => pre14 t (by
            show Steps p.tables e below (s₁.setTop (mkF m 13 #[.val (.int p0), .val (.int x1_3), .val (.int x1_3), .unset] [(.int (6 : Int32)), (.int x1_3)])) _
            refine XS.icmpNo X0.here hx rfl (hb hby at_13) rfl (tlt hc13).2.2.2 ?_
            show Steps p.tables e below (s₁.setTop (mkF m 16 #[.val (.int p0), .val (.int x1_3), .val (.int x1_3), .unset] [])) _
            refine XS.iloadN X0.here hx rfl (hb hby at_16) rfl ?_
            show Steps p.tables e below (s₁.setTop (mkF m 17 #[.val (.int p0), .val (.int x1_3), .val (.int x1_3), .unset] [(.int x1_3)])) _
            refine XS.bipush X0.here hx rfl (hb hby at_17) ?_
            exact k)
        by_cases hc19 : x1_3 < (16 : Int32)
        · have pre16 : own_Pre p e below (s₁.setTop (entryFrame m #[(.int p0)] maxLocals)) (s₁.setTop (mkF m 31 #[.val (.int p0), .val (.int x1_3), .val (.int x1_3), .unset] [(.int (10 : Int32)), (.int x1_3)])) := fun t k => pre15 t (by
              show Steps p.tables e below (s₁.setTop (mkF m 19 #[.val (.int p0), .val (.int x1_3), .val (.int x1_3), .unset] [(.int (16 : Int32)), (.int x1_3)])) _
              refine XS.icmpYes X0.here hx rfl (pc0 := 19) (pc' := 28) rfl (hb hby at_19) rfl (tlt hc19).1 (by decide) (by decide) ?_
              show Steps p.tables e below (s₁.setTop (mkF m 28 #[.val (.int p0), .val (.int x1_3), .val (.int x1_3), .unset] [])) _
              refine XS.iloadN X0.here hx rfl (hb hby at_28) rfl ?_
              show Steps p.tables e below (s₁.setTop (mkF m 29 #[.val (.int p0), .val (.int x1_3), .val (.int x1_3), .unset] [(.int x1_3)])) _
              refine XS.bipush X0.here hx rfl (hb hby at_29) ?_
              exact k)
          by_cases hc31 : x1_3 = (10 : Int32)
          · have pre17 : own_Pre p e below (s₁.setTop (entryFrame m #[(.int p0)] maxLocals)) (s₁.setTop (mkF m 39 #[.val (.int p0), .val (.int x1_3), .val (.int x1_3), .unset] [(.int (1 : Int32))])) := fun t k => pre16 t (by
                show Steps p.tables e below (s₁.setTop (mkF m 31 #[.val (.int p0), .val (.int x1_3), .val (.int x1_3), .unset] [(.int (10 : Int32)), (.int x1_3)])) _
                refine XS.icmpNo X0.here hx rfl (hb hby at_31) rfl (teq hc31).2 ?_
                show Steps p.tables e below (s₁.setTop (mkF m 34 #[.val (.int p0), .val (.int x1_3), .val (.int x1_3), .unset] [])) _
                refine XS.iconst X0.here hx rfl (hb hby at_34) ?_
                show Steps p.tables e below (s₁.setTop (mkF m 35 #[.val (.int p0), .val (.int x1_3), .val (.int x1_3), .unset] [(.int (1 : Int32))])) _
                refine XS.goto X0.here hx rfl (pc0 := 35) (pc' := 39) rfl (hb hby at_35) (by decide) (by decide) ?_
                exact k)
            refine ⟨_, ?_, pre17⟩
            all_goals (first | (simp only [own_m0_39_s0, if_neg hc7, if_pos hc13, if_pos hc19, if_pos hc31]; done) | (simp [own_m0_39_s0, if_neg hc7, if_pos hc13, if_pos hc19, if_pos hc31]; done))
          · have pre18 : own_Pre p e below (s₁.setTop (entryFrame m #[(.int p0)] maxLocals)) (s₁.setTop (mkF m 39 #[.val (.int p0), .val (.int x1_3), .val (.int x1_3), .unset] [(.int (0 : Int32))])) := fun t k => pre16 t (by
                show Steps p.tables e below (s₁.setTop (mkF m 31 #[.val (.int p0), .val (.int x1_3), .val (.int x1_3), .unset] [(.int (10 : Int32)), (.int x1_3)])) _
                refine XS.icmpYes X0.here hx rfl (pc0 := 31) (pc' := 38) rfl (hb hby at_31) rfl (feq hc31).2 (by decide) (by decide) ?_
                show Steps p.tables e below (s₁.setTop (mkF m 38 #[.val (.int p0), .val (.int x1_3), .val (.int x1_3), .unset] [])) _
                refine XS.iconst X0.here hx rfl (hb hby at_38) ?_
                exact k)
            refine ⟨_, ?_, pre18⟩
            all_goals (first | (simp only [own_m0_39_s0, if_neg hc7, if_pos hc13, if_pos hc19, if_neg hc31]; done) | (simp [own_m0_39_s0, if_neg hc7, if_pos hc13, if_pos hc19, if_neg hc31]; done))
        · have pre19 : own_Pre p e below (s₁.setTop (entryFrame m #[(.int p0)] maxLocals)) (s₁.setTop (mkF m 25 #[.val (.int p0), .val (.int x1_3), .val (.int x1_3), .unset] [(.int (23 : Int32)), (.int x1_3)])) := fun t k => pre15 t (by
              show Steps p.tables e below (s₁.setTop (mkF m 19 #[.val (.int p0), .val (.int x1_3), .val (.int x1_3), .unset] [(.int (16 : Int32)), (.int x1_3)])) _
              refine XS.icmpNo X0.here hx rfl (hb hby at_19) rfl (flt hc19).1 ?_
              show Steps p.tables e below (s₁.setTop (mkF m 22 #[.val (.int p0), .val (.int x1_3), .val (.int x1_3), .unset] [])) _
              refine XS.iloadN X0.here hx rfl (hb hby at_22) rfl ?_
              show Steps p.tables e below (s₁.setTop (mkF m 23 #[.val (.int p0), .val (.int x1_3), .val (.int x1_3), .unset] [(.int x1_3)])) _
              refine XS.bipush X0.here hx rfl (hb hby at_23) ?_
              exact k)
          by_cases hc25 : (23 : Int32) < x1_3
          · have pre20 : own_Pre p e below (s₁.setTop (entryFrame m #[(.int p0)] maxLocals)) (s₁.setTop (mkF m 31 #[.val (.int p0), .val (.int x1_3), .val (.int x1_3), .unset] [(.int (10 : Int32)), (.int x1_3)])) := fun t k => pre19 t (by
                show Steps p.tables e below (s₁.setTop (mkF m 25 #[.val (.int p0), .val (.int x1_3), .val (.int x1_3), .unset] [(.int (23 : Int32)), (.int x1_3)])) _
                refine XS.icmpNo X0.here hx rfl (hb hby at_25) rfl (tlt hc25).2.2.2 ?_
                show Steps p.tables e below (s₁.setTop (mkF m 28 #[.val (.int p0), .val (.int x1_3), .val (.int x1_3), .unset] [])) _
                refine XS.iloadN X0.here hx rfl (hb hby at_28) rfl ?_
                show Steps p.tables e below (s₁.setTop (mkF m 29 #[.val (.int p0), .val (.int x1_3), .val (.int x1_3), .unset] [(.int x1_3)])) _
                refine XS.bipush X0.here hx rfl (hb hby at_29) ?_
                exact k)
            by_cases hc31 : x1_3 = (10 : Int32)
            · have pre21 : own_Pre p e below (s₁.setTop (entryFrame m #[(.int p0)] maxLocals)) (s₁.setTop (mkF m 39 #[.val (.int p0), .val (.int x1_3), .val (.int x1_3), .unset] [(.int (1 : Int32))])) := fun t k => pre20 t (by
                  show Steps p.tables e below (s₁.setTop (mkF m 31 #[.val (.int p0), .val (.int x1_3), .val (.int x1_3), .unset] [(.int (10 : Int32)), (.int x1_3)])) _
                  refine XS.icmpNo X0.here hx rfl (hb hby at_31) rfl (teq hc31).2 ?_
                  show Steps p.tables e below (s₁.setTop (mkF m 34 #[.val (.int p0), .val (.int x1_3), .val (.int x1_3), .unset] [])) _
                  refine XS.iconst X0.here hx rfl (hb hby at_34) ?_
                  show Steps p.tables e below (s₁.setTop (mkF m 35 #[.val (.int p0), .val (.int x1_3), .val (.int x1_3), .unset] [(.int (1 : Int32))])) _
                  refine XS.goto X0.here hx rfl (pc0 := 35) (pc' := 39) rfl (hb hby at_35) (by decide) (by decide) ?_
                  exact k)
              refine ⟨_, ?_, pre21⟩
              all_goals (first | (simp only [own_m0_39_s0, if_neg hc7, if_pos hc13, if_neg hc19, if_pos hc25, if_pos hc31]; done) | (simp [own_m0_39_s0, if_neg hc7, if_pos hc13, if_neg hc19, if_pos hc25, if_pos hc31]; done))
            · have pre22 : own_Pre p e below (s₁.setTop (entryFrame m #[(.int p0)] maxLocals)) (s₁.setTop (mkF m 39 #[.val (.int p0), .val (.int x1_3), .val (.int x1_3), .unset] [(.int (0 : Int32))])) := fun t k => pre20 t (by
                  show Steps p.tables e below (s₁.setTop (mkF m 31 #[.val (.int p0), .val (.int x1_3), .val (.int x1_3), .unset] [(.int (10 : Int32)), (.int x1_3)])) _
                  refine XS.icmpYes X0.here hx rfl (pc0 := 31) (pc' := 38) rfl (hb hby at_31) rfl (feq hc31).2 (by decide) (by decide) ?_
                  show Steps p.tables e below (s₁.setTop (mkF m 38 #[.val (.int p0), .val (.int x1_3), .val (.int x1_3), .unset] [])) _
                  refine XS.iconst X0.here hx rfl (hb hby at_38) ?_
                  exact k)
              refine ⟨_, ?_, pre22⟩
              all_goals (first | (simp only [own_m0_39_s0, if_neg hc7, if_pos hc13, if_neg hc19, if_pos hc25, if_neg hc31]; done) | (simp [own_m0_39_s0, if_neg hc7, if_pos hc13, if_neg hc19, if_pos hc25, if_neg hc31]; done))
          · have pre23 : own_Pre p e below (s₁.setTop (entryFrame m #[(.int p0)] maxLocals)) (s₁.setTop (mkF m 39 #[.val (.int p0), .val (.int x1_3), .val (.int x1_3), .unset] [(.int (1 : Int32))])) := fun t k => pre19 t (by
                show Steps p.tables e below (s₁.setTop (mkF m 25 #[.val (.int p0), .val (.int x1_3), .val (.int x1_3), .unset] [(.int (23 : Int32)), (.int x1_3)])) _
                refine XS.icmpYes X0.here hx rfl (pc0 := 25) (pc' := 34) rfl (hb hby at_25) rfl (flt hc25).2.2.2 (by decide) (by decide) ?_
                show Steps p.tables e below (s₁.setTop (mkF m 34 #[.val (.int p0), .val (.int x1_3), .val (.int x1_3), .unset] [])) _
                refine XS.iconst X0.here hx rfl (hb hby at_34) ?_
                show Steps p.tables e below (s₁.setTop (mkF m 35 #[.val (.int p0), .val (.int x1_3), .val (.int x1_3), .unset] [(.int (1 : Int32))])) _
                refine XS.goto X0.here hx rfl (pc0 := 35) (pc' := 39) rfl (hb hby at_35) (by decide) (by decide) ?_
                exact k)
            refine ⟨_, ?_, pre23⟩
            all_goals (first | (simp only [own_m0_39_s0, if_neg hc7, if_pos hc13, if_neg hc19, if_neg hc25]; done) | (simp [own_m0_39_s0, if_neg hc7, if_pos hc13, if_neg hc19, if_neg hc25]; done))
      · have pre24 : own_Pre p e below (s₁.setTop (entryFrame m #[(.int p0)] maxLocals)) (s₁.setTop (mkF m 39 #[.val (.int p0), .val (.int x1_3), .val (.int x1_3), .unset] [(.int (1 : Int32))])) := fun t k => pre14 t (by
            show Steps p.tables e below (s₁.setTop (mkF m 13 #[.val (.int p0), .val (.int x1_3), .val (.int x1_3), .unset] [(.int (6 : Int32)), (.int x1_3)])) _
            refine XS.icmpYes X0.here hx rfl (pc0 := 13) (pc' := 34) rfl (hb hby at_13) rfl (flt hc13).2.2.2 (by decide) (by decide) ?_
            show Steps p.tables e below (s₁.setTop (mkF m 34 #[.val (.int p0), .val (.int x1_3), .val (.int x1_3), .unset] [])) _
            refine XS.iconst X0.here hx rfl (hb hby at_34) ?_
            show Steps p.tables e below (s₁.setTop (mkF m 35 #[.val (.int p0), .val (.int x1_3), .val (.int x1_3), .unset] [(.int (1 : Int32))])) _
            refine XS.goto X0.here hx rfl (pc0 := 35) (pc' := 39) rfl (hb hby at_35) (by decide) (by decide) ?_
            exact k)
        refine ⟨_, ?_, pre24⟩
        all_goals (first | (simp only [own_m0_39_s0, if_neg hc7, if_neg hc13]; done) | (simp [own_m0_39_s0, if_neg hc7, if_neg hc13]; done))
  obtain ⟨_, _, ⟨T25, L25, k25, n25⟩, -, X25, ⟨Lc25, hQ25, l25, y25, z25⟩, st25⟩ := Jvm.LawKit.callS X0 hx (y := (⟨"com/example/tubeline/tubeline/astm/Control", "isRestricted", "(B)Z"⟩ : MethodName)) hown (mvT hZ (hw _ (List.mem_of_getElem? (i := 0) rfl))) (mvT hZ (hw _ (List.mem_of_getElem? (i := 1) rfl))) (mvT hZ (hw _ (List.mem_of_getElem? (i := 2) rfl))) (mvT hZ (hw _ (List.mem_of_getElem? (i := 3) rfl))) (by decide) (backOf (W := 0) (rm1 l Z a0 hw [] (x1_3) (h0) n0 Z0) hZ (hw _ (List.mem_of_getElem? (i := 3) rfl)) (hw _ (List.mem_of_getElem? (i := 2) rfl)) (by decide) (by decide)) (g := (mkF m 41 #[.val (.int p0), .val (.int x1_3), .val (.int x1_3), .val (.int m39_s0)] [(.int x1_3)])) rfl (by rw [hml]; rfl) (argsL := [(.int x1_3)]) (rest := []) (lenOf pd_0 rfl) rfl (by show 2 * 0 + _ ≤ _; exact Nat.le_of_eq rfl) (hb hby at_41) (fun _ _ => ⟨rfl, e0, (by decide : 0 + 0 ≤ _), (by decide : 0 + 0 ≤ _)⟩)
  dsimp only [Pt.U, Pt.locs, Pt.cells, Pt.slots] at X25 l25 y25 z25 st25 hQ25
  subst l25 y25 z25
  obtain ⟨rfl, Nq25, eq25⟩ := hQ25
  have N25 := Fr.app N0 Nq25
  have hc45 : ((own_f1 x1_3) = m39_s0) := own_plain p0 x1_3 m39_s0 hx1_3 hm39_s0
  obtain ⟨fs, hr, hrun, hended, hW, hsame⟩ := X25.leave (v := some (.int (1 : Int32))) (fun h => by rw [Bd.returns] at h; cases h)
  refine ⟨_, _, pre3 _ ?_, hrun, hended, _, _, rfl, ?_, ⟨_, rfl⟩, hW, hsame.mono (by decide) (by decide)⟩
  · show Steps p.tables e below (s₁.setTop (mkF m 39 #[.val (.int p0), .val (.int x1_3), .val (.int x1_3), .unset] [(.int m39_s0)])) _
    refine XS.istoreN X0.here hx rfl (hb hby at_39) rfl (l' := #[.val (.int p0), .val (.int x1_3), .val (.int x1_3), .val (.int m39_s0)]) rfl ?_
    show Steps p.tables e below (s₁.setTop (mkF m 40 #[.val (.int p0), .val (.int x1_3), .val (.int x1_3), .val (.int m39_s0)] [])) _
    refine XS.iloadN X0.here hx rfl (hb hby at_40) rfl ?_
    show Steps p.tables e below (s₁.setTop (mkF m 41 #[.val (.int p0), .val (.int x1_3), .val (.int x1_3), .val (.int m39_s0)] [(.int x1_3)])) _
    refine st25 _ ?_
    show Steps p.tables e below (T25.setTop (mkF m 44 #[.val (.int p0), .val (.int x1_3), .val (.int x1_3), .val (.int m39_s0)] [(.int (own_f1 x1_3))])) _
    refine XS.iloadN X25.here hx rfl (hb hby at_44) rfl ?_
    show Steps p.tables e below (T25.setTop (mkF m 45 #[.val (.int p0), .val (.int x1_3), .val (.int x1_3), .val (.int m39_s0)] [(.int m39_s0), (.int (own_f1 x1_3))])) _
    refine XS.icmpNo X25.here hx rfl (hb hby at_45) rfl (teq hc45).2 ?_
    show Steps p.tables e below (T25.setTop (mkF m 48 #[.val (.int p0), .val (.int x1_3), .val (.int x1_3), .val (.int m39_s0)] [])) _
    refine XS.iconst X25.here hx rfl (hb hby at_48) ?_
    show Steps p.tables e below (T25.setTop (mkF m 49 #[.val (.int p0), .val (.int x1_3), .val (.int x1_3), .val (.int m39_s0)] [(.int (1 : Int32))])) _
    refine XS.goto X25.here hx rfl (pc0 := 49) (pc' := 53) rfl (hb hby at_49) (by decide) (by decide) ?_
    show Steps p.tables e below (T25.setTop (mkF m 53 #[.val (.int p0), .val (.int x1_3), .val (.int x1_3), .val (.int m39_s0)] [(.int (1 : Int32))])) _
    exact retN X25 hx (t := .boolean) Bd.returns (by simp) (hb hby at_53) hr
  · show Q0 Z p0 h0 n0 _ T25.heap _
    rw [eq25]
    unfold Q0
    refine ⟨rfl, N25⟩
set_option maxRecDepth 65536 in
set_option maxHeartbeats 40000000 in
theorem comes_1 {Post : Tables → Env → Array Value → State → Outcome → State → Prop} (hpost : ∀ tb e args s v u, (limb_1_1.after args s (.returned v) u = true ∧ limb_1_2.after args s (.returned v) u = true ∧ True) → FrameEnd s (.returned v) u (Jvm.fieldLocs frame_1_writes args s ++ Jvm.arrayLocs frame_1_arrays args s ++ Jvm.staticLocs frame_1_statics s) 0 0 → Post tb e args s (.returned v) u) :
    ArmFor flags0 classFile x code maxLocals ret World_1 tables_1 room_1 Calls_1 rest_1 Pre_1 Post := by
  intro l hfl _ _ p e ha hc hk s m args below hf hA hF happ hP
  obtain ⟨hcalls, hrest, hpre⟩ := hP
  obtain ⟨-, -, -, hnamed, -, -, -, hat⟩ := (Spec.applies_iff hf).mp happ
  obtain ⟨hg, hn⟩ := and_e (Cond.before_iff.mp (show (Jvm.Cond.and given_1 narrow_1).before args s = true from hpre))
  obtain ⟨gv1, gv2⟩ := and_e hg
  obtain ⟨w0, rfl⟩ : ∃ w0 : Value, args = #[w0] := by
    have hs : args.size = 1 := by simpa [Cond.value, given_1] using gv1
    obtain ⟨L⟩ := args
    match L, hs with
    | [w0], _ => exact ⟨w0, rfl⟩
  have hw := fun d (hd : d ∈ tables_1) => atoms_spec (ws := Jvm.Cond.code x code maxLocals ret :: tables_1) hat d (List.mem_cons_of_mem _ hd)
  obtain ⟨i0, ei0⟩ := is_v gv2
  obtain rfl : w0 = (.int i0) := Option.some.inj ei0
  obtain ⟨n, o, h1, h2, h3, _, L, rfl, ⟨rfl, N⟩, hq⟩ := rm0 l s _ hw tables_1 i0 s.heap s.heap.size (Nat.le_refl _) p e ha hc hk s m _ below hf ((Spec.applies_iff_loose hf).mp happ).1 ⟨rfl, State.Warmed39.refl s, rfl⟩ trivial
  refine ⟨n, _, h1, h2, h3, hpost _ _ _ _ _ _ ⟨Cond.after_iff.mpr rfl, Cond.after_iff.mpr (eq_i res_at (Term.int_eval (1)) rfl), trivial⟩ ⟨hq.1, hq.2.1, (hq.2.2.sift fun y hy => Or.inr (N y hy)).mono (by decide) (by decide)⟩⟩
theorem main_1_1 : Claimed_1_1 := comes_1 fun _ _ _ _ _ _ h hF => ⟨h.1, hF⟩
theorem main_1_2 : Claimed_1_2 := comes_1 fun _ _ _ _ _ _ h hF => ⟨h.2.1, hF⟩
end Jvm.Pilot.@@N@@
namespace Jvm.Pilot.@@N@@
open Jvm Jvm.ClassFile Sem Op Lib Jvm.Free Jvm.Stand Jvm.Pilot.@@N@@.Jvm.D
/-! MADE BY PROGRAM (witnessworld.py) out of the Statement's table words and the real class files: 9 classes; the members and pool entries that the words name. The judged class is class 1, her method 1. -/
namespace start1
open Jvm.ClassFile
def u (s : String) : CpInfo := .utf8 (stringToUtf16 s)
/-- a pool by its gaps: so many unusable entries, then the entry; so many at the end -/
def gap : Nat → List CpInfo → List CpInfo
  | 0, r => r
  | n + 1, r => .unusable :: gap n r
def poolList (es : List (Nat × CpInfo)) (last : Nat) : List CpInfo := es.foldr (fun e r => gap e.1 (e.2 :: r)) (gap last [])
def pool (es : List (Nat × CpInfo)) (last : Nat) : Array CpInfo := ⟨poolList es last⟩
def fileOf (pool : Array CpInfo) (this : Nat) (attrs : Array Attribute := #[]) (ms : Array MethodInfo := #[]) (fl : Nat := 33) (sup : Nat := 0) (ifs : Array Nat := #[]) (fds : Array FieldInfo := #[]) : ClassFile where
  minorVersion := 0
  majorVersion := 65
  constantPool := pool
  accessFlags := fl
  thisClass := this
  superClass := sup
  interfaces := ifs
  fields := fds
  methods := ms
  attributes := attrs
def plain (name : String) (sup : Option ClassId) : Class where
  name := name
  kind := .ordinary
  loader := none
  accessFlags := 33
  super := sup
  interfaces := #[]
  cf := none
  fields := #[]
  methods := #[]
  instanceTypes := #[]
  staticTypes := #[]
  resolved := #[]
  callSites := []
  init := .initialized
  statics := none
  mirror := none

def pool0 : Array CpInfo := pool [(5, u "<init>"), (0, u "()V"), (1, .class_ 10), (1, u "java/lang/Object")] 113

def k0m0 : Method := { name := "<init>", desc := "()V", sig := { parameters := [], returnType := none }, accessFlags := 1, code := none }
/-- java/lang/Object -/
def k0 : Class := { plain "java/lang/Object" none with
  accessFlags := 33
  interfaces := #[]
  cf := some (fileOf pool0 8 #[] #[{ accessFlags := 1, nameIndex := 5, descriptorIndex := 6, attributes := #[] }] 33 0 #[] #[])
  fields := #[]
  methods := #[k0m0]
  instanceTypes := #[]
  staticTypes := #[]
  resolved := Array.replicate 124 none
  statics := none }

def pool1 : Array CpInfo := pool [(2, .class_ 4), (1, u "java/lang/Object"), (0, u "<init>"), (0, u "()V"), (0, .methodref 8 9), (0, .class_ 10), (0, .nameAndType 11 12), (0, u "com/example/tubeline/tubeline/astm/Control"), (0, u "isRestricted"), (0, u "(B)Z"), (0, .class_ 14), (0, u "com/example/tubeline/tubeline/astm/ControlIsRestrictedPinLaw"), (2, u "law"), (0, u "(I)Z")] 3

def k1m0 : Method := { name := "<init>", desc := "()V", sig := { parameters := [], returnType := none }, accessFlags := 2, code := none }
def k1c1 : Code := { maxStack := 2, maxLocals := 4, code := code, exceptionTable := #[], attributes := #[] }
def k1m1 : Method := { name := "law", desc := "(I)Z", sig := { parameters := [.int], returnType := some .boolean }, accessFlags := 9, code := some k1c1 }
/-- com/example/tubeline/tubeline/astm/ControlIsRestrictedPinLaw -/
def k1 : Class := { plain "com/example/tubeline/tubeline/astm/ControlIsRestrictedPinLaw" (some 0) with
  accessFlags := 49
  interfaces := #[]
  cf := some (fileOf pool1 13 #[] #[{ accessFlags := 2, nameIndex := 5, descriptorIndex := 6, attributes := #[] }, { accessFlags := 9, nameIndex := 17, descriptorIndex := 18, attributes := #[] }] 49 2 #[] #[])
  fields := #[]
  methods := #[k1m0, k1m1]
  instanceTypes := #[]
  staticTypes := #[]
  resolved := Array.replicate 22 none
  statics := none }

def pool2 : Array CpInfo := pool [(2, .class_ 4), (1, u "java/lang/Object"), (0, u "<init>"), (0, u "()V"), (1, u "STX"), (1, u "ETX"), (1, u "EOT"), (1, u "ENQ"), (1, u "ACK"), (1, u "NAK"), (1, u "ETB"), (1, u "CR"), (1, u "LF"), (0, .class_ 26), (0, u "com/example/tubeline/tubeline/astm/Control"), (0, u "B"), (19, u "isRestricted"), (0, u "(B)Z")] 2

def k2m0 : Method := { name := "<init>", desc := "()V", sig := { parameters := [], returnType := none }, accessFlags := 2, code := none }
def k2c1 : Code := { maxStack := 1, maxLocals := 1, code := prog_6_method_4_code, exceptionTable := #[], attributes := #[] }
def k2m1 : Method := { name := "isRestricted", desc := "(B)Z", sig := { parameters := [.byte], returnType := some .boolean }, accessFlags := 8, code := some k2c1 }
/-- com/example/tubeline/tubeline/astm/Control -/
def k2 : Class := { plain "com/example/tubeline/tubeline/astm/Control" (some 0) with
  accessFlags := 48
  interfaces := #[]
  cf := some (fileOf pool2 25 #[] #[{ accessFlags := 2, nameIndex := 5, descriptorIndex := 6, attributes := #[] }, { accessFlags := 8, nameIndex := 47, descriptorIndex := 48, attributes := #[] }] 48 2 #[] #[{ accessFlags := 24, nameIndex := 8, descriptorIndex := 27, attributes := #[] }, { accessFlags := 24, nameIndex := 10, descriptorIndex := 27, attributes := #[] }, { accessFlags := 24, nameIndex := 12, descriptorIndex := 27, attributes := #[] }, { accessFlags := 24, nameIndex := 14, descriptorIndex := 27, attributes := #[] }, { accessFlags := 24, nameIndex := 16, descriptorIndex := 27, attributes := #[] }, { accessFlags := 24, nameIndex := 18, descriptorIndex := 27, attributes := #[] }, { accessFlags := 24, nameIndex := 20, descriptorIndex := 27, attributes := #[] }, { accessFlags := 24, nameIndex := 22, descriptorIndex := 27, attributes := #[] }, { accessFlags := 24, nameIndex := 24, descriptorIndex := 27, attributes := #[] }])
  fields := #[{ name := "STX", type := .byte, accessFlags := 24, slot := 0, constantValue := 0 }, { name := "ETX", type := .byte, accessFlags := 24, slot := 1, constantValue := 0 }, { name := "EOT", type := .byte, accessFlags := 24, slot := 2, constantValue := 0 }, { name := "ENQ", type := .byte, accessFlags := 24, slot := 3, constantValue := 0 }, { name := "ACK", type := .byte, accessFlags := 24, slot := 4, constantValue := 0 }, { name := "NAK", type := .byte, accessFlags := 24, slot := 5, constantValue := 0 }, { name := "ETB", type := .byte, accessFlags := 24, slot := 6, constantValue := 0 }, { name := "CR", type := .byte, accessFlags := 24, slot := 7, constantValue := 0 }, { name := "LF", type := .byte, accessFlags := 24, slot := 8, constantValue := 0 }]
  methods := #[k2m0, k2m1]
  instanceTypes := #[]
  staticTypes := #[.byte, .byte, .byte, .byte, .byte, .byte, .byte, .byte, .byte]
  resolved := Array.replicate 51 none
  statics := none }

def pool3 : Array CpInfo := pool [(1, u "java/lang/Cloneable"), (0, .class_ 1), (0, u "java/lang/Object"), (0, .class_ 3)] 3

/-- java/lang/Cloneable -/
def k3 : Class := { plain "java/lang/Cloneable" (some 0) with
  accessFlags := 1537
  interfaces := #[]
  cf := some (fileOf pool3 2 #[] #[] 1537 4 #[] #[])
  fields := #[]
  methods := #[]
  instanceTypes := #[]
  staticTypes := #[]
  resolved := Array.replicate 8 none
  statics := none }

def pool4 : Array CpInfo := pool [(1, u "java/io/Serializable"), (0, .class_ 1), (0, u "java/lang/Object"), (0, .class_ 3)] 3

/-- java/io/Serializable -/
def k4 : Class := { plain "java/io/Serializable" (some 0) with
  accessFlags := 1537
  interfaces := #[]
  cf := some (fileOf pool4 2 #[] #[] 1537 4 #[] #[])
  fields := #[]
  methods := #[]
  instanceTypes := #[]
  staticTypes := #[]
  resolved := Array.replicate 8 none
  statics := none }

/-- the primitive byte -/
def k5 : Class := { plain "byte" none with kind := .primitive 'B', accessFlags := 0x411 }
/-- [B -/
def k6 : Class := { plain "[B" (some 0) with kind := .array 5 .byte, interfaces := #[3, 4], accessFlags := 1041 }

/-- the primitive int -/
def k7 : Class := { plain "int" none with kind := .primitive 'I', accessFlags := 0x411 }
/-- [I -/
def k8 : Class := { plain "[I" (some 0) with kind := .array 7 .int, interfaces := #[3, 4], accessFlags := 1041 }

def heap : Heap := #[]
def classes : Array Class := #[k0, k1, k2, k3, k4, k5, k6, k7, k8]
def interned : List (Array UInt16 × Addr) := []
def slotsUsed : Nat := 0
def theMethod : MethodId := ⟨1, 1⟩
def args0 : Array Value := #[.int 5]
def aboutOver (below : List Frame) : State where
  vm := { classes := classes, interned := interned.toArray }
  heap := heap
  slotsUsed := slotsUsed
  threads := #[{ frames := .invoking theMethod args0 :: below }]
def below0 : List Frame := [.native { method := ⟨0, 0⟩, args := #[] }]
def about1 : State := aboutOver below0
def p0 : Program := .bare "" "" ""
def e0 : Env := launch0.env 0 0 0
theorem w_frames : about1.frames = Frame.invoking theMethod args0 :: below0 := rfl
set_option maxRecDepth 65536 in
theorem w_args : argsFit about1.vm theMethod args0 = true := by decide +kernel
set_option maxRecDepth 65536 in
theorem w_heap : heapFits about1 = true := by decide +kernel
set_option maxRecDepth 65536 in
theorem w_runnable : about1.curStatus? = some .runnable := by decide +kernel
set_option maxRecDepth 65536 in
theorem w_alone : about1.alone = true := by decide +kernel
set_option maxRecDepth 65536 in
theorem w_named : about1.methodNamed? x = some theMethod := by decide +kernel
set_option maxRecDepth 65536 in
theorem w_hears : about1.hears theMethod below0 = true := by decide +kernel
set_option maxRecDepth 65536 in
theorem w_ripe : about1.ripe theMethod args0 below0 = true := by decide +kernel
theorem w_running : about1.status = .running := rfl
set_option maxRecDepth 65536 in
theorem w_room : about1.hasRoom e0.platform room_1 = true :=
  launch0.hasRoom_least _ room_1 (by decide +kernel) (by decide +kernel) (by decide +kernel) (by decide +kernel) (by decide +kernel) (by decide +kernel)
theorem allAtoms_all (ts : List Jvm.Cond) (a : Array Jvm.Value) (st : Jvm.State) : (allAtoms ts).before a st = ts.all (fun c => c.before a st) := by
  induction ts with
  | nil => rfl
  | cons c t ih =>
    show (Jvm.Cond.and c (allAtoms t)).before a st = _
    rw [Jvm.Cond.before_and, ih, List.all_cons]
def words1 : List Jvm.Cond := Jvm.Cond.code x code maxLocals ret :: tables_1
/-- a 'code' word, met by the world's own term for the bytes: nothing is compared byte by byte -/
theorem code_word {y : MethodName} {bytes : ByteArray} {mx : Nat} {rt : Option FieldType} {a : Array Value} {s : State} {m : MethodId} {meth : Method} {c : Code} (h1 : s.methodNamed? y = some m) (h2 : s.vm.method? m = some meth) (h3 : meth.code = some c) (h4 : c.code = bytes)
    (h5 : (c.maxLocals == mx && c.exceptionTable.isEmpty && decide (c.maxStack ≤ mostOperands) && decide (meth.sig.returnType = rt) && !meth.locks && decide (parseMethodDescriptor y.desc = some meth.sig)) = true) : (Jvm.Cond.code y bytes mx rt).before a s = true := by
  simp only [Bool.and_eq_true, beq_iff_eq, Bool.not_eq_true', decide_eq_true_eq] at h5
  obtain ⟨⟨⟨⟨⟨g1, g2⟩, g3⟩, g4⟩, g5⟩, g6⟩ := h5
  simp [Cond.before, Cond.holds, Cond.value, h1, h2, h3, h4, g1, g2, g3, g4, g5, g6]
def isCode : Jvm.Cond → Bool
  | .code _ _ _ _ => true
  | _ => false
theorem all_split {L : List Jvm.Cond} {P : Jvm.Cond → Bool} (h1 : L.all (fun c => isCode c || P c) = true) (h2 : ∀ c ∈ L.filter isCode, P c = true) : L.all P = true := by
  refine List.all_eq_true.mpr fun c hc => ?_
  have h := List.all_eq_true.mp h1 c hc
  rcases Bool.eq_false_or_eq_true (isCode c) with hi | hi
  · exact h2 c (List.mem_filter.mpr ⟨hc, hi⟩)
  · simpa [hi] using h
set_option maxRecDepth 65536 in
theorem w_c0 : (Jvm.Cond.code x code maxLocals ret).before args0 about1 = true := code_word (m := ⟨1, 1⟩) (meth := k1m1) (c := k1c1) (by decide +kernel) rfl rfl rfl (by decide +kernel)
set_option maxRecDepth 65536 in
theorem w_c1 : (Jvm.Cond.code ({ cls := "com/example/tubeline/tubeline/astm/Control", name := "isRestricted", desc := "(B)Z" } : Jvm.MethodName) prog_6_method_4_code (1 : Nat) (Option.some Jvm.ClassFile.FieldType.boolean)).before args0 about1 = true := code_word (m := ⟨2, 1⟩) (meth := k2m1) (c := k2c1) (by decide +kernel) rfl rfl rfl (by decide +kernel)
def codes1 : List Jvm.Cond := [Jvm.Cond.code x code maxLocals ret, Jvm.Cond.code ({ cls := "com/example/tubeline/tubeline/astm/Control", name := "isRestricted", desc := "(B)Z" } : Jvm.MethodName) prog_6_method_4_code (1 : Nat) (Option.some Jvm.ClassFile.FieldType.boolean)]
set_option maxRecDepth 65536 in
theorem codes_eq : words1.filter isCode = codes1 := rfl
theorem w_codes : ∀ c ∈ words1.filter isCode, c.before args0 about1 = true := by
  rw [codes_eq]
  intro c hc
  simp only [codes1, List.mem_cons, List.not_mem_nil, or_false] at hc
  rcases hc with rfl | rfl
  · exact w_c0
  · exact w_c1
set_option maxRecDepth 65536 in
theorem w_t1 : words1.all (fun c => isCode c || c.before args0 about1) = true := by decide +kernel
theorem w_tables : (allAtoms (Jvm.Cond.code x code maxLocals ret :: tables_1)).before args0 about1 = true := by
  rw [allAtoms_all]
  show words1.all (fun c => c.before args0 about1) = true
  refine all_split ?_ w_codes
  rw [w_t1]
set_option maxRecDepth 65536 in
theorem w_case : (Jvm.Cond.and given_1 narrow_1).before args0 about1 = true := by decide +kernel
theorem w_applies : (headSpec (Jvm.Cond.code x code maxLocals ret :: tables_1) room_1).applies x e0.platform about1 = true :=
  (Spec.applies_iff w_frames).mpr ⟨w_running, w_runnable, w_alone, w_named, w_hears, w_ripe, w_room, w_tables⟩
theorem atStart : AtStart classFile x code maxLocals ret World_1 tables_1 room_1 Calls_1 rest_1 Pre_1 launch0 p0 e0 about1 theMethod args0 below0 :=
  ⟨lists_1, trivial, launch0.admits_env _ _ _, launch0.least_env, fairChoices_fair.cas, fairChoices_fair.clock, w_frames, w_args, w_heap, w_applies, trivial, trivial, w_case⟩
end start1
theorem witness_1 : WitnessClaimed_1 := ⟨start1.p0, start1.e0, start1.about1, start1.theMethod, start1.args0, start1.below0, start1.atStart⟩
end Jvm.Pilot.@@N@@
