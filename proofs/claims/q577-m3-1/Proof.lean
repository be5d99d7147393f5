import JvmDerived
import JvmDerived.Pilot.@@N@@Statement
import JvmDerived.Pilot.@@N@@Code
set_option linter.unusedVariables false
set_option linter.unusedSimpArgs false
namespace Jvm.RoadKit
open Sem ClassFile Op Lib Jvm.Stand Jvm.Free Jvm.LawKit
section New
variable {p : Program} {l : Launch} {e : Env} {R : Room} {s : State} {m : MethodId} {args : Array Value} {below : List Frame} {meth : Method} {c : Code} {T : State} {locs : List Loc} {cells slots : Nat}
theorem retI (X : Stand p l e R s m args below meth c T locs cells slots) (hx : p.tables.exec = Jvm.exec) {pc : Nat} {Ls : Array Slot} {z : Int32} {rest : List Value} (hret : meth.sig.returnType = some .int) (hd : decode c.code pc = .ok (.ireturn, 1)) {fs : List Frame}
    (hl : ∀ (f : JFrame) (acts : List Action), f.method = m → f.locked = none → f.entered = [] → (doReturn e (T.setTop f) acts (some (.int z))).1 = T.setFrames fs) : Steps p.tables e below (T.setTop (mkF m pc Ls (.int z :: rest))) (T.setFrames fs) := by
  have hm' : T.vm.method? m = some meth := X.method'
  have hn : narrow .int (.int z) = .int z := rfl
  show Steps p.tables e below (T.setTop { method := m, pc := pc, locals := Ls, stack := _ :: rest, locked := none }) _
  jvm_step X.here [X.here.top, hx, hd, hm', hret, hn]
  first | (intro acts; rw [hl _ acts rfl rfl rfl]) | rw [hl _ _ rfl rfl rfl]
  exact Steps.refl _
theorem retJ (X : Stand p l e R s m args below meth c T locs cells slots) (hx : p.tables.exec = Jvm.exec) {pc : Nat} {Ls : Array Slot} {z : Int64} {rest : List Value} (hret : meth.sig.returnType = some .long) (hd : decode c.code pc = .ok (.lreturn, 1)) {fs : List Frame}
    (hl : ∀ (f : JFrame) (acts : List Action), f.method = m → f.locked = none → f.entered = [] → (doReturn e (T.setTop f) acts (some (.long z))).1 = T.setFrames fs) : Steps p.tables e below (T.setTop (mkF m pc Ls (.long z :: rest))) (T.setFrames fs) := by
  have hm' : T.vm.method? m = some meth := X.method'
  have hn : narrow .long (.long z) = .long z := rfl
  show Steps p.tables e below (T.setTop { method := m, pc := pc, locals := Ls, stack := _ :: rest, locked := none }) _
  jvm_step X.here [X.here.top, hx, hd, hm', hret, hn]
  first | (intro acts; rw [hl _ acts rfl rfl rfl]) | rw [hl _ _ rfl rfl rfl]
  exact Steps.refl _
theorem retR (X : Stand p l e R s m args below meth c T locs cells slots) (hx : p.tables.exec = Jvm.exec) {pc : Nat} {Ls : Array Slot} {v : Value} {rest : List Value} (hv : v.isRef = true) {ty : FieldType} (hret : meth.sig.returnType = some ty) (ht : ty.isReference = true) (hd : decode c.code pc = .ok (.areturn, 1)) {fs : List Frame}
    (hl : ∀ (f : JFrame) (acts : List Action), f.method = m → f.locked = none → f.entered = [] → (doReturn e (T.setTop f) acts (some v)).1 = T.setFrames fs) : Steps p.tables e below (T.setTop (mkF m pc Ls (v :: rest))) (T.setFrames fs) := by
  have hm' : T.vm.method? m = some meth := X.method'
  show Steps p.tables e below (T.setTop { method := m, pc := pc, locals := Ls, stack := _ :: rest, locked := none }) _
  jvm_step X.here [X.here.top, hx, hd, hm', hret, hv, ht]
  first | (intro acts; rw [hl _ acts rfl rfl rfl]) | rw [hl _ _ rfl rfl rfl]
  exact Steps.refl _
end New
end Jvm.RoadKit
namespace Jvm.Pilot.@@N@@
open Jvm Jvm.ClassFile Sem Op Lib Jvm.Free Jvm.Stand Jvm.LawKit Jvm.RoadKit Bundle Jvm.Pilot.@@N@@.Jvm.D
/-- from the state 'cur' on is enough -/
def own_Pre (p : Program) (e : Env) (below : List Frame) (start cur : State) : Prop := ∀ t, Steps p.tables e below cur t → Steps p.tables e below start t
/-- an array of ints (bytes, chars, booleans): its length z, its components ws (at least so many) -/
def own_AI (Z : State) (h : Heap) (a : Addr) (k : ClassId) (ty : FieldType) (z : Int32) (ws : List Int32) : Prop := Arv Z h a k ty z (ws.map Value.int) (.int 0) ∧ z.toNatClampNeg ≤ ws.length
def own_AJ (Z : State) (h : Heap) (a : Addr) (k : ClassId) (ty : FieldType) (z : Int32) (ws : List Int64) : Prop := Arv Z h a k ty z (ws.map Value.long) (.long 0) ∧ z.toNatClampNeg ≤ ws.length
section OwnA
variable {Z : State} {h h' : Heap} {a b : Addr} {k : ClassId} {ty : FieldType} {z : Int32} {ws : List Int32} {wl : List Int64} {sl : Nat} {v : Value} {L : List Addr}
theorem own_AI.lt (F : own_AI Z h a k ty z ws) : a < h.size := Arv.lt F.1
theorem own_AI.ext (F : own_AI Z h a k ty z ws) (E : Ext h h') : own_AI Z h' a k ty z ws := ⟨Arv.ext F.1 E, F.2⟩
theorem own_AI.other (F : own_AI Z h b k ty z ws) (W : Wr h h' a sl v) (q : b ≠ a) : own_AI Z h' b k ty z ws := ⟨Arv.other F.1 W q, F.2⟩
theorem own_AI.keep (F : own_AI Z h a k ty z ws) (K : Keep h h' L) (q : a ∉ L) : own_AI Z h' a k ty z ws := ⟨Arv.keep F.1 K q, F.2⟩
theorem own_AJ.lt (F : own_AJ Z h a k ty z wl) : a < h.size := Arv.lt F.1
theorem own_AJ.ext (F : own_AJ Z h a k ty z wl) (E : Ext h h') : own_AJ Z h' a k ty z wl := ⟨Arv.ext F.1 E, F.2⟩
theorem own_AJ.other (F : own_AJ Z h b k ty z wl) (W : Wr h h' a sl v) (q : b ≠ a) : own_AJ Z h' b k ty z wl := ⟨Arv.other F.1 W q, F.2⟩
theorem own_AJ.keep (F : own_AJ Z h a k ty z wl) (K : Keep h h' L) (q : a ∉ L) : own_AJ Z h' a k ty z wl := ⟨Arv.keep F.1 K q, F.2⟩
theorem own_AI.new (n : Nat) (A : Arr Z h a (newA k ty z) ty) (q : ¬ z < 0) (hn : z.toNatClampNeg ≤ n) (hd : defaultValue ty = .int 0) : own_AI Z h a k ty z (List.replicate n (0 : Int32)) := by
  have := Arv.new A q
  rw [hd] at this
  have r := this.pad (pad_rep [] (.int 0) n)
  exact ⟨by simpa [List.map_replicate] using r, by simpa using hn⟩
theorem own_AJ.new (n : Nat) (A : Arr Z h a (newA k ty z) ty) (q : ¬ z < 0) (hn : z.toNatClampNeg ≤ n) (hd : defaultValue ty = .long 0) : own_AJ Z h a k ty z (List.replicate n (0 : Int64)) := by
  have := Arv.new A q
  rw [hd] at this
  have r := this.pad (pad_rep [] (.long 0) n)
  exact ⟨by simpa [List.map_replicate] using r, by simpa using hn⟩
theorem own_getI (ws : List Int32) (i : Nat) : (ws.map Value.int).getD i (.int 0) = .int (ws.getD i 0) := by
  simp only [List.getD_eq_getElem?_getD, List.getElem?_map]
  cases ws[i]? <;> rfl
theorem own_getJ (ws : List Int64) (i : Nat) : (ws.map Value.long).getD i (.long 0) = .long (ws.getD i 0) := by
  simp only [List.getD_eq_getElem?_getD, List.getElem?_map]
  cases ws[i]? <;> rfl
theorem own_AI.at (F : own_AI Z h a k ty z ws) {j : Int32} (q : ¬ j < 0 ∧ j < z) : ∃ cl : Cell, Arr Z h a cl ty ∧ ¬ (j < 0 ∨ cl.slots.size ≤ j.toNatClampNeg) ∧ cl.slots[j.toNatClampNeg]? = some (.int (ws.getD j.toNatClampNeg 0)) := by
  obtain ⟨⟨cl, A, -, S, -, H, -⟩, -⟩ := F
  have hin := inb_of S q
  exact ⟨cl, A, hin, H.at hin (own_getI _ _)⟩
theorem own_AJ.at (F : own_AJ Z h a k ty z wl) {j : Int32} (q : ¬ j < 0 ∧ j < z) : ∃ cl : Cell, Arr Z h a cl ty ∧ ¬ (j < 0 ∨ cl.slots.size ≤ j.toNatClampNeg) ∧ cl.slots[j.toNatClampNeg]? = some (.long (wl.getD j.toNatClampNeg 0)) := by
  obtain ⟨⟨cl, A, -, S, -, H, -⟩, -⟩ := F
  have hin := inb_of S q
  exact ⟨cl, A, hin, H.at hin (own_getJ _ _)⟩
theorem own_AI.arr (F : own_AI Z h a k ty z ws) {j : Int32} (q : ¬ j < 0 ∧ j < z) : ∃ cl : Cell, Arr Z h a cl ty ∧ ¬ (j < 0 ∨ cl.slots.size ≤ j.toNatClampNeg) ∧ ∀ (h' : Heap) (x : Int32), fits ty (.int x) = true → Wr h h' a j.toNatClampNeg (.int x) → own_AI Z h' a k ty z (ws.set j.toNatClampNeg x) := by
  obtain ⟨⟨cl, A, q1, S, q3, H, G⟩, ln⟩ := F
  have hin := inb_of S q
  refine ⟨cl, A, hin, fun h' x hv W => ?_⟩
  have hl : j.toNatClampNeg < ws.length := by
    rcases Nat.lt_or_ge j.toNatClampNeg ws.length with u | u
    · exact u
    · exact absurd (Or.inr (by omega)) hin
  have := Arv.set A q1 S q3 H G hv W _ rfl (by simpa using hl)
  rw [← List.map_set] at this
  exact ⟨this, by simpa using ln⟩
theorem own_AJ.arr (F : own_AJ Z h a k ty z wl) {j : Int32} (q : ¬ j < 0 ∧ j < z) : ∃ cl : Cell, Arr Z h a cl ty ∧ ¬ (j < 0 ∨ cl.slots.size ≤ j.toNatClampNeg) ∧ ∀ (h' : Heap) (x : Int64), fits ty (.long x) = true → Wr h h' a j.toNatClampNeg (.long x) → own_AJ Z h' a k ty z (wl.set j.toNatClampNeg x) := by
  obtain ⟨⟨cl, A, q1, S, q3, H, G⟩, ln⟩ := F
  have hin := inb_of S q
  refine ⟨cl, A, hin, fun h' x hv W => ?_⟩
  have hl : j.toNatClampNeg < wl.length := by
    rcases Nat.lt_or_ge j.toNatClampNeg wl.length with u | u
    · exact u
    · exact absurd (Or.inr (by omega)) hin
  have := Arv.set A q1 S q3 H G hv W _ rfl (by simpa using hl)
  rw [← List.map_set] at this
  exact ⟨this, by simpa using ln⟩
theorem own_AI.len (F : own_AI Z h a k ty z ws) : ∃ cl : Cell, Arr Z h a cl ty ∧ cl.slots.size = z.toNatClampNeg ∧ ¬ z < 0 := by
  obtain ⟨⟨cl, A, -, S, q3, -, -⟩, -⟩ := F
  exact ⟨cl, A, S, q3⟩
theorem own_AJ.len (F : own_AJ Z h a k ty z wl) : ∃ cl : Cell, Arr Z h a cl ty ∧ cl.slots.size = z.toNatClampNeg ∧ ¬ z < 0 := by
  obtain ⟨⟨cl, A, -, S, q3, -, -⟩, -⟩ := F
  exact ⟨cl, A, S, q3⟩
end OwnA
/-- a private method selects itself, where another method of its class is known to be no interface's -/
theorem own_selp {s : State} {args : Array Value} {y z : MethodName} (hz : (Cond.selects z.cls z z).before args s = true) (hc : z.cls = y.cls) (hpriv : s.PrivateAt y) (hinst : (Cond.instanceMethod y).before args s = true) (hy : y.cls ≠ "java/lang/invoke/MethodHandle" ∧ y.cls ≠ "java/lang/invoke/VarHandle") : (Cond.selects y.cls y y).before args s = true := by
  obtain ⟨c2, r2, m2, -, -, q3, -, kP, hkP, hkPi⟩ := Cond.selects_spec hz
  have hf := findClass_of_methodNamed q3
  rw [hc] at hf
  exact selects_self_of_private hf hkP hkPi hpriv hinst hy
/-- what holds of every byte -/
theorem own_bytes {P : Int32 → Prop} (H : ∀ i : Fin 256, P (Int32.ofInt ((i.1 : Int) - 128))) (x : Int32) : P x.toInt8.toInt32 := by
  obtain ⟨-, h1, h2⟩ := c_i2b x
  have e : x.toInt8.toInt32 = Int32.ofInt (((⟨(x.toInt8.toInt32.toInt + 128).toNat, by omega⟩ : Fin 256).1 : Int) - 128) := by
    apply Int32.toInt_inj.mp
    show _ = (Int32.ofInt (((x.toInt8.toInt32.toInt + 128).toNat : Int) - 128)).toInt
    rw [Int32.toInt_ofInt_of_le (by omega) (by omega)]
    omega
  rw [e]
  exact H _


theorem own_atoms {aw : Array Value} {Z : State} (hw : ∀ d ∈ tables_1, d.before aw Z = true) : ∀ a ∈ Bundle.stringAtoms, a.before aw Z = true := fun a ha => by
  simp only [Bundle.stringAtoms, List.mem_cons, List.not_mem_nil, or_false] at ha
  rcases ha with rfl | rfl | rfl | rfl | rfl | rfl | rfl
  · exact hw _ (List.mem_of_getElem? (i := 3) rfl)
  · exact hw _ (List.mem_of_getElem? (i := 2) rfl)
  · exact hw _ (List.mem_of_getElem? (i := 19) rfl)
  · exact hw _ (List.mem_of_getElem? (i := 29) rfl)
  · exact hw _ (List.mem_of_getElem? (i := 27) rfl)
  · exact hw _ (List.mem_of_getElem? (i := 77) rfl)
  · exact hw _ (List.mem_of_getElem? (i := 78) rfl)
theorem own_nil : (∀ c ∈ "".toList, c.toNat < 256) ∧ "".toList.map (fun c => Value.int (Jvm.Lit.byteI c.toNat.toUInt16)) = [] := by simp
theorem own_EW {aw : Array Value} {Z : State} (hw : ∀ d ∈ tables_1, d.before aw Z = true) : Jvm.RoadKit.EW Z aw consts_1 := (Jvm.RoadKit.EW.cons (hw _ (List.mem_of_getElem? (i := 76) rfl)) own_nil.1 (Jvm.RoadKit.EW.cons (hw _ (List.mem_of_getElem? (i := 80) rfl)) own_nil.1 (Jvm.RoadKit.EW.cons (hw _ (List.mem_of_getElem? (i := 81) rfl)) own_nil.1 Jvm.RoadKit.EW.nil)))
theorem own_al0 {P : Addr → Prop} : ∀ x ∈ ([] : List Addr), P x := fun _ h => by cases h
theorem own_alS {P : Addr → Prop} {w : Addr} {ws : List Addr} (h : P w) (r : ∀ x ∈ ws, P x) : ∀ x ∈ w :: ws, P x := List.forall_mem_cons.mpr ⟨h, r⟩
theorem own_Sta_keep {Z : State} {h h' : Heap} {ws : List Addr} {C n d : String} {v : Value} (F : Sta Z h C n d v) (K : Keep h h' ws) (hs : ∀ x ∈ ws, ∀ cell : Cell, h[x]? = some cell → cell.vm.isStatics = false) : Sta Z h' C n d v := by
  obtain ⟨cf, i, k, f, st, cell, h1, h2, h3, h4, h5, h6, h7⟩ := F
  exact ⟨cf, i, k, f, st, cell, h1, h2, h3, h4, K.2.1 _ _ h5 (fun hm => by rw [hs _ hm _ h5] at h6; cases h6), h6, h7⟩
/-- a String under construction (its value is null) is no cell of a held constant -/
theorem own_safeNull {Z : State} {EL : List (String × Nat)} {vm : Vm} {h : Heap} {x : Addr} (hal : Z.vm.Alike vm) (E : Exa Z h x "java/lang/String") (F : Fld Z h x "java/lang/String" "value" "[B" .null) : Jvm.RoadKit.Safe Z EL vm h x := by
  rintro ⟨p, -, u, a, -, q, -, G, e⟩
  have G0 := G
  obtain ⟨cS, ⟨⟨s1, s2, s3, ⟨cv, kv, iv, s4, s4'⟩, -, s6, -, s8, -⟩, -, -⟩, -, hB, -⟩ := G
  rcases e with e | e
  · obtain ⟨kv', z4⟩ := Jvm.RoadKit.ff_back (U := Jvm.RoadKit.Wst Z vm h) hal s4
    exact Fld.ne F ⟨q.sC, cv, kv', iv, q.fSV, s1, z4, s6, s2, s3, by rw [← hal.assignable]; exact s4', s8⟩ (fun z => by cases z) e
  · subst e
    obtain ⟨cell, k, e1, e2, -⟩ := E
    cases (show h[q.sd]? = some q.SA from G0.hd).symm.trans e1
    have hB : vm.findClass "[B" = some q.SA.cls := hB
    rw [hal.findClass] at hB
    obtain ⟨k1, q1, q2⟩ := Vm.findClass_spec hB
    obtain ⟨k2, q3, q4⟩ := Vm.findClass_spec e2
    cases q1.symm.trans q3
    exact absurd (q2.symm.trans q4) (by decide)
theorem own_lt4 {x : Int32} (h : ¬ x < (0 : Int32) ∧ x < (4 : Int32)) : ¬ (3 : Int32) < x := by
  have e4 : (4 : Int32).toInt = 4 := rfl
  have e3 : (3 : Int32).toInt = 3 := rfl
  rw [Int32.lt_iff_toInt_lt] at h ⊢; rw [Int32.lt_iff_toInt_lt] at h; omega
theorem own_le3 {x : Int32} (h : ¬ x < (0 : Int32) ∧ x < (4 : Int32)) : x.toNatClampNeg ≤ 3 := by
  have e4 : (4 : Int32).toInt = 4 := rfl
  have h2 := h.2
  rw [Int32.lt_iff_toInt_lt] at h2
  simp only [Int32.toNatClampNeg]; omega
theorem own_low {a b x : Int32} (h : ¬ a < x) (hab : a < b := by decide) : ¬ b < x := by
  rw [Int32.lt_iff_toInt_lt] at *; omega
theorem d5_0 : decode jdk_52_method_21_code 0 = .ok (.iconst 0, 1) := by decide +kernel
theorem d5_1 : decode jdk_52_method_21_code 1 = .ok (.istore 5, 2) := by decide +kernel
theorem d5_3 : decode jdk_52_method_21_code 3 = .ok (.iload 5, 2) := by decide +kernel
theorem d5_5 : decode jdk_52_method_21_code 5 = .ok (.iload 4, 2) := by decide +kernel
theorem d5_7 : decode jdk_52_method_21_code 7 = .ok (.if_icmp .ge 37, 3) := by decide +kernel
theorem d5_10 : decode jdk_52_method_21_code 10 = .ok (.aload_n 0, 1) := by decide +kernel
theorem d5_11 : decode jdk_52_method_21_code 11 = .ok (.iload_n 1, 1) := by decide +kernel
theorem d5_12 : decode jdk_52_method_21_code 12 = .ok (.caload, 1) := by decide +kernel
theorem d5_13 : decode jdk_52_method_21_code 13 = .ok (.istore 6, 2) := by decide +kernel
theorem d5_15 : decode jdk_52_method_21_code 15 = .ok (.iload 6, 2) := by decide +kernel
theorem d5_17 : decode jdk_52_method_21_code 17 = .ok (.sipush 255, 3) := by decide +kernel
theorem d5_20 : decode jdk_52_method_21_code 20 = .ok (.if_icmp .le 6, 3) := by decide +kernel
theorem d5_26 : decode jdk_52_method_21_code 26 = .ok (.aload_n 2, 1) := by decide +kernel
theorem d5_27 : decode jdk_52_method_21_code 27 = .ok (.iload_n 3, 1) := by decide +kernel
theorem d5_28 : decode jdk_52_method_21_code 28 = .ok (.iload 6, 2) := by decide +kernel
theorem d5_30 : decode jdk_52_method_21_code 30 = .ok (.i2b, 1) := by decide +kernel
theorem d5_31 : decode jdk_52_method_21_code 31 = .ok (.bastore, 1) := by decide +kernel
theorem d5_32 : decode jdk_52_method_21_code 32 = .ok (.iinc 1 1, 3) := by decide +kernel
theorem d5_35 : decode jdk_52_method_21_code 35 = .ok (.iinc 3 1, 3) := by decide +kernel
theorem d5_38 : decode jdk_52_method_21_code 38 = .ok (.iinc 5 1, 3) := by decide +kernel
theorem d5_41 : decode jdk_52_method_21_code 41 = .ok (.goto (-38), 3) := by decide +kernel
theorem d5_44 : decode jdk_52_method_21_code 44 = .ok (.iload 4, 2) := by decide +kernel
theorem d5_46 : decode jdk_52_method_21_code 46 = .ok (.ireturn, 1) := by decide +kernel
theorem pn_0 : plainName "java/lang/StringUTF16" = true := by first | (simp [plainName, overriddenIn]; done) | decide +kernel
theorem ef_5 (m : MethodId) (a0 : Addr) (a2 : Addr) (p4 : Int32) : entryFrame m #[(.ref a0), (.int (0 : Int32)), (.ref a2), (.int (0 : Int32)), (.int p4)] 7 = mkF m 0 #[.val (.ref a0), .val (.int (0 : Int32)), .val (.ref a2), .val (.int (0 : Int32)), .val (.int p4), .unset, .unset] [] := by first | (simp [entryFrame, mkF, argsToLocals, Value.category]; done) | rfl
def Q5 (Z : State) (a0 : Addr) (a2 : Addr) (p4 : Int32) (kc : ClassId) (wc : List Int32) (kb : ClassId) (wb : List Int32) (h0 : Heap) (n0 : Nat) (v : Option Value) (h : Heap) (L : List Loc) : Prop := ∃ (wb2 : List Int32), v = some (.int p4) ∧ Fr n0 L ∧ Keep h0 h [a2] ∧ own_AI Z h a2 kb .byte p4 wb2
set_option maxRecDepth 65536 in
set_option maxHeartbeats 40000000 in
theorem rm5 (l : Launch) (Z : State) (aw : Array Value) (hw : ∀ d ∈ tables_1, d.before aw Z = true) (wq : List Jvm.Cond) (a0 : Addr) (a2 : Addr) (p4 : Int32) (kc : ClassId) (wc : List Int32) (kb : ClassId) (wb : List Int32) (h0 : Heap) (n0 : Nat) (Z0 : n0 ≤ h0.size) (V_a0 : own_AI Z h0 a0 kc .char p4 wc) (V_a2 : own_AI Z h0 a2 kb .byte p4 wb) (hn : ¬ p4 < (0 : Int32) ∧ p4 < (4 : Int32)) (hcs : ∀ i : Nat, ¬ (255 : Int32) < wc.getD i 0) (ne_a0_a2 : a0 ≠ a2) (g_a2 : n0 ≤ a2) :
    MetFree l (⟨"java/lang/StringUTF16", "compress", "([CI[BII)I"⟩ : MethodName) (head1 (Jvm.Cond.code (⟨"java/lang/StringUTF16", "compress", "([CI[BII)I"⟩ : MethodName) jdk_52_method_21_code 7 (some .int) :: wq) ({ frames := 0, cells := 0, slots := 0, locals := 0 } : Room)) (fun a U => a = #[(.ref a0), (.int (0 : Int32)), (.ref a2), (.int (0 : Int32)), (.int p4)] ∧ Z.Warmed39 U.vm ∧ U.heap = h0) (fun _ _ _ _ _ => True) (fun _ U o U' => ∃ v L, o = .returned v ∧ Q5 Z a0 a2 p4 kc wc kb wb h0 n0 v U'.heap L ∧ FrameEnd U o U' L ({ frames := 0, cells := 0, slots := 0, locals := 0 } : Room).cells ({ frames := 0, cells := 0, slots := 0, locals := 0 } : Room).slots) := by
  refine MetFree.of_bodySF (plainFor_of_name pn_0) hisR ?_
  intro p e s m args below meth c s₁ Bd hml0 hP hK
  obtain ⟨rfl, hZ, hh⟩ := hP
  have hx := Bd.exec
  have hby := Bd.bytes
  have hml : c.maxLocals = 7 := hml0
  have hown : s.vm.findClass "java/lang/StringUTF16" = some m.cls := findClass_of_methodNamed Bd.named
  have hnm := (name_of_methodNamed Bd.named Bd.method).1
  have X0 : Stand p l e ({ frames := 0, cells := 0, slots := 0, locals := 0 } : Room) s m #[(.ref a0), (.int (0 : Int32)), (.ref a2), (.int (0 : Int32)), (.int p4)] below meth c s₁ [] 0 0 := Stand.of_body Bd
  have e0 : s₁.heap = h0 := by rw [← hh, Bd.state]; rfl
  have N0 := Fr.nil n0
  have pre0 : own_Pre p e below (s₁.setTop (entryFrame m #[(.ref a0), (.int (0 : Int32)), (.ref a2), (.int (0 : Int32)), (.int p4)] 7)) (s₁.setTop (mkF m 0 #[.val (.ref a0), .val (.int (0 : Int32)), .val (.ref a2), .val (.int (0 : Int32)), .val (.int p4), .unset, .unset] [])) := fun t k => castTop (ef_5 m a0 a2 p4) k
  have pre1 : own_Pre p e below (s₁.setTop (entryFrame m #[(.ref a0), (.int (0 : Int32)), (.ref a2), (.int (0 : Int32)), (.int p4)] 7)) (s₁.setTop (mkF m 7 #[.val (.ref a0), .val (.int (0 : Int32)), .val (.ref a2), .val (.int (0 : Int32)), .val (.int p4), .val (.int (0 : Int32)), .unset] [(.int p4), (.int (0 : Int32))])) := fun t k => pre0 t (by
      show Steps p.tables e below (s₁.setTop (mkF m 0 #[.val (.ref a0), .val (.int (0 : Int32)), .val (.ref a2), .val (.int (0 : Int32)), .val (.int p4), .unset, .unset] [])) _
      refine XS.iconst X0.here hx rfl (hb hby d5_0) ?_
      refine XS.istore X0.here hx rfl (hb hby d5_1) rfl (l' := #[.val (.ref a0), .val (.int (0 : Int32)), .val (.ref a2), .val (.int (0 : Int32)), .val (.int p4), .val (.int (0 : Int32)), .unset]) rfl ?_
      refine XS.iload X0.here hx rfl (hb hby d5_3) rfl ?_
      refine XS.iload X0.here hx rfl (hb hby d5_5) rfl ?_
      exact k)
  by_cases hc7 : (0 : Int32) < p4
  · obtain ⟨cl2, Ar2, hin2, hat2⟩ := own_AI.at V_a0 (j := (0 : Int32)) ⟨by decide, hc7⟩
    have hc20 : ¬ ((255 : Int32) < (wc.getD 0 (0 : Int32))) := hcs _
    obtain ⟨cl3, Ar3, hin3, set3⟩ := own_AI.arr V_a2 (j := (0 : Int32)) ⟨by decide, hc7⟩
    obtain ⟨T3, h3, X3, e3, W3, st3⟩ := stB X0 hx hZ e0 Ar3 (j := (0 : Int32)) hin3 (g := (mkF m 31 #[.val (.ref a0), .val (.int (0 : Int32)), .val (.ref a2), .val (.int (0 : Int32)), .val (.int p4), .val (.int (0 : Int32)), .val (.int (wc.getD 0 (0 : Int32)))] [(.int ((wc.getD 0 (0 : Int32))).toInt8.toInt32), (.int (0 : Int32)), (.ref a2)])) rfl rfl (hb hby d5_31)
    have V3 : own_AI Z h3 a2 kb .byte p4 (wb.set 0 (nar .byte ((wc.getD 0 (0 : Int32))).toInt8.toInt32)) := set3 _ _ (fits_nar_byte _) W3
    obtain ⟨ws3, hws3⟩ : ∃ z, z = (wb.set 0 (nar .byte ((wc.getD 0 (0 : Int32))).toInt8.toInt32)) := ⟨_, rfl⟩
    rw [← hws3] at V3
    have N3 := Fr.snoc X3 N0 g_a2
    have kp4 : Keep h0 h3 [a2] := (Keep.refl h0 [a2]).wr W3 (Or.inl (List.mem_of_getElem? (i := 0) rfl))
    have pre5 : own_Pre p e below (s₁.setTop (entryFrame m #[(.ref a0), (.int (0 : Int32)), (.ref a2), (.int (0 : Int32)), (.int p4)] 7)) (T3.setTop (mkF m 7 #[.val (.ref a0), .val (.int ((0 : Int32) + (1 : Int32))), .val (.ref a2), .val (.int ((0 : Int32) + (1 : Int32))), .val (.int p4), .val (.int ((0 : Int32) + (1 : Int32))), .val (.int (wc.getD 0 (0 : Int32)))] [(.int p4), (.int ((0 : Int32) + (1 : Int32)))])) := fun t k => pre1 t (by
        show Steps p.tables e below (s₁.setTop (mkF m 7 #[.val (.ref a0), .val (.int (0 : Int32)), .val (.ref a2), .val (.int (0 : Int32)), .val (.int p4), .val (.int (0 : Int32)), .unset] [(.int p4), (.int (0 : Int32))])) _
        refine XS.icmpNo X0.here hx rfl (hb hby d5_7) rfl (tlt hc7).2.1 ?_
        refine XS.aloadN X0.here hx rfl (hb hby d5_10) rfl rfl ?_
        refine XS.iloadN X0.here hx rfl (hb hby d5_11) rfl ?_
        refine X0.caload hx (j := (0 : Int32)) (v := (.int (wc.getD 0 (0 : Int32)))) (by rw [e0]; exact Ar2.1) (State.isArrayOf_alike hZ.alike Ar2.2.1) Ar2.2.2 hin2 hat2 (g := (mkF m 12 #[.val (.ref a0), .val (.int (0 : Int32)), .val (.ref a2), .val (.int (0 : Int32)), .val (.int p4), .val (.int (0 : Int32)), .unset] [(.int (0 : Int32)), (.ref a0)])) rfl rfl (hb hby d5_12) _ ?_
        refine XS.istore X0.here hx rfl (hb hby d5_13) rfl (l' := #[.val (.ref a0), .val (.int (0 : Int32)), .val (.ref a2), .val (.int (0 : Int32)), .val (.int p4), .val (.int (0 : Int32)), .val (.int (wc.getD 0 (0 : Int32)))]) rfl ?_
        show Steps p.tables e below (s₁.setTop (mkF m 15 #[.val (.ref a0), .val (.int (0 : Int32)), .val (.ref a2), .val (.int (0 : Int32)), .val (.int p4), .val (.int (0 : Int32)), .val (.int (wc.getD 0 (0 : Int32)))] [])) _
        refine XS.iload X0.here hx rfl (hb hby d5_15) rfl ?_
        refine XS.sipush X0.here hx rfl (hb hby d5_17) ?_
        refine XS.icmpYes X0.here hx rfl (pc0 := 20) (pc' := 26) rfl (hb hby d5_20) rfl (flt hc20).2.2.2 (by decide) (by decide) ?_
        refine XS.aloadN X0.here hx rfl (hb hby d5_26) rfl rfl ?_
        refine XS.iloadN X0.here hx rfl (hb hby d5_27) rfl ?_
        show Steps p.tables e below (s₁.setTop (mkF m 28 #[.val (.ref a0), .val (.int (0 : Int32)), .val (.ref a2), .val (.int (0 : Int32)), .val (.int p4), .val (.int (0 : Int32)), .val (.int (wc.getD 0 (0 : Int32)))] [(.int (0 : Int32)), (.ref a2)])) _
        refine XS.iload X0.here hx rfl (hb hby d5_28) rfl ?_
        refine XS.i2b X0.here hx rfl (hb hby d5_30) rfl ?_
        refine st3 _ ?_
        refine XS.iinc X3.here hx rfl (hb hby d5_32) rfl (l' := #[.val (.ref a0), .val (.int ((0 : Int32) + (1 : Int32))), .val (.ref a2), .val (.int (0 : Int32)), .val (.int p4), .val (.int (0 : Int32)), .val (.int (wc.getD 0 (0 : Int32)))]) rfl ?_
        refine XS.iinc X3.here hx rfl (hb hby d5_35) rfl (l' := #[.val (.ref a0), .val (.int ((0 : Int32) + (1 : Int32))), .val (.ref a2), .val (.int ((0 : Int32) + (1 : Int32))), .val (.int p4), .val (.int (0 : Int32)), .val (.int (wc.getD 0 (0 : Int32)))]) rfl ?_
        show Steps p.tables e below (T3.setTop (mkF m 38 #[.val (.ref a0), .val (.int ((0 : Int32) + (1 : Int32))), .val (.ref a2), .val (.int ((0 : Int32) + (1 : Int32))), .val (.int p4), .val (.int (0 : Int32)), .val (.int (wc.getD 0 (0 : Int32)))] [])) _
        refine XS.iinc X3.here hx rfl (hb hby d5_38) rfl (l' := #[.val (.ref a0), .val (.int ((0 : Int32) + (1 : Int32))), .val (.ref a2), .val (.int ((0 : Int32) + (1 : Int32))), .val (.int p4), .val (.int ((0 : Int32) + (1 : Int32))), .val (.int (wc.getD 0 (0 : Int32)))]) rfl ?_
        refine XS.goto X3.here hx rfl (pc0 := 41) (pc' := 3) rfl (hb hby d5_41) (by decide) (by decide) ?_
        refine XS.iload X3.here hx rfl (hb hby d5_3) rfl ?_
        refine XS.iload X3.here hx rfl (hb hby d5_5) rfl ?_
        exact k)
    by_cases hc7_2 : ((0 : Int32) + (1 : Int32)) < p4
    · have f6 := (V_a0.other W3 ne_a0_a2)
      obtain ⟨cl7, Ar7, hin7, hat7⟩ := own_AI.at f6 (j := ((0 : Int32) + (1 : Int32))) ⟨by decide, hc7_2⟩
      have hc20_2 : ¬ ((255 : Int32) < (wc.getD (((0 : Int32) + (1 : Int32))).toNatClampNeg (0 : Int32))) := hcs _
      obtain ⟨cl8, Ar8, hin8, set8⟩ := own_AI.arr V3 (j := ((0 : Int32) + (1 : Int32))) ⟨by decide, hc7_2⟩
      obtain ⟨T8, h8, X8, e8, W8, st8⟩ := stB X3 hx hZ e3 Ar8 (j := ((0 : Int32) + (1 : Int32))) hin8 (g := (mkF m 31 #[.val (.ref a0), .val (.int ((0 : Int32) + (1 : Int32))), .val (.ref a2), .val (.int ((0 : Int32) + (1 : Int32))), .val (.int p4), .val (.int ((0 : Int32) + (1 : Int32))), .val (.int (wc.getD (((0 : Int32) + (1 : Int32))).toNatClampNeg (0 : Int32)))] [(.int ((wc.getD (((0 : Int32) + (1 : Int32))).toNatClampNeg (0 : Int32))).toInt8.toInt32), (.int ((0 : Int32) + (1 : Int32))), (.ref a2)])) rfl rfl (hb hby d5_31)
      have V8 : own_AI Z h8 a2 kb .byte p4 (ws3.set (((0 : Int32) + (1 : Int32))).toNatClampNeg (nar .byte ((wc.getD (((0 : Int32) + (1 : Int32))).toNatClampNeg (0 : Int32))).toInt8.toInt32)) := set8 _ _ (fits_nar_byte _) W8
      obtain ⟨ws8, hws8⟩ : ∃ z, z = (ws3.set (((0 : Int32) + (1 : Int32))).toNatClampNeg (nar .byte ((wc.getD (((0 : Int32) + (1 : Int32))).toNatClampNeg (0 : Int32))).toInt8.toInt32)) := ⟨_, rfl⟩
      rw [← hws8] at V8
      have N8 := Fr.snoc X8 N3 g_a2
      have kp9 : Keep h0 h8 [a2] := kp4.wr W8 (Or.inl (List.mem_of_getElem? (i := 0) rfl))
      have pre10 : own_Pre p e below (s₁.setTop (entryFrame m #[(.ref a0), (.int (0 : Int32)), (.ref a2), (.int (0 : Int32)), (.int p4)] 7)) (T8.setTop (mkF m 7 #[.val (.ref a0), .val (.int (((0 : Int32) + (1 : Int32)) + (1 : Int32))), .val (.ref a2), .val (.int (((0 : Int32) + (1 : Int32)) + (1 : Int32))), .val (.int p4), .val (.int (((0 : Int32) + (1 : Int32)) + (1 : Int32))), .val (.int (wc.getD (((0 : Int32) + (1 : Int32))).toNatClampNeg (0 : Int32)))] [(.int p4), (.int (((0 : Int32) + (1 : Int32)) + (1 : Int32)))])) := fun t k => pre5 t (by
          show Steps p.tables e below (T3.setTop (mkF m 7 #[.val (.ref a0), .val (.int ((0 : Int32) + (1 : Int32))), .val (.ref a2), .val (.int ((0 : Int32) + (1 : Int32))), .val (.int p4), .val (.int ((0 : Int32) + (1 : Int32))), .val (.int (wc.getD 0 (0 : Int32)))] [(.int p4), (.int ((0 : Int32) + (1 : Int32)))])) _
          refine XS.icmpNo X3.here hx rfl (hb hby d5_7) rfl (tlt hc7_2).2.1 ?_
          refine XS.aloadN X3.here hx rfl (hb hby d5_10) rfl rfl ?_
          refine XS.iloadN X3.here hx rfl (hb hby d5_11) rfl ?_
          refine X3.caload hx (j := ((0 : Int32) + (1 : Int32))) (v := (.int (wc.getD (((0 : Int32) + (1 : Int32))).toNatClampNeg (0 : Int32)))) (by rw [e3]; exact Ar7.1) (State.isArrayOf_alike hZ.alike Ar7.2.1) Ar7.2.2 hin7 hat7 (g := (mkF m 12 #[.val (.ref a0), .val (.int ((0 : Int32) + (1 : Int32))), .val (.ref a2), .val (.int ((0 : Int32) + (1 : Int32))), .val (.int p4), .val (.int ((0 : Int32) + (1 : Int32))), .val (.int (wc.getD 0 (0 : Int32)))] [(.int ((0 : Int32) + (1 : Int32))), (.ref a0)])) rfl rfl (hb hby d5_12) _ ?_
          refine XS.istore X3.here hx rfl (hb hby d5_13) rfl (l' := #[.val (.ref a0), .val (.int ((0 : Int32) + (1 : Int32))), .val (.ref a2), .val (.int ((0 : Int32) + (1 : Int32))), .val (.int p4), .val (.int ((0 : Int32) + (1 : Int32))), .val (.int (wc.getD (((0 : Int32) + (1 : Int32))).toNatClampNeg (0 : Int32)))]) rfl ?_
          show Steps p.tables e below (T3.setTop (mkF m 15 #[.val (.ref a0), .val (.int ((0 : Int32) + (1 : Int32))), .val (.ref a2), .val (.int ((0 : Int32) + (1 : Int32))), .val (.int p4), .val (.int ((0 : Int32) + (1 : Int32))), .val (.int (wc.getD (((0 : Int32) + (1 : Int32))).toNatClampNeg (0 : Int32)))] [])) _
          refine XS.iload X3.here hx rfl (hb hby d5_15) rfl ?_
          refine XS.sipush X3.here hx rfl (hb hby d5_17) ?_
          refine XS.icmpYes X3.here hx rfl (pc0 := 20) (pc' := 26) rfl (hb hby d5_20) rfl (flt hc20_2).2.2.2 (by decide) (by decide) ?_
          refine XS.aloadN X3.here hx rfl (hb hby d5_26) rfl rfl ?_
          refine XS.iloadN X3.here hx rfl (hb hby d5_27) rfl ?_
          show Steps p.tables e below (T3.setTop (mkF m 28 #[.val (.ref a0), .val (.int ((0 : Int32) + (1 : Int32))), .val (.ref a2), .val (.int ((0 : Int32) + (1 : Int32))), .val (.int p4), .val (.int ((0 : Int32) + (1 : Int32))), .val (.int (wc.getD (((0 : Int32) + (1 : Int32))).toNatClampNeg (0 : Int32)))] [(.int ((0 : Int32) + (1 : Int32))), (.ref a2)])) _
          refine XS.iload X3.here hx rfl (hb hby d5_28) rfl ?_
          refine XS.i2b X3.here hx rfl (hb hby d5_30) rfl ?_
          refine st8 _ ?_
          refine XS.iinc X8.here hx rfl (hb hby d5_32) rfl (l' := #[.val (.ref a0), .val (.int (((0 : Int32) + (1 : Int32)) + (1 : Int32))), .val (.ref a2), .val (.int ((0 : Int32) + (1 : Int32))), .val (.int p4), .val (.int ((0 : Int32) + (1 : Int32))), .val (.int (wc.getD (((0 : Int32) + (1 : Int32))).toNatClampNeg (0 : Int32)))]) rfl ?_
          refine XS.iinc X8.here hx rfl (hb hby d5_35) rfl (l' := #[.val (.ref a0), .val (.int (((0 : Int32) + (1 : Int32)) + (1 : Int32))), .val (.ref a2), .val (.int (((0 : Int32) + (1 : Int32)) + (1 : Int32))), .val (.int p4), .val (.int ((0 : Int32) + (1 : Int32))), .val (.int (wc.getD (((0 : Int32) + (1 : Int32))).toNatClampNeg (0 : Int32)))]) rfl ?_
          show Steps p.tables e below (T8.setTop (mkF m 38 #[.val (.ref a0), .val (.int (((0 : Int32) + (1 : Int32)) + (1 : Int32))), .val (.ref a2), .val (.int (((0 : Int32) + (1 : Int32)) + (1 : Int32))), .val (.int p4), .val (.int ((0 : Int32) + (1 : Int32))), .val (.int (wc.getD (((0 : Int32) + (1 : Int32))).toNatClampNeg (0 : Int32)))] [])) _
          refine XS.iinc X8.here hx rfl (hb hby d5_38) rfl (l' := #[.val (.ref a0), .val (.int (((0 : Int32) + (1 : Int32)) + (1 : Int32))), .val (.ref a2), .val (.int (((0 : Int32) + (1 : Int32)) + (1 : Int32))), .val (.int p4), .val (.int (((0 : Int32) + (1 : Int32)) + (1 : Int32))), .val (.int (wc.getD (((0 : Int32) + (1 : Int32))).toNatClampNeg (0 : Int32)))]) rfl ?_
          refine XS.goto X8.here hx rfl (pc0 := 41) (pc' := 3) rfl (hb hby d5_41) (by decide) (by decide) ?_
          refine XS.iload X8.here hx rfl (hb hby d5_3) rfl ?_
          refine XS.iload X8.here hx rfl (hb hby d5_5) rfl ?_
          exact k)
      by_cases hc7_3 : (((0 : Int32) + (1 : Int32)) + (1 : Int32)) < p4
      · have f11 := (f6.other W8 ne_a0_a2)
        obtain ⟨cl12, Ar12, hin12, hat12⟩ := own_AI.at f11 (j := (((0 : Int32) + (1 : Int32)) + (1 : Int32))) ⟨by decide, hc7_3⟩
        have hc20_3 : ¬ ((255 : Int32) < (wc.getD ((((0 : Int32) + (1 : Int32)) + (1 : Int32))).toNatClampNeg (0 : Int32))) := hcs _
        obtain ⟨cl13, Ar13, hin13, set13⟩ := own_AI.arr V8 (j := (((0 : Int32) + (1 : Int32)) + (1 : Int32))) ⟨by decide, hc7_3⟩
        obtain ⟨T13, h13, X13, e13, W13, st13⟩ := stB X8 hx hZ e8 Ar13 (j := (((0 : Int32) + (1 : Int32)) + (1 : Int32))) hin13 (g := (mkF m 31 #[.val (.ref a0), .val (.int (((0 : Int32) + (1 : Int32)) + (1 : Int32))), .val (.ref a2), .val (.int (((0 : Int32) + (1 : Int32)) + (1 : Int32))), .val (.int p4), .val (.int (((0 : Int32) + (1 : Int32)) + (1 : Int32))), .val (.int (wc.getD ((((0 : Int32) + (1 : Int32)) + (1 : Int32))).toNatClampNeg (0 : Int32)))] [(.int ((wc.getD ((((0 : Int32) + (1 : Int32)) + (1 : Int32))).toNatClampNeg (0 : Int32))).toInt8.toInt32), (.int (((0 : Int32) + (1 : Int32)) + (1 : Int32))), (.ref a2)])) rfl rfl (hb hby d5_31)
        have V13 : own_AI Z h13 a2 kb .byte p4 (ws8.set ((((0 : Int32) + (1 : Int32)) + (1 : Int32))).toNatClampNeg (nar .byte ((wc.getD ((((0 : Int32) + (1 : Int32)) + (1 : Int32))).toNatClampNeg (0 : Int32))).toInt8.toInt32)) := set13 _ _ (fits_nar_byte _) W13
        obtain ⟨ws13, hws13⟩ : ∃ z, z = (ws8.set ((((0 : Int32) + (1 : Int32)) + (1 : Int32))).toNatClampNeg (nar .byte ((wc.getD ((((0 : Int32) + (1 : Int32)) + (1 : Int32))).toNatClampNeg (0 : Int32))).toInt8.toInt32)) := ⟨_, rfl⟩
        rw [← hws13] at V13
        have N13 := Fr.snoc X13 N8 g_a2
        have kp14 : Keep h0 h13 [a2] := kp9.wr W13 (Or.inl (List.mem_of_getElem? (i := 0) rfl))
        have hc7_4 : ¬ (((((0 : Int32) + (1 : Int32)) + (1 : Int32)) + (1 : Int32)) < p4) := own_lt4 hn
        obtain ⟨fs, hr, hrun, hended, hW, hsame⟩ := X13.leave (v := some (.int p4)) (fun h => by rw [Bd.returns] at h; cases h)
        refine ⟨_, _, pre10 _ ?_, hrun, hended, _, _, rfl, ?_, ⟨_, rfl⟩, hW, hsame.mono (by decide) (by decide)⟩
        · show Steps p.tables e below (T8.setTop (mkF m 7 #[.val (.ref a0), .val (.int (((0 : Int32) + (1 : Int32)) + (1 : Int32))), .val (.ref a2), .val (.int (((0 : Int32) + (1 : Int32)) + (1 : Int32))), .val (.int p4), .val (.int (((0 : Int32) + (1 : Int32)) + (1 : Int32))), .val (.int (wc.getD (((0 : Int32) + (1 : Int32))).toNatClampNeg (0 : Int32)))] [(.int p4), (.int (((0 : Int32) + (1 : Int32)) + (1 : Int32)))])) _
          refine XS.icmpNo X8.here hx rfl (hb hby d5_7) rfl (tlt hc7_3).2.1 ?_
          refine XS.aloadN X8.here hx rfl (hb hby d5_10) rfl rfl ?_
          refine XS.iloadN X8.here hx rfl (hb hby d5_11) rfl ?_
          refine X8.caload hx (j := (((0 : Int32) + (1 : Int32)) + (1 : Int32))) (v := (.int (wc.getD ((((0 : Int32) + (1 : Int32)) + (1 : Int32))).toNatClampNeg (0 : Int32)))) (by rw [e8]; exact Ar12.1) (State.isArrayOf_alike hZ.alike Ar12.2.1) Ar12.2.2 hin12 hat12 (g := (mkF m 12 #[.val (.ref a0), .val (.int (((0 : Int32) + (1 : Int32)) + (1 : Int32))), .val (.ref a2), .val (.int (((0 : Int32) + (1 : Int32)) + (1 : Int32))), .val (.int p4), .val (.int (((0 : Int32) + (1 : Int32)) + (1 : Int32))), .val (.int (wc.getD (((0 : Int32) + (1 : Int32))).toNatClampNeg (0 : Int32)))] [(.int (((0 : Int32) + (1 : Int32)) + (1 : Int32))), (.ref a0)])) rfl rfl (hb hby d5_12) _ ?_
          refine XS.istore X8.here hx rfl (hb hby d5_13) rfl (l' := #[.val (.ref a0), .val (.int (((0 : Int32) + (1 : Int32)) + (1 : Int32))), .val (.ref a2), .val (.int (((0 : Int32) + (1 : Int32)) + (1 : Int32))), .val (.int p4), .val (.int (((0 : Int32) + (1 : Int32)) + (1 : Int32))), .val (.int (wc.getD ((((0 : Int32) + (1 : Int32)) + (1 : Int32))).toNatClampNeg (0 : Int32)))]) rfl ?_
          show Steps p.tables e below (T8.setTop (mkF m 15 #[.val (.ref a0), .val (.int (((0 : Int32) + (1 : Int32)) + (1 : Int32))), .val (.ref a2), .val (.int (((0 : Int32) + (1 : Int32)) + (1 : Int32))), .val (.int p4), .val (.int (((0 : Int32) + (1 : Int32)) + (1 : Int32))), .val (.int (wc.getD ((((0 : Int32) + (1 : Int32)) + (1 : Int32))).toNatClampNeg (0 : Int32)))] [])) _
          refine XS.iload X8.here hx rfl (hb hby d5_15) rfl ?_
          refine XS.sipush X8.here hx rfl (hb hby d5_17) ?_
          refine XS.icmpYes X8.here hx rfl (pc0 := 20) (pc' := 26) rfl (hb hby d5_20) rfl (flt hc20_3).2.2.2 (by decide) (by decide) ?_
          refine XS.aloadN X8.here hx rfl (hb hby d5_26) rfl rfl ?_
          refine XS.iloadN X8.here hx rfl (hb hby d5_27) rfl ?_
          show Steps p.tables e below (T8.setTop (mkF m 28 #[.val (.ref a0), .val (.int (((0 : Int32) + (1 : Int32)) + (1 : Int32))), .val (.ref a2), .val (.int (((0 : Int32) + (1 : Int32)) + (1 : Int32))), .val (.int p4), .val (.int (((0 : Int32) + (1 : Int32)) + (1 : Int32))), .val (.int (wc.getD ((((0 : Int32) + (1 : Int32)) + (1 : Int32))).toNatClampNeg (0 : Int32)))] [(.int (((0 : Int32) + (1 : Int32)) + (1 : Int32))), (.ref a2)])) _
          refine XS.iload X8.here hx rfl (hb hby d5_28) rfl ?_
          refine XS.i2b X8.here hx rfl (hb hby d5_30) rfl ?_
          refine st13 _ ?_
          refine XS.iinc X13.here hx rfl (hb hby d5_32) rfl (l' := #[.val (.ref a0), .val (.int ((((0 : Int32) + (1 : Int32)) + (1 : Int32)) + (1 : Int32))), .val (.ref a2), .val (.int (((0 : Int32) + (1 : Int32)) + (1 : Int32))), .val (.int p4), .val (.int (((0 : Int32) + (1 : Int32)) + (1 : Int32))), .val (.int (wc.getD ((((0 : Int32) + (1 : Int32)) + (1 : Int32))).toNatClampNeg (0 : Int32)))]) rfl ?_
          refine XS.iinc X13.here hx rfl (hb hby d5_35) rfl (l' := #[.val (.ref a0), .val (.int ((((0 : Int32) + (1 : Int32)) + (1 : Int32)) + (1 : Int32))), .val (.ref a2), .val (.int ((((0 : Int32) + (1 : Int32)) + (1 : Int32)) + (1 : Int32))), .val (.int p4), .val (.int (((0 : Int32) + (1 : Int32)) + (1 : Int32))), .val (.int (wc.getD ((((0 : Int32) + (1 : Int32)) + (1 : Int32))).toNatClampNeg (0 : Int32)))]) rfl ?_
          show Steps p.tables e below (T13.setTop (mkF m 38 #[.val (.ref a0), .val (.int ((((0 : Int32) + (1 : Int32)) + (1 : Int32)) + (1 : Int32))), .val (.ref a2), .val (.int ((((0 : Int32) + (1 : Int32)) + (1 : Int32)) + (1 : Int32))), .val (.int p4), .val (.int (((0 : Int32) + (1 : Int32)) + (1 : Int32))), .val (.int (wc.getD ((((0 : Int32) + (1 : Int32)) + (1 : Int32))).toNatClampNeg (0 : Int32)))] [])) _
          refine XS.iinc X13.here hx rfl (hb hby d5_38) rfl (l' := #[.val (.ref a0), .val (.int ((((0 : Int32) + (1 : Int32)) + (1 : Int32)) + (1 : Int32))), .val (.ref a2), .val (.int ((((0 : Int32) + (1 : Int32)) + (1 : Int32)) + (1 : Int32))), .val (.int p4), .val (.int ((((0 : Int32) + (1 : Int32)) + (1 : Int32)) + (1 : Int32))), .val (.int (wc.getD ((((0 : Int32) + (1 : Int32)) + (1 : Int32))).toNatClampNeg (0 : Int32)))]) rfl ?_
          refine XS.goto X13.here hx rfl (pc0 := 41) (pc' := 3) rfl (hb hby d5_41) (by decide) (by decide) ?_
          refine XS.iload X13.here hx rfl (hb hby d5_3) rfl ?_
          refine XS.iload X13.here hx rfl (hb hby d5_5) rfl ?_
          refine XS.icmpYes X13.here hx rfl (pc0 := 7) (pc' := 44) rfl (hb hby d5_7) rfl (flt hc7_4).2.1 (by decide) (by decide) ?_
          show Steps p.tables e below (T13.setTop (mkF m 44 #[.val (.ref a0), .val (.int ((((0 : Int32) + (1 : Int32)) + (1 : Int32)) + (1 : Int32))), .val (.ref a2), .val (.int ((((0 : Int32) + (1 : Int32)) + (1 : Int32)) + (1 : Int32))), .val (.int p4), .val (.int ((((0 : Int32) + (1 : Int32)) + (1 : Int32)) + (1 : Int32))), .val (.int (wc.getD ((((0 : Int32) + (1 : Int32)) + (1 : Int32))).toNatClampNeg (0 : Int32)))] [])) _
          refine XS.iload X13.here hx rfl (hb hby d5_44) rfl ?_
          show Steps p.tables e below (T13.setTop (mkF m 46 #[.val (.ref a0), .val (.int ((((0 : Int32) + (1 : Int32)) + (1 : Int32)) + (1 : Int32))), .val (.ref a2), .val (.int ((((0 : Int32) + (1 : Int32)) + (1 : Int32)) + (1 : Int32))), .val (.int p4), .val (.int ((((0 : Int32) + (1 : Int32)) + (1 : Int32)) + (1 : Int32))), .val (.int (wc.getD ((((0 : Int32) + (1 : Int32)) + (1 : Int32))).toNatClampNeg (0 : Int32)))] [(.int p4)])) _
          exact retI X13 hx Bd.returns (hb hby d5_46) hr
        · show Q5 Z a0 a2 p4 kc wc kb wb h0 n0 _ T13.heap _
          rw [e13]
          unfold Q5
          refine ⟨ws13, rfl, N13, kp14, ?_⟩
          · exact V13
      · obtain ⟨fs, hr, hrun, hended, hW, hsame⟩ := X8.leave (v := some (.int p4)) (fun h => by rw [Bd.returns] at h; cases h)
        refine ⟨_, _, pre10 _ ?_, hrun, hended, _, _, rfl, ?_, ⟨_, rfl⟩, hW, hsame.mono (by decide) (by decide)⟩
        · show Steps p.tables e below (T8.setTop (mkF m 7 #[.val (.ref a0), .val (.int (((0 : Int32) + (1 : Int32)) + (1 : Int32))), .val (.ref a2), .val (.int (((0 : Int32) + (1 : Int32)) + (1 : Int32))), .val (.int p4), .val (.int (((0 : Int32) + (1 : Int32)) + (1 : Int32))), .val (.int (wc.getD (((0 : Int32) + (1 : Int32))).toNatClampNeg (0 : Int32)))] [(.int p4), (.int (((0 : Int32) + (1 : Int32)) + (1 : Int32)))])) _
          refine XS.icmpYes X8.here hx rfl (pc0 := 7) (pc' := 44) rfl (hb hby d5_7) rfl (flt hc7_3).2.1 (by decide) (by decide) ?_
          refine XS.iload X8.here hx rfl (hb hby d5_44) rfl ?_
          show Steps p.tables e below (T8.setTop (mkF m 46 #[.val (.ref a0), .val (.int (((0 : Int32) + (1 : Int32)) + (1 : Int32))), .val (.ref a2), .val (.int (((0 : Int32) + (1 : Int32)) + (1 : Int32))), .val (.int p4), .val (.int (((0 : Int32) + (1 : Int32)) + (1 : Int32))), .val (.int (wc.getD (((0 : Int32) + (1 : Int32))).toNatClampNeg (0 : Int32)))] [(.int p4)])) _
          exact retI X8 hx Bd.returns (hb hby d5_46) hr
        · show Q5 Z a0 a2 p4 kc wc kb wb h0 n0 _ T8.heap _
          rw [e8]
          unfold Q5
          refine ⟨ws8, rfl, N8, kp9, ?_⟩
          · exact V8
    · obtain ⟨fs, hr, hrun, hended, hW, hsame⟩ := X3.leave (v := some (.int p4)) (fun h => by rw [Bd.returns] at h; cases h)
      refine ⟨_, _, pre5 _ ?_, hrun, hended, _, _, rfl, ?_, ⟨_, rfl⟩, hW, hsame.mono (by decide) (by decide)⟩
      · show Steps p.tables e below (T3.setTop (mkF m 7 #[.val (.ref a0), .val (.int ((0 : Int32) + (1 : Int32))), .val (.ref a2), .val (.int ((0 : Int32) + (1 : Int32))), .val (.int p4), .val (.int ((0 : Int32) + (1 : Int32))), .val (.int (wc.getD 0 (0 : Int32)))] [(.int p4), (.int ((0 : Int32) + (1 : Int32)))])) _
        refine XS.icmpYes X3.here hx rfl (pc0 := 7) (pc' := 44) rfl (hb hby d5_7) rfl (flt hc7_2).2.1 (by decide) (by decide) ?_
        refine XS.iload X3.here hx rfl (hb hby d5_44) rfl ?_
        show Steps p.tables e below (T3.setTop (mkF m 46 #[.val (.ref a0), .val (.int ((0 : Int32) + (1 : Int32))), .val (.ref a2), .val (.int ((0 : Int32) + (1 : Int32))), .val (.int p4), .val (.int ((0 : Int32) + (1 : Int32))), .val (.int (wc.getD 0 (0 : Int32)))] [(.int p4)])) _
        exact retI X3 hx Bd.returns (hb hby d5_46) hr
      · show Q5 Z a0 a2 p4 kc wc kb wb h0 n0 _ T3.heap _
        rw [e3]
        unfold Q5
        refine ⟨ws3, rfl, N3, kp4, ?_⟩
        · exact V3
  · obtain ⟨fs, hr, hrun, hended, hW, hsame⟩ := X0.leave (v := some (.int p4)) (fun h => by rw [Bd.returns] at h; cases h)
    refine ⟨_, _, pre1 _ ?_, hrun, hended, _, _, rfl, ?_, ⟨_, rfl⟩, hW, hsame.mono (by decide) (by decide)⟩
    · show Steps p.tables e below (s₁.setTop (mkF m 7 #[.val (.ref a0), .val (.int (0 : Int32)), .val (.ref a2), .val (.int (0 : Int32)), .val (.int p4), .val (.int (0 : Int32)), .unset] [(.int p4), (.int (0 : Int32))])) _
      refine XS.icmpYes X0.here hx rfl (pc0 := 7) (pc' := 44) rfl (hb hby d5_7) rfl (flt hc7).2.1 (by decide) (by decide) ?_
      refine XS.iload X0.here hx rfl (hb hby d5_44) rfl ?_
      show Steps p.tables e below (s₁.setTop (mkF m 46 #[.val (.ref a0), .val (.int (0 : Int32)), .val (.ref a2), .val (.int (0 : Int32)), .val (.int p4), .val (.int (0 : Int32)), .unset] [(.int p4)])) _
      exact retI X0 hx Bd.returns (hb hby d5_46) hr
    · show Q5 Z a0 a2 p4 kc wc kb wb h0 n0 _ s₁.heap _
      rw [e0]
      unfold Q5
      refine ⟨wb, rfl, N0, (Keep.refl h0 [a2]), ?_⟩
      · exact V_a2
theorem d4_0 : decode jdk_52_method_16_code 0 = .ok (.iload_n 2, 1) := by decide +kernel
theorem d4_1 : decode jdk_52_method_16_code 1 = .ok (.newarray .byte, 2) := by decide +kernel
theorem d4_3 : decode jdk_52_method_16_code 3 = .ok (.astore_n 3, 1) := by decide +kernel
theorem d4_4 : decode jdk_52_method_16_code 4 = .ok (.aload_n 0, 1) := by decide +kernel
theorem d4_5 : decode jdk_52_method_16_code 5 = .ok (.iload_n 1, 1) := by decide +kernel
theorem d4_6 : decode jdk_52_method_16_code 6 = .ok (.aload_n 3, 1) := by decide +kernel
theorem d4_7 : decode jdk_52_method_16_code 7 = .ok (.iconst 0, 1) := by decide +kernel
theorem d4_8 : decode jdk_52_method_16_code 8 = .ok (.iload_n 2, 1) := by decide +kernel
theorem d4_9 : decode jdk_52_method_16_code 9 = .ok (.invokestatic 115, 3) := by decide +kernel
theorem d4_12 : decode jdk_52_method_16_code 12 = .ok (.istore 4, 2) := by decide +kernel
theorem d4_14 : decode jdk_52_method_16_code 14 = .ok (.iload 4, 2) := by decide +kernel
theorem d4_16 : decode jdk_52_method_16_code 16 = .ok (.iload_n 2, 1) := by decide +kernel
theorem d4_17 : decode jdk_52_method_16_code 17 = .ok (.if_icmp .eq 40, 3) := by decide +kernel
theorem d4_57 : decode jdk_52_method_16_code 57 = .ok (.aload_n 3, 1) := by decide +kernel
theorem d4_58 : decode jdk_52_method_16_code 58 = .ok (.areturn, 1) := by decide +kernel
theorem pd_0 : parseMethodDescriptor "([CI[BII)I" = some ⟨[(.array .char), .int, (.array .byte), .int, .int], some .int⟩ := by decide +kernel
theorem ef_4 (m : MethodId) (a0 : Addr) (p2 : Int32) : entryFrame m #[(.ref a0), (.int (0 : Int32)), (.int p2)] 6 = mkF m 0 #[.val (.ref a0), .val (.int (0 : Int32)), .val (.int p2), .unset, .unset, .unset] [] := by first | (simp [entryFrame, mkF, argsToLocals, Value.category]; done) | rfl
def Q4 (Z : State) (a0 : Addr) (p2 : Int32) (kc : ClassId) (wc : List Int32) (h0 : Heap) (n0 : Nat) (v : Option Value) (h : Heap) (L : List Loc) : Prop := ∃ (rb : Addr) (kb : ClassId) (wb : List Int32), v = some (.ref rb) ∧ Fr n0 L ∧ Keep h0 h [] ∧ h0.size ≤ rb ∧ own_AI Z h rb kb .byte p2 wb
set_option maxRecDepth 65536 in
set_option maxHeartbeats 40000000 in
theorem rm4 (l : Launch) (Z : State) (aw : Array Value) (hw : ∀ d ∈ tables_1, d.before aw Z = true) (wq : List Jvm.Cond) (a0 : Addr) (p2 : Int32) (kc : ClassId) (wc : List Int32) (h0 : Heap) (n0 : Nat) (Z0 : n0 ≤ h0.size) (V_a0 : own_AI Z h0 a0 kc .char p2 wc) (hn : ¬ p2 < (0 : Int32) ∧ p2 < (4 : Int32)) (hcs : ∀ i : Nat, ¬ (255 : Int32) < wc.getD i 0) :
    MetFree l (⟨"java/lang/StringUTF16", "compress", "([CII)[B"⟩ : MethodName) (head1 (Jvm.Cond.code (⟨"java/lang/StringUTF16", "compress", "([CII)[B"⟩ : MethodName) jdk_52_method_16_code 6 (some (.array .byte)) :: wq) ({ frames := 1, cells := 1, slots := 3, locals := 18 } : Room)) (fun a U => a = #[(.ref a0), (.int (0 : Int32)), (.int p2)] ∧ Z.Warmed39 U.vm ∧ U.heap = h0) (fun _ _ _ _ _ => True) (fun _ U o U' => ∃ v L, o = .returned v ∧ Q4 Z a0 p2 kc wc h0 n0 v U'.heap L ∧ FrameEnd U o U' L ({ frames := 1, cells := 1, slots := 3, locals := 18 } : Room).cells ({ frames := 1, cells := 1, slots := 3, locals := 18 } : Room).slots) := by
  refine MetFree.of_bodySF (plainFor_of_name pn_0) hisR ?_
  intro p e s m args below meth c s₁ Bd hml0 hP hK
  obtain ⟨rfl, hZ, hh⟩ := hP
  have hx := Bd.exec
  have hby := Bd.bytes
  have hml : c.maxLocals = 6 := hml0
  have hown : s.vm.findClass "java/lang/StringUTF16" = some m.cls := findClass_of_methodNamed Bd.named
  have hnm := (name_of_methodNamed Bd.named Bd.method).1
  have X0 : Stand p l e ({ frames := 1, cells := 1, slots := 3, locals := 18 } : Room) s m #[(.ref a0), (.int (0 : Int32)), (.int p2)] below meth c s₁ [] 0 0 := Stand.of_body Bd
  have e0 : s₁.heap = h0 := by rw [← hh, Bd.state]; rfl
  have N0 := Fr.nil n0
  have pre0 : own_Pre p e below (s₁.setTop (entryFrame m #[(.ref a0), (.int (0 : Int32)), (.int p2)] 6)) (s₁.setTop (mkF m 0 #[.val (.ref a0), .val (.int (0 : Int32)), .val (.int p2), .unset, .unset, .unset] [])) := fun t k => castTop (ef_4 m a0 p2) k
  obtain ⟨T1, h1, k1, X1, e1, E1, A1, st1⟩ := newP X0 hx hZ (hw _ (List.mem_of_getElem? (i := 19) rfl)) e0 (g := (mkF m 1 #[.val (.ref a0), .val (.int (0 : Int32)), .val (.int p2), .unset, .unset, .unset] [(.int p2)])) rfl (hb hby d4_1) rfl hn.1 (cap := 3) (own_le3 hn) (by decide) (by decide) (by decide)
  obtain ⟨rb, gq1⟩ : ∃ z, z = (h0).size := ⟨_, rfl⟩
  rw [← gq1] at A1 st1
  have ne_a0_rb : a0 ≠ rb := Nat.ne_of_lt (Nat.lt_of_lt_of_le V_a0.lt (Nat.le_of_eq gq1.symm))
  have g_rb : n0 ≤ rb := Nat.le_trans Z0 (Nat.le_of_eq gq1.symm)
  have sz_rb : h0.size ≤ rb := Nat.le_trans (Keep.refl h0 []).1 (Nat.le_of_eq gq1.symm)
  have kp2 : Keep h0 h1 [] := (Keep.refl h0 []).ext E1
  have V_rb : own_AI Z h1 rb k1 .byte p2 (List.replicate 3 (0 : Int32)) := own_AI.new 3 A1 hn.1 (own_le3 hn) rfl
  have f4 := (V_a0.ext E1)
  have z5 : n0 ≤ (h1).size := (Nat.le_trans Z0 E1.1)
  obtain ⟨_, _, ⟨T3, L3, k3, n3⟩, -, X3, ⟨Lc3, hQ3, l3, y3, z3⟩, st3⟩ := Jvm.LawKit.callS X1 hx (y := (⟨"java/lang/StringUTF16", "compress", "([CI[BII)I"⟩ : MethodName)) hown (mvT hZ (hw _ (List.mem_of_getElem? (i := 20) rfl))) (mvT hZ (hw _ (List.mem_of_getElem? (i := 21) rfl))) (mvT hZ (hw _ (List.mem_of_getElem? (i := 17) rfl))) (mvT hZ (hw _ (List.mem_of_getElem? (i := 22) rfl))) (by decide) (backOf (W := 0) (rm5 l Z aw hw [] (a0) (rb) (p2) (kc) (wc) (k1) ((List.replicate 3 (0 : Int32))) (h1) n0 z5 f4 V_rb hn hcs ne_a0_rb g_rb) hZ (hw _ (List.mem_of_getElem? (i := 22) rfl)) (hw _ (List.mem_of_getElem? (i := 17) rfl)) (by decide) (by decide)) (g := (mkF m 9 #[.val (.ref a0), .val (.int (0 : Int32)), .val (.int p2), .val (.ref rb), .unset, .unset] [(.int p2), (.int (0 : Int32)), (.ref rb), (.int (0 : Int32)), (.ref a0)])) rfl (by rw [hml]; rfl) (argsL := [(.ref a0), (.int (0 : Int32)), (.ref rb), (.int (0 : Int32)), (.int p2)]) (rest := []) (lenOf pd_0 rfl) rfl (by show 2 * 0 + _ ≤ _; exact Nat.le_of_eq rfl) (hb hby d4_9) (fun _ _ => ⟨rfl, e1, (by decide : 1 + 0 ≤ _), (by decide : 3 + 0 ≤ _)⟩)
  dsimp only [Pt.U, Pt.locs, Pt.cells, Pt.slots] at X3 l3 y3 z3 st3 hQ3
  subst l3 y3 z3
  obtain ⟨wb23, rfl, Nq3, K3, po3_0⟩ := hQ3
  have N3 := Fr.app N0 Nq3
  have kp6 : Keep h0 T3.heap [] := kp2.trans K3 (allS (Or.inr sz_rb) all0)
  have hc17 : (p2 = p2) := rfl
  obtain ⟨fs, hr, hrun, hended, hW, hsame⟩ := X3.leave (v := some (.ref rb)) (fun h => by rw [Bd.returns] at h; cases h)
  refine ⟨_, _, pre0 _ ?_, hrun, hended, _, _, rfl, ?_, ⟨_, rfl⟩, hW, hsame.mono (by decide) (by decide)⟩
  · show Steps p.tables e below (s₁.setTop (mkF m 0 #[.val (.ref a0), .val (.int (0 : Int32)), .val (.int p2), .unset, .unset, .unset] [])) _
    refine XS.iloadN X0.here hx rfl (hb hby d4_0) rfl ?_
    refine st1 _ ?_
    refine XS.astoreN X1.here hx rfl (hb hby d4_3) rfl rfl (l' := #[.val (.ref a0), .val (.int (0 : Int32)), .val (.int p2), .val (.ref rb), .unset, .unset]) rfl ?_
    refine XS.aloadN X1.here hx rfl (hb hby d4_4) rfl rfl ?_
    refine XS.iloadN X1.here hx rfl (hb hby d4_5) rfl ?_
    show Steps p.tables e below (T1.setTop (mkF m 6 #[.val (.ref a0), .val (.int (0 : Int32)), .val (.int p2), .val (.ref rb), .unset, .unset] [(.int (0 : Int32)), (.ref a0)])) _
    refine XS.aloadN X1.here hx rfl (hb hby d4_6) rfl rfl ?_
    refine XS.iconst X1.here hx rfl (hb hby d4_7) ?_
    refine XS.iloadN X1.here hx rfl (hb hby d4_8) rfl ?_
    refine st3 _ ?_
    refine XS.istore X3.here hx rfl (hb hby d4_12) rfl (l' := #[.val (.ref a0), .val (.int (0 : Int32)), .val (.int p2), .val (.ref rb), .val (.int p2), .unset]) rfl ?_
    show Steps p.tables e below (T3.setTop (mkF m 14 #[.val (.ref a0), .val (.int (0 : Int32)), .val (.int p2), .val (.ref rb), .val (.int p2), .unset] [])) _
    refine XS.iload X3.here hx rfl (hb hby d4_14) rfl ?_
    refine XS.iloadN X3.here hx rfl (hb hby d4_16) rfl ?_
    refine XS.icmpYes X3.here hx rfl (pc0 := 17) (pc' := 57) rfl (hb hby d4_17) rfl (teq hc17).1 (by decide) (by decide) ?_
    refine XS.aloadN X3.here hx rfl (hb hby d4_57) rfl rfl ?_
    show Steps p.tables e below (T3.setTop (mkF m 58 #[.val (.ref a0), .val (.int (0 : Int32)), .val (.int p2), .val (.ref rb), .val (.int p2), .unset] [(.ref rb)])) _
    exact retR X3 hx (v := (.ref rb)) rfl Bd.returns rfl (hb hby d4_58) hr
  · show Q4 Z a0 p2 kc wc h0 n0 _ T3.heap _
    unfold Q4
    refine ⟨rb, k1, wb23, rfl, N3, kp6, sz_rb, ?_⟩
    · exact po3_0
theorem d6_0 : decode jdk_52_method_15_code 0 = .ok (.iload_n 1, 1) := by decide +kernel
theorem d6_1 : decode jdk_52_method_15_code 1 = .ok (.aload_n 0, 1) := by decide +kernel
theorem d6_2 : decode jdk_52_method_15_code 2 = .ok (.arraylength, 1) := by decide +kernel
theorem d6_3 : decode jdk_52_method_15_code 3 = .ok (.isub, 1) := by decide +kernel
theorem d6_4 : decode jdk_52_method_15_code 4 = .ok (.bipush 31, 2) := by decide +kernel
theorem d6_6 : decode jdk_52_method_15_code 6 = .ok (.iushr, 1) := by decide +kernel
theorem d6_7 : decode jdk_52_method_15_code 7 = .ok (.i2b, 1) := by decide +kernel
theorem d6_8 : decode jdk_52_method_15_code 8 = .ok (.ireturn, 1) := by decide +kernel
theorem ef_6 (m : MethodId) (a0 : Addr) (p1 : Int32) : entryFrame m #[(.ref a0), (.int p1)] 2 = mkF m 0 #[.val (.ref a0), .val (.int p1)] [] := by first | (simp [entryFrame, mkF, argsToLocals, Value.category]; done) | rfl
def own_f6 (p1 : Int32) (zb : Int32) : Int32 := (nar .byte ((((p1 - zb)).toUInt32 >>> ((31 : Int32) &&& 31).toUInt32).toInt32).toInt8.toInt32)
def Q6 (Z : State) (a0 : Addr) (p1 : Int32) (kb : ClassId) (zb : Int32) (wb : List Int32) (h0 : Heap) (n0 : Nat) (v : Option Value) (h : Heap) (L : List Loc) : Prop := v = some (.int (own_f6 p1 zb)) ∧ Fr n0 L ∧ h = h0
set_option maxRecDepth 65536 in
set_option maxHeartbeats 40000000 in
theorem rm6 (l : Launch) (Z : State) (aw : Array Value) (hw : ∀ d ∈ tables_1, d.before aw Z = true) (wq : List Jvm.Cond) (a0 : Addr) (p1 : Int32) (kb : ClassId) (zb : Int32) (wb : List Int32) (h0 : Heap) (n0 : Nat) (Z0 : n0 ≤ h0.size) (V_a0 : own_AI Z h0 a0 kb .byte zb wb) :
    MetFree l (⟨"java/lang/StringUTF16", "coderFromArrayLen", "([BI)B"⟩ : MethodName) (head1 (Jvm.Cond.code (⟨"java/lang/StringUTF16", "coderFromArrayLen", "([BI)B"⟩ : MethodName) jdk_52_method_15_code 2 (some .byte) :: wq) ({ frames := 0, cells := 0, slots := 0, locals := 0 } : Room)) (fun a U => a = #[(.ref a0), (.int p1)] ∧ Z.Warmed39 U.vm ∧ U.heap = h0) (fun _ _ _ _ _ => True) (fun _ U o U' => ∃ v L, o = .returned v ∧ Q6 Z a0 p1 kb zb wb h0 n0 v U'.heap L ∧ FrameEnd U o U' L ({ frames := 0, cells := 0, slots := 0, locals := 0 } : Room).cells ({ frames := 0, cells := 0, slots := 0, locals := 0 } : Room).slots) := by
  refine MetFree.of_bodySF (plainFor_of_name pn_0) hisR ?_
  intro p e s m args below meth c s₁ Bd hml0 hP hK
  obtain ⟨rfl, hZ, hh⟩ := hP
  have hx := Bd.exec
  have hby := Bd.bytes
  have hml : c.maxLocals = 2 := hml0
  have hown : s.vm.findClass "java/lang/StringUTF16" = some m.cls := findClass_of_methodNamed Bd.named
  have hnm := (name_of_methodNamed Bd.named Bd.method).1
  have X0 : Stand p l e ({ frames := 0, cells := 0, slots := 0, locals := 0 } : Room) s m #[(.ref a0), (.int p1)] below meth c s₁ [] 0 0 := Stand.of_body Bd
  have e0 : s₁.heap = h0 := by rw [← hh, Bd.state]; rfl
  have N0 := Fr.nil n0
  have pre0 : own_Pre p e below (s₁.setTop (entryFrame m #[(.ref a0), (.int p1)] 2)) (s₁.setTop (mkF m 0 #[.val (.ref a0), .val (.int p1)] [])) := fun t k => castTop (ef_6 m a0 p1) k
  obtain ⟨cl1, Ar1, S1, M1⟩ := V_a0.len
  obtain ⟨fs, hr, hrun, hended, hW, hsame⟩ := X0.leave (v := some (.int (nar .byte ((((p1 - zb)).toUInt32 >>> ((31 : Int32) &&& 31).toUInt32).toInt32).toInt8.toInt32))) (fun h => by rw [Bd.returns] at h; cases h)
  refine ⟨_, _, pre0 _ ?_, hrun, hended, _, _, rfl, ?_, ⟨_, rfl⟩, hW, hsame.mono (by decide) (by decide)⟩
  · show Steps p.tables e below (s₁.setTop (mkF m 0 #[.val (.ref a0), .val (.int p1)] [])) _
    refine XS.iloadN X0.here hx rfl (hb hby d6_0) rfl ?_
    refine XS.aloadN X0.here hx rfl (hb hby d6_1) rfl rfl ?_
    refine X0.arraylength hx (by rw [e0]; exact Ar1.1) (State.isArrayOf_alike hZ.alike Ar1.2.1) (g := (mkF m 2 #[.val (.ref a0), .val (.int p1)] [(.ref a0), (.int p1)])) rfl rfl (hb hby d6_2) _ ?_
    rw [len_of S1 M1]
    refine XS.isub X0.here hx rfl (hb hby d6_3) rfl ?_
    refine XS.bipush X0.here hx rfl (hb hby d6_4) ?_
    show Steps p.tables e below (s₁.setTop (mkF m 6 #[.val (.ref a0), .val (.int p1)] [(.int (31 : Int32)), (.int (p1 - zb))])) _
    refine XS.iushr X0.here hx rfl (hb hby d6_6) rfl ?_
    refine XS.i2b X0.here hx rfl (hb hby d6_7) rfl ?_
    show Steps p.tables e below (s₁.setTop (mkF m 8 #[.val (.ref a0), .val (.int p1)] [(.int ((((p1 - zb)).toUInt32 >>> ((31 : Int32) &&& 31).toUInt32).toInt32).toInt8.toInt32)])) _
    exact retN X0 hx (t := .byte) Bd.returns (by simp) (hb hby d6_8) hr
  · show Q6 Z a0 p1 kb zb wb h0 n0 _ s₁.heap _
    rw [e0]
    unfold Q6
    refine ⟨?_, N0, rfl⟩
    · simp only [own_f6]
theorem d2_0 : decode jdk_42_method_149_code 0 = .ok (.aload_n 0, 1) := by decide +kernel
theorem d2_1 : decode jdk_42_method_149_code 1 = .ok (.invokespecial 1, 3) := by decide +kernel
theorem d2_4 : decode jdk_42_method_149_code 4 = .ok (.iload_n 3, 1) := by decide +kernel
theorem d2_5 : decode jdk_42_method_149_code 5 = .ok (.ifCond .ne 22, 3) := by decide +kernel
theorem d2_8 : decode jdk_42_method_149_code 8 = .ok (.aload_n 0, 1) := by decide +kernel
theorem d2_9 : decode jdk_42_method_149_code 9 = .ok (.ldc 7, 2) := by decide +kernel
theorem d2_11 : decode jdk_42_method_149_code 11 = .ok (.getfield 9, 3) := by decide +kernel
theorem d2_14 : decode jdk_42_method_149_code 14 = .ok (.putfield 9, 3) := by decide +kernel
theorem d2_17 : decode jdk_42_method_149_code 17 = .ok (.aload_n 0, 1) := by decide +kernel
theorem d2_18 : decode jdk_42_method_149_code 18 = .ok (.ldc 7, 2) := by decide +kernel
theorem d2_20 : decode jdk_42_method_149_code 20 = .ok (.getfield 15, 3) := by decide +kernel
theorem d2_23 : decode jdk_42_method_149_code 23 = .ok (.putfield 15, 3) := by decide +kernel
theorem d2_26 : decode jdk_42_method_149_code 26 = .ok (.return_, 1) := by decide +kernel
theorem d2_27 : decode jdk_42_method_149_code 27 = .ok (.getstatic 38, 3) := by decide +kernel
theorem d2_30 : decode jdk_42_method_149_code 30 = .ok (.ifCond .eq 28, 3) := by decide +kernel
theorem d2_33 : decode jdk_42_method_149_code 33 = .ok (.aload_n 1, 1) := by decide +kernel
theorem d2_34 : decode jdk_42_method_149_code 34 = .ok (.iload_n 2, 1) := by decide +kernel
theorem d2_35 : decode jdk_42_method_149_code 35 = .ok (.iload_n 3, 1) := by decide +kernel
theorem d2_36 : decode jdk_42_method_149_code 36 = .ok (.invokestatic 177, 3) := by decide +kernel
theorem d2_39 : decode jdk_42_method_149_code 39 = .ok (.astore 5, 2) := by decide +kernel
theorem d2_41 : decode jdk_42_method_149_code 41 = .ok (.aload_n 0, 1) := by decide +kernel
theorem d2_42 : decode jdk_42_method_149_code 42 = .ok (.aload 5, 2) := by decide +kernel
theorem d2_44 : decode jdk_42_method_149_code 44 = .ok (.iload_n 3, 1) := by decide +kernel
theorem d2_45 : decode jdk_42_method_149_code 45 = .ok (.invokestatic 47, 3) := by decide +kernel
theorem d2_48 : decode jdk_42_method_149_code 48 = .ok (.putfield 15, 3) := by decide +kernel
theorem d2_51 : decode jdk_42_method_149_code 51 = .ok (.aload_n 0, 1) := by decide +kernel
theorem d2_52 : decode jdk_42_method_149_code 52 = .ok (.aload 5, 2) := by decide +kernel
theorem d2_54 : decode jdk_42_method_149_code 54 = .ok (.putfield 9, 3) := by decide +kernel
theorem d2_57 : decode jdk_42_method_149_code 57 = .ok (.return_, 1) := by decide +kernel
theorem pd_1 : parseMethodDescriptor "([CII)[B" = some ⟨[(.array .char), .int, .int], some (.array .byte)⟩ := by decide +kernel
theorem pd_2 : parseMethodDescriptor "([BI)B" = some ⟨[(.array .byte), .int], some .byte⟩ := by decide +kernel
theorem pn_1 : plainName "java/lang/String" = true := by first | (simp [plainName, overriddenIn]; done) | decide +kernel
theorem ef_2 (m : MethodId) (a0 : Addr) (a1 : Addr) (p3 : Int32) : entryFrame m #[(.ref a0), (.ref a1), (.int (0 : Int32)), (.int p3), .null] 6 = mkF m 0 #[.val (.ref a0), .val (.ref a1), .val (.int (0 : Int32)), .val (.int p3), .val .null, .unset] [] := by first | (simp [entryFrame, mkF, argsToLocals, Value.category]; done) | rfl
def Q2 (Z : State) (a0 : Addr) (a1 : Addr) (p3 : Int32) (kc : ClassId) (wc : List Int32) (cv : Int32) (h0 : Heap) (n0 : Nat) (v : Option Value) (h : Heap) (L : List Loc) : Prop := ∃ (bv : Addr) (kb : ClassId) (wb : List Int32), v = none ∧ Fr n0 L ∧ Keep h0 h [a0] ∧ Exa Z h a0 "java/lang/String" ∧ Fld Z h a0 "java/lang/String" "value" "[B" (.ref bv) ∧ own_AI Z h bv kb .byte p3 wb
set_option maxRecDepth 65536 in
set_option maxHeartbeats 40000000 in
theorem rm2 (l : Launch) (Z : State) (aw : Array Value) (hw : ∀ d ∈ tables_1, d.before aw Z = true) (wq : List Jvm.Cond) (a0 : Addr) (a1 : Addr) (p3 : Int32) (kc : ClassId) (wc : List Int32) (cv : Int32) (h0 : Heap) (n0 : Nat) (Z0 : n0 ≤ h0.size) (E_a0 : Exa Z h0 a0 "java/lang/String") (F_a0_value : Fld Z h0 a0 "java/lang/String" "value" "[B" .null) (F_a0_coder : Fld Z h0 a0 "java/lang/String" "coder" "B" (.int (0 : Int32))) (V_a1 : own_AI Z h0 a1 kc .char p3 wc) (S_COMPACT_STRINGS : Sta Z h0 "java/lang/String" "COMPACT_STRINGS" "Z" (.int cv)) (hcv : ¬ cv = (0 : Int32)) (hn : ¬ p3 < (0 : Int32) ∧ p3 < (4 : Int32)) (hcs : ∀ i : Nat, ¬ (255 : Int32) < wc.getD i 0) (ne_a0_a1 : a0 ≠ a1) (g_a0 : n0 ≤ a0) :
    MetFree l (⟨"java/lang/String", "<init>", "([CIILjava/lang/Void;)V"⟩ : MethodName) (head1 (Jvm.Cond.code (⟨"java/lang/String", "<init>", "([CIILjava/lang/Void;)V"⟩ : MethodName) jdk_42_method_149_code 6 none :: wq) ({ frames := 2, cells := 4, slots := 8, locals := 35 } : Room)) (fun a U => a = #[(.ref a0), (.ref a1), (.int (0 : Int32)), (.int p3), .null] ∧ Z.Warmed39 U.vm ∧ U.heap = h0 ∧ Jvm.RoadKit.CHv Z consts_1 U.vm h0) (fun _ _ _ _ _ => True) (fun _ U o U' => ∃ v L, o = .returned v ∧ Q2 Z a0 a1 p3 kc wc cv h0 n0 v U'.heap L ∧ Jvm.RoadKit.CHr Z consts_1 U.vm U.heap U'.vm U'.heap ∧ ReturnedEndW U o U' L ({ frames := 2, cells := 4, slots := 8, locals := 35 } : Room).cells ({ frames := 2, cells := 4, slots := 8, locals := 35 } : Room).slots) := by
  refine MetFree.of_bodySF (plainFor_of_name pn_1) hisR ?_
  intro p e s m args below meth c s₁ Bd hml0 hP hK
  obtain ⟨rfl, hZ, hh, hC0⟩ := hP
  have hx := Bd.exec
  have hby := Bd.bytes
  have hml : c.maxLocals = 6 := hml0
  have hown : s.vm.findClass "java/lang/String" = some m.cls := findClass_of_methodNamed Bd.named
  have hnm := (name_of_methodNamed Bd.named Bd.method).1
  have X0 : Stand p l e ({ frames := 2, cells := 4, slots := 8, locals := 35 } : Room) (s.setVm s.vm) m #[(.ref a0), (.ref a1), (.int (0 : Int32)), (.int p3), .null] below meth c s₁ [] 0 0 := Stand.of_body Bd
  have e0 : s₁.heap = h0 := by rw [← hh, Bd.state]; rfl
  have N0 := Fr.nil n0
  have pre0 : own_Pre p e below (s₁.setTop (entryFrame m #[(.ref a0), (.ref a1), (.int (0 : Int32)), (.int p3), .null] 6)) (s₁.setTop (mkF m 0 #[.val (.ref a0), .val (.ref a1), .val (.int (0 : Int32)), .val (.int p3), .val .null, .unset] [])) := fun t k => castTop (ef_2 m a0 a1 p3) k
  have cr0 := Jvm.RoadKit.CHr.refl hC0
  have hS0 := State.WarmedH.since (State.WarmedH.refl s) h0.size
  have hk0 := Nat.le_refl h0.size
  have sfa0 := own_safeNull (EL := consts_1) hZ.alike E_a0 F_a0_value
  obtain ⟨T1, X1, e1, st1⟩ := initO X0 hx hZ hown (hw _ (List.mem_of_getElem? (i := 11) rfl)) (hw _ (List.mem_of_getElem? (i := 12) rfl)) (hw _ (List.mem_of_getElem? (i := 13) rfl)) e0 (g := (mkF m 1 #[.val (.ref a0), .val (.ref a1), .val (.int (0 : Int32)), .val (.int p3), .val .null, .unset] [(.ref a0)])) rfl (by rw [hml]; rfl) rfl (hb hby d2_1) (by decide) (W := 0) (by show 2 * 0 + _ ≤ _; exact Nat.le_of_eq rfl) (by decide)
  have pre2 : own_Pre p e below (s₁.setTop (entryFrame m #[(.ref a0), (.ref a1), (.int (0 : Int32)), (.int p3), .null] 6)) (T1.setTop (mkF m 5 #[.val (.ref a0), .val (.ref a1), .val (.int (0 : Int32)), .val (.int p3), .val .null, .unset] [(.int p3)])) := fun t k => pre0 t (by
      show Steps p.tables e below (s₁.setTop (mkF m 0 #[.val (.ref a0), .val (.ref a1), .val (.int (0 : Int32)), .val (.int p3), .val .null, .unset] [])) _
      refine XS.aloadN X0.here hx rfl (hb hby d2_0) rfl rfl ?_
      refine st1 _ ?_
      refine XS.iloadN X1.here hx rfl (hb hby d2_4) rfl ?_
      exact k)
  by_cases hc5 : p3 = (0 : Int32)
  · obtain ⟨a3, T3, h3, k3, b3, c3, X3, e3, E3, hS3, hk3, hZ, hown, Ea3, Fc3, Fv3, Ab3, -, -, cs3, -, sn3, st3⟩ := Jvm.RoadKit.ldcCH X1 hx hZ hown (hw _ (List.mem_of_getElem? (i := 81) rfl)) (own_atoms hw) e1 hS0 hk0 (own_EW hw) (List.mem_of_getElem? (i := 2) rfl) cr0.1 (vs := []) (z := 0) own_nil (by decide) (by decide) (g := (mkF m 9 #[.val (.ref a0), .val (.ref a1), .val (.int (0 : Int32)), .val (.int p3), .val .null, .unset] [(.ref a0)])) rfl (hb hby d2_9) (n := 0) (by decide) (by decide) (by decide) (by decide)
    have V3 : own_AI Z h3 b3 c3 .byte (0 : Int32) [] := ⟨Ab3, by decide⟩
    have cr3 := cr0.trans cs3
    have sf3_a0 := cs3.safe E_a0.lt sfa0
    have kp4 : Keep h0 h3 [a0] := (Keep.refl h0 [a0]).ext E3
    have nn3_a0 := sn3 a0 sf3_a0
    have f5 := (V_a1.ext E3)
    obtain ⟨cl6, Ar6, -, -⟩ := f5.len
    have nn3_a1 := sn3 a1 (Jvm.RoadKit.Safe.arr hZ.alike Ar6 (by decide))
    obtain ⟨T7, X7, e7, st7⟩ := getF X3 hx hZ hown (host := "") (Or.inl (hw _ (List.mem_of_getElem? (i := 28) rfl))) Via.refl e3 Fv3 (g := (mkF m 11 #[.val (.ref a0), .val (.ref a1), .val (.int (0 : Int32)), .val (.int p3), .val .null, .unset] [(.ref a3), (.ref a0)])) rfl rfl (hb hby d2_11)
    have f8 := (E_a0.ext E3)
    have f9 := (F_a0_value.ext E3)
    obtain ⟨T10, h10, X10, e10, W10, st10⟩ := putF X7 hx hZ hown (host := "") (Or.inl (hw _ (List.mem_of_getElem? (i := 28) rfl))) Via.refl e7 f9 f8 (Or.inr ⟨(hw _ (List.mem_of_getElem? (i := 29) rfl)), rfl, hnm⟩) (hw _ (List.mem_of_getElem? (i := 2) rfl)) (ty := (.array .byte)) (by decide) rfl rfl (g := (mkF m 14 #[.val (.ref a0), .val (.ref a1), .val (.int (0 : Int32)), .val (.int p3), .val .null, .unset] [(.ref b3), (.ref a0)])) rfl rfl (hb hby d2_14)
    have Fw10 := f9.same W10
    have N10 := Fr.snoc X10 N0 g_a0
    have cs11 := Jvm.RoadKit.CHr.wr W10 sf3_a0 cr3.1
    have cr11 := cr3.trans cs11
    have sf11_a0 := cs11.safe f8.lt sf3_a0
    have kp12 : Keep h0 h10 [a0] := kp4.wr W10 (Or.inl (List.mem_of_getElem? (i := 0) rfl))
    have z14 : n0 ≤ (h10).size := (Nat.le_trans (Nat.le_trans Z0 E3.1) (Keep.of_wr W10).1)
    have hk15 : _ ≤ (h10).size := (Nat.le_trans hk3 (Keep.of_wr W10).1)
    have f16 := (f8.wr W10)
    obtain ⟨a13, T13, h13, k13, b13, c13, X13, e13, E13, hS13, hk13, hZ, hown, Ea13, Fc13, Fv13, Ab13, -, -, cs13, -, sn13, st13⟩ := Jvm.RoadKit.ldcCH X10 hx hZ hown (hw _ (List.mem_of_getElem? (i := 81) rfl)) (own_atoms hw) e10 hS3 hk15 (own_EW hw) (List.mem_of_getElem? (i := 2) rfl) cr11.1 (vs := []) (z := 0) own_nil (by decide) (by decide) (g := (mkF m 18 #[.val (.ref a0), .val (.ref a1), .val (.int (0 : Int32)), .val (.int p3), .val .null, .unset] [(.ref a0)])) rfl (hb hby d2_18) (n := 0) (by decide) (by decide) (by decide) (by decide)
    have V13 : own_AI Z h13 b13 c13 .byte (0 : Int32) [] := ⟨Ab13, by decide⟩
    have cr13 := cr11.trans cs13
    have sf13_a0 := cs13.safe f16.lt sf11_a0
    have kp17 : Keep h0 h13 [a0] := kp12.ext E13
    have nn13_a0 := sn13 a0 sf13_a0
    have f18 := ((f5.other W10 (Ne.symm ne_a0_a1)).ext E13)
    obtain ⟨cl19, Ar19, -, -⟩ := f18.len
    have nn13_a1 := sn13 a1 (Jvm.RoadKit.Safe.arr hZ.alike Ar19 (by decide))
    obtain ⟨T20, X20, e20, st20⟩ := getF X13 hx hZ hown (host := "") (Or.inl (hw _ (List.mem_of_getElem? (i := 26) rfl))) Via.refl e13 Fc13 (g := (mkF m 20 #[.val (.ref a0), .val (.ref a1), .val (.int (0 : Int32)), .val (.int p3), .val .null, .unset] [(.ref a13), (.ref a0)])) rfl rfl (hb hby d2_20)
    have f21 := (f16.ext E13)
    have f22 := (((F_a0_coder.ext E3).other W10 (Or.inr (slot_ne (Or.inr (hw _ (List.mem_of_getElem? (i := 27) rfl))) (Or.inr (hw _ (List.mem_of_getElem? (i := 29) rfl))) (by decide) (t := .byte) (t' := (.array .byte)) (by decide) (by decide)))).ext E13)
    obtain ⟨T23, h23, X23, e23, W23, st23⟩ := putFN X20 hx hZ hown (hw _ (List.mem_of_getElem? (i := 26) rfl)) Via.refl e20 f22 f21 (Or.inr ⟨(hw _ (List.mem_of_getElem? (i := 27) rfl)), rfl, hnm⟩) (hw _ (List.mem_of_getElem? (i := 2) rfl)) (ty := .byte) (v' := (.int (0 : Int32))) (by decide) rfl rfl (g := (mkF m 23 #[.val (.ref a0), .val (.ref a1), .val (.int (0 : Int32)), .val (.int p3), .val .null, .unset] [(.int (0 : Int32)), (.ref a0)])) rfl rfl (hb hby d2_23)
    have Fw23 := f22.same W23
    have N23 := Fr.snoc X23 N10 g_a0
    have cs24 := Jvm.RoadKit.CHr.wr W23 sf13_a0 cr13.1
    have cr24 := cr13.trans cs24
    have sf24_a0 := cs24.safe f21.lt sf13_a0
    have kp25 : Keep h0 h23 [a0] := kp17.wr W23 (Or.inl (List.mem_of_getElem? (i := 0) rfl))
    have hk26 : _ ≤ (h23).size := (Nat.le_trans hk13 (Keep.of_wr W23).1)
    obtain ⟨fs, hr, hrun, hended, hREW⟩ := X23.leaveW hS13 (by rw [e23]; exact hk26) (v := none) (fun _ => rfl)
    refine ⟨_, _, pre2 _ ?_, hrun, hended, _, _, rfl, ?_, by rw [hh, show (State.setFrames T23 fs).heap = h23 from e23]; have hq := cr24.trans (Jvm.RoadKit.CHv.at X23 hZ (own_EW hw) cr24.1); exact hq, hREW.1, hREW.2.1, hREW.2.2.1, hREW.2.2.2.mono (by decide) (by decide)⟩
    · show Steps p.tables e below (T1.setTop (mkF m 5 #[.val (.ref a0), .val (.ref a1), .val (.int (0 : Int32)), .val (.int p3), .val .null, .unset] [(.int p3)])) _
      refine XS.ifNo X1.here hx rfl (hb hby d2_5) rfl ((if0 _ _).trans (teq hc5).2) ?_
      refine XS.aloadN X1.here hx rfl (hb hby d2_8) rfl rfl ?_
      refine st3 _ ?_
      refine st7 _ ?_
      refine st10 _ ?_
      show Steps p.tables e below (T10.setTop (mkF m 17 #[.val (.ref a0), .val (.ref a1), .val (.int (0 : Int32)), .val (.int p3), .val .null, .unset] [])) _
      refine XS.aloadN X10.here hx rfl (hb hby d2_17) rfl rfl ?_
      refine st13 _ ?_
      refine st20 _ ?_
      refine st23 _ ?_
      show Steps p.tables e below (T23.setTop (mkF m 26 #[.val (.ref a0), .val (.ref a1), .val (.int (0 : Int32)), .val (.int p3), .val .null, .unset] [])) _
      exact X23.returnOut hx Bd.returns (hb hby d2_26) hr
    · show Q2 Z a0 a1 p3 kc wc cv h0 n0 _ T23.heap _
      rw [e23]
      unfold Q2
      have f27 := (f21.wr W23)
      have f28 := ((Fw10.ext E13).other W23 (Or.inr (slot_ne (Or.inr (hw _ (List.mem_of_getElem? (i := 29) rfl))) (Or.inr (hw _ (List.mem_of_getElem? (i := 27) rfl))) (by decide) (t := (.array .byte)) (t' := .byte) (by decide) (by decide))))
      have f29 := (((V3.other W10 (Ne.symm nn3_a0.2)).ext E13).other W23 (Ne.symm nn3_a0.2))
      refine ⟨b3, c3, [], rfl, N23, kp25, f27, ?_, ?_⟩
      · exact f28
      · rw [hc5]; exact f29
  · obtain ⟨T30, X30, e30, st30⟩ := getS2 X1 hx hZ hown (host := "") (Or.inl (hw _ (List.mem_of_getElem? (i := 14) rfl))) Via.refl e1 S_COMPACT_STRINGS (g := (mkF m 27 #[.val (.ref a0), .val (.ref a1), .val (.int (0 : Int32)), .val (.int p3), .val .null, .unset] [])) rfl (hb hby d2_27)
    have hc30 : ¬ (cv = (0 : Int32)) := hcv
    obtain ⟨_, _, ⟨T31, L31, k31, n31⟩, -, X31, ⟨Lc31, hQ31, l31, y31, z31⟩, st31⟩ := Jvm.LawKit.callS X30 hx (y := (⟨"java/lang/StringUTF16", "compress", "([CII)[B"⟩ : MethodName)) hown (mvT hZ (hw _ (List.mem_of_getElem? (i := 15) rfl))) (mvT hZ (hw _ (List.mem_of_getElem? (i := 16) rfl))) (mvT hZ (hw _ (List.mem_of_getElem? (i := 17) rfl))) (mvT hZ (hw _ (List.mem_of_getElem? (i := 18) rfl))) (by decide) (backOf (W := 0) (rm4 l Z aw hw [] (a1) (p3) (kc) (wc) (h0) n0 Z0 V_a1 hn hcs) hZ (hw _ (List.mem_of_getElem? (i := 18) rfl)) (hw _ (List.mem_of_getElem? (i := 17) rfl)) (by decide) (by decide)) (g := (mkF m 36 #[.val (.ref a0), .val (.ref a1), .val (.int (0 : Int32)), .val (.int p3), .val .null, .unset] [(.int p3), (.int (0 : Int32)), (.ref a1)])) rfl (by rw [hml]; rfl) (argsL := [(.ref a1), (.int (0 : Int32)), (.int p3)]) (rest := []) (lenOf pd_1 rfl) rfl (by show 2 * 0 + _ ≤ _; exact Nat.le_of_eq rfl) (hb hby d2_36) (fun _ _ => ⟨rfl, e30, (by decide : 0 + 1 ≤ _), (by decide : 0 + 3 ≤ _)⟩)
    dsimp only [Pt.U, Pt.locs, Pt.cells, Pt.slots] at X31 l31 y31 z31 st31 hQ31
    subst l31 y31 z31
    obtain ⟨rb31, kb31, wb31, rfl, Nq31, K31, po31_0, po31_1⟩ := hQ31
    have N31 := Fr.app N0 Nq31
    have cs32 := Jvm.RoadKit.CHr.keep K31 own_al0 cr0.1
    have cr32 := cr0.trans cs32
    have sf32_a0 := cs32.safe E_a0.lt sfa0
    have kp33 : Keep h0 T31.heap [a0] := (Keep.refl h0 [a0]).trans K31 all0
    have ne_a0_rb31 : a0 ≠ rb31 := Nat.ne_of_lt (Nat.lt_of_lt_of_le E_a0.lt po31_0)
    have ne_a1_rb31 : a1 ≠ rb31 := Nat.ne_of_lt (Nat.lt_of_lt_of_le V_a1.lt po31_0)
    have g_rb31 : n0 ≤ rb31 := Nat.le_trans Z0 po31_0
    have sz_rb31 : h0.size ≤ rb31 := Nat.le_trans (Keep.refl h0 [a0]).1 po31_0
    have z35 : n0 ≤ (T31.heap).size := (Nat.le_trans Z0 K31.1)
    obtain ⟨_, _, ⟨T34, L34, k34, n34⟩, -, X34, ⟨Lc34, hQ34, l34, y34, z34⟩, st34⟩ := Jvm.LawKit.callS X31 hx (y := (⟨"java/lang/StringUTF16", "coderFromArrayLen", "([BI)B"⟩ : MethodName)) hown (mvT hZ (hw _ (List.mem_of_getElem? (i := 23) rfl))) (mvT hZ (hw _ (List.mem_of_getElem? (i := 24) rfl))) (mvT hZ (hw _ (List.mem_of_getElem? (i := 17) rfl))) (mvT hZ (hw _ (List.mem_of_getElem? (i := 25) rfl))) (by decide) (backOf (W := 1) (rm6 l Z aw hw [] (rb31) (p3) (kb31) (p3) (wb31) (T31.heap) n0 z35 po31_1) hZ (hw _ (List.mem_of_getElem? (i := 25) rfl)) (hw _ (List.mem_of_getElem? (i := 17) rfl)) (by decide) (by decide)) (g := (mkF m 45 #[.val (.ref a0), .val (.ref a1), .val (.int (0 : Int32)), .val (.int p3), .val .null, .val (.ref rb31)] [(.int p3), (.ref rb31), (.ref a0)])) rfl (by rw [hml]; rfl) (argsL := [(.ref rb31), (.int p3)]) (rest := [(.ref a0)]) (lenOf pd_2 rfl) rfl (by show 2 * 0 + _ ≤ _; exact Nat.le_of_eq rfl) (hb hby d2_45) (fun _ _ => ⟨rfl, rfl, (by decide : 1 + 0 ≤ _), (by decide : 3 + 0 ≤ _)⟩)
    dsimp only [Pt.U, Pt.locs, Pt.cells, Pt.slots] at X34 l34 y34 z34 st34 hQ34
    subst l34 y34 z34
    obtain ⟨rfl, Nq34, eq34⟩ := hQ34
    have N34 := Fr.app N31 Nq34
    have f36 := (E_a0.keep K31)
    have f37 := (F_a0_coder.keep K31 nin0)
    obtain ⟨T38, h38, X38, e38, W38, st38⟩ := putFN X34 hx hZ hown (hw _ (List.mem_of_getElem? (i := 26) rfl)) Via.refl eq34 f37 f36 (Or.inr ⟨(hw _ (List.mem_of_getElem? (i := 27) rfl)), rfl, hnm⟩) (hw _ (List.mem_of_getElem? (i := 2) rfl)) (ty := .byte) (v' := (.int (nar .byte (own_f6 p3 p3)))) (by decide) rfl (fits_nar_byte _) (g := (mkF m 48 #[.val (.ref a0), .val (.ref a1), .val (.int (0 : Int32)), .val (.int p3), .val .null, .val (.ref rb31)] [(.int (own_f6 p3 p3)), (.ref a0)])) rfl rfl (hb hby d2_48)
    have Fw38 := f37.same W38
    have N38 := Fr.snoc X38 N34 g_a0
    have cs39 := Jvm.RoadKit.CHr.wr W38 sf32_a0 cr32.1
    have cr39 := cr32.trans cs39
    have sf39_a0 := cs39.safe f36.lt sf32_a0
    have kp40 : Keep h0 h38 [a0] := kp33.wr W38 (Or.inl (List.mem_of_getElem? (i := 0) rfl))
    have f41 := (f36.wr W38)
    have f42 := ((F_a0_value.keep K31 nin0).other W38 (Or.inr (slot_ne (Or.inr (hw _ (List.mem_of_getElem? (i := 29) rfl))) (Or.inr (hw _ (List.mem_of_getElem? (i := 27) rfl))) (by decide) (t := (.array .byte)) (t' := .byte) (by decide) (by decide))))
    obtain ⟨T43, h43, X43, e43, W43, st43⟩ := putF X38 hx hZ hown (host := "") (Or.inl (hw _ (List.mem_of_getElem? (i := 28) rfl))) Via.refl e38 f42 f41 (Or.inr ⟨(hw _ (List.mem_of_getElem? (i := 29) rfl)), rfl, hnm⟩) (hw _ (List.mem_of_getElem? (i := 2) rfl)) (ty := (.array .byte)) (by decide) rfl rfl (g := (mkF m 54 #[.val (.ref a0), .val (.ref a1), .val (.int (0 : Int32)), .val (.int p3), .val .null, .val (.ref rb31)] [(.ref rb31), (.ref a0)])) rfl rfl (hb hby d2_54)
    have Fw43 := f42.same W43
    have N43 := Fr.snoc X43 N38 g_a0
    have cs44 := Jvm.RoadKit.CHr.wr W43 sf39_a0 cr39.1
    have cr44 := cr39.trans cs44
    have sf44_a0 := cs44.safe f41.lt sf39_a0
    have kp45 : Keep h0 h43 [a0] := kp40.wr W43 (Or.inl (List.mem_of_getElem? (i := 0) rfl))
    have hk46 : _ ≤ (h43).size := (Nat.le_trans (Nat.le_trans (Nat.le_trans hk0 K31.1) (Keep.of_wr W38).1) (Keep.of_wr W43).1)
    obtain ⟨fs, hr, hrun, hended, hREW⟩ := X43.leaveW hS0 (by rw [e43]; exact hk46) (v := none) (fun _ => rfl)
    refine ⟨_, _, pre2 _ ?_, hrun, hended, _, _, rfl, ?_, by rw [hh, show (State.setFrames T43 fs).heap = h43 from e43]; have hq := cr44.trans (Jvm.RoadKit.CHv.at X43 hZ (own_EW hw) cr44.1); exact hq, hREW.1, hREW.2.1, hREW.2.2.1, hREW.2.2.2.mono (by decide) (by decide)⟩
    · show Steps p.tables e below (T1.setTop (mkF m 5 #[.val (.ref a0), .val (.ref a1), .val (.int (0 : Int32)), .val (.int p3), .val .null, .unset] [(.int p3)])) _
      refine XS.ifYes X1.here hx rfl (pc0 := 5) (pc' := 27) rfl (hb hby d2_5) rfl ((if0 _ _).trans (feq hc5).2) (by decide) (by decide) ?_
      refine st30 _ ?_
      refine XS.ifNo X30.here hx rfl (hb hby d2_30) rfl ((if0 _ _).trans (feq hc30).1) ?_
      refine XS.aloadN X30.here hx rfl (hb hby d2_33) rfl rfl ?_
      refine XS.iloadN X30.here hx rfl (hb hby d2_34) rfl ?_
      show Steps p.tables e below (T30.setTop (mkF m 35 #[.val (.ref a0), .val (.ref a1), .val (.int (0 : Int32)), .val (.int p3), .val .null, .unset] [(.int (0 : Int32)), (.ref a1)])) _
      refine XS.iloadN X30.here hx rfl (hb hby d2_35) rfl ?_
      refine st31 _ ?_
      refine XS.astore X31.here hx rfl (hb hby d2_39) rfl rfl (l' := #[.val (.ref a0), .val (.ref a1), .val (.int (0 : Int32)), .val (.int p3), .val .null, .val (.ref rb31)]) rfl ?_
      refine XS.aloadN X31.here hx rfl (hb hby d2_41) rfl rfl ?_
      refine XS.aload X31.here hx rfl (hb hby d2_42) rfl rfl ?_
      show Steps p.tables e below (T31.setTop (mkF m 44 #[.val (.ref a0), .val (.ref a1), .val (.int (0 : Int32)), .val (.int p3), .val .null, .val (.ref rb31)] [(.ref rb31), (.ref a0)])) _
      refine XS.iloadN X31.here hx rfl (hb hby d2_44) rfl ?_
      refine st34 _ ?_
      refine st38 _ ?_
      refine XS.aloadN X38.here hx rfl (hb hby d2_51) rfl rfl ?_
      refine XS.aload X38.here hx rfl (hb hby d2_52) rfl rfl ?_
      show Steps p.tables e below (T38.setTop (mkF m 54 #[.val (.ref a0), .val (.ref a1), .val (.int (0 : Int32)), .val (.int p3), .val .null, .val (.ref rb31)] [(.ref rb31), (.ref a0)])) _
      refine st43 _ ?_
      show Steps p.tables e below (T43.setTop (mkF m 57 #[.val (.ref a0), .val (.ref a1), .val (.int (0 : Int32)), .val (.int p3), .val .null, .val (.ref rb31)] [])) _
      exact X43.returnOut hx Bd.returns (hb hby d2_57) hr
    · show Q2 Z a0 a1 p3 kc wc cv h0 n0 _ T43.heap _
      rw [e43]
      unfold Q2
      have f47 := (f41.wr W43)
      have f48 := ((po31_1.other W38 (Ne.symm ne_a0_rb31)).other W43 (Ne.symm ne_a0_rb31))
      refine ⟨rb31, kb31, wb31, rfl, N43, kp45, f47, ?_, ?_⟩
      · exact Fw43
      · exact f48
theorem d1_0 : decode jdk_42_method_3_code 0 = .ok (.aload_n 0, 1) := by decide +kernel
theorem d1_1 : decode jdk_42_method_3_code 1 = .ok (.aload_n 1, 1) := by decide +kernel
theorem d1_2 : decode jdk_42_method_3_code 2 = .ok (.iconst 0, 1) := by decide +kernel
theorem d1_3 : decode jdk_42_method_3_code 3 = .ok (.aload_n 1, 1) := by decide +kernel
theorem d1_4 : decode jdk_42_method_3_code 4 = .ok (.arraylength, 1) := by decide +kernel
theorem d1_5 : decode jdk_42_method_3_code 5 = .ok (.aconst_null, 1) := by decide +kernel
theorem d1_6 : decode jdk_42_method_3_code 6 = .ok (.invokespecial 27, 3) := by decide +kernel
theorem d1_9 : decode jdk_42_method_3_code 9 = .ok (.return_, 1) := by decide +kernel
theorem pd_3 : parseMethodDescriptor "([CIILjava/lang/Void;)V" = some ⟨[(.array .char), .int, .int, (.object "java/lang/Void")], none⟩ := by decide +kernel
theorem ef_1 (m : MethodId) (a0 : Addr) (a1 : Addr) : entryFrame m #[(.ref a0), (.ref a1)] 2 = mkF m 0 #[.val (.ref a0), .val (.ref a1)] [] := by first | (simp [entryFrame, mkF, argsToLocals, Value.category]; done) | rfl
def Q1 (Z : State) (a0 : Addr) (a1 : Addr) (kc : ClassId) (zc : Int32) (wc : List Int32) (cv : Int32) (h0 : Heap) (n0 : Nat) (v : Option Value) (h : Heap) (L : List Loc) : Prop := ∃ (bv : Addr) (kb : ClassId) (wb : List Int32), v = none ∧ Fr n0 L ∧ Keep h0 h [a0] ∧ Exa Z h a0 "java/lang/String" ∧ Fld Z h a0 "java/lang/String" "value" "[B" (.ref bv) ∧ own_AI Z h bv kb .byte zc wb
set_option maxRecDepth 65536 in
set_option maxHeartbeats 40000000 in
theorem rm1 (l : Launch) (Z : State) (aw : Array Value) (hw : ∀ d ∈ tables_1, d.before aw Z = true) (wq : List Jvm.Cond) (a0 : Addr) (a1 : Addr) (kc : ClassId) (zc : Int32) (wc : List Int32) (cv : Int32) (h0 : Heap) (n0 : Nat) (Z0 : n0 ≤ h0.size) (E_a0 : Exa Z h0 a0 "java/lang/String") (F_a0_value : Fld Z h0 a0 "java/lang/String" "value" "[B" .null) (F_a0_coder : Fld Z h0 a0 "java/lang/String" "coder" "B" (.int (0 : Int32))) (V_a1 : own_AI Z h0 a1 kc .char zc wc) (S_COMPACT_STRINGS : Sta Z h0 "java/lang/String" "COMPACT_STRINGS" "Z" (.int cv)) (hcv : ¬ cv = (0 : Int32)) (hn : ¬ zc < (0 : Int32) ∧ zc < (4 : Int32)) (hcs : ∀ i : Nat, ¬ (255 : Int32) < wc.getD i 0) (ne_a0_a1 : a0 ≠ a1) (g_a0 : n0 ≤ a0) :
    MetFree l (⟨"java/lang/String", "<init>", "([C)V"⟩ : MethodName) (head1 (Jvm.Cond.code (⟨"java/lang/String", "<init>", "([C)V"⟩ : MethodName) jdk_42_method_3_code 2 none :: wq) ({ frames := 3, cells := 4, slots := 8, locals := 52 } : Room)) (fun a U => a = #[(.ref a0), (.ref a1)] ∧ Z.Warmed39 U.vm ∧ U.heap = h0 ∧ Jvm.RoadKit.CHv Z consts_1 U.vm h0) (fun _ _ _ _ _ => True) (fun _ U o U' => ∃ v L, o = .returned v ∧ Q1 Z a0 a1 kc zc wc cv h0 n0 v U'.heap L ∧ Jvm.RoadKit.CHr Z consts_1 U.vm U.heap U'.vm U'.heap ∧ ReturnedEndW U o U' L ({ frames := 3, cells := 4, slots := 8, locals := 52 } : Room).cells ({ frames := 3, cells := 4, slots := 8, locals := 52 } : Room).slots) := by
  refine MetFree.of_bodySF (plainFor_of_name pn_1) hisR ?_
  intro p e s m args below meth c s₁ Bd hml0 hP hK
  obtain ⟨rfl, hZ, hh, hC0⟩ := hP
  have hx := Bd.exec
  have hby := Bd.bytes
  have hml : c.maxLocals = 2 := hml0
  have hown : s.vm.findClass "java/lang/String" = some m.cls := findClass_of_methodNamed Bd.named
  have hnm := (name_of_methodNamed Bd.named Bd.method).1
  have X0 : Stand p l e ({ frames := 3, cells := 4, slots := 8, locals := 52 } : Room) (s.setVm s.vm) m #[(.ref a0), (.ref a1)] below meth c s₁ [] 0 0 := Stand.of_body Bd
  have e0 : s₁.heap = h0 := by rw [← hh, Bd.state]; rfl
  have N0 := Fr.nil n0
  have pre0 : own_Pre p e below (s₁.setTop (entryFrame m #[(.ref a0), (.ref a1)] 2)) (s₁.setTop (mkF m 0 #[.val (.ref a0), .val (.ref a1)] [])) := fun t k => castTop (ef_1 m a0 a1) k
  have cr0 := Jvm.RoadKit.CHr.refl hC0
  have hS0 := State.WarmedH.since (State.WarmedH.refl s) h0.size
  have hk0 := Nat.le_refl h0.size
  obtain ⟨cl1, Ar1, S1, M1⟩ := V_a1.len
  have hZo3 := hZ
  have hwo3 := hown
  obtain ⟨_, _, ⟨T2, L2, k2, n2⟩, -, X2, hs2, gr2, ⟨Lc2, hQ2, l2, y2, z2, cs2⟩, st2⟩ := X0.specialBackS hx (y := (⟨"java/lang/String", "<init>", "([CIILjava/lang/Void;)V"⟩ : MethodName)) rfl hown (mvT hZ (hw _ (List.mem_of_getElem? (i := 7) rfl))) (mvT hZ (hw _ (List.mem_of_getElem? (i := 8) rfl))) (mvT hZ (hw _ (List.mem_of_getElem? (i := 10) rfl))) (by decide) (Jvm.RoadKit.backOfSH (W := 0) (rm2 l Z aw hw [] (a0) (a1) (zc) (kc) (wc) (cv) (h0) n0 Z0 E_a0 F_a0_value F_a0_coder V_a1 S_COMPACT_STRINGS hcv hn hcs ne_a0_a1 g_a0) hZ (hw _ (List.mem_of_getElem? (i := 10) rfl)) (hw _ (List.mem_of_getElem? (i := 3) rfl)) (by decide) (by decide) (own_EW hw) cr0.1) (g := (mkF m 6 #[.val (.ref a0), .val (.ref a1)] [.null, (.int zc), (.int (0 : Int32)), (.ref a1), (.ref a0)])) rfl (by rw [hml]; rfl) (Steps.refl _) (a := a0) (argsL := [(.ref a1), (.int (0 : Int32)), (.int zc), .null]) (rest := []) (lenOf pd_3 rfl) rfl (by show 2 * 0 + _ ≤ _; exact Nat.le_of_eq rfl) (hb hby d1_6) (fun _ _ => ⟨rfl, e0, (by decide : 0 + 4 ≤ _), (by decide : 0 + 8 ≤ _)⟩)
  dsimp only [Pt.U, Pt.locs, Pt.cells, Pt.slots] at X2 l2 y2 z2 st2 hQ2 hs2 gr2 cs2
  subst l2 y2 z2
  obtain ⟨X2, hS2⟩ := X2.againW hS0 hs2 (Nat.le_trans hk0 (by rw [← e0]; exact gr2))
  have hZ : Z.Warmed39 (s.setVm T2.vm).vm := State.Warmed39.trans (t := (s.setVm s.vm)) hZ hs2.1
  have hown : (s.setVm T2.vm).vm.findClass "java/lang/String" = some m.cls := by rw [show (s.setVm T2.vm).vm = T2.vm from rfl, hs2.1.alike.findClass]; exact hown
  have hk2 : T2.heap.size ≤ T2.heap.size := Nat.le_refl _
  have cr2 := cr0.trans cs2
  obtain ⟨bv2, kb2, wb2, rfl, Nq2, K2, po2_0, po2_1, po2_2⟩ := hQ2
  have N2 := Fr.app N0 Nq2
  have kp4 : Keep h0 T2.heap [a0] := (Keep.refl h0 [a0]).trans K2 (allS (Or.inl (List.mem_of_getElem? (i := 0) rfl)) all0)
  obtain ⟨fs, hr, hrun, hended, hREW⟩ := X2.leaveW hS2 hk2 (v := none) (fun _ => rfl)
  refine ⟨_, _, pre0 _ ?_, hrun, hended, _, _, rfl, ?_, by rw [hh]; have hq := cr2.trans (Jvm.RoadKit.CHv.at X2 hZ (own_EW hw) cr2.1); exact hq, hREW.1, hREW.2.1, hREW.2.2.1, hREW.2.2.2.mono (by decide) (by decide)⟩
  · show Steps p.tables e below (s₁.setTop (mkF m 0 #[.val (.ref a0), .val (.ref a1)] [])) _
    refine XS.aloadN X0.here hx rfl (hb hby d1_0) rfl rfl ?_
    refine XS.aloadN X0.here hx rfl (hb hby d1_1) rfl rfl ?_
    refine XS.iconst X0.here hx rfl (hb hby d1_2) ?_
    refine XS.aloadN X0.here hx rfl (hb hby d1_3) rfl rfl ?_
    refine X0.arraylength hx (by rw [e0]; exact Ar1.1) (State.isArrayOf_alike hZo3.alike Ar1.2.1) (g := (mkF m 4 #[.val (.ref a0), .val (.ref a1)] [(.ref a1), (.int (0 : Int32)), (.ref a1), (.ref a0)])) rfl rfl (hb hby d1_4) _ ?_
    rw [len_of S1 M1]
    show Steps p.tables e below (s₁.setTop (mkF m 5 #[.val (.ref a0), .val (.ref a1)] [(.int zc), (.int (0 : Int32)), (.ref a1), (.ref a0)])) _
    refine XS.aconstNull X0.here hx rfl (hb hby d1_5) ?_
    refine st2.trans ?_
    show Steps p.tables e below (T2.setTop (mkF m 9 #[.val (.ref a0), .val (.ref a1)] [])) _
    exact X2.returnOut hx Bd.returns (hb hby d1_9) hr
  · show Q1 Z a0 a1 kc zc wc cv h0 n0 _ T2.heap _
    unfold Q1
    refine ⟨bv2, kb2, wb2, rfl, N2, kp4, po2_0, ?_, ?_⟩
    · exact po2_1
    · exact po2_2
theorem d10_0 : decode jdk_42_method_151_code 0 = .ok (.aload_n 0, 1) := by decide +kernel
theorem d10_1 : decode jdk_42_method_151_code 1 = .ok (.invokespecial 1, 3) := by decide +kernel
theorem d10_4 : decode jdk_42_method_151_code 4 = .ok (.aload_n 0, 1) := by decide +kernel
theorem d10_5 : decode jdk_42_method_151_code 5 = .ok (.aload_n 1, 1) := by decide +kernel
theorem d10_6 : decode jdk_42_method_151_code 6 = .ok (.putfield 9, 3) := by decide +kernel
theorem d10_9 : decode jdk_42_method_151_code 9 = .ok (.aload_n 0, 1) := by decide +kernel
theorem d10_10 : decode jdk_42_method_151_code 10 = .ok (.iload_n 2, 1) := by decide +kernel
theorem d10_11 : decode jdk_42_method_151_code 11 = .ok (.putfield 15, 3) := by decide +kernel
theorem d10_14 : decode jdk_42_method_151_code 14 = .ok (.return_, 1) := by decide +kernel
theorem ef_10 (m : MethodId) (a0 : Addr) (a1 : Addr) (p2 : Int32) : entryFrame m #[(.ref a0), (.ref a1), (.int p2)] 3 = mkF m 0 #[.val (.ref a0), .val (.ref a1), .val (.int p2)] [] := by first | (simp [entryFrame, mkF, argsToLocals, Value.category]; done) | rfl
def Q10 (Z : State) (a0 : Addr) (a1 : Addr) (p2 : Int32) (h0 : Heap) (n0 : Nat) (v : Option Value) (h : Heap) (L : List Loc) : Prop := v = none ∧ Fr n0 L ∧ Keep h0 h [a0] ∧ Exa Z h a0 "java/lang/String"
set_option maxRecDepth 65536 in
set_option maxHeartbeats 40000000 in
theorem rm10 (l : Launch) (Z : State) (aw : Array Value) (hw : ∀ d ∈ tables_1, d.before aw Z = true) (wq : List Jvm.Cond) (a0 : Addr) (a1 : Addr) (p2 : Int32) (h0 : Heap) (n0 : Nat) (Z0 : n0 ≤ h0.size) (E_a0 : Exa Z h0 a0 "java/lang/String") (F_a0_value : Fld Z h0 a0 "java/lang/String" "value" "[B" .null) (F_a0_coder : Fld Z h0 a0 "java/lang/String" "coder" "B" (.int (0 : Int32))) (g_a0 : n0 ≤ a0) :
    MetFree l (⟨"java/lang/String", "<init>", "([BB)V"⟩ : MethodName) (head1 (Jvm.Cond.code (⟨"java/lang/String", "<init>", "([BB)V"⟩ : MethodName) jdk_42_method_151_code 3 none :: wq) ({ frames := 1, cells := 0, slots := 0, locals := 12 } : Room)) (fun a U => a = #[(.ref a0), (.ref a1), (.int p2)] ∧ Z.Warmed39 U.vm ∧ U.heap = h0) (fun _ _ _ _ _ => True) (fun _ U o U' => ∃ v L, o = .returned v ∧ Q10 Z a0 a1 p2 h0 n0 v U'.heap L ∧ FrameEnd U o U' L ({ frames := 1, cells := 0, slots := 0, locals := 12 } : Room).cells ({ frames := 1, cells := 0, slots := 0, locals := 12 } : Room).slots) := by
  refine MetFree.of_bodySF (plainFor_of_name pn_1) hisR ?_
  intro p e s m args below meth c s₁ Bd hml0 hP hK
  obtain ⟨rfl, hZ, hh⟩ := hP
  have hx := Bd.exec
  have hby := Bd.bytes
  have hml : c.maxLocals = 3 := hml0
  have hown : s.vm.findClass "java/lang/String" = some m.cls := findClass_of_methodNamed Bd.named
  have hnm := (name_of_methodNamed Bd.named Bd.method).1
  have X0 : Stand p l e ({ frames := 1, cells := 0, slots := 0, locals := 12 } : Room) s m #[(.ref a0), (.ref a1), (.int p2)] below meth c s₁ [] 0 0 := Stand.of_body Bd
  have e0 : s₁.heap = h0 := by rw [← hh, Bd.state]; rfl
  have N0 := Fr.nil n0
  have pre0 : own_Pre p e below (s₁.setTop (entryFrame m #[(.ref a0), (.ref a1), (.int p2)] 3)) (s₁.setTop (mkF m 0 #[.val (.ref a0), .val (.ref a1), .val (.int p2)] [])) := fun t k => castTop (ef_10 m a0 a1 p2) k
  obtain ⟨T1, X1, e1, st1⟩ := initO X0 hx hZ hown (hw _ (List.mem_of_getElem? (i := 11) rfl)) (hw _ (List.mem_of_getElem? (i := 12) rfl)) (hw _ (List.mem_of_getElem? (i := 13) rfl)) e0 (g := (mkF m 1 #[.val (.ref a0), .val (.ref a1), .val (.int p2)] [(.ref a0)])) rfl (by rw [hml]; rfl) rfl (hb hby d10_1) (by decide) (W := 0) (by show 2 * 0 + _ ≤ _; exact Nat.le_of_eq rfl) (by decide)
  obtain ⟨T2, h2, X2, e2, W2, st2⟩ := putF X1 hx hZ hown (host := "") (Or.inl (hw _ (List.mem_of_getElem? (i := 28) rfl))) Via.refl e1 F_a0_value E_a0 (Or.inr ⟨(hw _ (List.mem_of_getElem? (i := 29) rfl)), rfl, hnm⟩) (hw _ (List.mem_of_getElem? (i := 2) rfl)) (ty := (.array .byte)) (by decide) rfl rfl (g := (mkF m 6 #[.val (.ref a0), .val (.ref a1), .val (.int p2)] [(.ref a1), (.ref a0)])) rfl rfl (hb hby d10_6)
  have Fw2 := F_a0_value.same W2
  have N2 := Fr.snoc X2 N0 g_a0
  have kp3 : Keep h0 h2 [a0] := (Keep.refl h0 [a0]).wr W2 (Or.inl (List.mem_of_getElem? (i := 0) rfl))
  have f4 := (E_a0.wr W2)
  have f5 := (F_a0_coder.other W2 (Or.inr (slot_ne (Or.inr (hw _ (List.mem_of_getElem? (i := 27) rfl))) (Or.inr (hw _ (List.mem_of_getElem? (i := 29) rfl))) (by decide) (t := .byte) (t' := (.array .byte)) (by decide) (by decide))))
  obtain ⟨T6, h6, X6, e6, W6, st6⟩ := putFN X2 hx hZ hown (hw _ (List.mem_of_getElem? (i := 26) rfl)) Via.refl e2 f5 f4 (Or.inr ⟨(hw _ (List.mem_of_getElem? (i := 27) rfl)), rfl, hnm⟩) (hw _ (List.mem_of_getElem? (i := 2) rfl)) (ty := .byte) (v' := (.int (nar .byte p2))) (by decide) rfl (fits_nar_byte _) (g := (mkF m 11 #[.val (.ref a0), .val (.ref a1), .val (.int p2)] [(.int p2), (.ref a0)])) rfl rfl (hb hby d10_11)
  have Fw6 := f5.same W6
  have N6 := Fr.snoc X6 N2 g_a0
  have kp7 : Keep h0 h6 [a0] := kp3.wr W6 (Or.inl (List.mem_of_getElem? (i := 0) rfl))
  obtain ⟨fs, hr, hrun, hended, hW, hsame⟩ := X6.leave (v := none) (fun _ => rfl)
  refine ⟨_, _, pre0 _ ?_, hrun, hended, _, _, rfl, ?_, ⟨_, rfl⟩, hW, hsame.mono (by decide) (by decide)⟩
  · show Steps p.tables e below (s₁.setTop (mkF m 0 #[.val (.ref a0), .val (.ref a1), .val (.int p2)] [])) _
    refine XS.aloadN X0.here hx rfl (hb hby d10_0) rfl rfl ?_
    refine st1 _ ?_
    refine XS.aloadN X1.here hx rfl (hb hby d10_4) rfl rfl ?_
    refine XS.aloadN X1.here hx rfl (hb hby d10_5) rfl rfl ?_
    refine st2 _ ?_
    show Steps p.tables e below (T2.setTop (mkF m 9 #[.val (.ref a0), .val (.ref a1), .val (.int p2)] [])) _
    refine XS.aloadN X2.here hx rfl (hb hby d10_9) rfl rfl ?_
    refine XS.iloadN X2.here hx rfl (hb hby d10_10) rfl ?_
    refine st6 _ ?_
    show Steps p.tables e below (T6.setTop (mkF m 14 #[.val (.ref a0), .val (.ref a1), .val (.int p2)] [])) _
    exact X6.returnOut hx Bd.returns (hb hby d10_14) hr
  · show Q10 Z a0 a1 p2 h0 n0 _ T6.heap _
    rw [e6]
    unfold Q10
    have f8 := (f4.wr W6)
    refine ⟨rfl, N6, kp7, f8⟩
theorem d9_0 : decode jdk_43_method_46_code 0 = .ok (.iconst 1, 1) := by decide +kernel
theorem d9_1 : decode jdk_43_method_46_code 1 = .ok (.newarray .byte, 2) := by decide +kernel
theorem d9_3 : decode jdk_43_method_46_code 3 = .ok (.dup, 1) := by decide +kernel
theorem d9_4 : decode jdk_43_method_46_code 4 = .ok (.iconst 0, 1) := by decide +kernel
theorem d9_5 : decode jdk_43_method_46_code 5 = .ok (.iload_n 0, 1) := by decide +kernel
theorem d9_6 : decode jdk_43_method_46_code 6 = .ok (.i2b, 1) := by decide +kernel
theorem d9_7 : decode jdk_43_method_46_code 7 = .ok (.bastore, 1) := by decide +kernel
theorem d9_8 : decode jdk_43_method_46_code 8 = .ok (.areturn, 1) := by decide +kernel
theorem pn_2 : plainName "java/lang/StringLatin1" = true := by first | (simp [plainName, overriddenIn]; done) | decide +kernel
theorem ef_9 (m : MethodId) (p0 : Int32) : entryFrame m #[(.int p0)] 1 = mkF m 0 #[.val (.int p0)] [] := by first | (simp [entryFrame, mkF, argsToLocals, Value.category]; done) | rfl
def Q9 (Z : State) (p0 : Int32) (h0 : Heap) (n0 : Nat) (v : Option Value) (h : Heap) (L : List Loc) : Prop := ∃ (rb : Addr), v = some (.ref rb) ∧ Fr n0 L ∧ Keep h0 h [] ∧ h0.size ≤ rb
set_option maxRecDepth 65536 in
set_option maxHeartbeats 40000000 in
theorem rm9 (l : Launch) (Z : State) (aw : Array Value) (hw : ∀ d ∈ tables_1, d.before aw Z = true) (wq : List Jvm.Cond) (p0 : Int32) (h0 : Heap) (n0 : Nat) (Z0 : n0 ≤ h0.size) :
    MetFree l (⟨"java/lang/StringLatin1", "toBytes", "(C)[B"⟩ : MethodName) (head1 (Jvm.Cond.code (⟨"java/lang/StringLatin1", "toBytes", "(C)[B"⟩ : MethodName) jdk_43_method_46_code 1 (some (.array .byte)) :: wq) ({ frames := 0, cells := 1, slots := 1, locals := 0 } : Room)) (fun a U => a = #[(.int p0)] ∧ Z.Warmed39 U.vm ∧ U.heap = h0) (fun _ _ _ _ _ => True) (fun _ U o U' => ∃ v L, o = .returned v ∧ Q9 Z p0 h0 n0 v U'.heap L ∧ FrameEnd U o U' L ({ frames := 0, cells := 1, slots := 1, locals := 0 } : Room).cells ({ frames := 0, cells := 1, slots := 1, locals := 0 } : Room).slots) := by
  refine MetFree.of_bodySF (plainFor_of_name pn_2) hisR ?_
  intro p e s m args below meth c s₁ Bd hml0 hP hK
  obtain ⟨rfl, hZ, hh⟩ := hP
  have hx := Bd.exec
  have hby := Bd.bytes
  have hml : c.maxLocals = 1 := hml0
  have hown : s.vm.findClass "java/lang/StringLatin1" = some m.cls := findClass_of_methodNamed Bd.named
  have hnm := (name_of_methodNamed Bd.named Bd.method).1
  have X0 : Stand p l e ({ frames := 0, cells := 1, slots := 1, locals := 0 } : Room) s m #[(.int p0)] below meth c s₁ [] 0 0 := Stand.of_body Bd
  have e0 : s₁.heap = h0 := by rw [← hh, Bd.state]; rfl
  have N0 := Fr.nil n0
  have pre0 : own_Pre p e below (s₁.setTop (entryFrame m #[(.int p0)] 1)) (s₁.setTop (mkF m 0 #[.val (.int p0)] [])) := fun t k => castTop (ef_9 m p0) k
  obtain ⟨T1, h1, k1, X1, e1, E1, A1, st1⟩ := newP X0 hx hZ (hw _ (List.mem_of_getElem? (i := 19) rfl)) e0 (g := (mkF m 1 #[.val (.int p0)] [(.int (1 : Int32))])) rfl (hb hby d9_1) rfl (by decide) (cap := 1) (by decide) (by decide) (by decide) (by decide)
  obtain ⟨rb, gq1⟩ : ∃ z, z = (h0).size := ⟨_, rfl⟩
  rw [← gq1] at A1 st1
  have g_rb : n0 ≤ rb := Nat.le_trans Z0 (Nat.le_of_eq gq1.symm)
  have sz_rb : h0.size ≤ rb := Nat.le_trans (Keep.refl h0 []).1 (Nat.le_of_eq gq1.symm)
  have kp2 : Keep h0 h1 [] := (Keep.refl h0 []).ext E1
  have V_rb : own_AI Z h1 rb k1 .byte (1 : Int32) (List.replicate 1 (0 : Int32)) := own_AI.new 1 A1 (by decide) (by decide) rfl
  obtain ⟨cl3, Ar3, hin3, set3⟩ := own_AI.arr V_rb (j := (0 : Int32)) ⟨by decide, by decide⟩
  obtain ⟨T3, h3, X3, e3, W3, st3⟩ := stB X1 hx hZ e1 Ar3 (j := (0 : Int32)) hin3 (g := (mkF m 7 #[.val (.int p0)] [(.int (p0).toInt8.toInt32), (.int (0 : Int32)), (.ref rb), (.ref rb)])) rfl rfl (hb hby d9_7)
  have V3 : own_AI Z h3 rb k1 .byte (1 : Int32) ((List.replicate 1 (0 : Int32)).set 0 (nar .byte (p0).toInt8.toInt32)) := set3 _ _ (fits_nar_byte _) W3
  obtain ⟨ws3, hws3⟩ : ∃ z, z = ((List.replicate 1 (0 : Int32)).set 0 (nar .byte (p0).toInt8.toInt32)) := ⟨_, rfl⟩
  rw [← hws3] at V3
  have N3 := Fr.snoc X3 N0 g_rb
  have kp4 : Keep h0 h3 [] := kp2.wr W3 (Or.inr sz_rb)
  obtain ⟨fs, hr, hrun, hended, hW, hsame⟩ := X3.leave (v := some (.ref rb)) (fun h => by rw [Bd.returns] at h; cases h)
  refine ⟨_, _, pre0 _ ?_, hrun, hended, _, _, rfl, ?_, ⟨_, rfl⟩, hW, hsame.mono (by decide) (by decide)⟩
  · show Steps p.tables e below (s₁.setTop (mkF m 0 #[.val (.int p0)] [])) _
    refine XS.iconst X0.here hx rfl (hb hby d9_0) ?_
    refine st1 _ ?_
    refine XS.dup X1.here hx rfl (hb hby d9_3) rfl rfl ?_
    refine XS.iconst X1.here hx rfl (hb hby d9_4) ?_
    refine XS.iloadN X1.here hx rfl (hb hby d9_5) rfl ?_
    show Steps p.tables e below (T1.setTop (mkF m 6 #[.val (.int p0)] [(.int p0), (.int (0 : Int32)), (.ref rb), (.ref rb)])) _
    refine XS.i2b X1.here hx rfl (hb hby d9_6) rfl ?_
    refine st3 _ ?_
    show Steps p.tables e below (T3.setTop (mkF m 8 #[.val (.int p0)] [(.ref rb)])) _
    exact retR X3 hx (v := (.ref rb)) rfl Bd.returns rfl (hb hby d9_8) hr
  · show Q9 Z p0 h0 n0 _ T3.heap _
    rw [e3]
    unfold Q9
    refine ⟨rb, rfl, N3, kp4, sz_rb⟩
theorem d8_0 : decode jdk_43_method_3_code 0 = .ok (.iload_n 0, 1) := by decide +kernel
theorem d8_1 : decode jdk_43_method_3_code 1 = .ok (.sipush 255, 3) := by decide +kernel
theorem d8_4 : decode jdk_43_method_3_code 4 = .ok (.if_icmp .gt 7, 3) := by decide +kernel
theorem d8_7 : decode jdk_43_method_3_code 7 = .ok (.iconst 1, 1) := by decide +kernel
theorem d8_8 : decode jdk_43_method_3_code 8 = .ok (.goto 4, 3) := by decide +kernel
theorem d8_11 : decode jdk_43_method_3_code 11 = .ok (.iconst 0, 1) := by decide +kernel
theorem d8_12 : decode jdk_43_method_3_code 12 = .ok (.ireturn, 1) := by decide +kernel
theorem ef_8 (m : MethodId) (p0 : Int32) : entryFrame m #[(.int p0)] 1 = mkF m 0 #[.val (.int p0)] [] := by first | (simp [entryFrame, mkF, argsToLocals, Value.category]; done) | rfl
def own_f8 (p0 : Int32) : Int32 := (if (255 : Int32) < p0 then (0 : Int32) else (1 : Int32))
def Q8 (Z : State) (p0 : Int32) (h0 : Heap) (n0 : Nat) (v : Option Value) (h : Heap) (L : List Loc) : Prop := v = some (.int (own_f8 p0)) ∧ Fr n0 L ∧ h = h0
set_option maxRecDepth 65536 in
set_option maxHeartbeats 40000000 in
theorem rm8 (l : Launch) (Z : State) (aw : Array Value) (hw : ∀ d ∈ tables_1, d.before aw Z = true) (wq : List Jvm.Cond) (p0 : Int32) (h0 : Heap) (n0 : Nat) (Z0 : n0 ≤ h0.size) :
    MetFree l (⟨"java/lang/StringLatin1", "canEncode", "(C)Z"⟩ : MethodName) (head1 (Jvm.Cond.code (⟨"java/lang/StringLatin1", "canEncode", "(C)Z"⟩ : MethodName) jdk_43_method_3_code 1 (some .boolean) :: wq) ({ frames := 0, cells := 0, slots := 0, locals := 0 } : Room)) (fun a U => a = #[(.int p0)] ∧ Z.Warmed39 U.vm ∧ U.heap = h0) (fun _ _ _ _ _ => True) (fun _ U o U' => ∃ v L, o = .returned v ∧ Q8 Z p0 h0 n0 v U'.heap L ∧ FrameEnd U o U' L ({ frames := 0, cells := 0, slots := 0, locals := 0 } : Room).cells ({ frames := 0, cells := 0, slots := 0, locals := 0 } : Room).slots) := by
  refine MetFree.of_bodySF (plainFor_of_name pn_2) hisR ?_
  intro p e s m args below meth c s₁ Bd hml0 hP hK
  obtain ⟨rfl, hZ, hh⟩ := hP
  have hx := Bd.exec
  have hby := Bd.bytes
  have hml : c.maxLocals = 1 := hml0
  have hown : s.vm.findClass "java/lang/StringLatin1" = some m.cls := findClass_of_methodNamed Bd.named
  have hnm := (name_of_methodNamed Bd.named Bd.method).1
  have X0 : Stand p l e ({ frames := 0, cells := 0, slots := 0, locals := 0 } : Room) s m #[(.int p0)] below meth c s₁ [] 0 0 := Stand.of_body Bd
  have e0 : s₁.heap = h0 := by rw [← hh, Bd.state]; rfl
  have N0 := Fr.nil n0
  have pre0 : own_Pre p e below (s₁.setTop (entryFrame m #[(.int p0)] 1)) (s₁.setTop (mkF m 0 #[.val (.int p0)] [])) := fun t k => castTop (ef_8 m p0) k
  have pre1 : own_Pre p e below (s₁.setTop (entryFrame m #[(.int p0)] 1)) (s₁.setTop (mkF m 4 #[.val (.int p0)] [(.int (255 : Int32)), (.int p0)])) := fun t k => pre0 t (by
      show Steps p.tables e below (s₁.setTop (mkF m 0 #[.val (.int p0)] [])) _
      refine XS.iloadN X0.here hx rfl (hb hby d8_0) rfl ?_
      refine XS.sipush X0.here hx rfl (hb hby d8_1) ?_
      exact k)
  by_cases hc4 : (255 : Int32) < p0
  · obtain ⟨fs, hr, hrun, hended, hW, hsame⟩ := X0.leave (v := some (.int (0 : Int32))) (fun h => by rw [Bd.returns] at h; cases h)
    refine ⟨_, _, pre1 _ ?_, hrun, hended, _, _, rfl, ?_, ⟨_, rfl⟩, hW, hsame.mono (by decide) (by decide)⟩
    · show Steps p.tables e below (s₁.setTop (mkF m 4 #[.val (.int p0)] [(.int (255 : Int32)), (.int p0)])) _
      refine XS.icmpYes X0.here hx rfl (pc0 := 4) (pc' := 11) rfl (hb hby d8_4) rfl (tlt hc4).2.2.1 (by decide) (by decide) ?_
      refine XS.iconst X0.here hx rfl (hb hby d8_11) ?_
      show Steps p.tables e below (s₁.setTop (mkF m 12 #[.val (.int p0)] [(.int (0 : Int32))])) _
      exact retN X0 hx (t := .boolean) Bd.returns (by simp) (hb hby d8_12) hr
    · show Q8 Z p0 h0 n0 _ s₁.heap _
      rw [e0]
      unfold Q8
      refine ⟨?_, N0, rfl⟩
      · simp only [own_f8, if_pos hc4]
  · obtain ⟨fs, hr, hrun, hended, hW, hsame⟩ := X0.leave (v := some (.int (1 : Int32))) (fun h => by rw [Bd.returns] at h; cases h)
    refine ⟨_, _, pre1 _ ?_, hrun, hended, _, _, rfl, ?_, ⟨_, rfl⟩, hW, hsame.mono (by decide) (by decide)⟩
    · show Steps p.tables e below (s₁.setTop (mkF m 4 #[.val (.int p0)] [(.int (255 : Int32)), (.int p0)])) _
      refine XS.icmpNo X0.here hx rfl (hb hby d8_4) rfl (flt hc4).2.2.1 ?_
      refine XS.iconst X0.here hx rfl (hb hby d8_7) ?_
      refine XS.goto X0.here hx rfl (pc0 := 8) (pc' := 12) rfl (hb hby d8_8) (by decide) (by decide) ?_
      show Steps p.tables e below (s₁.setTop (mkF m 12 #[.val (.int p0)] [(.int (1 : Int32))])) _
      exact retN X0 hx (t := .boolean) Bd.returns (by simp) (hb hby d8_12) hr
    · show Q8 Z p0 h0 n0 _ s₁.heap _
      rw [e0]
      unfold Q8
      refine ⟨?_, N0, rfl⟩
      · simp only [own_f8, if_neg hc4]
theorem own_can {p : Int32} (h : ¬ (255 : Int32) < p) : ¬ (own_f8 p) = (0 : Int32) := by unfold own_f8; rw [if_neg h]; decide
theorem d7_0 : decode jdk_42_method_139_code 0 = .ok (.getstatic 38, 3) := by decide +kernel
theorem d7_3 : decode jdk_42_method_139_code 3 = .ok (.ifCond .eq 23, 3) := by decide +kernel
theorem d7_6 : decode jdk_42_method_139_code 6 = .ok (.iload_n 0, 1) := by decide +kernel
theorem d7_7 : decode jdk_42_method_139_code 7 = .ok (.invokestatic 1015, 3) := by decide +kernel
theorem d7_10 : decode jdk_42_method_139_code 10 = .ok (.ifCond .eq 16, 3) := by decide +kernel
theorem d7_13 : decode jdk_42_method_139_code 13 = .ok (.new 10, 3) := by decide +kernel
theorem d7_16 : decode jdk_42_method_139_code 16 = .ok (.dup, 1) := by decide +kernel
theorem d7_17 : decode jdk_42_method_139_code 17 = .ok (.iload_n 0, 1) := by decide +kernel
theorem d7_18 : decode jdk_42_method_139_code 18 = .ok (.invokestatic 1018, 3) := by decide +kernel
theorem d7_21 : decode jdk_42_method_139_code 21 = .ok (.iconst 0, 1) := by decide +kernel
theorem d7_22 : decode jdk_42_method_139_code 22 = .ok (.invokespecial 209, 3) := by decide +kernel
theorem d7_25 : decode jdk_42_method_139_code 25 = .ok (.areturn, 1) := by decide +kernel
theorem pd_4 : parseMethodDescriptor "(C)Z" = some ⟨[.char], some .boolean⟩ := by decide +kernel
theorem pd_5 : parseMethodDescriptor "(C)[B" = some ⟨[.char], some (.array .byte)⟩ := by decide +kernel
theorem pd_6 : parseMethodDescriptor "([BB)V" = some ⟨[(.array .byte), .byte], none⟩ := by decide +kernel
theorem ef_7 (m : MethodId) (p0 : Int32) : entryFrame m #[(.int p0)] 1 = mkF m 0 #[.val (.int p0)] [] := by first | (simp [entryFrame, mkF, argsToLocals, Value.category]; done) | rfl
def Q7 (Z : State) (p0 : Int32) (cv : Int32) (h0 : Heap) (n0 : Nat) (v : Option Value) (h : Heap) (L : List Loc) : Prop := ∃ (rs : Addr), v = some (.ref rs) ∧ Fr n0 L ∧ Keep h0 h [] ∧ h0.size ≤ rs
set_option maxRecDepth 65536 in
set_option maxHeartbeats 40000000 in
theorem rm7 (l : Launch) (Z : State) (aw : Array Value) (hw : ∀ d ∈ tables_1, d.before aw Z = true) (wq : List Jvm.Cond) (p0 : Int32) (cv : Int32) (h0 : Heap) (n0 : Nat) (Z0 : n0 ≤ h0.size) (S_COMPACT_STRINGS : Sta Z h0 "java/lang/String" "COMPACT_STRINGS" "Z" (.int cv)) (hcv : ¬ cv = (0 : Int32)) (hp : ¬ (255 : Int32) < p0) :
    MetFree l (⟨"java/lang/String", "valueOf", "(C)Ljava/lang/String;"⟩ : MethodName) (head1 (Jvm.Cond.code (⟨"java/lang/String", "valueOf", "(C)Ljava/lang/String;"⟩ : MethodName) jdk_42_method_139_code 1 (some (.object "java/lang/String")) :: wq) ({ frames := 2, cells := 2, slots := 5, locals := 27 } : Room)) (fun a U => a = #[(.int p0)] ∧ Z.Warmed39 U.vm ∧ U.heap = h0) (fun _ _ _ _ _ => True) (fun _ U o U' => ∃ v L, o = .returned v ∧ Q7 Z p0 cv h0 n0 v U'.heap L ∧ FrameEnd U o U' L ({ frames := 2, cells := 2, slots := 5, locals := 27 } : Room).cells ({ frames := 2, cells := 2, slots := 5, locals := 27 } : Room).slots) := by
  refine MetFree.of_bodySF (plainFor_of_name pn_1) hisR ?_
  intro p e s m args below meth c s₁ Bd hml0 hP hK
  obtain ⟨rfl, hZ, hh⟩ := hP
  have hx := Bd.exec
  have hby := Bd.bytes
  have hml : c.maxLocals = 1 := hml0
  have hown : s.vm.findClass "java/lang/String" = some m.cls := findClass_of_methodNamed Bd.named
  have hnm := (name_of_methodNamed Bd.named Bd.method).1
  have X0 : Stand p l e ({ frames := 2, cells := 2, slots := 5, locals := 27 } : Room) s m #[(.int p0)] below meth c s₁ [] 0 0 := Stand.of_body Bd
  have e0 : s₁.heap = h0 := by rw [← hh, Bd.state]; rfl
  have N0 := Fr.nil n0
  have pre0 : own_Pre p e below (s₁.setTop (entryFrame m #[(.int p0)] 1)) (s₁.setTop (mkF m 0 #[.val (.int p0)] [])) := fun t k => castTop (ef_7 m p0) k
  obtain ⟨T1, X1, e1, st1⟩ := getS2 X0 hx hZ hown (host := "") (Or.inl (hw _ (List.mem_of_getElem? (i := 14) rfl))) Via.refl e0 S_COMPACT_STRINGS (g := (mkF m 0 #[.val (.int p0)] [])) rfl (hb hby d7_0)
  have hc3 : ¬ (cv = (0 : Int32)) := hcv
  obtain ⟨_, _, ⟨T2, L2, k2, n2⟩, -, X2, ⟨Lc2, hQ2, l2, y2, z2⟩, st2⟩ := Jvm.LawKit.callS X1 hx (y := (⟨"java/lang/StringLatin1", "canEncode", "(C)Z"⟩ : MethodName)) hown (mvT hZ (hw _ (List.mem_of_getElem? (i := 33) rfl))) (mvT hZ (hw _ (List.mem_of_getElem? (i := 34) rfl))) (mvT hZ (hw _ (List.mem_of_getElem? (i := 35) rfl))) (mvT hZ (hw _ (List.mem_of_getElem? (i := 36) rfl))) (by decide) (backOf (W := 0) (rm8 l Z aw hw [] (p0) (h0) n0 Z0) hZ (hw _ (List.mem_of_getElem? (i := 36) rfl)) (hw _ (List.mem_of_getElem? (i := 35) rfl)) (by decide) (by decide)) (g := (mkF m 7 #[.val (.int p0)] [(.int p0)])) rfl (by rw [hml]; rfl) (argsL := [(.int p0)]) (rest := []) (lenOf pd_4 rfl) rfl (by show 2 * 0 + _ ≤ _; exact Nat.le_of_eq rfl) (hb hby d7_7) (fun _ _ => ⟨rfl, e1, (by decide : 0 + 0 ≤ _), (by decide : 0 + 0 ≤ _)⟩)
  dsimp only [Pt.U, Pt.locs, Pt.cells, Pt.slots] at X2 l2 y2 z2 st2 hQ2
  subst l2 y2 z2
  obtain ⟨rfl, Nq2, eq2⟩ := hQ2
  have N2 := Fr.app N0 Nq2
  have hc10 : ¬ ((own_f8 p0) = (0 : Int32)) := own_can hp
  obtain ⟨T3, h3, X3, e3, E3, A3, D3, -, st3⟩ := newO X2 hx hZ hown (hw _ (List.mem_of_getElem? (i := 37) rfl)) (hw _ (List.mem_of_getElem? (i := 2) rfl)) (hw _ (List.mem_of_getElem? (i := 3) rfl)) eq2 (g := (mkF m 13 #[.val (.int p0)] [])) rfl (hb hby d7_13) (by decide) (by decide)
  obtain ⟨rs, gq3⟩ : ∃ z, z = (h0).size := ⟨_, rfl⟩
  rw [← gq3] at A3 D3 st3
  have g_rs : n0 ≤ rs := Nat.le_trans Z0 (Nat.le_of_eq gq3.symm)
  have sz_rs : h0.size ≤ rs := Nat.le_trans (Keep.refl h0 []).1 (Nat.le_of_eq gq3.symm)
  have kp4 : Keep h0 h3 [] := (Keep.refl h0 []).ext E3
  have F_rs_coder : Fld Z h3 rs "java/lang/String" "coder" "B" (.int (0 : Int32)) := D3 (Or.inr (hw _ (List.mem_of_getElem? (i := 27) rfl))) (ty := .byte) (by decide)
  have F_rs_value : Fld Z h3 rs "java/lang/String" "value" "[B" .null := D3 (Or.inr (hw _ (List.mem_of_getElem? (i := 29) rfl))) (ty := (.array .byte)) (by decide)
  have z6 : n0 ≤ (h3).size := (Nat.le_trans Z0 E3.1)
  obtain ⟨_, _, ⟨T5, L5, k5, n5⟩, -, X5, ⟨Lc5, hQ5, l5, y5, z5⟩, st5⟩ := Jvm.LawKit.callS X3 hx (y := (⟨"java/lang/StringLatin1", "toBytes", "(C)[B"⟩ : MethodName)) hown (mvT hZ (hw _ (List.mem_of_getElem? (i := 38) rfl))) (mvT hZ (hw _ (List.mem_of_getElem? (i := 39) rfl))) (mvT hZ (hw _ (List.mem_of_getElem? (i := 35) rfl))) (mvT hZ (hw _ (List.mem_of_getElem? (i := 40) rfl))) (by decide) (backOf (W := 2) (rm9 l Z aw hw [] (p0) (h3) n0 z6) hZ (hw _ (List.mem_of_getElem? (i := 40) rfl)) (hw _ (List.mem_of_getElem? (i := 35) rfl)) (by decide) (by decide)) (g := (mkF m 18 #[.val (.int p0)] [(.int p0), (.ref rs), (.ref rs)])) rfl (by rw [hml]; rfl) (argsL := [(.int p0)]) (rest := [(.ref rs), (.ref rs)]) (lenOf pd_5 rfl) rfl (by show 2 * 0 + _ ≤ _; exact Nat.le_of_eq rfl) (hb hby d7_18) (fun _ _ => ⟨rfl, e3, (by decide : 1 + 1 ≤ _), (by decide : 4 + 1 ≤ _)⟩)
  dsimp only [Pt.U, Pt.locs, Pt.cells, Pt.slots] at X5 l5 y5 z5 st5 hQ5
  subst l5 y5 z5
  obtain ⟨rb5, rfl, Nq5, K5, po5_0⟩ := hQ5
  have N5 := Fr.app N2 Nq5
  have kp7 : Keep h0 T5.heap [] := kp4.trans K5 all0
  have ne_rs_rb5 : rs ≠ rb5 := Nat.ne_of_lt (Nat.lt_of_lt_of_le A3.lt po5_0)
  have g_rb5 : n0 ≤ rb5 := Nat.le_trans z6 po5_0
  have sz_rb5 : h0.size ≤ rb5 := Nat.le_trans kp4.1 po5_0
  have f9 := (A3.keep K5)
  have f10 := (F_rs_value.keep K5 nin0)
  have f11 := (F_rs_coder.keep K5 nin0)
  have z12 : n0 ≤ (T5.heap).size := (Nat.le_trans z6 K5.1)
  obtain ⟨_, _, ⟨T8, L8, k8, n8⟩, -, X8, ⟨Lc8, hQ8, l8, y8, z8⟩, st8⟩ := X5.specialBack hx (y := (⟨"java/lang/String", "<init>", "([BB)V"⟩ : MethodName)) rfl hown (mvT hZ (hw _ (List.mem_of_getElem? (i := 41) rfl))) (mvT hZ (hw _ (List.mem_of_getElem? (i := 42) rfl))) (mvT hZ (hw _ (List.mem_of_getElem? (i := 43) rfl))) (by decide) (backOf (W := 1) (rm10 l Z aw hw [] (rs) (rb5) ((0 : Int32)) (T5.heap) n0 z12 f9 f10 f11 g_rs) hZ (hw _ (List.mem_of_getElem? (i := 43) rfl)) (hw _ (List.mem_of_getElem? (i := 3) rfl)) (by decide) (by decide)) (g := (mkF m 22 #[.val (.int p0)] [(.int (0 : Int32)), (.ref rb5), (.ref rs), (.ref rs)])) rfl (by rw [hml]; rfl) (Steps.refl _) (a := rs) (argsL := [(.ref rb5), (.int (0 : Int32))]) (rest := [(.ref rs)]) (lenOf pd_6 rfl) rfl (by show 2 * 0 + _ ≤ _; exact Nat.le_of_eq rfl) (hb hby d7_22) (fun _ _ => ⟨rfl, rfl, (by decide : 2 + 0 ≤ _), (by decide : 5 + 0 ≤ _)⟩)
  dsimp only [Pt.U, Pt.locs, Pt.cells, Pt.slots] at X8 l8 y8 z8 st8 hQ8
  subst l8 y8 z8
  obtain ⟨rfl, Nq8, K8, po8_0⟩ := hQ8
  have N8 := Fr.app N5 Nq8
  have kp13 : Keep h0 T8.heap [] := kp7.trans K8 (allS (Or.inr sz_rs) all0)
  obtain ⟨fs, hr, hrun, hended, hW, hsame⟩ := X8.leave (v := some (.ref rs)) (fun h => by rw [Bd.returns] at h; cases h)
  refine ⟨_, _, pre0 _ ?_, hrun, hended, _, _, rfl, ?_, ⟨_, rfl⟩, hW, hsame.mono (by decide) (by decide)⟩
  · show Steps p.tables e below (s₁.setTop (mkF m 0 #[.val (.int p0)] [])) _
    refine st1 _ ?_
    refine XS.ifNo X1.here hx rfl (hb hby d7_3) rfl ((if0 _ _).trans (feq hc3).1) ?_
    refine XS.iloadN X1.here hx rfl (hb hby d7_6) rfl ?_
    refine st2 _ ?_
    refine XS.ifNo X2.here hx rfl (hb hby d7_10) rfl ((if0 _ _).trans (feq hc10).1) ?_
    show Steps p.tables e below (T2.setTop (mkF m 13 #[.val (.int p0)] [])) _
    refine st3 _ ?_
    refine XS.dup X3.here hx rfl (hb hby d7_16) rfl rfl ?_
    refine XS.iloadN X3.here hx rfl (hb hby d7_17) rfl ?_
    refine st5 _ ?_
    refine XS.iconst X5.here hx rfl (hb hby d7_21) ?_
    show Steps p.tables e below (T5.setTop (mkF m 22 #[.val (.int p0)] [(.int (0 : Int32)), (.ref rb5), (.ref rs), (.ref rs)])) _
    refine st8.trans ?_
    show Steps p.tables e below (T8.setTop (mkF m 25 #[.val (.int p0)] [(.ref rs)])) _
    exact retR X8 hx (v := (.ref rs)) rfl Bd.returns rfl (hb hby d7_25) hr
  · show Q7 Z p0 cv h0 n0 _ T8.heap _
    unfold Q7
    refine ⟨rs, rfl, N8, kp13, sz_rs⟩
theorem d12_0 : decode jdk_30_method_1_code 0 = .ok (.aload_n 0, 1) := by decide +kernel
theorem d12_1 : decode jdk_30_method_1_code 1 = .ok (.invokespecial 1, 3) := by decide +kernel
theorem d12_4 : decode jdk_30_method_1_code 4 = .ok (.return_, 1) := by decide +kernel
theorem pn_3 : plainName "java/lang/Record" = true := by first | (simp [plainName, overriddenIn]; done) | decide +kernel
theorem ef_12 (m : MethodId) (a0 : Addr) : entryFrame m #[(.ref a0)] 1 = mkF m 0 #[.val (.ref a0)] [] := by first | (simp [entryFrame, mkF, argsToLocals, Value.category]; done) | rfl
def Q12 (Z : State) (a0 : Addr) (h0 : Heap) (n0 : Nat) (v : Option Value) (h : Heap) (L : List Loc) : Prop := v = none ∧ Fr n0 L ∧ h = h0
set_option maxRecDepth 65536 in
set_option maxHeartbeats 40000000 in
theorem rm12 (l : Launch) (Z : State) (aw : Array Value) (hw : ∀ d ∈ tables_1, d.before aw Z = true) (wq : List Jvm.Cond) (a0 : Addr) (h0 : Heap) (n0 : Nat) (Z0 : n0 ≤ h0.size) :
    MetFree l (⟨"java/lang/Record", "<init>", "()V"⟩ : MethodName) (head1 (Jvm.Cond.code (⟨"java/lang/Record", "<init>", "()V"⟩ : MethodName) jdk_30_method_1_code 1 none :: wq) ({ frames := 1, cells := 0, slots := 0, locals := 12 } : Room)) (fun a U => a = #[(.ref a0)] ∧ Z.Warmed39 U.vm ∧ U.heap = h0) (fun _ _ _ _ _ => True) (fun _ U o U' => ∃ v L, o = .returned v ∧ Q12 Z a0 h0 n0 v U'.heap L ∧ FrameEnd U o U' L ({ frames := 1, cells := 0, slots := 0, locals := 12 } : Room).cells ({ frames := 1, cells := 0, slots := 0, locals := 12 } : Room).slots) := by
  refine MetFree.of_bodySF (plainFor_of_name pn_3) hisR ?_
  intro p e s m args below meth c s₁ Bd hml0 hP hK
  obtain ⟨rfl, hZ, hh⟩ := hP
  have hx := Bd.exec
  have hby := Bd.bytes
  have hml : c.maxLocals = 1 := hml0
  have hown : s.vm.findClass "java/lang/Record" = some m.cls := findClass_of_methodNamed Bd.named
  have hnm := (name_of_methodNamed Bd.named Bd.method).1
  have X0 : Stand p l e ({ frames := 1, cells := 0, slots := 0, locals := 12 } : Room) s m #[(.ref a0)] below meth c s₁ [] 0 0 := Stand.of_body Bd
  have e0 : s₁.heap = h0 := by rw [← hh, Bd.state]; rfl
  have N0 := Fr.nil n0
  have pre0 : own_Pre p e below (s₁.setTop (entryFrame m #[(.ref a0)] 1)) (s₁.setTop (mkF m 0 #[.val (.ref a0)] [])) := fun t k => castTop (ef_12 m a0) k
  obtain ⟨T1, X1, e1, st1⟩ := initO X0 hx hZ hown (hw _ (List.mem_of_getElem? (i := 55) rfl)) (hw _ (List.mem_of_getElem? (i := 12) rfl)) (hw _ (List.mem_of_getElem? (i := 13) rfl)) e0 (g := (mkF m 1 #[.val (.ref a0)] [(.ref a0)])) rfl (by rw [hml]; rfl) rfl (hb hby d12_1) (by decide) (W := 0) (by show 2 * 0 + _ ≤ _; exact Nat.le_of_eq rfl) (by decide)
  obtain ⟨fs, hr, hrun, hended, hW, hsame⟩ := X1.leave (v := none) (fun _ => rfl)
  refine ⟨_, _, pre0 _ ?_, hrun, hended, _, _, rfl, ?_, ⟨_, rfl⟩, hW, hsame.mono (by decide) (by decide)⟩
  · show Steps p.tables e below (s₁.setTop (mkF m 0 #[.val (.ref a0)] [])) _
    refine XS.aloadN X0.here hx rfl (hb hby d12_0) rfl rfl ?_
    refine st1 _ ?_
    show Steps p.tables e below (T1.setTop (mkF m 4 #[.val (.ref a0)] [])) _
    exact X1.returnOut hx Bd.returns (hb hby d12_4) hr
  · show Q12 Z a0 h0 n0 _ T1.heap _
    rw [e1]
    unfold Q12
    refine ⟨rfl, N0, rfl⟩
theorem d11_0 : decode prog_44_method_1_code 0 = .ok (.aload_n 0, 1) := by decide +kernel
theorem d11_1 : decode prog_44_method_1_code 1 = .ok (.invokespecial 1, 3) := by decide +kernel
theorem d11_4 : decode prog_44_method_1_code 4 = .ok (.aload_n 0, 1) := by decide +kernel
theorem d11_5 : decode prog_44_method_1_code 5 = .ok (.iload_n 1, 1) := by decide +kernel
theorem d11_6 : decode prog_44_method_1_code 6 = .ok (.putfield 7, 3) := by decide +kernel
theorem d11_9 : decode prog_44_method_1_code 9 = .ok (.aload_n 0, 1) := by decide +kernel
theorem d11_10 : decode prog_44_method_1_code 10 = .ok (.aload_n 2, 1) := by decide +kernel
theorem d11_11 : decode prog_44_method_1_code 11 = .ok (.putfield 13, 3) := by decide +kernel
theorem d11_14 : decode prog_44_method_1_code 14 = .ok (.aload_n 0, 1) := by decide +kernel
theorem d11_15 : decode prog_44_method_1_code 15 = .ok (.aload_n 3, 1) := by decide +kernel
theorem d11_16 : decode prog_44_method_1_code 16 = .ok (.putfield 17, 3) := by decide +kernel
theorem d11_19 : decode prog_44_method_1_code 19 = .ok (.return_, 1) := by decide +kernel
theorem pd_7 : parseMethodDescriptor "()V" = some ⟨[], none⟩ := by decide +kernel
theorem pn_4 : plainName "com/example/unicopy/unicopy/UniqueValue" = true := by first | (simp [plainName, overriddenIn]; done) | decide +kernel
theorem ef_11 (m : MethodId) (a0 : Addr) (p1 : Int32) (a2 : Addr) (a3 : Addr) : entryFrame m #[(.ref a0), (.int p1), (.ref a2), (.ref a3)] 4 = mkF m 0 #[.val (.ref a0), .val (.int p1), .val (.ref a2), .val (.ref a3)] [] := by first | (simp [entryFrame, mkF, argsToLocals, Value.category]; done) | rfl
def Q11 (Z : State) (a0 : Addr) (p1 : Int32) (a2 : Addr) (a3 : Addr) (h0 : Heap) (n0 : Nat) (v : Option Value) (h : Heap) (L : List Loc) : Prop := v = none ∧ Fr n0 L ∧ Keep h0 h [a0] ∧ Exa Z h a0 "com/example/unicopy/unicopy/UniqueValue" ∧ Fld Z h a0 "com/example/unicopy/unicopy/UniqueValue" "value" "Ljava/lang/String;" (.ref a3)
set_option maxRecDepth 65536 in
set_option maxHeartbeats 40000000 in
theorem rm11 (l : Launch) (Z : State) (aw : Array Value) (hw : ∀ d ∈ tables_1, d.before aw Z = true) (wq : List Jvm.Cond) (a0 : Addr) (p1 : Int32) (a2 : Addr) (a3 : Addr) (h0 : Heap) (n0 : Nat) (Z0 : n0 ≤ h0.size) (E_a0 : Exa Z h0 a0 "com/example/unicopy/unicopy/UniqueValue") (F_a0_change : Fld Z h0 a0 "com/example/unicopy/unicopy/UniqueValue" "change" "I" (.int (0 : Int32))) (F_a0_index : Fld Z h0 a0 "com/example/unicopy/unicopy/UniqueValue" "index" "Ljava/lang/String;" .null) (F_a0_value : Fld Z h0 a0 "com/example/unicopy/unicopy/UniqueValue" "value" "Ljava/lang/String;" .null) (g_a0 : n0 ≤ a0) :
    MetFree l (⟨"com/example/unicopy/unicopy/UniqueValue", "<init>", "(ILjava/lang/String;Ljava/lang/String;)V"⟩ : MethodName) (head1 (Jvm.Cond.code (⟨"com/example/unicopy/unicopy/UniqueValue", "<init>", "(ILjava/lang/String;Ljava/lang/String;)V"⟩ : MethodName) prog_44_method_1_code 4 none :: wq) ({ frames := 2, cells := 0, slots := 0, locals := 24 } : Room)) (fun a U => a = #[(.ref a0), (.int p1), (.ref a2), (.ref a3)] ∧ Z.Warmed39 U.vm ∧ U.heap = h0) (fun _ _ _ _ _ => True) (fun _ U o U' => ∃ v L, o = .returned v ∧ Q11 Z a0 p1 a2 a3 h0 n0 v U'.heap L ∧ FrameEnd U o U' L ({ frames := 2, cells := 0, slots := 0, locals := 24 } : Room).cells ({ frames := 2, cells := 0, slots := 0, locals := 24 } : Room).slots) := by
  refine MetFree.of_bodySF (plainFor_of_name pn_4) hisR ?_
  intro p e s m args below meth c s₁ Bd hml0 hP hK
  obtain ⟨rfl, hZ, hh⟩ := hP
  have hx := Bd.exec
  have hby := Bd.bytes
  have hml : c.maxLocals = 4 := hml0
  have hown : s.vm.findClass "com/example/unicopy/unicopy/UniqueValue" = some m.cls := findClass_of_methodNamed Bd.named
  have hnm := (name_of_methodNamed Bd.named Bd.method).1
  have X0 : Stand p l e ({ frames := 2, cells := 0, slots := 0, locals := 24 } : Room) s m #[(.ref a0), (.int p1), (.ref a2), (.ref a3)] below meth c s₁ [] 0 0 := Stand.of_body Bd
  have e0 : s₁.heap = h0 := by rw [← hh, Bd.state]; rfl
  have N0 := Fr.nil n0
  have pre0 : own_Pre p e below (s₁.setTop (entryFrame m #[(.ref a0), (.int p1), (.ref a2), (.ref a3)] 4)) (s₁.setTop (mkF m 0 #[.val (.ref a0), .val (.int p1), .val (.ref a2), .val (.ref a3)] [])) := fun t k => castTop (ef_11 m a0 p1 a2 a3) k
  obtain ⟨_, _, ⟨T1, L1, k1, n1⟩, -, X1, ⟨Lc1, hQ1, l1, y1, z1⟩, st1⟩ := X0.specialBack hx (y := (⟨"java/lang/Record", "<init>", "()V"⟩ : MethodName)) rfl hown (mvT hZ (hw _ (List.mem_of_getElem? (i := 50) rfl))) (mvT hZ (hw _ (List.mem_of_getElem? (i := 51) rfl))) (mvT hZ (hw _ (List.mem_of_getElem? (i := 54) rfl))) (by decide) (backOf (W := 0) (rm12 l Z aw hw [] (a0) (h0) n0 Z0) hZ (hw _ (List.mem_of_getElem? (i := 54) rfl)) (hw _ (List.mem_of_getElem? (i := 53) rfl)) (by decide) (by decide)) (g := (mkF m 1 #[.val (.ref a0), .val (.int p1), .val (.ref a2), .val (.ref a3)] [(.ref a0)])) rfl (by rw [hml]; rfl) (Steps.refl _) (a := a0) (argsL := []) (rest := []) (lenOf pd_7 rfl) rfl (by show 2 * 0 + _ ≤ _; exact Nat.le_of_eq rfl) (hb hby d11_1) (fun _ _ => ⟨rfl, e0, (by decide : 0 + 0 ≤ _), (by decide : 0 + 0 ≤ _)⟩)
  dsimp only [Pt.U, Pt.locs, Pt.cells, Pt.slots] at X1 l1 y1 z1 st1 hQ1
  subst l1 y1 z1
  obtain ⟨rfl, Nq1, eq1⟩ := hQ1
  have N1 := Fr.app N0 Nq1
  obtain ⟨T2, h2, X2, e2, W2, st2⟩ := putF X1 hx hZ hown (host := "") (Or.inl (hw _ (List.mem_of_getElem? (i := 56) rfl))) Via.refl eq1 F_a0_change E_a0 (Or.inr ⟨(hw _ (List.mem_of_getElem? (i := 57) rfl)), rfl, hnm⟩) (hw _ (List.mem_of_getElem? (i := 45) rfl)) (ty := .int) (by decide) rfl rfl (g := (mkF m 6 #[.val (.ref a0), .val (.int p1), .val (.ref a2), .val (.ref a3)] [(.int p1), (.ref a0)])) rfl rfl (hb hby d11_6)
  have Fw2 := F_a0_change.same W2
  have N2 := Fr.snoc X2 N1 g_a0
  have kp3 : Keep h0 h2 [a0] := (Keep.refl h0 [a0]).wr W2 (Or.inl (List.mem_of_getElem? (i := 0) rfl))
  have f4 := (E_a0.wr W2)
  have f5 := (F_a0_index.other W2 (Or.inr (slot_ne (Or.inr (hw _ (List.mem_of_getElem? (i := 59) rfl))) (Or.inr (hw _ (List.mem_of_getElem? (i := 57) rfl))) (by decide) (t := (.object "java/lang/String")) (t' := .int) (by decide) (by decide))))
  obtain ⟨T6, h6, X6, e6, W6, st6⟩ := putF X2 hx hZ hown (host := "") (Or.inl (hw _ (List.mem_of_getElem? (i := 58) rfl))) Via.refl e2 f5 f4 (Or.inr ⟨(hw _ (List.mem_of_getElem? (i := 59) rfl)), rfl, hnm⟩) (hw _ (List.mem_of_getElem? (i := 45) rfl)) (ty := (.object "java/lang/String")) (by decide) rfl rfl (g := (mkF m 11 #[.val (.ref a0), .val (.int p1), .val (.ref a2), .val (.ref a3)] [(.ref a2), (.ref a0)])) rfl rfl (hb hby d11_11)
  have Fw6 := f5.same W6
  have N6 := Fr.snoc X6 N2 g_a0
  have kp7 : Keep h0 h6 [a0] := kp3.wr W6 (Or.inl (List.mem_of_getElem? (i := 0) rfl))
  have f8 := (f4.wr W6)
  have f9 := ((F_a0_value.other W2 (Or.inr (slot_ne (Or.inr (hw _ (List.mem_of_getElem? (i := 61) rfl))) (Or.inr (hw _ (List.mem_of_getElem? (i := 57) rfl))) (by decide) (t := (.object "java/lang/String")) (t' := .int) (by decide) (by decide)))).other W6 (Or.inr (slot_ne (Or.inr (hw _ (List.mem_of_getElem? (i := 61) rfl))) (Or.inr (hw _ (List.mem_of_getElem? (i := 59) rfl))) (by decide) (t := (.object "java/lang/String")) (t' := (.object "java/lang/String")) (by decide) (by decide))))
  obtain ⟨T10, h10, X10, e10, W10, st10⟩ := putF X6 hx hZ hown (host := "") (Or.inl (hw _ (List.mem_of_getElem? (i := 60) rfl))) Via.refl e6 f9 f8 (Or.inr ⟨(hw _ (List.mem_of_getElem? (i := 61) rfl)), rfl, hnm⟩) (hw _ (List.mem_of_getElem? (i := 45) rfl)) (ty := (.object "java/lang/String")) (by decide) rfl rfl (g := (mkF m 16 #[.val (.ref a0), .val (.int p1), .val (.ref a2), .val (.ref a3)] [(.ref a3), (.ref a0)])) rfl rfl (hb hby d11_16)
  have Fw10 := f9.same W10
  have N10 := Fr.snoc X10 N6 g_a0
  have kp11 : Keep h0 h10 [a0] := kp7.wr W10 (Or.inl (List.mem_of_getElem? (i := 0) rfl))
  obtain ⟨fs, hr, hrun, hended, hW, hsame⟩ := X10.leave (v := none) (fun _ => rfl)
  refine ⟨_, _, pre0 _ ?_, hrun, hended, _, _, rfl, ?_, ⟨_, rfl⟩, hW, hsame.mono (by decide) (by decide)⟩
  · show Steps p.tables e below (s₁.setTop (mkF m 0 #[.val (.ref a0), .val (.int p1), .val (.ref a2), .val (.ref a3)] [])) _
    refine XS.aloadN X0.here hx rfl (hb hby d11_0) rfl rfl ?_
    refine st1.trans ?_
    refine XS.aloadN X1.here hx rfl (hb hby d11_4) rfl rfl ?_
    refine XS.iloadN X1.here hx rfl (hb hby d11_5) rfl ?_
    refine st2 _ ?_
    show Steps p.tables e below (T2.setTop (mkF m 9 #[.val (.ref a0), .val (.int p1), .val (.ref a2), .val (.ref a3)] [])) _
    refine XS.aloadN X2.here hx rfl (hb hby d11_9) rfl rfl ?_
    refine XS.aloadN X2.here hx rfl (hb hby d11_10) rfl rfl ?_
    refine st6 _ ?_
    refine XS.aloadN X6.here hx rfl (hb hby d11_14) rfl rfl ?_
    refine XS.aloadN X6.here hx rfl (hb hby d11_15) rfl rfl ?_
    show Steps p.tables e below (T6.setTop (mkF m 16 #[.val (.ref a0), .val (.int p1), .val (.ref a2), .val (.ref a3)] [(.ref a3), (.ref a0)])) _
    refine st10 _ ?_
    show Steps p.tables e below (T10.setTop (mkF m 19 #[.val (.ref a0), .val (.int p1), .val (.ref a2), .val (.ref a3)] [])) _
    exact X10.returnOut hx Bd.returns (hb hby d11_19) hr
  · show Q11 Z a0 p1 a2 a3 h0 n0 _ T10.heap _
    rw [e10]
    unfold Q11
    have f12 := (f8.wr W10)
    refine ⟨rfl, N10, kp11, f12, ?_⟩
    · exact Fw10
theorem d14_0 : decode jdk_42_method_55_code 0 = .ok (.aload_n 0, 1) := by decide +kernel
theorem d14_1 : decode jdk_42_method_55_code 1 = .ok (.getfield 9, 3) := by decide +kernel
theorem d14_4 : decode jdk_42_method_55_code 4 = .ok (.arraylength, 1) := by decide +kernel
theorem d14_5 : decode jdk_42_method_55_code 5 = .ok (.ifCond .ne 7, 3) := by decide +kernel
theorem d14_8 : decode jdk_42_method_55_code 8 = .ok (.iconst 1, 1) := by decide +kernel
theorem d14_9 : decode jdk_42_method_55_code 9 = .ok (.goto 4, 3) := by decide +kernel
theorem d14_12 : decode jdk_42_method_55_code 12 = .ok (.iconst 0, 1) := by decide +kernel
theorem d14_13 : decode jdk_42_method_55_code 13 = .ok (.ireturn, 1) := by decide +kernel
theorem ef_14 (m : MethodId) (a0 : Addr) : entryFrame m #[(.ref a0)] 1 = mkF m 0 #[.val (.ref a0)] [] := by first | (simp [entryFrame, mkF, argsToLocals, Value.category]; done) | rfl
def own_f14 (zb : Int32) : Int32 := (if zb = (0 : Int32) then (1 : Int32) else (0 : Int32))
def Q14 (Z : State) (a0 : Addr) (bv : Addr) (kb : ClassId) (zb : Int32) (wb : List Int32) (h0 : Heap) (n0 : Nat) (v : Option Value) (h : Heap) (L : List Loc) : Prop := v = some (.int (own_f14 zb)) ∧ Fr n0 L ∧ h = h0
set_option maxRecDepth 65536 in
set_option maxHeartbeats 40000000 in
theorem rm14 (l : Launch) (Z : State) (aw : Array Value) (hw : ∀ d ∈ tables_1, d.before aw Z = true) (wq : List Jvm.Cond) (a0 : Addr) (bv : Addr) (kb : ClassId) (zb : Int32) (wb : List Int32) (h0 : Heap) (n0 : Nat) (Z0 : n0 ≤ h0.size) (F_a0_value : Fld Z h0 a0 "java/lang/String" "value" "[B" (.ref bv)) (V_bv : own_AI Z h0 bv kb .byte zb wb) :
    MetFree l (⟨"java/lang/String", "isEmpty", "()Z"⟩ : MethodName) (head1 (Jvm.Cond.code (⟨"java/lang/String", "isEmpty", "()Z"⟩ : MethodName) jdk_42_method_55_code 1 (some .boolean) :: wq) ({ frames := 0, cells := 0, slots := 0, locals := 0 } : Room)) (fun a U => a = #[(.ref a0)] ∧ Z.Warmed39 U.vm ∧ U.heap = h0) (fun _ _ _ _ _ => True) (fun _ U o U' => ∃ v L, o = .returned v ∧ Q14 Z a0 bv kb zb wb h0 n0 v U'.heap L ∧ FrameEnd U o U' L ({ frames := 0, cells := 0, slots := 0, locals := 0 } : Room).cells ({ frames := 0, cells := 0, slots := 0, locals := 0 } : Room).slots) := by
  refine MetFree.of_bodySF (plainFor_of_name pn_1) hisR ?_
  intro p e s m args below meth c s₁ Bd hml0 hP hK
  obtain ⟨rfl, hZ, hh⟩ := hP
  have hx := Bd.exec
  have hby := Bd.bytes
  have hml : c.maxLocals = 1 := hml0
  have hown : s.vm.findClass "java/lang/String" = some m.cls := findClass_of_methodNamed Bd.named
  have hnm := (name_of_methodNamed Bd.named Bd.method).1
  have X0 : Stand p l e ({ frames := 0, cells := 0, slots := 0, locals := 0 } : Room) s m #[(.ref a0)] below meth c s₁ [] 0 0 := Stand.of_body Bd
  have e0 : s₁.heap = h0 := by rw [← hh, Bd.state]; rfl
  have N0 := Fr.nil n0
  have pre0 : own_Pre p e below (s₁.setTop (entryFrame m #[(.ref a0)] 1)) (s₁.setTop (mkF m 0 #[.val (.ref a0)] [])) := fun t k => castTop (ef_14 m a0) k
  obtain ⟨T1, X1, e1, st1⟩ := getF X0 hx hZ hown (host := "") (Or.inl (hw _ (List.mem_of_getElem? (i := 28) rfl))) Via.refl e0 F_a0_value (g := (mkF m 1 #[.val (.ref a0)] [(.ref a0)])) rfl rfl (hb hby d14_1)
  obtain ⟨cl2, Ar2, S2, M2⟩ := V_bv.len
  have pre3 : own_Pre p e below (s₁.setTop (entryFrame m #[(.ref a0)] 1)) (T1.setTop (mkF m 5 #[.val (.ref a0)] [(.int zb)])) := fun t k => pre0 t (by
      show Steps p.tables e below (s₁.setTop (mkF m 0 #[.val (.ref a0)] [])) _
      refine XS.aloadN X0.here hx rfl (hb hby d14_0) rfl rfl ?_
      refine st1 _ ?_
      refine X1.arraylength hx (by rw [e1]; exact Ar2.1) (State.isArrayOf_alike hZ.alike Ar2.2.1) (g := (mkF m 4 #[.val (.ref a0)] [(.ref bv)])) rfl rfl (hb hby d14_4) _ ?_
      rw [len_of S2 M2]
      exact k)
  by_cases hc5 : zb = (0 : Int32)
  · obtain ⟨fs, hr, hrun, hended, hW, hsame⟩ := X1.leave (v := some (.int (1 : Int32))) (fun h => by rw [Bd.returns] at h; cases h)
    refine ⟨_, _, pre3 _ ?_, hrun, hended, _, _, rfl, ?_, ⟨_, rfl⟩, hW, hsame.mono (by decide) (by decide)⟩
    · show Steps p.tables e below (T1.setTop (mkF m 5 #[.val (.ref a0)] [(.int zb)])) _
      refine XS.ifNo X1.here hx rfl (hb hby d14_5) rfl ((if0 _ _).trans (teq hc5).2) ?_
      refine XS.iconst X1.here hx rfl (hb hby d14_8) ?_
      refine XS.goto X1.here hx rfl (pc0 := 9) (pc' := 13) rfl (hb hby d14_9) (by decide) (by decide) ?_
      show Steps p.tables e below (T1.setTop (mkF m 13 #[.val (.ref a0)] [(.int (1 : Int32))])) _
      exact retN X1 hx (t := .boolean) Bd.returns (by simp) (hb hby d14_13) hr
    · show Q14 Z a0 bv kb zb wb h0 n0 _ T1.heap _
      rw [e1]
      unfold Q14
      refine ⟨?_, N0, rfl⟩
      · simp only [own_f14, if_pos hc5]
  · obtain ⟨fs, hr, hrun, hended, hW, hsame⟩ := X1.leave (v := some (.int (0 : Int32))) (fun h => by rw [Bd.returns] at h; cases h)
    refine ⟨_, _, pre3 _ ?_, hrun, hended, _, _, rfl, ?_, ⟨_, rfl⟩, hW, hsame.mono (by decide) (by decide)⟩
    · show Steps p.tables e below (T1.setTop (mkF m 5 #[.val (.ref a0)] [(.int zb)])) _
      refine XS.ifYes X1.here hx rfl (pc0 := 5) (pc' := 12) rfl (hb hby d14_5) rfl ((if0 _ _).trans (feq hc5).2) (by decide) (by decide) ?_
      refine XS.iconst X1.here hx rfl (hb hby d14_12) ?_
      show Steps p.tables e below (T1.setTop (mkF m 13 #[.val (.ref a0)] [(.int (0 : Int32))])) _
      exact retN X1 hx (t := .boolean) Bd.returns (by simp) (hb hby d14_13) hr
    · show Q14 Z a0 bv kb zb wb h0 n0 _ T1.heap _
      rw [e1]
      unfold Q14
      refine ⟨?_, N0, rfl⟩
      · simp only [own_f14, if_neg hc5]
theorem d13_0 : decode prog_44_method_3_code 0 = .ok (.aload_n 0, 1) := by decide +kernel
theorem d13_1 : decode prog_44_method_3_code 1 = .ok (.getfield 17, 3) := by decide +kernel
theorem d13_4 : decode prog_44_method_3_code 4 = .ok (.invokevirtual 25, 3) := by decide +kernel
theorem d13_7 : decode prog_44_method_3_code 7 = .ok (.ifCond .ne 7, 3) := by decide +kernel
theorem d13_10 : decode prog_44_method_3_code 10 = .ok (.iconst 1, 1) := by decide +kernel
theorem d13_11 : decode prog_44_method_3_code 11 = .ok (.goto 4, 3) := by decide +kernel
theorem d13_14 : decode prog_44_method_3_code 14 = .ok (.iconst 0, 1) := by decide +kernel
theorem d13_15 : decode prog_44_method_3_code 15 = .ok (.ireturn, 1) := by decide +kernel
theorem pd_8 : parseMethodDescriptor "()Z" = some ⟨[], some .boolean⟩ := by decide +kernel
theorem ef_13 (m : MethodId) (a0 : Addr) : entryFrame m #[(.ref a0)] 1 = mkF m 0 #[.val (.ref a0)] [] := by first | (simp [entryFrame, mkF, argsToLocals, Value.category]; done) | rfl
def own_f13 (zb : Int32) : Int32 := (if (own_f14 zb) = (0 : Int32) then (1 : Int32) else (0 : Int32))
def Q13 (Z : State) (a0 : Addr) (sv : Addr) (bv : Addr) (kb : ClassId) (zb : Int32) (wb : List Int32) (h0 : Heap) (n0 : Nat) (v : Option Value) (h : Heap) (L : List Loc) : Prop := v = some (.int (own_f13 zb)) ∧ Fr n0 L ∧ h = h0
set_option maxRecDepth 65536 in
set_option maxHeartbeats 40000000 in
theorem rm13 (l : Launch) (Z : State) (aw : Array Value) (hw : ∀ d ∈ tables_1, d.before aw Z = true) (wq : List Jvm.Cond) (a0 : Addr) (sv : Addr) (bv : Addr) (kb : ClassId) (zb : Int32) (wb : List Int32) (h0 : Heap) (n0 : Nat) (Z0 : n0 ≤ h0.size) (E_a0 : Exa Z h0 a0 "com/example/unicopy/unicopy/UniqueValue") (F_a0_value : Fld Z h0 a0 "com/example/unicopy/unicopy/UniqueValue" "value" "Ljava/lang/String;" (.ref sv)) (E_sv : Exa Z h0 sv "java/lang/String") (F_sv_value : Fld Z h0 sv "java/lang/String" "value" "[B" (.ref bv)) (V_bv : own_AI Z h0 bv kb .byte zb wb) :
    MetFree l (⟨"com/example/unicopy/unicopy/UniqueValue", "named", "()Z"⟩ : MethodName) (head1 (Jvm.Cond.code (⟨"com/example/unicopy/unicopy/UniqueValue", "named", "()Z"⟩ : MethodName) prog_44_method_3_code 1 (some .boolean) :: wq) ({ frames := 1, cells := 0, slots := 0, locals := 12 } : Room)) (fun a U => a = #[(.ref a0)] ∧ Z.Warmed39 U.vm ∧ U.heap = h0) (fun _ _ _ _ _ => True) (fun _ U o U' => ∃ v L, o = .returned v ∧ Q13 Z a0 sv bv kb zb wb h0 n0 v U'.heap L ∧ FrameEnd U o U' L ({ frames := 1, cells := 0, slots := 0, locals := 12 } : Room).cells ({ frames := 1, cells := 0, slots := 0, locals := 12 } : Room).slots) := by
  refine MetFree.of_bodySF (plainFor_of_name pn_4) hisR ?_
  intro p e s m args below meth c s₁ Bd hml0 hP hK
  obtain ⟨rfl, hZ, hh⟩ := hP
  have hx := Bd.exec
  have hby := Bd.bytes
  have hml : c.maxLocals = 1 := hml0
  have hown : s.vm.findClass "com/example/unicopy/unicopy/UniqueValue" = some m.cls := findClass_of_methodNamed Bd.named
  have hnm := (name_of_methodNamed Bd.named Bd.method).1
  have X0 : Stand p l e ({ frames := 1, cells := 0, slots := 0, locals := 12 } : Room) s m #[(.ref a0)] below meth c s₁ [] 0 0 := Stand.of_body Bd
  have e0 : s₁.heap = h0 := by rw [← hh, Bd.state]; rfl
  have N0 := Fr.nil n0
  have pre0 : own_Pre p e below (s₁.setTop (entryFrame m #[(.ref a0)] 1)) (s₁.setTop (mkF m 0 #[.val (.ref a0)] [])) := fun t k => castTop (ef_13 m a0) k
  obtain ⟨T1, X1, e1, st1⟩ := getF X0 hx hZ hown (host := "") (Or.inl (hw _ (List.mem_of_getElem? (i := 60) rfl))) Via.refl e0 F_a0_value (g := (mkF m 1 #[.val (.ref a0)] [(.ref a0)])) rfl rfl (hb hby d13_1)
  obtain ⟨cq2, kq2, q2a, q2b, q2c⟩ := isOf hZ e1 E_sv
  obtain ⟨_, _, ⟨T2, L2, k2, n2⟩, -, X2, ⟨Lc2, hQ2, l2, y2, z2⟩, st2⟩ := X1.virtualBack hx (y := (⟨"java/lang/String", "isEmpty", "()Z"⟩ : MethodName)) (z := (⟨"java/lang/String", "isEmpty", "()Z"⟩ : MethodName)) hown (mvT hZ (hw _ (List.mem_of_getElem? (i := 67) rfl))) (mvT hZ (hw _ (List.mem_of_getElem? (i := 68) rfl))) (notFace_of_selects (args := #[]) (mvT hZ (hw _ (List.mem_of_getElem? (i := 70) rfl)))) (mvT hZ (hw _ (List.mem_of_getElem? (i := 70) rfl))) (mvT hZ (hw _ (List.mem_of_getElem? (i := 69) rfl))) (by decide) (backOf (W := 0) (rm14 l Z aw hw [] (sv) (bv) (kb) (zb) (wb) (h0) n0 Z0 F_sv_value V_bv) hZ (hw _ (List.mem_of_getElem? (i := 71) rfl)) (hw _ (List.mem_of_getElem? (i := 3) rfl)) (by decide) (by decide)) q2a q2c (g := (mkF m 4 #[.val (.ref a0)] [(.ref sv)])) rfl (by rw [hml]; rfl) (Steps.refl _) (argsL := []) (rest := []) (lenOf pd_8 rfl) rfl (by show 2 * 0 + _ ≤ _; exact Nat.le_of_eq rfl) (hb hby d13_4) (fun _ _ => ⟨rfl, e1, (by decide : 0 + 0 ≤ _), (by decide : 0 + 0 ≤ _)⟩)
  dsimp only [Pt.U, Pt.locs, Pt.cells, Pt.slots] at X2 l2 y2 z2 st2 hQ2
  subst l2 y2 z2
  obtain ⟨rfl, Nq2, eq2⟩ := hQ2
  have N2 := Fr.app N0 Nq2
  have pre3 : own_Pre p e below (s₁.setTop (entryFrame m #[(.ref a0)] 1)) (T2.setTop (mkF m 7 #[.val (.ref a0)] [(.int (own_f14 zb))])) := fun t k => pre0 t (by
      show Steps p.tables e below (s₁.setTop (mkF m 0 #[.val (.ref a0)] [])) _
      refine XS.aloadN X0.here hx rfl (hb hby d13_0) rfl rfl ?_
      refine st1 _ ?_
      refine st2.trans ?_
      exact k)
  by_cases hc7 : (own_f14 zb) = (0 : Int32)
  · obtain ⟨fs, hr, hrun, hended, hW, hsame⟩ := X2.leave (v := some (.int (1 : Int32))) (fun h => by rw [Bd.returns] at h; cases h)
    refine ⟨_, _, pre3 _ ?_, hrun, hended, _, _, rfl, ?_, ⟨_, rfl⟩, hW, hsame.mono (by decide) (by decide)⟩
    · show Steps p.tables e below (T2.setTop (mkF m 7 #[.val (.ref a0)] [(.int (own_f14 zb))])) _
      refine XS.ifNo X2.here hx rfl (hb hby d13_7) rfl ((if0 _ _).trans (teq hc7).2) ?_
      refine XS.iconst X2.here hx rfl (hb hby d13_10) ?_
      refine XS.goto X2.here hx rfl (pc0 := 11) (pc' := 15) rfl (hb hby d13_11) (by decide) (by decide) ?_
      show Steps p.tables e below (T2.setTop (mkF m 15 #[.val (.ref a0)] [(.int (1 : Int32))])) _
      exact retN X2 hx (t := .boolean) Bd.returns (by simp) (hb hby d13_15) hr
    · show Q13 Z a0 sv bv kb zb wb h0 n0 _ T2.heap _
      rw [eq2]
      unfold Q13
      refine ⟨?_, N2, rfl⟩
      · simp only [own_f13, if_pos hc7]
  · obtain ⟨fs, hr, hrun, hended, hW, hsame⟩ := X2.leave (v := some (.int (0 : Int32))) (fun h => by rw [Bd.returns] at h; cases h)
    refine ⟨_, _, pre3 _ ?_, hrun, hended, _, _, rfl, ?_, ⟨_, rfl⟩, hW, hsame.mono (by decide) (by decide)⟩
    · show Steps p.tables e below (T2.setTop (mkF m 7 #[.val (.ref a0)] [(.int (own_f14 zb))])) _
      refine XS.ifYes X2.here hx rfl (pc0 := 7) (pc' := 14) rfl (hb hby d13_7) rfl ((if0 _ _).trans (feq hc7).2) (by decide) (by decide) ?_
      refine XS.iconst X2.here hx rfl (hb hby d13_14) ?_
      show Steps p.tables e below (T2.setTop (mkF m 15 #[.val (.ref a0)] [(.int (0 : Int32))])) _
      exact retN X2 hx (t := .boolean) Bd.returns (by simp) (hb hby d13_15) hr
    · show Q13 Z a0 sv bv kb zb wb h0 n0 _ T2.heap _
      rw [eq2]
      unfold Q13
      refine ⟨?_, N2, rfl⟩
      · simp only [own_f13, if_neg hc7]
theorem d15_0 : decode prog_44_method_2_code 0 = .ok (.new 8, 3) := by decide +kernel
theorem d15_3 : decode prog_44_method_2_code 3 = .ok (.dup, 1) := by decide +kernel
theorem d15_4 : decode prog_44_method_2_code 4 = .ok (.iload_n 0, 1) := by decide +kernel
theorem d15_5 : decode prog_44_method_2_code 5 = .ok (.aload_n 1, 1) := by decide +kernel
theorem d15_6 : decode prog_44_method_2_code 6 = .ok (.ldc 20, 2) := by decide +kernel
theorem d15_8 : decode prog_44_method_2_code 8 = .ok (.invokespecial 22, 3) := by decide +kernel
theorem d15_11 : decode prog_44_method_2_code 11 = .ok (.areturn, 1) := by decide +kernel
theorem pd_9 : parseMethodDescriptor "(ILjava/lang/String;Ljava/lang/String;)V" = some ⟨[.int, (.object "java/lang/String"), (.object "java/lang/String")], none⟩ := by decide +kernel
theorem ef_15 (m : MethodId) (p0 : Int32) (a1 : Addr) : entryFrame m #[(.int p0), (.ref a1)] 2 = mkF m 0 #[.val (.int p0), .val (.ref a1)] [] := by first | (simp [entryFrame, mkF, argsToLocals, Value.category]; done) | rfl
def Q15 (Z : State) (p0 : Int32) (a1 : Addr) (h0 : Heap) (n0 : Nat) (v : Option Value) (h : Heap) (L : List Loc) : Prop := ∃ (rv : Addr) (sv : Addr) (bv : Addr) (kb : ClassId), v = some (.ref rv) ∧ Fr n0 L ∧ Keep h0 h [] ∧ h0.size ≤ rv ∧ Exa Z h rv "com/example/unicopy/unicopy/UniqueValue" ∧ Fld Z h rv "com/example/unicopy/unicopy/UniqueValue" "value" "Ljava/lang/String;" (.ref sv) ∧ Exa Z h sv "java/lang/String" ∧ Fld Z h sv "java/lang/String" "value" "[B" (.ref bv) ∧ own_AI Z h bv kb .byte (0 : Int32) []
set_option maxRecDepth 65536 in
set_option maxHeartbeats 40000000 in
theorem rm15 (l : Launch) (Z : State) (aw : Array Value) (hw : ∀ d ∈ tables_1, d.before aw Z = true) (wq : List Jvm.Cond) (p0 : Int32) (a1 : Addr) (h0 : Heap) (n0 : Nat) (Z0 : n0 ≤ h0.size) :
    MetFree l (⟨"com/example/unicopy/unicopy/UniqueValue", "unnamed", "(ILjava/lang/String;)Lcom/example/unicopy/unicopy/UniqueValue;"⟩ : MethodName) (head1 (Jvm.Cond.code (⟨"com/example/unicopy/unicopy/UniqueValue", "unnamed", "(ILjava/lang/String;)Lcom/example/unicopy/unicopy/UniqueValue;"⟩ : MethodName) prog_44_method_2_code 2 (some (.object "com/example/unicopy/unicopy/UniqueValue")) :: wq) ({ frames := 3, cells := 3, slots := 7, locals := 40 } : Room)) (fun a U => a = #[(.int p0), (.ref a1)] ∧ Z.Warmed39 U.vm ∧ U.heap = h0 ∧ Jvm.RoadKit.CHv Z consts_1 U.vm h0) (fun _ _ _ _ _ => True) (fun _ U o U' => ∃ v L, o = .returned v ∧ Q15 Z p0 a1 h0 n0 v U'.heap L ∧ Jvm.RoadKit.CHr Z consts_1 U.vm U.heap U'.vm U'.heap ∧ ReturnedEndW U o U' L ({ frames := 3, cells := 3, slots := 7, locals := 40 } : Room).cells ({ frames := 3, cells := 3, slots := 7, locals := 40 } : Room).slots) := by
  refine MetFree.of_bodySF (plainFor_of_name pn_4) hisR ?_
  intro p e s m args below meth c s₁ Bd hml0 hP hK
  obtain ⟨rfl, hZ, hh, hC0⟩ := hP
  have hx := Bd.exec
  have hby := Bd.bytes
  have hml : c.maxLocals = 2 := hml0
  have hown : s.vm.findClass "com/example/unicopy/unicopy/UniqueValue" = some m.cls := findClass_of_methodNamed Bd.named
  have hnm := (name_of_methodNamed Bd.named Bd.method).1
  have X0 : Stand p l e ({ frames := 3, cells := 3, slots := 7, locals := 40 } : Room) (s.setVm s.vm) m #[(.int p0), (.ref a1)] below meth c s₁ [] 0 0 := Stand.of_body Bd
  have e0 : s₁.heap = h0 := by rw [← hh, Bd.state]; rfl
  have N0 := Fr.nil n0
  have pre0 : own_Pre p e below (s₁.setTop (entryFrame m #[(.int p0), (.ref a1)] 2)) (s₁.setTop (mkF m 0 #[.val (.int p0), .val (.ref a1)] [])) := fun t k => castTop (ef_15 m p0 a1) k
  have cr0 := Jvm.RoadKit.CHr.refl hC0
  have hS0 := State.WarmedH.since (State.WarmedH.refl s) h0.size
  have hk0 := Nat.le_refl h0.size
  obtain ⟨T1, h1, X1, e1, E1, A1, D1, -, st1⟩ := newO X0 hx hZ hown (hw _ (List.mem_of_getElem? (i := 75) rfl)) (hw _ (List.mem_of_getElem? (i := 45) rfl)) (hw _ (List.mem_of_getElem? (i := 46) rfl)) e0 (g := (mkF m 0 #[.val (.int p0), .val (.ref a1)] [])) rfl (hb hby d15_0) (by decide) (by decide)
  obtain ⟨rv, gq1⟩ : ∃ z, z = (h0).size := ⟨_, rfl⟩
  rw [← gq1] at A1 D1 st1
  have g_rv : n0 ≤ rv := Nat.le_trans Z0 (Nat.le_of_eq gq1.symm)
  have sz_rv : h0.size ≤ rv := Nat.le_trans (Keep.refl h0 []).1 (Nat.le_of_eq gq1.symm)
  have cs2 := Jvm.RoadKit.CHr.ext E1 cr0.1
  have cr2 := cr0.trans cs2
  have kp3 : Keep h0 h1 [] := (Keep.refl h0 []).ext E1
  have F_rv_change : Fld Z h1 rv "com/example/unicopy/unicopy/UniqueValue" "change" "I" (.int (0 : Int32)) := D1 (Or.inr (hw _ (List.mem_of_getElem? (i := 57) rfl))) (ty := .int) (by decide)
  have F_rv_index : Fld Z h1 rv "com/example/unicopy/unicopy/UniqueValue" "index" "Ljava/lang/String;" .null := D1 (Or.inr (hw _ (List.mem_of_getElem? (i := 59) rfl))) (ty := (.object "java/lang/String")) (by decide)
  have F_rv_value : Fld Z h1 rv "com/example/unicopy/unicopy/UniqueValue" "value" "Ljava/lang/String;" .null := D1 (Or.inr (hw _ (List.mem_of_getElem? (i := 61) rfl))) (ty := (.object "java/lang/String")) (by decide)
  have z5 : n0 ≤ (h1).size := (Nat.le_trans Z0 E1.1)
  have hk6 : _ ≤ (h1).size := (Nat.le_trans hk0 E1.1)
  obtain ⟨a4, T4, h4, k4, b4, c4, X4, e4, E4, hS4, hk4, hZ, hown, Ea4, Fc4, Fv4, Ab4, -, -, cs4, -, sn4, st4⟩ := Jvm.RoadKit.ldcCH X1 hx hZ hown (hw _ (List.mem_of_getElem? (i := 76) rfl)) (own_atoms hw) e1 hS0 hk6 (own_EW hw) (List.mem_of_getElem? (i := 0) rfl) cr2.1 (vs := []) (z := 0) own_nil (by decide) (by decide) (g := (mkF m 6 #[.val (.int p0), .val (.ref a1)] [(.ref a1), (.int p0), (.ref rv), (.ref rv)])) rfl (hb hby d15_6) (n := 0) (by decide) (by decide) (by decide) (by decide)
  have V4 : own_AI Z h4 b4 c4 .byte (0 : Int32) [] := ⟨Ab4, by decide⟩
  have cr4 := cr2.trans cs4
  have kp7 : Keep h0 h4 [] := kp3.ext E4
  have f8 := (A1.ext E4)
  have nn4_rv := sn4 rv (Jvm.RoadKit.Safe.exa hZ.alike f8 (by decide) (by decide))
  have f10 := (F_rv_change.ext E4)
  have f11 := (F_rv_index.ext E4)
  have f12 := (F_rv_value.ext E4)
  have z13 : n0 ≤ (h4).size := (Nat.le_trans z5 E4.1)
  obtain ⟨_, _, ⟨T9, L9, k9, n9⟩, -, X9, ⟨Lc9, hQ9, l9, y9, z9⟩, st9⟩ := X4.specialBack hx (y := (⟨"com/example/unicopy/unicopy/UniqueValue", "<init>", "(ILjava/lang/String;Ljava/lang/String;)V"⟩ : MethodName)) rfl hown (mvT hZ (hw _ (List.mem_of_getElem? (i := 79) rfl))) (mvT hZ (hw _ (List.mem_of_getElem? (i := 48) rfl))) (mvT hZ (hw _ (List.mem_of_getElem? (i := 49) rfl))) (by decide) (backOf (W := 1) (rm11 l Z aw hw [] (rv) (p0) (a1) (a4) (h4) n0 z13 f8 f10 f11 f12 g_rv) hZ (hw _ (List.mem_of_getElem? (i := 49) rfl)) (hw _ (List.mem_of_getElem? (i := 46) rfl)) (by decide) (by decide)) (g := (mkF m 8 #[.val (.int p0), .val (.ref a1)] [(.ref a4), (.ref a1), (.int p0), (.ref rv), (.ref rv)])) rfl (by rw [hml]; rfl) (Steps.refl _) (a := rv) (argsL := [(.int p0), (.ref a1), (.ref a4)]) (rest := [(.ref rv)]) (lenOf pd_9 rfl) rfl (by show 2 * 0 + _ ≤ _; exact Nat.le_of_eq rfl) (hb hby d15_8) (fun _ _ => ⟨rfl, e4, (by decide : 3 + 0 ≤ _), (by decide : 7 + 0 ≤ _)⟩)
  dsimp only [Pt.U, Pt.locs, Pt.cells, Pt.slots] at X9 l9 y9 z9 st9 hQ9
  subst l9 y9 z9
  obtain ⟨rfl, Nq9, K9, po9_0, po9_1⟩ := hQ9
  have N9 := Fr.app N0 Nq9
  have cs14 := Jvm.RoadKit.CHr.keep K9 (own_alS (Jvm.RoadKit.Safe.exa hZ.alike f8 (by decide) (by decide)) own_al0) cr4.1
  have cr14 := cr4.trans cs14
  have kp15 : Keep h0 T9.heap [] := kp7.trans K9 (allS (Or.inr sz_rv) all0)
  have hk16 : _ ≤ (T9.heap).size := (Nat.le_trans hk4 K9.1)
  obtain ⟨fs, hr, hrun, hended, hREW⟩ := X9.leaveW hS4 hk16 (v := some (.ref rv)) (fun h => by rw [Bd.returns] at h; cases h)
  refine ⟨_, _, pre0 _ ?_, hrun, hended, _, _, rfl, ?_, by rw [hh]; have hq := cr14.trans (Jvm.RoadKit.CHv.at X9 hZ (own_EW hw) cr14.1); exact hq, hREW.1, hREW.2.1, hREW.2.2.1, hREW.2.2.2.mono (by decide) (by decide)⟩
  · show Steps p.tables e below (s₁.setTop (mkF m 0 #[.val (.int p0), .val (.ref a1)] [])) _
    refine st1 _ ?_
    refine XS.dup X1.here hx rfl (hb hby d15_3) rfl rfl ?_
    refine XS.iloadN X1.here hx rfl (hb hby d15_4) rfl ?_
    refine XS.aloadN X1.here hx rfl (hb hby d15_5) rfl rfl ?_
    refine st4 _ ?_
    show Steps p.tables e below (T4.setTop (mkF m 8 #[.val (.int p0), .val (.ref a1)] [(.ref a4), (.ref a1), (.int p0), (.ref rv), (.ref rv)])) _
    refine st9.trans ?_
    show Steps p.tables e below (T9.setTop (mkF m 11 #[.val (.int p0), .val (.ref a1)] [(.ref rv)])) _
    exact retR X9 hx (v := (.ref rv)) rfl Bd.returns rfl (hb hby d15_11) hr
  · show Q15 Z p0 a1 h0 n0 _ T9.heap _
    unfold Q15
    have f17 := (Ea4.keep K9)
    have f18 := (Fv4.keep K9 (ninS (Ne.symm nn4_rv.1) nin0))
    have f19 := (V4.keep K9 (ninS (Ne.symm nn4_rv.2) nin0))
    refine ⟨rv, a4, b4, c4, rfl, N9, kp15, sz_rv, po9_0, ?_, f17, ?_, ?_⟩
    · exact po9_1
    · exact f18
    · exact f19
theorem pd_10 : parseMethodDescriptor "([C)V" = some ⟨[(.array .char)], none⟩ := by decide +kernel
theorem pd_11 : parseMethodDescriptor "(C)Ljava/lang/String;" = some ⟨[.char], some (.object "java/lang/String")⟩ := by decide +kernel
theorem pd_12 : parseMethodDescriptor "(ILjava/lang/String;)Lcom/example/unicopy/unicopy/UniqueValue;" = some ⟨[.int, (.object "java/lang/String")], some (.object "com/example/unicopy/unicopy/UniqueValue")⟩ := by decide +kernel
theorem pn_5 : plainName "com/example/unicopy/unicopy/UniqueValueNamedPinLaw" = true := by first | (simp [plainName, overriddenIn]; done) | decide +kernel
theorem ef_0 (m : MethodId) (p0 : Int32) (p1 : Int32) (p2 : Int32) (p3 : Int32) (p4 : Int32) (p5 : Int32) : entryFrame m #[(.int p0), (.int p1), (.int p2), (.int p3), (.int p4), (.int p5)] maxLocals = mkF m 0 #[.val (.int p0), .val (.int p1), .val (.int p2), .val (.int p3), .val (.int p4), .val (.int p5), .unset, .unset, .unset, .unset, .unset, .unset, .unset] [] := by first | (simp [entryFrame, mkF, argsToLocals, Value.category, maxLocals]; done) | rfl
def own_m0_122_s0 (v0 : Int32) : Int32 := (if v0 = (0 : Int32) then (0 : Int32) else (1 : Int32))
theorem own_rng {x p : Int32} (h : x = (p &&& (3 : Int32))) : ¬ x < (0 : Int32) ∧ x < (4 : Int32) := by
  have m := c_mask p 3 2 (by decide) (by decide)
  rw [← h] at m
  have e0 : (0 : Int32).toInt = 0 := rfl
  have e4 : (4 : Int32).toInt = 4 := rfl
  refine ⟨?_, ?_⟩ <;> rw [Int32.lt_iff_toInt_lt] <;> omega
theorem own_c2 (x : Int32) : ¬ (255 : Int32) < (((x &&& (255 : Int32))).toUInt32.toUInt16.toUInt32.toInt32) := by
  have m := c_mask x 255 8 (by decide) (by decide)
  have k := c_i2c (x &&& 255)
  have e : (255 : Int32).toInt = 255 := rfl
  rw [Int32.lt_iff_toInt_lt]; omega
theorem own_c (x : Int32) : ¬ (255 : Int32) < nar .char (((x &&& (255 : Int32))).toUInt32.toUInt16.toUInt32.toInt32) := by
  have m := c_mask x 255 8 (by decide) (by decide)
  have k := c_i2c (x &&& 255)
  have k2 := c_i2c ((x &&& 255).toUInt32.toUInt16.toUInt32.toInt32)
  have e : (255 : Int32).toInt = 255 := rfl
  show ¬ (255 : Int32) < ((x &&& 255).toUInt32.toUInt16.toUInt32.toInt32).toUInt32.toUInt16.toUInt32.toInt32
  rw [Int32.lt_iff_toInt_lt]; omega
theorem own_rep {n : Nat} : ∀ i : Nat, ¬ (255 : Int32) < (List.replicate n (0 : Int32)).getD i 0 := fun i => by
  rw [List.getD_eq_getElem?_getD, List.getElem?_replicate]; split <;> decide
theorem own_set {ws : List Int32} {j : Nat} {v : Int32} (h : ∀ i : Nat, ¬ (255 : Int32) < ws.getD i 0) (hv : ¬ (255 : Int32) < v) : ∀ i : Nat, ¬ (255 : Int32) < (ws.set j v).getD i 0 := fun i => by
  have hi := h i
  rw [List.getD_eq_getElem?_getD] at hi ⊢
  rw [List.getElem?_set]
  by_cases e : j = i
  · by_cases l : j < ws.length
    · rw [if_pos e, if_pos l]; exact hv
    · rw [if_pos e, if_neg l]; decide
  · rw [if_neg e]; exact hi
theorem own_named {x y : Int32} (h : y = own_m0_122_s0 x) : own_f13 x = y := by
  rw [h]; unfold own_f13 own_f14 own_m0_122_s0
  by_cases e : x = 0
  · simp [e]
  · simp [e]

def Q0 (Z : State) (p0 : Int32) (p1 : Int32) (p2 : Int32) (p3 : Int32) (p4 : Int32) (p5 : Int32) (cv : Int32) (h0 : Heap) (n0 : Nat) (v : Option Value) (h : Heap) (L : List Loc) : Prop := v = some (.int (1 : Int32)) ∧ Fr n0 L
set_option maxRecDepth 65536 in
set_option maxHeartbeats 40000000 in
theorem rm0 (l : Launch) (Z : State) (aw : Array Value) (hw : ∀ d ∈ tables_1, d.before aw Z = true) (wq : List Jvm.Cond) (p0 : Int32) (p1 : Int32) (p2 : Int32) (p3 : Int32) (p4 : Int32) (p5 : Int32) (cv : Int32) (h0 : Heap) (n0 : Nat) (Z0 : n0 ≤ h0.size) (S_COMPACT_STRINGS : Sta Z h0 "java/lang/String" "COMPACT_STRINGS" "Z" (.int cv)) (hcv : ¬ cv = (0 : Int32)) :
    MetFree l x (head1 (Jvm.Cond.code x code maxLocals ret :: wq) room_1) (fun a U => a = #[(.int p0), (.int p1), (.int p2), (.int p3), (.int p4), (.int p5)] ∧ Z.Warmed39 U.vm ∧ U.heap = h0 ∧ Jvm.RoadKit.CHv Z consts_1 U.vm h0) (fun _ _ _ _ _ => True) (fun _ U o U' => ∃ v L, o = .returned v ∧ Q0 Z p0 p1 p2 p3 p4 p5 cv h0 n0 v U'.heap L ∧ Jvm.RoadKit.CHr Z consts_1 U.vm U.heap U'.vm U'.heap ∧ ReturnedEndW U o U' L 12 30) := by
  refine MetFree.of_bodySF (plainFor_of_name pn_5) hisR ?_
  intro p e s m args below meth c s₁ Bd hml0 hP hK
  obtain ⟨rfl, hZ, hh, hC0⟩ := hP
  have hx := Bd.exec
  have hby := Bd.bytes
  have hml : c.maxLocals = 13 := hml0
  have hown : s.vm.findClass "com/example/unicopy/unicopy/UniqueValueNamedPinLaw" = some m.cls := findClass_of_methodNamed Bd.named
  have hnm := (name_of_methodNamed Bd.named Bd.method).1
  have X0 : Stand p l e room_1 (s.setVm s.vm) m #[(.int p0), (.int p1), (.int p2), (.int p3), (.int p4), (.int p5)] below meth c s₁ [] 0 0 := Stand.of_body Bd
  have e0 : s₁.heap = h0 := by rw [← hh, Bd.state]; rfl
  have N0 := Fr.nil n0
  have pre0 : own_Pre p e below (s₁.setTop (entryFrame m #[(.int p0), (.int p1), (.int p2), (.int p3), (.int p4), (.int p5)] maxLocals)) (s₁.setTop (mkF m 0 #[.val (.int p0), .val (.int p1), .val (.int p2), .val (.int p3), .val (.int p4), .val (.int p5), .unset, .unset, .unset, .unset, .unset, .unset, .unset] [])) := fun t k => castTop (ef_0 m p0 p1 p2 p3 p4 p5) k
  have cr0 := Jvm.RoadKit.CHr.refl hC0
  have hS0 := State.WarmedH.since (State.WarmedH.refl s) h0.size
  have hk0 := Nat.le_refl h0.size
  obtain ⟨x6_5, hx6_5, pre1⟩ : ∃ z : Int32, z = (p1 &&& (3 : Int32)) ∧ own_Pre p e below (s₁.setTop (entryFrame m #[(.int p0), (.int p1), (.int p2), (.int p3), (.int p4), (.int p5)] maxLocals)) (s₁.setTop (mkF m 5 #[.val (.int p0), .val (.int p1), .val (.int p2), .val (.int p3), .val (.int p4), .val (.int p5), .val (.int z), .unset, .unset, .unset, .unset, .unset, .unset] [])) := ⟨_, rfl, fun t k => pre0 t (by
      show Steps p.tables e below (s₁.setTop (mkF m 0 #[.val (.int p0), .val (.int p1), .val (.int p2), .val (.int p3), .val (.int p4), .val (.int p5), .unset, .unset, .unset, .unset, .unset, .unset, .unset] [])) _
      refine XS.iloadN X0.here hx rfl (hb hby at_0) rfl ?_
      refine XS.iconst X0.here hx rfl (hb hby at_1) ?_
      refine XS.iand X0.here hx rfl (hb hby at_2) rfl ?_
      refine XS.istore X0.here hx rfl (hb hby at_3) rfl (l' := #[.val (.int p0), .val (.int p1), .val (.int p2), .val (.int p3), .val (.int p4), .val (.int p5), .val (.int (p1 &&& (3 : Int32))), .unset, .unset, .unset, .unset, .unset, .unset]) rfl ?_
      exact k)⟩
  obtain ⟨T2, h2, k2, X2, e2, E2, A2, st2⟩ := newP X0 hx hZ (hw _ (List.mem_of_getElem? (i := 0) rfl)) e0 (g := (mkF m 7 #[.val (.int p0), .val (.int p1), .val (.int p2), .val (.int p3), .val (.int p4), .val (.int p5), .val (.int x6_5), .unset, .unset, .unset, .unset, .unset, .unset] [(.int x6_5)])) rfl (hb hby at_7) rfl (own_rng hx6_5).1 (cap := 3) (own_le3 (own_rng hx6_5)) (by decide) (by decide) (by decide)
  obtain ⟨b2, gq2⟩ : ∃ z, z = (h0).size := ⟨_, rfl⟩
  rw [← gq2] at A2 st2
  have g_b2 : n0 ≤ b2 := Nat.le_trans Z0 (Nat.le_of_eq gq2.symm)
  have cs3 := Jvm.RoadKit.CHr.ext E2 cr0.1
  have cr3 := cr0.trans cs3
  have V_b2 : own_AI Z h2 b2 k2 .char x6_5 (List.replicate 3 (0 : Int32)) := own_AI.new 3 A2 (own_rng hx6_5).1 (own_le3 (own_rng hx6_5)) rfl
  have pre4 : own_Pre p e below (s₁.setTop (entryFrame m #[(.int p0), (.int p1), (.int p2), (.int p3), (.int p4), (.int p5)] maxLocals)) (T2.setTop (mkF m 13 #[.val (.int p0), .val (.int p1), .val (.int p2), .val (.int p3), .val (.int p4), .val (.int p5), .val (.int x6_5), .val (.ref b2), .unset, .unset, .unset, .unset, .unset] [(.int x6_5)])) := fun t k => pre1 t (by
      show Steps p.tables e below (s₁.setTop (mkF m 5 #[.val (.int p0), .val (.int p1), .val (.int p2), .val (.int p3), .val (.int p4), .val (.int p5), .val (.int x6_5), .unset, .unset, .unset, .unset, .unset, .unset] [])) _
      refine XS.iload X0.here hx rfl (hb hby at_5) rfl ?_
      refine st2 _ ?_
      refine XS.astore X2.here hx rfl (hb hby at_9) rfl rfl (l' := #[.val (.int p0), .val (.int p1), .val (.int p2), .val (.int p3), .val (.int p4), .val (.int p5), .val (.int x6_5), .val (.ref b2), .unset, .unset, .unset, .unset, .unset]) rfl ?_
      refine XS.iload X2.here hx rfl (hb hby at_11) rfl ?_
      exact k)
  by_cases hc13 : (0 : Int32) < x6_5
  · obtain ⟨cl5, Ar5, hin5, set5⟩ := own_AI.arr V_b2 (j := (0 : Int32)) ⟨by decide, hc13⟩
    obtain ⟨T5, h5, X5, e5, W5, st5⟩ := stC X2 hx hZ e2 Ar5 (j := (0 : Int32)) hin5 (g := (mkF m 25 #[.val (.int p0), .val (.int p1), .val (.int p2), .val (.int p3), .val (.int p4), .val (.int p5), .val (.int x6_5), .val (.ref b2), .unset, .unset, .unset, .unset, .unset] [(.int ((p2 &&& (255 : Int32))).toUInt32.toUInt16.toUInt32.toInt32), (.int (0 : Int32)), (.ref b2)])) rfl rfl (hb hby at_25)
    have V5 : own_AI Z h5 b2 k2 .char x6_5 ((List.replicate 3 (0 : Int32)).set 0 (nar .char ((p2 &&& (255 : Int32))).toUInt32.toUInt16.toUInt32.toInt32)) := set5 _ _ (fits_nar_char _) W5
    obtain ⟨ws5, hws5⟩ : ∃ z, z = ((List.replicate 3 (0 : Int32)).set 0 (nar .char ((p2 &&& (255 : Int32))).toUInt32.toUInt16.toUInt32.toInt32)) := ⟨_, rfl⟩
    rw [← hws5] at V5
    have N5 := Fr.snoc X5 N0 g_b2
    obtain ⟨cl6, Ar6, -, -⟩ := V_b2.len
    have cs7 := Jvm.RoadKit.CHr.wr W5 (Jvm.RoadKit.Safe.arr hZ.alike Ar6 (by decide)) cr3.1
    have cr7 := cr3.trans cs7
    have pre8 : own_Pre p e below (s₁.setTop (entryFrame m #[(.int p0), (.int p1), (.int p2), (.int p3), (.int p4), (.int p5)] maxLocals)) (T5.setTop (mkF m 29 #[.val (.int p0), .val (.int p1), .val (.int p2), .val (.int p3), .val (.int p4), .val (.int p5), .val (.int x6_5), .val (.ref b2), .unset, .unset, .unset, .unset, .unset] [(.int (1 : Int32)), (.int x6_5)])) := fun t k => pre4 t (by
        show Steps p.tables e below (T2.setTop (mkF m 13 #[.val (.int p0), .val (.int p1), .val (.int p2), .val (.int p3), .val (.int p4), .val (.int p5), .val (.int x6_5), .val (.ref b2), .unset, .unset, .unset, .unset, .unset] [(.int x6_5)])) _
        refine XS.ifNo X2.here hx rfl (hb hby at_13) rfl ((if0 _ _).trans (tlt hc13).2.2.2) ?_
        refine XS.aload X2.here hx rfl (hb hby at_16) rfl rfl ?_
        refine XS.iconst X2.here hx rfl (hb hby at_18) ?_
        refine XS.iloadN X2.here hx rfl (hb hby at_19) rfl ?_
        refine XS.sipush X2.here hx rfl (hb hby at_20) ?_
        show Steps p.tables e below (T2.setTop (mkF m 23 #[.val (.int p0), .val (.int p1), .val (.int p2), .val (.int p3), .val (.int p4), .val (.int p5), .val (.int x6_5), .val (.ref b2), .unset, .unset, .unset, .unset, .unset] [(.int (255 : Int32)), (.int p2), (.int (0 : Int32)), (.ref b2)])) _
        refine XS.iand X2.here hx rfl (hb hby at_23) rfl ?_
        refine XS.i2c X2.here hx rfl (hb hby at_24) rfl ?_
        refine st5 _ ?_
        refine XS.iload X5.here hx rfl (hb hby at_26) rfl ?_
        refine XS.iconst X5.here hx rfl (hb hby at_28) ?_
        exact k)
    by_cases hc29 : (1 : Int32) < x6_5
    · obtain ⟨cl9, Ar9, hin9, set9⟩ := own_AI.arr V5 (j := (1 : Int32)) ⟨by decide, hc29⟩
      obtain ⟨T9, h9, X9, e9, W9, st9⟩ := stC X5 hx hZ e5 Ar9 (j := (1 : Int32)) hin9 (g := (mkF m 41 #[.val (.int p0), .val (.int p1), .val (.int p2), .val (.int p3), .val (.int p4), .val (.int p5), .val (.int x6_5), .val (.ref b2), .unset, .unset, .unset, .unset, .unset] [(.int ((p3 &&& (255 : Int32))).toUInt32.toUInt16.toUInt32.toInt32), (.int (1 : Int32)), (.ref b2)])) rfl rfl (hb hby at_41)
      have V9 : own_AI Z h9 b2 k2 .char x6_5 (ws5.set 1 (nar .char ((p3 &&& (255 : Int32))).toUInt32.toUInt16.toUInt32.toInt32)) := set9 _ _ (fits_nar_char _) W9
      obtain ⟨ws9, hws9⟩ : ∃ z, z = (ws5.set 1 (nar .char ((p3 &&& (255 : Int32))).toUInt32.toUInt16.toUInt32.toInt32)) := ⟨_, rfl⟩
      rw [← hws9] at V9
      have N9 := Fr.snoc X9 N5 g_b2
      obtain ⟨cl10, Ar10, -, -⟩ := V5.len
      have cs11 := Jvm.RoadKit.CHr.wr W9 (Jvm.RoadKit.Safe.arr hZ.alike Ar10 (by decide)) cr7.1
      have cr11 := cr7.trans cs11
      have pre12 : own_Pre p e below (s₁.setTop (entryFrame m #[(.int p0), (.int p1), (.int p2), (.int p3), (.int p4), (.int p5)] maxLocals)) (T9.setTop (mkF m 45 #[.val (.int p0), .val (.int p1), .val (.int p2), .val (.int p3), .val (.int p4), .val (.int p5), .val (.int x6_5), .val (.ref b2), .unset, .unset, .unset, .unset, .unset] [(.int (2 : Int32)), (.int x6_5)])) := fun t k => pre8 t (by
          show Steps p.tables e below (T5.setTop (mkF m 29 #[.val (.int p0), .val (.int p1), .val (.int p2), .val (.int p3), .val (.int p4), .val (.int p5), .val (.int x6_5), .val (.ref b2), .unset, .unset, .unset, .unset, .unset] [(.int (1 : Int32)), (.int x6_5)])) _
          refine XS.icmpNo X5.here hx rfl (hb hby at_29) rfl (tlt hc29).2.2.2 ?_
          refine XS.aload X5.here hx rfl (hb hby at_32) rfl rfl ?_
          refine XS.iconst X5.here hx rfl (hb hby at_34) ?_
          refine XS.iloadN X5.here hx rfl (hb hby at_35) rfl ?_
          refine XS.sipush X5.here hx rfl (hb hby at_36) ?_
          show Steps p.tables e below (T5.setTop (mkF m 39 #[.val (.int p0), .val (.int p1), .val (.int p2), .val (.int p3), .val (.int p4), .val (.int p5), .val (.int x6_5), .val (.ref b2), .unset, .unset, .unset, .unset, .unset] [(.int (255 : Int32)), (.int p3), (.int (1 : Int32)), (.ref b2)])) _
          refine XS.iand X5.here hx rfl (hb hby at_39) rfl ?_
          refine XS.i2c X5.here hx rfl (hb hby at_40) rfl ?_
          refine st9 _ ?_
          refine XS.iload X9.here hx rfl (hb hby at_42) rfl ?_
          refine XS.iconst X9.here hx rfl (hb hby at_44) ?_
          exact k)
      by_cases hc45 : (2 : Int32) < x6_5
      · obtain ⟨cl13, Ar13, hin13, set13⟩ := own_AI.arr V9 (j := (2 : Int32)) ⟨by decide, hc45⟩
        obtain ⟨T13, h13, X13, e13, W13, st13⟩ := stC X9 hx hZ e9 Ar13 (j := (2 : Int32)) hin13 (g := (mkF m 58 #[.val (.int p0), .val (.int p1), .val (.int p2), .val (.int p3), .val (.int p4), .val (.int p5), .val (.int x6_5), .val (.ref b2), .unset, .unset, .unset, .unset, .unset] [(.int ((p4 &&& (255 : Int32))).toUInt32.toUInt16.toUInt32.toInt32), (.int (2 : Int32)), (.ref b2)])) rfl rfl (hb hby at_58)
        have V13 : own_AI Z h13 b2 k2 .char x6_5 (ws9.set 2 (nar .char ((p4 &&& (255 : Int32))).toUInt32.toUInt16.toUInt32.toInt32)) := set13 _ _ (fits_nar_char _) W13
        obtain ⟨ws13, hws13⟩ : ∃ z, z = (ws9.set 2 (nar .char ((p4 &&& (255 : Int32))).toUInt32.toUInt16.toUInt32.toInt32)) := ⟨_, rfl⟩
        rw [← hws13] at V13
        have N13 := Fr.snoc X13 N9 g_b2
        obtain ⟨cl14, Ar14, -, -⟩ := V9.len
        have cs15 := Jvm.RoadKit.CHr.wr W13 (Jvm.RoadKit.Safe.arr hZ.alike Ar14 (by decide)) cr11.1
        have cr15 := cr11.trans cs15
        have z17 : n0 ≤ (h13).size := (Nat.le_trans (Nat.le_trans (Nat.le_trans (Nat.le_trans Z0 E2.1) (Keep.of_wr W5).1) (Keep.of_wr W9).1) (Keep.of_wr W13).1)
        obtain ⟨T16, h16, X16, e16, E16, A16, D16, -, st16⟩ := newO X13 hx hZ hown (hw _ (List.mem_of_getElem? (i := 1) rfl)) (hw _ (List.mem_of_getElem? (i := 2) rfl)) (hw _ (List.mem_of_getElem? (i := 3) rfl)) e13 (g := (mkF m 59 #[.val (.int p0), .val (.int p1), .val (.int p2), .val (.int p3), .val (.int p4), .val (.int p5), .val (.int x6_5), .val (.ref b2), .unset, .unset, .unset, .unset, .unset] [])) rfl (hb hby at_59) (by decide) (by decide)
        obtain ⟨b16, gq16⟩ : ∃ z, z = (h13).size := ⟨_, rfl⟩
        rw [← gq16] at A16 D16 st16
        have ne_b2_b16 : b2 ≠ b16 := Nat.ne_of_lt (Nat.lt_of_lt_of_le V13.lt (Nat.le_of_eq gq16.symm))
        have g_b16 : n0 ≤ b16 := Nat.le_trans z17 (Nat.le_of_eq gq16.symm)
        have cs18 := Jvm.RoadKit.CHr.ext E16 cr15.1
        have cr18 := cr15.trans cs18
        have sf16 := Jvm.RoadKit.Safe.ext E16 cr15.1 (Jvm.RoadKit.Safe.new (Nat.le_of_eq gq16.symm))
        have F_b16_coder : Fld Z h16 b16 "java/lang/String" "coder" "B" (.int (0 : Int32)) := D16 (Or.inr (hw _ (List.mem_of_getElem? (i := 27) rfl))) (ty := .byte) (by decide)
        have F_b16_value : Fld Z h16 b16 "java/lang/String" "value" "[B" .null := D16 (Or.inr (hw _ (List.mem_of_getElem? (i := 29) rfl))) (ty := (.array .byte)) (by decide)
        have f20 := (V13.ext E16)
        have f21 := (((((S_COMPACT_STRINGS.ext E2).wr W5).wr W9).wr W13).ext E16)
        have z22 : n0 ≤ (h16).size := (Nat.le_trans z17 E16.1)
        have hk23 : _ ≤ (h16).size := (Nat.le_trans (Nat.le_trans (Nat.le_trans (Nat.le_trans (Nat.le_trans hk0 E2.1) (Keep.of_wr W5).1) (Keep.of_wr W9).1) (Keep.of_wr W13).1) E16.1)
        obtain ⟨_, _, ⟨T19, L19, k19, n19⟩, -, X19, hs19, gr19, ⟨Lc19, hQ19, l19, y19, z19, cs19⟩, st19⟩ := X16.specialBackS hx (y := (⟨"java/lang/String", "<init>", "([C)V"⟩ : MethodName)) rfl hown (mvT hZ (hw _ (List.mem_of_getElem? (i := 4) rfl))) (mvT hZ (hw _ (List.mem_of_getElem? (i := 5) rfl))) (mvT hZ (hw _ (List.mem_of_getElem? (i := 6) rfl))) (by decide) (Jvm.RoadKit.backOfSH (W := 1) (rm1 l Z aw hw [] (b16) (b2) (k2) (x6_5) (ws13) (cv) (h16) n0 z22 A16 F_b16_value F_b16_coder f20 f21 hcv (own_rng hx6_5) (by rw [hws13]; exact own_set (by rw [hws9]; exact own_set (by rw [hws5]; exact own_set own_rep (own_c _)) (own_c _)) (own_c _)) (Ne.symm ne_b2_b16) g_b16) hZ (hw _ (List.mem_of_getElem? (i := 6) rfl)) (hw _ (List.mem_of_getElem? (i := 3) rfl)) (by decide) (by decide) (own_EW hw) cr18.1) (g := (mkF m 65 #[.val (.int p0), .val (.int p1), .val (.int p2), .val (.int p3), .val (.int p4), .val (.int p5), .val (.int x6_5), .val (.ref b2), .unset, .unset, .unset, .unset, .unset] [(.ref b2), (.ref b16), (.ref b16)])) rfl (by rw [hml]; rfl) (Steps.refl _) (a := b16) (argsL := [(.ref b2)]) (rest := [(.ref b16)]) (lenOf pd_10 rfl) rfl (by show 2 * 0 + _ ≤ _; exact Nat.le_of_eq rfl) (hb hby at_65) (fun _ _ => ⟨rfl, e16, (by decide : 2 + 4 ≤ _), (by decide : 7 + 8 ≤ _)⟩)
        dsimp only [Pt.U, Pt.locs, Pt.cells, Pt.slots] at X19 l19 y19 z19 st19 hQ19 hs19 gr19 cs19
        subst l19 y19 z19
        obtain ⟨X19, hS19⟩ := X19.againW hS0 hs19 (Nat.le_trans hk23 (by rw [← e16]; exact gr19))
        have hZ : Z.Warmed39 (s.setVm T19.vm).vm := State.Warmed39.trans (t := (s.setVm s.vm)) hZ hs19.1
        have hown : (s.setVm T19.vm).vm.findClass "com/example/unicopy/unicopy/UniqueValueNamedPinLaw" = some m.cls := by rw [show (s.setVm T19.vm).vm = T19.vm from rfl, hs19.1.alike.findClass]; exact hown
        have hk19 : T19.heap.size ≤ T19.heap.size := Nat.le_refl _
        have cr19 := cr18.trans cs19
        have sf19_b16 := cs19.safe A16.lt sf16
        obtain ⟨bv19, kb19, wb19, rfl, Nq19, K19, po19_0, po19_1, po19_2⟩ := hQ19
        have N19 := Fr.app N13 Nq19
        have pre24 : own_Pre p e below (s₁.setTop (entryFrame m #[(.int p0), (.int p1), (.int p2), (.int p3), (.int p4), (.int p5)] maxLocals)) (T19.setTop (mkF m 76 #[.val (.int p0), .val (.int p1), .val (.int p2), .val (.int p3), .val (.int p4), .val (.int p5), .val (.int x6_5), .val (.ref b2), .val (.ref b16), .unset, .unset, .unset, .unset] [(.int (p5 &&& (256 : Int32)))])) := fun t k => pre12 t (by
            show Steps p.tables e below (T9.setTop (mkF m 45 #[.val (.int p0), .val (.int p1), .val (.int p2), .val (.int p3), .val (.int p4), .val (.int p5), .val (.int x6_5), .val (.ref b2), .unset, .unset, .unset, .unset, .unset] [(.int (2 : Int32)), (.int x6_5)])) _
            refine XS.icmpNo X9.here hx rfl (hb hby at_45) rfl (tlt hc45).2.2.2 ?_
            refine XS.aload X9.here hx rfl (hb hby at_48) rfl rfl ?_
            refine XS.iconst X9.here hx rfl (hb hby at_50) ?_
            refine XS.iload X9.here hx rfl (hb hby at_51) rfl ?_
            refine XS.sipush X9.here hx rfl (hb hby at_53) ?_
            show Steps p.tables e below (T9.setTop (mkF m 56 #[.val (.int p0), .val (.int p1), .val (.int p2), .val (.int p3), .val (.int p4), .val (.int p5), .val (.int x6_5), .val (.ref b2), .unset, .unset, .unset, .unset, .unset] [(.int (255 : Int32)), (.int p4), (.int (2 : Int32)), (.ref b2)])) _
            refine XS.iand X9.here hx rfl (hb hby at_56) rfl ?_
            refine XS.i2c X9.here hx rfl (hb hby at_57) rfl ?_
            refine st13 _ ?_
            refine st16 _ ?_
            refine XS.dup X16.here hx rfl (hb hby at_62) rfl rfl ?_
            show Steps p.tables e below (T16.setTop (mkF m 63 #[.val (.int p0), .val (.int p1), .val (.int p2), .val (.int p3), .val (.int p4), .val (.int p5), .val (.int x6_5), .val (.ref b2), .unset, .unset, .unset, .unset, .unset] [(.ref b16), (.ref b16)])) _
            refine XS.aload X16.here hx rfl (hb hby at_63) rfl rfl ?_
            refine st19.trans ?_
            refine XS.astore X19.here hx rfl (hb hby at_68) rfl rfl (l' := #[.val (.int p0), .val (.int p1), .val (.int p2), .val (.int p3), .val (.int p4), .val (.int p5), .val (.int x6_5), .val (.ref b2), .val (.ref b16), .unset, .unset, .unset, .unset]) rfl ?_
            refine XS.iload X19.here hx rfl (hb hby at_70) rfl ?_
            refine XS.sipush X19.here hx rfl (hb hby at_72) ?_
            show Steps p.tables e below (T19.setTop (mkF m 75 #[.val (.int p0), .val (.int p1), .val (.int p2), .val (.int p3), .val (.int p4), .val (.int p5), .val (.int x6_5), .val (.ref b2), .val (.ref b16), .unset, .unset, .unset, .unset] [(.int (256 : Int32)), (.int p5)])) _
            refine XS.iand X19.here hx rfl (hb hby at_75) rfl ?_
            exact k)
        by_cases hc76 : (p5 &&& (256 : Int32)) = (0 : Int32)
        · have f26 := (own_Sta_keep f21 K19 (own_alS (Jvm.RoadKit.Exa.nostat A16) own_al0))
          have z27 : n0 ≤ (T19.heap).size := (Nat.le_trans z22 K19.1)
          have f28 := (f20.keep K19 (ninS ne_b2_b16 nin0))
          obtain ⟨_, _, ⟨T25, L25, k25, n25⟩, -, X25, ⟨Lc25, hQ25, l25, y25, z25⟩, st25⟩ := Jvm.LawKit.callS X19 hx (y := (⟨"java/lang/String", "valueOf", "(C)Ljava/lang/String;"⟩ : MethodName)) hown (mvT hZ (hw _ (List.mem_of_getElem? (i := 30) rfl))) (mvT hZ (hw _ (List.mem_of_getElem? (i := 31) rfl))) (mvT hZ (hw _ (List.mem_of_getElem? (i := 3) rfl))) (mvT hZ (hw _ (List.mem_of_getElem? (i := 32) rfl))) (by decide) (backOf (W := 0) (rm7 l Z aw hw [] (((p5 &&& (255 : Int32))).toUInt32.toUInt16.toUInt32.toInt32) (cv) (T19.heap) n0 z27 f26 hcv (own_c2 _)) hZ (hw _ (List.mem_of_getElem? (i := 32) rfl)) (hw _ (List.mem_of_getElem? (i := 3) rfl)) (by decide) (by decide)) (g := (mkF m 93 #[.val (.int p0), .val (.int p1), .val (.int p2), .val (.int p3), .val (.int p4), .val (.int p5), .val (.int x6_5), .val (.ref b2), .val (.ref b16), .unset, .unset, .unset, .unset] [(.int ((p5 &&& (255 : Int32))).toUInt32.toUInt16.toUInt32.toInt32)])) rfl (by rw [hml]; rfl) (argsL := [(.int ((p5 &&& (255 : Int32))).toUInt32.toUInt16.toUInt32.toInt32)]) (rest := []) (lenOf pd_11 rfl) rfl (by show 2 * 0 + _ ≤ _; exact Nat.le_of_eq rfl) (hb hby at_93) (fun _ _ => ⟨rfl, rfl, (by decide : 6 + 2 ≤ _), (by decide : 15 + 5 ≤ _)⟩)
          dsimp only [Pt.U, Pt.locs, Pt.cells, Pt.slots] at X25 l25 y25 z25 st25 hQ25
          subst l25 y25 z25
          obtain ⟨rs25, rfl, Nq25, K25, po25_0⟩ := hQ25
          have N25 := Fr.app N19 Nq25
          have cs29 := Jvm.RoadKit.CHr.keep K25 own_al0 cr19.1
          have cr29 := cr19.trans cs29
          have sf29_b16 := cs29.safe po19_0.lt sf19_b16
          have ne_b16_rs25 : b16 ≠ rs25 := Nat.ne_of_lt (Nat.lt_of_lt_of_le po19_0.lt po25_0)
          have ne_b2_rs25 : b2 ≠ rs25 := Nat.ne_of_lt (Nat.lt_of_lt_of_le f28.lt po25_0)
          have ne_bv19_rs25 : bv19 ≠ rs25 := Nat.ne_of_lt (Nat.lt_of_lt_of_le po19_2.lt po25_0)
          have g_rs25 : n0 ≤ rs25 := Nat.le_trans z27 po25_0
          have z31 : n0 ≤ (T25.heap).size := (Nat.le_trans z27 K25.1)
          obtain ⟨T30, h30, X30, e30, E30, A30, D30, -, st30⟩ := newO X25 hx hZ hown (hw _ (List.mem_of_getElem? (i := 44) rfl)) (hw _ (List.mem_of_getElem? (i := 45) rfl)) (hw _ (List.mem_of_getElem? (i := 46) rfl)) rfl (g := (mkF m 98 #[.val (.int p0), .val (.int p1), .val (.int p2), .val (.int p3), .val (.int p4), .val (.int p5), .val (.int x6_5), .val (.ref b2), .val (.ref b16), .val (.ref rs25), .unset, .unset, .unset] [])) rfl (hb hby at_98) (by decide) (by decide)
          obtain ⟨b30, gq30⟩ : ∃ z, z = (T25.heap).size := ⟨_, rfl⟩
          rw [← gq30] at A30 D30 st30
          have f32 := (po19_0.keep K25)
          have ne_b16_b30 : b16 ≠ b30 := Nat.ne_of_lt (Nat.lt_of_lt_of_le f32.lt (Nat.le_of_eq gq30.symm))
          have f33 := (f28.keep K25 nin0)
          have ne_b2_b30 : b2 ≠ b30 := Nat.ne_of_lt (Nat.lt_of_lt_of_le f33.lt (Nat.le_of_eq gq30.symm))
          have f34 := (po19_2.keep K25 nin0)
          have ne_bv19_b30 : bv19 ≠ b30 := Nat.ne_of_lt (Nat.lt_of_lt_of_le f34.lt (Nat.le_of_eq gq30.symm))
          have g_b30 : n0 ≤ b30 := Nat.le_trans z31 (Nat.le_of_eq gq30.symm)
          have cs35 := Jvm.RoadKit.CHr.ext E30 cr29.1
          have cr35 := cr29.trans cs35
          have sf35_b16 := cs35.safe f32.lt sf29_b16
          have F_b30_change : Fld Z h30 b30 "com/example/unicopy/unicopy/UniqueValue" "change" "I" (.int (0 : Int32)) := D30 (Or.inr (hw _ (List.mem_of_getElem? (i := 57) rfl))) (ty := .int) (by decide)
          have F_b30_index : Fld Z h30 b30 "com/example/unicopy/unicopy/UniqueValue" "index" "Ljava/lang/String;" .null := D30 (Or.inr (hw _ (List.mem_of_getElem? (i := 59) rfl))) (ty := (.object "java/lang/String")) (by decide)
          have F_b30_value : Fld Z h30 b30 "com/example/unicopy/unicopy/UniqueValue" "value" "Ljava/lang/String;" .null := D30 (Or.inr (hw _ (List.mem_of_getElem? (i := 61) rfl))) (ty := (.object "java/lang/String")) (by decide)
          have z37 : n0 ≤ (h30).size := (Nat.le_trans z31 E30.1)
          obtain ⟨_, _, ⟨T36, L36, k36, n36⟩, -, X36, ⟨Lc36, hQ36, l36, y36, z36⟩, st36⟩ := X30.specialBack hx (y := (⟨"com/example/unicopy/unicopy/UniqueValue", "<init>", "(ILjava/lang/String;Ljava/lang/String;)V"⟩ : MethodName)) rfl hown (mvT hZ (hw _ (List.mem_of_getElem? (i := 47) rfl))) (mvT hZ (hw _ (List.mem_of_getElem? (i := 48) rfl))) (mvT hZ (hw _ (List.mem_of_getElem? (i := 49) rfl))) (by decide) (backOf (W := 1) (rm11 l Z aw hw [] (b30) (p0) (rs25) (b16) (h30) n0 z37 A30 F_b30_change F_b30_index F_b30_value g_b30) hZ (hw _ (List.mem_of_getElem? (i := 49) rfl)) (hw _ (List.mem_of_getElem? (i := 46) rfl)) (by decide) (by decide)) (g := (mkF m 107 #[.val (.int p0), .val (.int p1), .val (.int p2), .val (.int p3), .val (.int p4), .val (.int p5), .val (.int x6_5), .val (.ref b2), .val (.ref b16), .val (.ref rs25), .unset, .unset, .unset] [(.ref b16), (.ref rs25), (.int p0), (.ref b30), (.ref b30)])) rfl (by rw [hml]; rfl) (Steps.refl _) (a := b30) (argsL := [(.int p0), (.ref rs25), (.ref b16)]) (rest := [(.ref b30)]) (lenOf pd_9 rfl) rfl (by show 2 * 0 + _ ≤ _; exact Nat.le_of_eq rfl) (hb hby at_107) (fun _ _ => ⟨rfl, e30, (by decide : 9 + 0 ≤ _), (by decide : 23 + 0 ≤ _)⟩)
          dsimp only [Pt.U, Pt.locs, Pt.cells, Pt.slots] at X36 l36 y36 z36 st36 hQ36
          subst l36 y36 z36
          obtain ⟨rfl, Nq36, K36, po36_0, po36_1⟩ := hQ36
          have N36 := Fr.app N25 Nq36
          have f38 := (f32.ext E30)
          have cs39 := Jvm.RoadKit.CHr.keep K36 (own_alS (Jvm.RoadKit.Safe.exa hZ.alike A30 (by decide) (by decide)) own_al0) cr35.1
          have cr39 := cr35.trans cs39
          have sf39_b16 := cs39.safe f38.lt sf35_b16
          have pre42 : own_Pre p e below (s₁.setTop (entryFrame m #[(.int p0), (.int p1), (.int p2), (.int p3), (.int p4), (.int p5)] maxLocals)) (T36.setTop (mkF m 114 #[.val (.int p0), .val (.int p1), .val (.int p2), .val (.int p3), .val (.int p4), .val (.int p5), .val (.int x6_5), .val (.ref b2), .val (.ref b16), .val (.ref rs25), .val (.ref b30), .unset, .unset] [(.int x6_5)])) := fun t k => pre24 t (by
              show Steps p.tables e below (T19.setTop (mkF m 76 #[.val (.int p0), .val (.int p1), .val (.int p2), .val (.int p3), .val (.int p4), .val (.int p5), .val (.int x6_5), .val (.ref b2), .val (.ref b16), .unset, .unset, .unset, .unset] [(.int (p5 &&& (256 : Int32)))])) _
              refine XS.ifYes X19.here hx rfl (pc0 := 76) (pc' := 86) rfl (hb hby at_76) rfl ((if0 _ _).trans (teq hc76).1) (by decide) (by decide) ?_
              refine XS.iload X19.here hx rfl (hb hby at_86) rfl ?_
              refine XS.sipush X19.here hx rfl (hb hby at_88) ?_
              refine XS.iand X19.here hx rfl (hb hby at_91) rfl ?_
              refine XS.i2c X19.here hx rfl (hb hby at_92) rfl ?_
              show Steps p.tables e below (T19.setTop (mkF m 93 #[.val (.int p0), .val (.int p1), .val (.int p2), .val (.int p3), .val (.int p4), .val (.int p5), .val (.int x6_5), .val (.ref b2), .val (.ref b16), .unset, .unset, .unset, .unset] [(.int ((p5 &&& (255 : Int32))).toUInt32.toUInt16.toUInt32.toInt32)])) _
              refine st25 _ ?_
              refine XS.astore X25.here hx rfl (hb hby at_96) rfl rfl (l' := #[.val (.int p0), .val (.int p1), .val (.int p2), .val (.int p3), .val (.int p4), .val (.int p5), .val (.int x6_5), .val (.ref b2), .val (.ref b16), .val (.ref rs25), .unset, .unset, .unset]) rfl ?_
              refine st30 _ ?_
              refine XS.dup X30.here hx rfl (hb hby at_101) rfl rfl ?_
              refine XS.iloadN X30.here hx rfl (hb hby at_102) rfl ?_
              show Steps p.tables e below (T30.setTop (mkF m 103 #[.val (.int p0), .val (.int p1), .val (.int p2), .val (.int p3), .val (.int p4), .val (.int p5), .val (.int x6_5), .val (.ref b2), .val (.ref b16), .val (.ref rs25), .unset, .unset, .unset] [(.int p0), (.ref b30), (.ref b30)])) _
              refine XS.aload X30.here hx rfl (hb hby at_103) rfl rfl ?_
              refine XS.aload X30.here hx rfl (hb hby at_105) rfl rfl ?_
              refine st36.trans ?_
              refine XS.astore X36.here hx rfl (hb hby at_110) rfl rfl (l' := #[.val (.int p0), .val (.int p1), .val (.int p2), .val (.int p3), .val (.int p4), .val (.int p5), .val (.int x6_5), .val (.ref b2), .val (.ref b16), .val (.ref rs25), .val (.ref b30), .unset, .unset]) rfl ?_
              refine XS.iload X36.here hx rfl (hb hby at_112) rfl ?_
              exact k)
          obtain ⟨m122_s0, hm122_s0, pre41⟩ : ∃ (m122_s0 : Int32), m122_s0 = (own_m0_122_s0 x6_5) ∧ own_Pre p e below (s₁.setTop (entryFrame m #[(.int p0), (.int p1), (.int p2), (.int p3), (.int p4), (.int p5)] maxLocals)) (T36.setTop (mkF m 122 #[.val (.int p0), .val (.int p1), .val (.int p2), .val (.int p3), .val (.int p4), .val (.int p5), .val (.int x6_5), .val (.ref b2), .val (.ref b16), .val (.ref rs25), .val (.ref b30), .unset, .unset] [(.int m122_s0)])) := by
            by_cases hc114 : x6_5 = (0 : Int32)
            · have pre43 : own_Pre p e below (s₁.setTop (entryFrame m #[(.int p0), (.int p1), (.int p2), (.int p3), (.int p4), (.int p5)] maxLocals)) (T36.setTop (mkF m 122 #[.val (.int p0), .val (.int p1), .val (.int p2), .val (.int p3), .val (.int p4), .val (.int p5), .val (.int x6_5), .val (.ref b2), .val (.ref b16), .val (.ref rs25), .val (.ref b30), .unset, .unset] [(.int (0 : Int32))])) := fun t k => pre42 t (by
                  show Steps p.tables e below (T36.setTop (mkF m 114 #[.val (.int p0), .val (.int p1), .val (.int p2), .val (.int p3), .val (.int p4), .val (.int p5), .val (.int x6_5), .val (.ref b2), .val (.ref b16), .val (.ref rs25), .val (.ref b30), .unset, .unset] [(.int x6_5)])) _
                  refine XS.ifYes X36.here hx rfl (pc0 := 114) (pc' := 121) rfl (hb hby at_114) rfl ((if0 _ _).trans (teq hc114).1) (by decide) (by decide) ?_
                  refine XS.iconst X36.here hx rfl (hb hby at_121) ?_
                  exact k)
              refine ⟨_, ?_, pre43⟩
              all_goals (first | (simp only [own_m0_122_s0, if_pos hc114]; done) | (simp [own_m0_122_s0, if_pos hc114]; done))
            · have pre44 : own_Pre p e below (s₁.setTop (entryFrame m #[(.int p0), (.int p1), (.int p2), (.int p3), (.int p4), (.int p5)] maxLocals)) (T36.setTop (mkF m 122 #[.val (.int p0), .val (.int p1), .val (.int p2), .val (.int p3), .val (.int p4), .val (.int p5), .val (.int x6_5), .val (.ref b2), .val (.ref b16), .val (.ref rs25), .val (.ref b30), .unset, .unset] [(.int (1 : Int32))])) := fun t k => pre42 t (by
                  show Steps p.tables e below (T36.setTop (mkF m 114 #[.val (.int p0), .val (.int p1), .val (.int p2), .val (.int p3), .val (.int p4), .val (.int p5), .val (.int x6_5), .val (.ref b2), .val (.ref b16), .val (.ref rs25), .val (.ref b30), .unset, .unset] [(.int x6_5)])) _
                  refine XS.ifNo X36.here hx rfl (hb hby at_114) rfl ((if0 _ _).trans (feq hc114).1) ?_
                  refine XS.iconst X36.here hx rfl (hb hby at_117) ?_
                  refine XS.goto X36.here hx rfl (pc0 := 118) (pc' := 122) rfl (hb hby at_118) (by decide) (by decide) ?_
                  exact k)
              refine ⟨_, ?_, pre44⟩
              all_goals (first | (simp only [own_m0_122_s0, if_neg hc114]; done) | (simp [own_m0_122_s0, if_neg hc114]; done))
          have f46 := (f38.keep K36)
          have f47 := (((po19_1.keep K25 nin0).ext E30).keep K36 (ninS ne_b16_b30 nin0))
          have f48 := ((f34.ext E30).keep K36 (ninS ne_bv19_b30 nin0))
          have z49 : n0 ≤ (T36.heap).size := (Nat.le_trans z37 K36.1)
          obtain ⟨cq45, kq45, q45a, q45b, q45c⟩ := isOf hZ rfl po36_0
          obtain ⟨_, _, ⟨T45, L45, k45, n45⟩, -, X45, ⟨Lc45, hQ45, l45, y45, z45⟩, st45⟩ := X36.virtualBack hx (y := (⟨"com/example/unicopy/unicopy/UniqueValue", "named", "()Z"⟩ : MethodName)) (z := (⟨"com/example/unicopy/unicopy/UniqueValue", "named", "()Z"⟩ : MethodName)) hown (mvT hZ (hw _ (List.mem_of_getElem? (i := 62) rfl))) (mvT hZ (hw _ (List.mem_of_getElem? (i := 63) rfl))) (notFace_of_selects (args := #[]) (mvT hZ (hw _ (List.mem_of_getElem? (i := 65) rfl)))) (mvT hZ (hw _ (List.mem_of_getElem? (i := 65) rfl))) (mvT hZ (hw _ (List.mem_of_getElem? (i := 64) rfl))) (by decide) (backOf (W := 0) (rm13 l Z aw hw [] (b30) (b16) (bv19) (kb19) (x6_5) (wb19) (T36.heap) n0 z49 po36_0 po36_1 f46 f47 f48) hZ (hw _ (List.mem_of_getElem? (i := 66) rfl)) (hw _ (List.mem_of_getElem? (i := 46) rfl)) (by decide) (by decide)) q45a q45c (g := (mkF m 126 #[.val (.int p0), .val (.int p1), .val (.int p2), .val (.int p3), .val (.int p4), .val (.int p5), .val (.int x6_5), .val (.ref b2), .val (.ref b16), .val (.ref rs25), .val (.ref b30), .val (.int m122_s0), .unset] [(.ref b30)])) rfl (by rw [hml]; rfl) (Steps.refl _) (argsL := []) (rest := []) (lenOf pd_8 rfl) rfl (by show 2 * 0 + _ ≤ _; exact Nat.le_of_eq rfl) (hb hby at_126) (fun _ _ => ⟨rfl, rfl, (by decide : 9 + 0 ≤ _), (by decide : 23 + 0 ≤ _)⟩)
          dsimp only [Pt.U, Pt.locs, Pt.cells, Pt.slots] at X45 l45 y45 z45 st45 hQ45
          subst l45 y45 z45
          obtain ⟨rfl, Nq45, eq45⟩ := hQ45
          have N45 := Fr.app N36 Nq45
          have hc131 : ((own_f13 x6_5) = m122_s0) := own_named hm122_s0
          have f51 := ((f33.ext E30).keep K36 (ninS ne_b2_b30 nin0))
          have hk52 : _ ≤ (T36.heap).size := (Nat.le_trans (Nat.le_trans (Nat.le_trans hk19 K25.1) E30.1) K36.1)
          obtain ⟨_, _, ⟨T50, L50, k50, n50⟩, -, X50, hs50, gr50, ⟨Lc50, hQ50, l50, y50, z50, cs50⟩, st50⟩ := Jvm.RoadKit.callSS X45 hx (y := (⟨"com/example/unicopy/unicopy/UniqueValue", "unnamed", "(ILjava/lang/String;)Lcom/example/unicopy/unicopy/UniqueValue;"⟩ : MethodName)) hown (mvT hZ (hw _ (List.mem_of_getElem? (i := 72) rfl))) (mvT hZ (hw _ (List.mem_of_getElem? (i := 73) rfl))) (mvT hZ (hw _ (List.mem_of_getElem? (i := 46) rfl))) (mvT hZ (hw _ (List.mem_of_getElem? (i := 74) rfl))) (by decide) (Jvm.RoadKit.backOfSH (W := 0) (rm15 l Z aw hw [] (p0) (rs25) (T36.heap) n0 z49) hZ (hw _ (List.mem_of_getElem? (i := 74) rfl)) (hw _ (List.mem_of_getElem? (i := 46) rfl)) (by decide) (by decide) (own_EW hw) cr39.1) (g := (mkF m 139 #[.val (.int p0), .val (.int p1), .val (.int p2), .val (.int p3), .val (.int p4), .val (.int p5), .val (.int x6_5), .val (.ref b2), .val (.ref b16), .val (.ref rs25), .val (.ref b30), .val (.int m122_s0), .unset] [(.ref rs25), (.int p0)])) rfl (by rw [hml]; rfl) (argsL := [(.int p0), (.ref rs25)]) (rest := []) (lenOf pd_12 rfl) rfl (by show 2 * 0 + _ ≤ _; exact Nat.le_of_eq rfl) (hb hby at_139) (fun _ _ => ⟨rfl, eq45, (by decide : 9 + 3 ≤ _), (by decide : 23 + 7 ≤ _)⟩)
          dsimp only [Pt.U, Pt.locs, Pt.cells, Pt.slots] at X50 l50 y50 z50 st50 hQ50 hs50 gr50 cs50
          subst l50 y50 z50
          obtain ⟨X50, hS50⟩ := X50.againW hS19 hs50 (Nat.le_trans hk52 (by rw [← eq45]; exact gr50))
          have hZ : Z.Warmed39 (s.setVm T50.vm).vm := State.Warmed39.trans (t := (s.setVm T19.vm)) hZ hs50.1
          have hown : (s.setVm T50.vm).vm.findClass "com/example/unicopy/unicopy/UniqueValueNamedPinLaw" = some m.cls := by rw [show (s.setVm T50.vm).vm = T50.vm from rfl, hs50.1.alike.findClass]; exact hown
          have hk50 : T50.heap.size ≤ T50.heap.size := Nat.le_refl _
          have cr50 := cr39.trans cs50
          have sf50_b16 := cs50.safe f46.lt sf39_b16
          obtain ⟨rv50, sv50, bv50, kb50, rfl, Nq50, K50, po50_0, po50_1, po50_2, po50_3, po50_4, po50_5⟩ := hQ50
          have N50 := Fr.app N45 Nq50
          have ne_b16_rv50 : b16 ≠ rv50 := Nat.ne_of_lt (Nat.lt_of_lt_of_le f46.lt po50_0)
          have ne_b2_rv50 : b2 ≠ rv50 := Nat.ne_of_lt (Nat.lt_of_lt_of_le f51.lt po50_0)
          have ne_b30_rv50 : b30 ≠ rv50 := Nat.ne_of_lt (Nat.lt_of_lt_of_le po36_0.lt po50_0)
          have ne_bv19_rv50 : bv19 ≠ rv50 := Nat.ne_of_lt (Nat.lt_of_lt_of_le f48.lt po50_0)
          have g_rv50 : n0 ≤ rv50 := Nat.le_trans z49 po50_0
          have z54 : n0 ≤ (T50.heap).size := (Nat.le_trans z49 K50.1)
          obtain ⟨cq53, kq53, q53a, q53b, q53c⟩ := isOf hZ rfl po50_1
          obtain ⟨_, _, ⟨T53, L53, k53, n53⟩, -, X53, ⟨Lc53, hQ53, l53, y53, z53⟩, st53⟩ := X50.virtualBack hx (y := (⟨"com/example/unicopy/unicopy/UniqueValue", "named", "()Z"⟩ : MethodName)) (z := (⟨"com/example/unicopy/unicopy/UniqueValue", "named", "()Z"⟩ : MethodName)) hown (mvT hZ (hw _ (List.mem_of_getElem? (i := 62) rfl))) (mvT hZ (hw _ (List.mem_of_getElem? (i := 63) rfl))) (notFace_of_selects (args := #[]) (mvT hZ (hw _ (List.mem_of_getElem? (i := 65) rfl)))) (mvT hZ (hw _ (List.mem_of_getElem? (i := 65) rfl))) (mvT hZ (hw _ (List.mem_of_getElem? (i := 64) rfl))) (by decide) (backOf (W := 0) (rm13 l Z aw hw [] (rv50) (sv50) (bv50) (kb50) ((0 : Int32)) ([]) (T50.heap) n0 z54 po50_1 po50_2 po50_3 po50_4 po50_5) hZ (hw _ (List.mem_of_getElem? (i := 66) rfl)) (hw _ (List.mem_of_getElem? (i := 46) rfl)) (by decide) (by decide)) q53a q53c (g := (mkF m 146 #[.val (.int p0), .val (.int p1), .val (.int p2), .val (.int p3), .val (.int p4), .val (.int p5), .val (.int x6_5), .val (.ref b2), .val (.ref b16), .val (.ref rs25), .val (.ref b30), .val (.int m122_s0), .val (.ref rv50)] [(.ref rv50)])) rfl (by rw [hml]; rfl) (Steps.refl _) (argsL := []) (rest := []) (lenOf pd_8 rfl) rfl (by show 2 * 0 + _ ≤ _; exact Nat.le_of_eq rfl) (hb hby at_146) (fun _ _ => ⟨rfl, rfl, (by decide : 12 + 0 ≤ _), (by decide : 30 + 0 ≤ _)⟩)
          dsimp only [Pt.U, Pt.locs, Pt.cells, Pt.slots] at X53 l53 y53 z53 st53 hQ53
          subst l53 y53 z53
          obtain ⟨rfl, Nq53, eq53⟩ := hQ53
          have N53 := Fr.app N50 Nq53
          have hc149 : ((own_f13 ((0 : Int32))) = (0 : Int32)) := by decide
          obtain ⟨fs, hr, hrun, hended, hREW⟩ := X53.leaveW hS50 (by rw [eq53]; exact hk50) (v := some (.int (1 : Int32))) (fun h => by rw [Bd.returns] at h; cases h)
          refine ⟨_, _, pre41 _ ?_, hrun, hended, _, _, rfl, ?_, by rw [hh, show (State.setFrames T53 fs).heap = T50.heap from eq53]; have hq := cr50.trans (Jvm.RoadKit.CHv.at X53 hZ (own_EW hw) cr50.1); exact hq, hREW.1, hREW.2.1, hREW.2.2.1, hREW.2.2.2.mono (by decide) (by decide)⟩
          · show Steps p.tables e below (T36.setTop (mkF m 122 #[.val (.int p0), .val (.int p1), .val (.int p2), .val (.int p3), .val (.int p4), .val (.int p5), .val (.int x6_5), .val (.ref b2), .val (.ref b16), .val (.ref rs25), .val (.ref b30), .unset, .unset] [(.int m122_s0)])) _
            refine XS.istore X36.here hx rfl (hb hby at_122) rfl (l' := #[.val (.int p0), .val (.int p1), .val (.int p2), .val (.int p3), .val (.int p4), .val (.int p5), .val (.int x6_5), .val (.ref b2), .val (.ref b16), .val (.ref rs25), .val (.ref b30), .val (.int m122_s0), .unset]) rfl ?_
            refine XS.aload X36.here hx rfl (hb hby at_124) rfl rfl ?_
            refine st45.trans ?_
            refine XS.iload X45.here hx rfl (hb hby at_129) rfl ?_
            refine XS.icmpYes X45.here hx rfl (pc0 := 131) (pc' := 136) rfl (hb hby at_131) rfl (teq hc131).1 (by decide) (by decide) ?_
            show Steps p.tables e below (T45.setTop (mkF m 136 #[.val (.int p0), .val (.int p1), .val (.int p2), .val (.int p3), .val (.int p4), .val (.int p5), .val (.int x6_5), .val (.ref b2), .val (.ref b16), .val (.ref rs25), .val (.ref b30), .val (.int m122_s0), .unset] [])) _
            refine XS.iloadN X45.here hx rfl (hb hby at_136) rfl ?_
            refine XS.aload X45.here hx rfl (hb hby at_137) rfl rfl ?_
            refine st50.trans ?_
            refine XS.astore X50.here hx rfl (hb hby at_142) rfl rfl (l' := #[.val (.int p0), .val (.int p1), .val (.int p2), .val (.int p3), .val (.int p4), .val (.int p5), .val (.int x6_5), .val (.ref b2), .val (.ref b16), .val (.ref rs25), .val (.ref b30), .val (.int m122_s0), .val (.ref rv50)]) rfl ?_
            refine XS.aload X50.here hx rfl (hb hby at_144) rfl rfl ?_
            show Steps p.tables e below (T50.setTop (mkF m 146 #[.val (.int p0), .val (.int p1), .val (.int p2), .val (.int p3), .val (.int p4), .val (.int p5), .val (.int x6_5), .val (.ref b2), .val (.ref b16), .val (.ref rs25), .val (.ref b30), .val (.int m122_s0), .val (.ref rv50)] [(.ref rv50)])) _
            refine st53.trans ?_
            refine XS.ifNo X53.here hx rfl (hb hby at_149) rfl ((if0 _ _).trans (teq hc149).2) ?_
            refine XS.iconst X53.here hx rfl (hb hby at_152) ?_
            refine XS.goto X53.here hx rfl (pc0 := 153) (pc' := 157) rfl (hb hby at_153) (by decide) (by decide) ?_
            show Steps p.tables e below (T53.setTop (mkF m 157 #[.val (.int p0), .val (.int p1), .val (.int p2), .val (.int p3), .val (.int p4), .val (.int p5), .val (.int x6_5), .val (.ref b2), .val (.ref b16), .val (.ref rs25), .val (.ref b30), .val (.int m122_s0), .val (.ref rv50)] [(.int (1 : Int32))])) _
            exact retN X53 hx (t := .boolean) Bd.returns (by simp) (hb hby at_157) hr
          · show Q0 Z p0 p1 p2 p3 p4 p5 cv h0 n0 _ T53.heap _
            rw [eq53]
            unfold Q0
            refine ⟨rfl, N53⟩
        · have z56 : n0 ≤ (T19.heap).size := (Nat.le_trans z22 K19.1)
          obtain ⟨a55, T55, h55, k55, b55, c55, X55, e55, E55, hS55, hk55, hZ, hown, Ea55, Fc55, Fv55, Ab55, -, -, cs55, -, sn55, st55⟩ := Jvm.RoadKit.ldcCH X19 hx hZ hown (hw _ (List.mem_of_getElem? (i := 80) rfl)) (own_atoms hw) rfl hS19 hk19 (own_EW hw) (List.mem_of_getElem? (i := 1) rfl) cr19.1 (vs := []) (z := 0) own_nil (by decide) (by decide) (g := (mkF m 79 #[.val (.int p0), .val (.int p1), .val (.int p2), .val (.int p3), .val (.int p4), .val (.int p5), .val (.int x6_5), .val (.ref b2), .val (.ref b16), .unset, .unset, .unset, .unset] [])) rfl (hb hby at_79) (n := 0) (by decide) (by decide) (by decide) (by decide)
          have V55 : own_AI Z h55 b55 c55 .byte (0 : Int32) [] := ⟨Ab55, by decide⟩
          have cr55 := cr19.trans cs55
          have sf55_b16 := cs55.safe po19_0.lt sf19_b16
          have nn55_b16 := sn55 b16 sf55_b16
          have f57 := ((f20.keep K19 (ninS ne_b2_b16 nin0)).ext E55)
          obtain ⟨cl58, Ar58, -, -⟩ := f57.len
          have nn55_b2 := sn55 b2 (Jvm.RoadKit.Safe.arr hZ.alike Ar58 (by decide))
          have z60 : n0 ≤ (h55).size := (Nat.le_trans z56 E55.1)
          obtain ⟨T59, h59, X59, e59, E59, A59, D59, -, st59⟩ := newO X55 hx hZ hown (hw _ (List.mem_of_getElem? (i := 44) rfl)) (hw _ (List.mem_of_getElem? (i := 45) rfl)) (hw _ (List.mem_of_getElem? (i := 46) rfl)) e55 (g := (mkF m 98 #[.val (.int p0), .val (.int p1), .val (.int p2), .val (.int p3), .val (.int p4), .val (.int p5), .val (.int x6_5), .val (.ref b2), .val (.ref b16), .val (.ref a55), .unset, .unset, .unset] [])) rfl (hb hby at_98) (by decide) (by decide)
          obtain ⟨b59, gq59⟩ : ∃ z, z = (h55).size := ⟨_, rfl⟩
          rw [← gq59] at A59 D59 st59
          have ne_a55_b59 : a55 ≠ b59 := Nat.ne_of_lt (Nat.lt_of_lt_of_le Ea55.lt (Nat.le_of_eq gq59.symm))
          have f61 := (po19_0.ext E55)
          have ne_b16_b59 : b16 ≠ b59 := Nat.ne_of_lt (Nat.lt_of_lt_of_le f61.lt (Nat.le_of_eq gq59.symm))
          have ne_b2_b59 : b2 ≠ b59 := Nat.ne_of_lt (Nat.lt_of_lt_of_le f57.lt (Nat.le_of_eq gq59.symm))
          have ne_b55_b59 : b55 ≠ b59 := Nat.ne_of_lt (Nat.lt_of_lt_of_le V55.lt (Nat.le_of_eq gq59.symm))
          have f62 := (po19_2.ext E55)
          have ne_bv19_b59 : bv19 ≠ b59 := Nat.ne_of_lt (Nat.lt_of_lt_of_le f62.lt (Nat.le_of_eq gq59.symm))
          have g_b59 : n0 ≤ b59 := Nat.le_trans z60 (Nat.le_of_eq gq59.symm)
          have cs63 := Jvm.RoadKit.CHr.ext E59 cr55.1
          have cr63 := cr55.trans cs63
          have sf63_b16 := cs63.safe f61.lt sf55_b16
          have F_b59_change : Fld Z h59 b59 "com/example/unicopy/unicopy/UniqueValue" "change" "I" (.int (0 : Int32)) := D59 (Or.inr (hw _ (List.mem_of_getElem? (i := 57) rfl))) (ty := .int) (by decide)
          have F_b59_index : Fld Z h59 b59 "com/example/unicopy/unicopy/UniqueValue" "index" "Ljava/lang/String;" .null := D59 (Or.inr (hw _ (List.mem_of_getElem? (i := 59) rfl))) (ty := (.object "java/lang/String")) (by decide)
          have F_b59_value : Fld Z h59 b59 "com/example/unicopy/unicopy/UniqueValue" "value" "Ljava/lang/String;" .null := D59 (Or.inr (hw _ (List.mem_of_getElem? (i := 61) rfl))) (ty := (.object "java/lang/String")) (by decide)
          have z65 : n0 ≤ (h59).size := (Nat.le_trans z60 E59.1)
          obtain ⟨_, _, ⟨T64, L64, k64, n64⟩, -, X64, ⟨Lc64, hQ64, l64, y64, z64⟩, st64⟩ := X59.specialBack hx (y := (⟨"com/example/unicopy/unicopy/UniqueValue", "<init>", "(ILjava/lang/String;Ljava/lang/String;)V"⟩ : MethodName)) rfl hown (mvT hZ (hw _ (List.mem_of_getElem? (i := 47) rfl))) (mvT hZ (hw _ (List.mem_of_getElem? (i := 48) rfl))) (mvT hZ (hw _ (List.mem_of_getElem? (i := 49) rfl))) (by decide) (backOf (W := 1) (rm11 l Z aw hw [] (b59) (p0) (a55) (b16) (h59) n0 z65 A59 F_b59_change F_b59_index F_b59_value g_b59) hZ (hw _ (List.mem_of_getElem? (i := 49) rfl)) (hw _ (List.mem_of_getElem? (i := 46) rfl)) (by decide) (by decide)) (g := (mkF m 107 #[.val (.int p0), .val (.int p1), .val (.int p2), .val (.int p3), .val (.int p4), .val (.int p5), .val (.int x6_5), .val (.ref b2), .val (.ref b16), .val (.ref a55), .unset, .unset, .unset] [(.ref b16), (.ref a55), (.int p0), (.ref b59), (.ref b59)])) rfl (by rw [hml]; rfl) (Steps.refl _) (a := b59) (argsL := [(.int p0), (.ref a55), (.ref b16)]) (rest := [(.ref b59)]) (lenOf pd_9 rfl) rfl (by show 2 * 0 + _ ≤ _; exact Nat.le_of_eq rfl) (hb hby at_107) (fun _ _ => ⟨rfl, e59, (by decide : 9 + 0 ≤ _), (by decide : 22 + 0 ≤ _)⟩)
          dsimp only [Pt.U, Pt.locs, Pt.cells, Pt.slots] at X64 l64 y64 z64 st64 hQ64
          subst l64 y64 z64
          obtain ⟨rfl, Nq64, K64, po64_0, po64_1⟩ := hQ64
          have N64 := Fr.app N19 Nq64
          have f66 := (f61.ext E59)
          have cs67 := Jvm.RoadKit.CHr.keep K64 (own_alS (Jvm.RoadKit.Safe.exa hZ.alike A59 (by decide) (by decide)) own_al0) cr63.1
          have cr67 := cr63.trans cs67
          have sf67_b16 := cs67.safe f66.lt sf63_b16
          have pre70 : own_Pre p e below (s₁.setTop (entryFrame m #[(.int p0), (.int p1), (.int p2), (.int p3), (.int p4), (.int p5)] maxLocals)) (T64.setTop (mkF m 114 #[.val (.int p0), .val (.int p1), .val (.int p2), .val (.int p3), .val (.int p4), .val (.int p5), .val (.int x6_5), .val (.ref b2), .val (.ref b16), .val (.ref a55), .val (.ref b59), .unset, .unset] [(.int x6_5)])) := fun t k => pre24 t (by
              show Steps p.tables e below (T19.setTop (mkF m 76 #[.val (.int p0), .val (.int p1), .val (.int p2), .val (.int p3), .val (.int p4), .val (.int p5), .val (.int x6_5), .val (.ref b2), .val (.ref b16), .unset, .unset, .unset, .unset] [(.int (p5 &&& (256 : Int32)))])) _
              refine XS.ifNo X19.here hx rfl (hb hby at_76) rfl ((if0 _ _).trans (feq hc76).1) ?_
              refine st55 _ ?_
              refine XS.astore X55.here hx rfl (hb hby at_81) rfl rfl (l' := #[.val (.int p0), .val (.int p1), .val (.int p2), .val (.int p3), .val (.int p4), .val (.int p5), .val (.int x6_5), .val (.ref b2), .val (.ref b16), .val (.ref a55), .unset, .unset, .unset]) rfl ?_
              refine XS.goto X55.here hx rfl (pc0 := 83) (pc' := 98) rfl (hb hby at_83) (by decide) (by decide) ?_
              refine st59 _ ?_
              show Steps p.tables e below (T59.setTop (mkF m 101 #[.val (.int p0), .val (.int p1), .val (.int p2), .val (.int p3), .val (.int p4), .val (.int p5), .val (.int x6_5), .val (.ref b2), .val (.ref b16), .val (.ref a55), .unset, .unset, .unset] [(.ref b59)])) _
              refine XS.dup X59.here hx rfl (hb hby at_101) rfl rfl ?_
              refine XS.iloadN X59.here hx rfl (hb hby at_102) rfl ?_
              refine XS.aload X59.here hx rfl (hb hby at_103) rfl rfl ?_
              refine XS.aload X59.here hx rfl (hb hby at_105) rfl rfl ?_
              refine st64.trans ?_
              show Steps p.tables e below (T64.setTop (mkF m 110 #[.val (.int p0), .val (.int p1), .val (.int p2), .val (.int p3), .val (.int p4), .val (.int p5), .val (.int x6_5), .val (.ref b2), .val (.ref b16), .val (.ref a55), .unset, .unset, .unset] [(.ref b59)])) _
              refine XS.astore X64.here hx rfl (hb hby at_110) rfl rfl (l' := #[.val (.int p0), .val (.int p1), .val (.int p2), .val (.int p3), .val (.int p4), .val (.int p5), .val (.int x6_5), .val (.ref b2), .val (.ref b16), .val (.ref a55), .val (.ref b59), .unset, .unset]) rfl ?_
              refine XS.iload X64.here hx rfl (hb hby at_112) rfl ?_
              exact k)
          obtain ⟨m122_s0, hm122_s0, pre69⟩ : ∃ (m122_s0 : Int32), m122_s0 = (own_m0_122_s0 x6_5) ∧ own_Pre p e below (s₁.setTop (entryFrame m #[(.int p0), (.int p1), (.int p2), (.int p3), (.int p4), (.int p5)] maxLocals)) (T64.setTop (mkF m 122 #[.val (.int p0), .val (.int p1), .val (.int p2), .val (.int p3), .val (.int p4), .val (.int p5), .val (.int x6_5), .val (.ref b2), .val (.ref b16), .val (.ref a55), .val (.ref b59), .unset, .unset] [(.int m122_s0)])) := by
            by_cases hc114 : x6_5 = (0 : Int32)
            · have pre71 : own_Pre p e below (s₁.setTop (entryFrame m #[(.int p0), (.int p1), (.int p2), (.int p3), (.int p4), (.int p5)] maxLocals)) (T64.setTop (mkF m 122 #[.val (.int p0), .val (.int p1), .val (.int p2), .val (.int p3), .val (.int p4), .val (.int p5), .val (.int x6_5), .val (.ref b2), .val (.ref b16), .val (.ref a55), .val (.ref b59), .unset, .unset] [(.int (0 : Int32))])) := fun t k => pre70 t (by
                  show Steps p.tables e below (T64.setTop (mkF m 114 #[.val (.int p0), .val (.int p1), .val (.int p2), .val (.int p3), .val (.int p4), .val (.int p5), .val (.int x6_5), .val (.ref b2), .val (.ref b16), .val (.ref a55), .val (.ref b59), .unset, .unset] [(.int x6_5)])) _
                  refine XS.ifYes X64.here hx rfl (pc0 := 114) (pc' := 121) rfl (hb hby at_114) rfl ((if0 _ _).trans (teq hc114).1) (by decide) (by decide) ?_
                  refine XS.iconst X64.here hx rfl (hb hby at_121) ?_
                  exact k)
              refine ⟨_, ?_, pre71⟩
              all_goals (first | (simp only [own_m0_122_s0, if_pos hc114]; done) | (simp [own_m0_122_s0, if_pos hc114]; done))
            · have pre72 : own_Pre p e below (s₁.setTop (entryFrame m #[(.int p0), (.int p1), (.int p2), (.int p3), (.int p4), (.int p5)] maxLocals)) (T64.setTop (mkF m 122 #[.val (.int p0), .val (.int p1), .val (.int p2), .val (.int p3), .val (.int p4), .val (.int p5), .val (.int x6_5), .val (.ref b2), .val (.ref b16), .val (.ref a55), .val (.ref b59), .unset, .unset] [(.int (1 : Int32))])) := fun t k => pre70 t (by
                  show Steps p.tables e below (T64.setTop (mkF m 114 #[.val (.int p0), .val (.int p1), .val (.int p2), .val (.int p3), .val (.int p4), .val (.int p5), .val (.int x6_5), .val (.ref b2), .val (.ref b16), .val (.ref a55), .val (.ref b59), .unset, .unset] [(.int x6_5)])) _
                  refine XS.ifNo X64.here hx rfl (hb hby at_114) rfl ((if0 _ _).trans (feq hc114).1) ?_
                  refine XS.iconst X64.here hx rfl (hb hby at_117) ?_
                  refine XS.goto X64.here hx rfl (pc0 := 118) (pc' := 122) rfl (hb hby at_118) (by decide) (by decide) ?_
                  exact k)
              refine ⟨_, ?_, pre72⟩
              all_goals (first | (simp only [own_m0_122_s0, if_neg hc114]; done) | (simp [own_m0_122_s0, if_neg hc114]; done))
          have f74 := (f66.keep K64)
          have f75 := (((po19_1.ext E55).ext E59).keep K64 (ninS ne_b16_b59 nin0))
          have f76 := ((f62.ext E59).keep K64 (ninS ne_bv19_b59 nin0))
          have z77 : n0 ≤ (T64.heap).size := (Nat.le_trans z65 K64.1)
          obtain ⟨cq73, kq73, q73a, q73b, q73c⟩ := isOf hZ rfl po64_0
          obtain ⟨_, _, ⟨T73, L73, k73, n73⟩, -, X73, ⟨Lc73, hQ73, l73, y73, z73⟩, st73⟩ := X64.virtualBack hx (y := (⟨"com/example/unicopy/unicopy/UniqueValue", "named", "()Z"⟩ : MethodName)) (z := (⟨"com/example/unicopy/unicopy/UniqueValue", "named", "()Z"⟩ : MethodName)) hown (mvT hZ (hw _ (List.mem_of_getElem? (i := 62) rfl))) (mvT hZ (hw _ (List.mem_of_getElem? (i := 63) rfl))) (notFace_of_selects (args := #[]) (mvT hZ (hw _ (List.mem_of_getElem? (i := 65) rfl)))) (mvT hZ (hw _ (List.mem_of_getElem? (i := 65) rfl))) (mvT hZ (hw _ (List.mem_of_getElem? (i := 64) rfl))) (by decide) (backOf (W := 0) (rm13 l Z aw hw [] (b59) (b16) (bv19) (kb19) (x6_5) (wb19) (T64.heap) n0 z77 po64_0 po64_1 f74 f75 f76) hZ (hw _ (List.mem_of_getElem? (i := 66) rfl)) (hw _ (List.mem_of_getElem? (i := 46) rfl)) (by decide) (by decide)) q73a q73c (g := (mkF m 126 #[.val (.int p0), .val (.int p1), .val (.int p2), .val (.int p3), .val (.int p4), .val (.int p5), .val (.int x6_5), .val (.ref b2), .val (.ref b16), .val (.ref a55), .val (.ref b59), .val (.int m122_s0), .unset] [(.ref b59)])) rfl (by rw [hml]; rfl) (Steps.refl _) (argsL := []) (rest := []) (lenOf pd_8 rfl) rfl (by show 2 * 0 + _ ≤ _; exact Nat.le_of_eq rfl) (hb hby at_126) (fun _ _ => ⟨rfl, rfl, (by decide : 9 + 0 ≤ _), (by decide : 22 + 0 ≤ _)⟩)
          dsimp only [Pt.U, Pt.locs, Pt.cells, Pt.slots] at X73 l73 y73 z73 st73 hQ73
          subst l73 y73 z73
          obtain ⟨rfl, Nq73, eq73⟩ := hQ73
          have N73 := Fr.app N64 Nq73
          have hc131 : ((own_f13 x6_5) = m122_s0) := own_named hm122_s0
          have f79 := ((Ea55.ext E59).keep K64)
          have f80 := ((f57.ext E59).keep K64 (ninS ne_b2_b59 nin0))
          have f81 := ((V55.ext E59).keep K64 (ninS ne_b55_b59 nin0))
          have hk82 : _ ≤ (T64.heap).size := (Nat.le_trans (Nat.le_trans hk55 E59.1) K64.1)
          obtain ⟨_, _, ⟨T78, L78, k78, n78⟩, -, X78, hs78, gr78, ⟨Lc78, hQ78, l78, y78, z78, cs78⟩, st78⟩ := Jvm.RoadKit.callSS X73 hx (y := (⟨"com/example/unicopy/unicopy/UniqueValue", "unnamed", "(ILjava/lang/String;)Lcom/example/unicopy/unicopy/UniqueValue;"⟩ : MethodName)) hown (mvT hZ (hw _ (List.mem_of_getElem? (i := 72) rfl))) (mvT hZ (hw _ (List.mem_of_getElem? (i := 73) rfl))) (mvT hZ (hw _ (List.mem_of_getElem? (i := 46) rfl))) (mvT hZ (hw _ (List.mem_of_getElem? (i := 74) rfl))) (by decide) (Jvm.RoadKit.backOfSH (W := 0) (rm15 l Z aw hw [] (p0) (a55) (T64.heap) n0 z77) hZ (hw _ (List.mem_of_getElem? (i := 74) rfl)) (hw _ (List.mem_of_getElem? (i := 46) rfl)) (by decide) (by decide) (own_EW hw) cr67.1) (g := (mkF m 139 #[.val (.int p0), .val (.int p1), .val (.int p2), .val (.int p3), .val (.int p4), .val (.int p5), .val (.int x6_5), .val (.ref b2), .val (.ref b16), .val (.ref a55), .val (.ref b59), .val (.int m122_s0), .unset] [(.ref a55), (.int p0)])) rfl (by rw [hml]; rfl) (argsL := [(.int p0), (.ref a55)]) (rest := []) (lenOf pd_12 rfl) rfl (by show 2 * 0 + _ ≤ _; exact Nat.le_of_eq rfl) (hb hby at_139) (fun _ _ => ⟨rfl, eq73, (by decide : 9 + 3 ≤ _), (by decide : 22 + 7 ≤ _)⟩)
          dsimp only [Pt.U, Pt.locs, Pt.cells, Pt.slots] at X78 l78 y78 z78 st78 hQ78 hs78 gr78 cs78
          subst l78 y78 z78
          obtain ⟨X78, hS78⟩ := X78.againW hS55 hs78 (Nat.le_trans hk82 (by rw [← eq73]; exact gr78))
          have hZ : Z.Warmed39 (s.setVm T78.vm).vm := State.Warmed39.trans (t := (s.setVm T55.vm)) hZ hs78.1
          have hown : (s.setVm T78.vm).vm.findClass "com/example/unicopy/unicopy/UniqueValueNamedPinLaw" = some m.cls := by rw [show (s.setVm T78.vm).vm = T78.vm from rfl, hs78.1.alike.findClass]; exact hown
          have hk78 : T78.heap.size ≤ T78.heap.size := Nat.le_refl _
          have cr78 := cr67.trans cs78
          have sf78_b16 := cs78.safe f74.lt sf67_b16
          obtain ⟨rv78, sv78, bv78, kb78, rfl, Nq78, K78, po78_0, po78_1, po78_2, po78_3, po78_4, po78_5⟩ := hQ78
          have N78 := Fr.app N73 Nq78
          have ne_a55_rv78 : a55 ≠ rv78 := Nat.ne_of_lt (Nat.lt_of_lt_of_le f79.lt po78_0)
          have ne_b16_rv78 : b16 ≠ rv78 := Nat.ne_of_lt (Nat.lt_of_lt_of_le f74.lt po78_0)
          have ne_b2_rv78 : b2 ≠ rv78 := Nat.ne_of_lt (Nat.lt_of_lt_of_le f80.lt po78_0)
          have ne_b55_rv78 : b55 ≠ rv78 := Nat.ne_of_lt (Nat.lt_of_lt_of_le f81.lt po78_0)
          have ne_b59_rv78 : b59 ≠ rv78 := Nat.ne_of_lt (Nat.lt_of_lt_of_le po64_0.lt po78_0)
          have ne_bv19_rv78 : bv19 ≠ rv78 := Nat.ne_of_lt (Nat.lt_of_lt_of_le f76.lt po78_0)
          have g_rv78 : n0 ≤ rv78 := Nat.le_trans z77 po78_0
          have z84 : n0 ≤ (T78.heap).size := (Nat.le_trans z77 K78.1)
          obtain ⟨cq83, kq83, q83a, q83b, q83c⟩ := isOf hZ rfl po78_1
          obtain ⟨_, _, ⟨T83, L83, k83, n83⟩, -, X83, ⟨Lc83, hQ83, l83, y83, z83⟩, st83⟩ := X78.virtualBack hx (y := (⟨"com/example/unicopy/unicopy/UniqueValue", "named", "()Z"⟩ : MethodName)) (z := (⟨"com/example/unicopy/unicopy/UniqueValue", "named", "()Z"⟩ : MethodName)) hown (mvT hZ (hw _ (List.mem_of_getElem? (i := 62) rfl))) (mvT hZ (hw _ (List.mem_of_getElem? (i := 63) rfl))) (notFace_of_selects (args := #[]) (mvT hZ (hw _ (List.mem_of_getElem? (i := 65) rfl)))) (mvT hZ (hw _ (List.mem_of_getElem? (i := 65) rfl))) (mvT hZ (hw _ (List.mem_of_getElem? (i := 64) rfl))) (by decide) (backOf (W := 0) (rm13 l Z aw hw [] (rv78) (sv78) (bv78) (kb78) ((0 : Int32)) ([]) (T78.heap) n0 z84 po78_1 po78_2 po78_3 po78_4 po78_5) hZ (hw _ (List.mem_of_getElem? (i := 66) rfl)) (hw _ (List.mem_of_getElem? (i := 46) rfl)) (by decide) (by decide)) q83a q83c (g := (mkF m 146 #[.val (.int p0), .val (.int p1), .val (.int p2), .val (.int p3), .val (.int p4), .val (.int p5), .val (.int x6_5), .val (.ref b2), .val (.ref b16), .val (.ref a55), .val (.ref b59), .val (.int m122_s0), .val (.ref rv78)] [(.ref rv78)])) rfl (by rw [hml]; rfl) (Steps.refl _) (argsL := []) (rest := []) (lenOf pd_8 rfl) rfl (by show 2 * 0 + _ ≤ _; exact Nat.le_of_eq rfl) (hb hby at_146) (fun _ _ => ⟨rfl, rfl, (by decide : 12 + 0 ≤ _), (by decide : 29 + 0 ≤ _)⟩)
          dsimp only [Pt.U, Pt.locs, Pt.cells, Pt.slots] at X83 l83 y83 z83 st83 hQ83
          subst l83 y83 z83
          obtain ⟨rfl, Nq83, eq83⟩ := hQ83
          have N83 := Fr.app N78 Nq83
          have hc149 : ((own_f13 ((0 : Int32))) = (0 : Int32)) := by decide
          obtain ⟨fs, hr, hrun, hended, hREW⟩ := X83.leaveW hS78 (by rw [eq83]; exact hk78) (v := some (.int (1 : Int32))) (fun h => by rw [Bd.returns] at h; cases h)
          refine ⟨_, _, pre69 _ ?_, hrun, hended, _, _, rfl, ?_, by rw [hh, show (State.setFrames T83 fs).heap = T78.heap from eq83]; have hq := cr78.trans (Jvm.RoadKit.CHv.at X83 hZ (own_EW hw) cr78.1); exact hq, hREW.1, hREW.2.1, hREW.2.2.1, hREW.2.2.2.mono (by decide) (by decide)⟩
          · show Steps p.tables e below (T64.setTop (mkF m 122 #[.val (.int p0), .val (.int p1), .val (.int p2), .val (.int p3), .val (.int p4), .val (.int p5), .val (.int x6_5), .val (.ref b2), .val (.ref b16), .val (.ref a55), .val (.ref b59), .unset, .unset] [(.int m122_s0)])) _
            refine XS.istore X64.here hx rfl (hb hby at_122) rfl (l' := #[.val (.int p0), .val (.int p1), .val (.int p2), .val (.int p3), .val (.int p4), .val (.int p5), .val (.int x6_5), .val (.ref b2), .val (.ref b16), .val (.ref a55), .val (.ref b59), .val (.int m122_s0), .unset]) rfl ?_
            refine XS.aload X64.here hx rfl (hb hby at_124) rfl rfl ?_
            refine st73.trans ?_
            refine XS.iload X73.here hx rfl (hb hby at_129) rfl ?_
            refine XS.icmpYes X73.here hx rfl (pc0 := 131) (pc' := 136) rfl (hb hby at_131) rfl (teq hc131).1 (by decide) (by decide) ?_
            show Steps p.tables e below (T73.setTop (mkF m 136 #[.val (.int p0), .val (.int p1), .val (.int p2), .val (.int p3), .val (.int p4), .val (.int p5), .val (.int x6_5), .val (.ref b2), .val (.ref b16), .val (.ref a55), .val (.ref b59), .val (.int m122_s0), .unset] [])) _
            refine XS.iloadN X73.here hx rfl (hb hby at_136) rfl ?_
            refine XS.aload X73.here hx rfl (hb hby at_137) rfl rfl ?_
            refine st78.trans ?_
            refine XS.astore X78.here hx rfl (hb hby at_142) rfl rfl (l' := #[.val (.int p0), .val (.int p1), .val (.int p2), .val (.int p3), .val (.int p4), .val (.int p5), .val (.int x6_5), .val (.ref b2), .val (.ref b16), .val (.ref a55), .val (.ref b59), .val (.int m122_s0), .val (.ref rv78)]) rfl ?_
            refine XS.aload X78.here hx rfl (hb hby at_144) rfl rfl ?_
            show Steps p.tables e below (T78.setTop (mkF m 146 #[.val (.int p0), .val (.int p1), .val (.int p2), .val (.int p3), .val (.int p4), .val (.int p5), .val (.int x6_5), .val (.ref b2), .val (.ref b16), .val (.ref a55), .val (.ref b59), .val (.int m122_s0), .val (.ref rv78)] [(.ref rv78)])) _
            refine st83.trans ?_
            refine XS.ifNo X83.here hx rfl (hb hby at_149) rfl ((if0 _ _).trans (teq hc149).2) ?_
            refine XS.iconst X83.here hx rfl (hb hby at_152) ?_
            refine XS.goto X83.here hx rfl (pc0 := 153) (pc' := 157) rfl (hb hby at_153) (by decide) (by decide) ?_
            show Steps p.tables e below (T83.setTop (mkF m 157 #[.val (.int p0), .val (.int p1), .val (.int p2), .val (.int p3), .val (.int p4), .val (.int p5), .val (.int x6_5), .val (.ref b2), .val (.ref b16), .val (.ref a55), .val (.ref b59), .val (.int m122_s0), .val (.ref rv78)] [(.int (1 : Int32))])) _
            exact retN X83 hx (t := .boolean) Bd.returns (by simp) (hb hby at_157) hr
          · show Q0 Z p0 p1 p2 p3 p4 p5 cv h0 n0 _ T83.heap _
            rw [eq83]
            unfold Q0
            refine ⟨rfl, N83⟩
      · have z86 : n0 ≤ (h9).size := (Nat.le_trans (Nat.le_trans (Nat.le_trans Z0 E2.1) (Keep.of_wr W5).1) (Keep.of_wr W9).1)
        obtain ⟨T85, h85, X85, e85, E85, A85, D85, -, st85⟩ := newO X9 hx hZ hown (hw _ (List.mem_of_getElem? (i := 1) rfl)) (hw _ (List.mem_of_getElem? (i := 2) rfl)) (hw _ (List.mem_of_getElem? (i := 3) rfl)) e9 (g := (mkF m 59 #[.val (.int p0), .val (.int p1), .val (.int p2), .val (.int p3), .val (.int p4), .val (.int p5), .val (.int x6_5), .val (.ref b2), .unset, .unset, .unset, .unset, .unset] [])) rfl (hb hby at_59) (by decide) (by decide)
        obtain ⟨b85, gq85⟩ : ∃ z, z = (h9).size := ⟨_, rfl⟩
        rw [← gq85] at A85 D85 st85
        have ne_b2_b85 : b2 ≠ b85 := Nat.ne_of_lt (Nat.lt_of_lt_of_le V9.lt (Nat.le_of_eq gq85.symm))
        have g_b85 : n0 ≤ b85 := Nat.le_trans z86 (Nat.le_of_eq gq85.symm)
        have cs87 := Jvm.RoadKit.CHr.ext E85 cr11.1
        have cr87 := cr11.trans cs87
        have sf85 := Jvm.RoadKit.Safe.ext E85 cr11.1 (Jvm.RoadKit.Safe.new (Nat.le_of_eq gq85.symm))
        have F_b85_coder : Fld Z h85 b85 "java/lang/String" "coder" "B" (.int (0 : Int32)) := D85 (Or.inr (hw _ (List.mem_of_getElem? (i := 27) rfl))) (ty := .byte) (by decide)
        have F_b85_value : Fld Z h85 b85 "java/lang/String" "value" "[B" .null := D85 (Or.inr (hw _ (List.mem_of_getElem? (i := 29) rfl))) (ty := (.array .byte)) (by decide)
        have f89 := (V9.ext E85)
        have f90 := ((((S_COMPACT_STRINGS.ext E2).wr W5).wr W9).ext E85)
        have z91 : n0 ≤ (h85).size := (Nat.le_trans z86 E85.1)
        have hk92 : _ ≤ (h85).size := (Nat.le_trans (Nat.le_trans (Nat.le_trans (Nat.le_trans hk0 E2.1) (Keep.of_wr W5).1) (Keep.of_wr W9).1) E85.1)
        obtain ⟨_, _, ⟨T88, L88, k88, n88⟩, -, X88, hs88, gr88, ⟨Lc88, hQ88, l88, y88, z88, cs88⟩, st88⟩ := X85.specialBackS hx (y := (⟨"java/lang/String", "<init>", "([C)V"⟩ : MethodName)) rfl hown (mvT hZ (hw _ (List.mem_of_getElem? (i := 4) rfl))) (mvT hZ (hw _ (List.mem_of_getElem? (i := 5) rfl))) (mvT hZ (hw _ (List.mem_of_getElem? (i := 6) rfl))) (by decide) (Jvm.RoadKit.backOfSH (W := 1) (rm1 l Z aw hw [] (b85) (b2) (k2) (x6_5) (ws9) (cv) (h85) n0 z91 A85 F_b85_value F_b85_coder f89 f90 hcv (own_rng hx6_5) (by rw [hws9]; exact own_set (by rw [hws5]; exact own_set own_rep (own_c _)) (own_c _)) (Ne.symm ne_b2_b85) g_b85) hZ (hw _ (List.mem_of_getElem? (i := 6) rfl)) (hw _ (List.mem_of_getElem? (i := 3) rfl)) (by decide) (by decide) (own_EW hw) cr87.1) (g := (mkF m 65 #[.val (.int p0), .val (.int p1), .val (.int p2), .val (.int p3), .val (.int p4), .val (.int p5), .val (.int x6_5), .val (.ref b2), .unset, .unset, .unset, .unset, .unset] [(.ref b2), (.ref b85), (.ref b85)])) rfl (by rw [hml]; rfl) (Steps.refl _) (a := b85) (argsL := [(.ref b2)]) (rest := [(.ref b85)]) (lenOf pd_10 rfl) rfl (by show 2 * 0 + _ ≤ _; exact Nat.le_of_eq rfl) (hb hby at_65) (fun _ _ => ⟨rfl, e85, (by decide : 2 + 4 ≤ _), (by decide : 7 + 8 ≤ _)⟩)
        dsimp only [Pt.U, Pt.locs, Pt.cells, Pt.slots] at X88 l88 y88 z88 st88 hQ88 hs88 gr88 cs88
        subst l88 y88 z88
        obtain ⟨X88, hS88⟩ := X88.againW hS0 hs88 (Nat.le_trans hk92 (by rw [← e85]; exact gr88))
        have hZ : Z.Warmed39 (s.setVm T88.vm).vm := State.Warmed39.trans (t := (s.setVm s.vm)) hZ hs88.1
        have hown : (s.setVm T88.vm).vm.findClass "com/example/unicopy/unicopy/UniqueValueNamedPinLaw" = some m.cls := by rw [show (s.setVm T88.vm).vm = T88.vm from rfl, hs88.1.alike.findClass]; exact hown
        have hk88 : T88.heap.size ≤ T88.heap.size := Nat.le_refl _
        have cr88 := cr87.trans cs88
        have sf88_b85 := cs88.safe A85.lt sf85
        obtain ⟨bv88, kb88, wb88, rfl, Nq88, K88, po88_0, po88_1, po88_2⟩ := hQ88
        have N88 := Fr.app N9 Nq88
        have pre93 : own_Pre p e below (s₁.setTop (entryFrame m #[(.int p0), (.int p1), (.int p2), (.int p3), (.int p4), (.int p5)] maxLocals)) (T88.setTop (mkF m 76 #[.val (.int p0), .val (.int p1), .val (.int p2), .val (.int p3), .val (.int p4), .val (.int p5), .val (.int x6_5), .val (.ref b2), .val (.ref b85), .unset, .unset, .unset, .unset] [(.int (p5 &&& (256 : Int32)))])) := fun t k => pre12 t (by
            show Steps p.tables e below (T9.setTop (mkF m 45 #[.val (.int p0), .val (.int p1), .val (.int p2), .val (.int p3), .val (.int p4), .val (.int p5), .val (.int x6_5), .val (.ref b2), .unset, .unset, .unset, .unset, .unset] [(.int (2 : Int32)), (.int x6_5)])) _
            refine XS.icmpYes X9.here hx rfl (pc0 := 45) (pc' := 59) rfl (hb hby at_45) rfl (flt hc45).2.2.2 (by decide) (by decide) ?_
            refine st85 _ ?_
            refine XS.dup X85.here hx rfl (hb hby at_62) rfl rfl ?_
            refine XS.aload X85.here hx rfl (hb hby at_63) rfl rfl ?_
            refine st88.trans ?_
            show Steps p.tables e below (T88.setTop (mkF m 68 #[.val (.int p0), .val (.int p1), .val (.int p2), .val (.int p3), .val (.int p4), .val (.int p5), .val (.int x6_5), .val (.ref b2), .unset, .unset, .unset, .unset, .unset] [(.ref b85)])) _
            refine XS.astore X88.here hx rfl (hb hby at_68) rfl rfl (l' := #[.val (.int p0), .val (.int p1), .val (.int p2), .val (.int p3), .val (.int p4), .val (.int p5), .val (.int x6_5), .val (.ref b2), .val (.ref b85), .unset, .unset, .unset, .unset]) rfl ?_
            refine XS.iload X88.here hx rfl (hb hby at_70) rfl ?_
            refine XS.sipush X88.here hx rfl (hb hby at_72) ?_
            refine XS.iand X88.here hx rfl (hb hby at_75) rfl ?_
            exact k)
        by_cases hc76 : (p5 &&& (256 : Int32)) = (0 : Int32)
        · have f95 := (own_Sta_keep f90 K88 (own_alS (Jvm.RoadKit.Exa.nostat A85) own_al0))
          have z96 : n0 ≤ (T88.heap).size := (Nat.le_trans z91 K88.1)
          have f97 := (f89.keep K88 (ninS ne_b2_b85 nin0))
          obtain ⟨_, _, ⟨T94, L94, k94, n94⟩, -, X94, ⟨Lc94, hQ94, l94, y94, z94⟩, st94⟩ := Jvm.LawKit.callS X88 hx (y := (⟨"java/lang/String", "valueOf", "(C)Ljava/lang/String;"⟩ : MethodName)) hown (mvT hZ (hw _ (List.mem_of_getElem? (i := 30) rfl))) (mvT hZ (hw _ (List.mem_of_getElem? (i := 31) rfl))) (mvT hZ (hw _ (List.mem_of_getElem? (i := 3) rfl))) (mvT hZ (hw _ (List.mem_of_getElem? (i := 32) rfl))) (by decide) (backOf (W := 0) (rm7 l Z aw hw [] (((p5 &&& (255 : Int32))).toUInt32.toUInt16.toUInt32.toInt32) (cv) (T88.heap) n0 z96 f95 hcv (own_c2 _)) hZ (hw _ (List.mem_of_getElem? (i := 32) rfl)) (hw _ (List.mem_of_getElem? (i := 3) rfl)) (by decide) (by decide)) (g := (mkF m 93 #[.val (.int p0), .val (.int p1), .val (.int p2), .val (.int p3), .val (.int p4), .val (.int p5), .val (.int x6_5), .val (.ref b2), .val (.ref b85), .unset, .unset, .unset, .unset] [(.int ((p5 &&& (255 : Int32))).toUInt32.toUInt16.toUInt32.toInt32)])) rfl (by rw [hml]; rfl) (argsL := [(.int ((p5 &&& (255 : Int32))).toUInt32.toUInt16.toUInt32.toInt32)]) (rest := []) (lenOf pd_11 rfl) rfl (by show 2 * 0 + _ ≤ _; exact Nat.le_of_eq rfl) (hb hby at_93) (fun _ _ => ⟨rfl, rfl, (by decide : 6 + 2 ≤ _), (by decide : 15 + 5 ≤ _)⟩)
          dsimp only [Pt.U, Pt.locs, Pt.cells, Pt.slots] at X94 l94 y94 z94 st94 hQ94
          subst l94 y94 z94
          obtain ⟨rs94, rfl, Nq94, K94, po94_0⟩ := hQ94
          have N94 := Fr.app N88 Nq94
          have cs98 := Jvm.RoadKit.CHr.keep K94 own_al0 cr88.1
          have cr98 := cr88.trans cs98
          have sf98_b85 := cs98.safe po88_0.lt sf88_b85
          have ne_b2_rs94 : b2 ≠ rs94 := Nat.ne_of_lt (Nat.lt_of_lt_of_le f97.lt po94_0)
          have ne_b85_rs94 : b85 ≠ rs94 := Nat.ne_of_lt (Nat.lt_of_lt_of_le po88_0.lt po94_0)
          have ne_bv88_rs94 : bv88 ≠ rs94 := Nat.ne_of_lt (Nat.lt_of_lt_of_le po88_2.lt po94_0)
          have g_rs94 : n0 ≤ rs94 := Nat.le_trans z96 po94_0
          have z100 : n0 ≤ (T94.heap).size := (Nat.le_trans z96 K94.1)
          obtain ⟨T99, h99, X99, e99, E99, A99, D99, -, st99⟩ := newO X94 hx hZ hown (hw _ (List.mem_of_getElem? (i := 44) rfl)) (hw _ (List.mem_of_getElem? (i := 45) rfl)) (hw _ (List.mem_of_getElem? (i := 46) rfl)) rfl (g := (mkF m 98 #[.val (.int p0), .val (.int p1), .val (.int p2), .val (.int p3), .val (.int p4), .val (.int p5), .val (.int x6_5), .val (.ref b2), .val (.ref b85), .val (.ref rs94), .unset, .unset, .unset] [])) rfl (hb hby at_98) (by decide) (by decide)
          obtain ⟨b99, gq99⟩ : ∃ z, z = (T94.heap).size := ⟨_, rfl⟩
          rw [← gq99] at A99 D99 st99
          have f101 := (f97.keep K94 nin0)
          have ne_b2_b99 : b2 ≠ b99 := Nat.ne_of_lt (Nat.lt_of_lt_of_le f101.lt (Nat.le_of_eq gq99.symm))
          have f102 := (po88_0.keep K94)
          have ne_b85_b99 : b85 ≠ b99 := Nat.ne_of_lt (Nat.lt_of_lt_of_le f102.lt (Nat.le_of_eq gq99.symm))
          have f103 := (po88_2.keep K94 nin0)
          have ne_bv88_b99 : bv88 ≠ b99 := Nat.ne_of_lt (Nat.lt_of_lt_of_le f103.lt (Nat.le_of_eq gq99.symm))
          have g_b99 : n0 ≤ b99 := Nat.le_trans z100 (Nat.le_of_eq gq99.symm)
          have cs104 := Jvm.RoadKit.CHr.ext E99 cr98.1
          have cr104 := cr98.trans cs104
          have sf104_b85 := cs104.safe f102.lt sf98_b85
          have F_b99_change : Fld Z h99 b99 "com/example/unicopy/unicopy/UniqueValue" "change" "I" (.int (0 : Int32)) := D99 (Or.inr (hw _ (List.mem_of_getElem? (i := 57) rfl))) (ty := .int) (by decide)
          have F_b99_index : Fld Z h99 b99 "com/example/unicopy/unicopy/UniqueValue" "index" "Ljava/lang/String;" .null := D99 (Or.inr (hw _ (List.mem_of_getElem? (i := 59) rfl))) (ty := (.object "java/lang/String")) (by decide)
          have F_b99_value : Fld Z h99 b99 "com/example/unicopy/unicopy/UniqueValue" "value" "Ljava/lang/String;" .null := D99 (Or.inr (hw _ (List.mem_of_getElem? (i := 61) rfl))) (ty := (.object "java/lang/String")) (by decide)
          have z106 : n0 ≤ (h99).size := (Nat.le_trans z100 E99.1)
          obtain ⟨_, _, ⟨T105, L105, k105, n105⟩, -, X105, ⟨Lc105, hQ105, l105, y105, z105⟩, st105⟩ := X99.specialBack hx (y := (⟨"com/example/unicopy/unicopy/UniqueValue", "<init>", "(ILjava/lang/String;Ljava/lang/String;)V"⟩ : MethodName)) rfl hown (mvT hZ (hw _ (List.mem_of_getElem? (i := 47) rfl))) (mvT hZ (hw _ (List.mem_of_getElem? (i := 48) rfl))) (mvT hZ (hw _ (List.mem_of_getElem? (i := 49) rfl))) (by decide) (backOf (W := 1) (rm11 l Z aw hw [] (b99) (p0) (rs94) (b85) (h99) n0 z106 A99 F_b99_change F_b99_index F_b99_value g_b99) hZ (hw _ (List.mem_of_getElem? (i := 49) rfl)) (hw _ (List.mem_of_getElem? (i := 46) rfl)) (by decide) (by decide)) (g := (mkF m 107 #[.val (.int p0), .val (.int p1), .val (.int p2), .val (.int p3), .val (.int p4), .val (.int p5), .val (.int x6_5), .val (.ref b2), .val (.ref b85), .val (.ref rs94), .unset, .unset, .unset] [(.ref b85), (.ref rs94), (.int p0), (.ref b99), (.ref b99)])) rfl (by rw [hml]; rfl) (Steps.refl _) (a := b99) (argsL := [(.int p0), (.ref rs94), (.ref b85)]) (rest := [(.ref b99)]) (lenOf pd_9 rfl) rfl (by show 2 * 0 + _ ≤ _; exact Nat.le_of_eq rfl) (hb hby at_107) (fun _ _ => ⟨rfl, e99, (by decide : 9 + 0 ≤ _), (by decide : 23 + 0 ≤ _)⟩)
          dsimp only [Pt.U, Pt.locs, Pt.cells, Pt.slots] at X105 l105 y105 z105 st105 hQ105
          subst l105 y105 z105
          obtain ⟨rfl, Nq105, K105, po105_0, po105_1⟩ := hQ105
          have N105 := Fr.app N94 Nq105
          have f107 := (f102.ext E99)
          have cs108 := Jvm.RoadKit.CHr.keep K105 (own_alS (Jvm.RoadKit.Safe.exa hZ.alike A99 (by decide) (by decide)) own_al0) cr104.1
          have cr108 := cr104.trans cs108
          have sf108_b85 := cs108.safe f107.lt sf104_b85
          have pre111 : own_Pre p e below (s₁.setTop (entryFrame m #[(.int p0), (.int p1), (.int p2), (.int p3), (.int p4), (.int p5)] maxLocals)) (T105.setTop (mkF m 114 #[.val (.int p0), .val (.int p1), .val (.int p2), .val (.int p3), .val (.int p4), .val (.int p5), .val (.int x6_5), .val (.ref b2), .val (.ref b85), .val (.ref rs94), .val (.ref b99), .unset, .unset] [(.int x6_5)])) := fun t k => pre93 t (by
              show Steps p.tables e below (T88.setTop (mkF m 76 #[.val (.int p0), .val (.int p1), .val (.int p2), .val (.int p3), .val (.int p4), .val (.int p5), .val (.int x6_5), .val (.ref b2), .val (.ref b85), .unset, .unset, .unset, .unset] [(.int (p5 &&& (256 : Int32)))])) _
              refine XS.ifYes X88.here hx rfl (pc0 := 76) (pc' := 86) rfl (hb hby at_76) rfl ((if0 _ _).trans (teq hc76).1) (by decide) (by decide) ?_
              refine XS.iload X88.here hx rfl (hb hby at_86) rfl ?_
              refine XS.sipush X88.here hx rfl (hb hby at_88) ?_
              refine XS.iand X88.here hx rfl (hb hby at_91) rfl ?_
              refine XS.i2c X88.here hx rfl (hb hby at_92) rfl ?_
              show Steps p.tables e below (T88.setTop (mkF m 93 #[.val (.int p0), .val (.int p1), .val (.int p2), .val (.int p3), .val (.int p4), .val (.int p5), .val (.int x6_5), .val (.ref b2), .val (.ref b85), .unset, .unset, .unset, .unset] [(.int ((p5 &&& (255 : Int32))).toUInt32.toUInt16.toUInt32.toInt32)])) _
              refine st94 _ ?_
              refine XS.astore X94.here hx rfl (hb hby at_96) rfl rfl (l' := #[.val (.int p0), .val (.int p1), .val (.int p2), .val (.int p3), .val (.int p4), .val (.int p5), .val (.int x6_5), .val (.ref b2), .val (.ref b85), .val (.ref rs94), .unset, .unset, .unset]) rfl ?_
              refine st99 _ ?_
              refine XS.dup X99.here hx rfl (hb hby at_101) rfl rfl ?_
              refine XS.iloadN X99.here hx rfl (hb hby at_102) rfl ?_
              show Steps p.tables e below (T99.setTop (mkF m 103 #[.val (.int p0), .val (.int p1), .val (.int p2), .val (.int p3), .val (.int p4), .val (.int p5), .val (.int x6_5), .val (.ref b2), .val (.ref b85), .val (.ref rs94), .unset, .unset, .unset] [(.int p0), (.ref b99), (.ref b99)])) _
              refine XS.aload X99.here hx rfl (hb hby at_103) rfl rfl ?_
              refine XS.aload X99.here hx rfl (hb hby at_105) rfl rfl ?_
              refine st105.trans ?_
              refine XS.astore X105.here hx rfl (hb hby at_110) rfl rfl (l' := #[.val (.int p0), .val (.int p1), .val (.int p2), .val (.int p3), .val (.int p4), .val (.int p5), .val (.int x6_5), .val (.ref b2), .val (.ref b85), .val (.ref rs94), .val (.ref b99), .unset, .unset]) rfl ?_
              refine XS.iload X105.here hx rfl (hb hby at_112) rfl ?_
              exact k)
          obtain ⟨m122_s0, hm122_s0, pre110⟩ : ∃ (m122_s0 : Int32), m122_s0 = (own_m0_122_s0 x6_5) ∧ own_Pre p e below (s₁.setTop (entryFrame m #[(.int p0), (.int p1), (.int p2), (.int p3), (.int p4), (.int p5)] maxLocals)) (T105.setTop (mkF m 122 #[.val (.int p0), .val (.int p1), .val (.int p2), .val (.int p3), .val (.int p4), .val (.int p5), .val (.int x6_5), .val (.ref b2), .val (.ref b85), .val (.ref rs94), .val (.ref b99), .unset, .unset] [(.int m122_s0)])) := by
            by_cases hc114 : x6_5 = (0 : Int32)
            · have pre112 : own_Pre p e below (s₁.setTop (entryFrame m #[(.int p0), (.int p1), (.int p2), (.int p3), (.int p4), (.int p5)] maxLocals)) (T105.setTop (mkF m 122 #[.val (.int p0), .val (.int p1), .val (.int p2), .val (.int p3), .val (.int p4), .val (.int p5), .val (.int x6_5), .val (.ref b2), .val (.ref b85), .val (.ref rs94), .val (.ref b99), .unset, .unset] [(.int (0 : Int32))])) := fun t k => pre111 t (by
                  show Steps p.tables e below (T105.setTop (mkF m 114 #[.val (.int p0), .val (.int p1), .val (.int p2), .val (.int p3), .val (.int p4), .val (.int p5), .val (.int x6_5), .val (.ref b2), .val (.ref b85), .val (.ref rs94), .val (.ref b99), .unset, .unset] [(.int x6_5)])) _
                  refine XS.ifYes X105.here hx rfl (pc0 := 114) (pc' := 121) rfl (hb hby at_114) rfl ((if0 _ _).trans (teq hc114).1) (by decide) (by decide) ?_
                  refine XS.iconst X105.here hx rfl (hb hby at_121) ?_
                  exact k)
              refine ⟨_, ?_, pre112⟩
              all_goals (first | (simp only [own_m0_122_s0, if_pos hc114]; done) | (simp [own_m0_122_s0, if_pos hc114]; done))
            · have pre113 : own_Pre p e below (s₁.setTop (entryFrame m #[(.int p0), (.int p1), (.int p2), (.int p3), (.int p4), (.int p5)] maxLocals)) (T105.setTop (mkF m 122 #[.val (.int p0), .val (.int p1), .val (.int p2), .val (.int p3), .val (.int p4), .val (.int p5), .val (.int x6_5), .val (.ref b2), .val (.ref b85), .val (.ref rs94), .val (.ref b99), .unset, .unset] [(.int (1 : Int32))])) := fun t k => pre111 t (by
                  show Steps p.tables e below (T105.setTop (mkF m 114 #[.val (.int p0), .val (.int p1), .val (.int p2), .val (.int p3), .val (.int p4), .val (.int p5), .val (.int x6_5), .val (.ref b2), .val (.ref b85), .val (.ref rs94), .val (.ref b99), .unset, .unset] [(.int x6_5)])) _
                  refine XS.ifNo X105.here hx rfl (hb hby at_114) rfl ((if0 _ _).trans (feq hc114).1) ?_
                  refine XS.iconst X105.here hx rfl (hb hby at_117) ?_
                  refine XS.goto X105.here hx rfl (pc0 := 118) (pc' := 122) rfl (hb hby at_118) (by decide) (by decide) ?_
                  exact k)
              refine ⟨_, ?_, pre113⟩
              all_goals (first | (simp only [own_m0_122_s0, if_neg hc114]; done) | (simp [own_m0_122_s0, if_neg hc114]; done))
          have f115 := (f107.keep K105)
          have f116 := (((po88_1.keep K94 nin0).ext E99).keep K105 (ninS ne_b85_b99 nin0))
          have f117 := ((f103.ext E99).keep K105 (ninS ne_bv88_b99 nin0))
          have z118 : n0 ≤ (T105.heap).size := (Nat.le_trans z106 K105.1)
          obtain ⟨cq114, kq114, q114a, q114b, q114c⟩ := isOf hZ rfl po105_0
          obtain ⟨_, _, ⟨T114, L114, k114, n114⟩, -, X114, ⟨Lc114, hQ114, l114, y114, z114⟩, st114⟩ := X105.virtualBack hx (y := (⟨"com/example/unicopy/unicopy/UniqueValue", "named", "()Z"⟩ : MethodName)) (z := (⟨"com/example/unicopy/unicopy/UniqueValue", "named", "()Z"⟩ : MethodName)) hown (mvT hZ (hw _ (List.mem_of_getElem? (i := 62) rfl))) (mvT hZ (hw _ (List.mem_of_getElem? (i := 63) rfl))) (notFace_of_selects (args := #[]) (mvT hZ (hw _ (List.mem_of_getElem? (i := 65) rfl)))) (mvT hZ (hw _ (List.mem_of_getElem? (i := 65) rfl))) (mvT hZ (hw _ (List.mem_of_getElem? (i := 64) rfl))) (by decide) (backOf (W := 0) (rm13 l Z aw hw [] (b99) (b85) (bv88) (kb88) (x6_5) (wb88) (T105.heap) n0 z118 po105_0 po105_1 f115 f116 f117) hZ (hw _ (List.mem_of_getElem? (i := 66) rfl)) (hw _ (List.mem_of_getElem? (i := 46) rfl)) (by decide) (by decide)) q114a q114c (g := (mkF m 126 #[.val (.int p0), .val (.int p1), .val (.int p2), .val (.int p3), .val (.int p4), .val (.int p5), .val (.int x6_5), .val (.ref b2), .val (.ref b85), .val (.ref rs94), .val (.ref b99), .val (.int m122_s0), .unset] [(.ref b99)])) rfl (by rw [hml]; rfl) (Steps.refl _) (argsL := []) (rest := []) (lenOf pd_8 rfl) rfl (by show 2 * 0 + _ ≤ _; exact Nat.le_of_eq rfl) (hb hby at_126) (fun _ _ => ⟨rfl, rfl, (by decide : 9 + 0 ≤ _), (by decide : 23 + 0 ≤ _)⟩)
          dsimp only [Pt.U, Pt.locs, Pt.cells, Pt.slots] at X114 l114 y114 z114 st114 hQ114
          subst l114 y114 z114
          obtain ⟨rfl, Nq114, eq114⟩ := hQ114
          have N114 := Fr.app N105 Nq114
          have hc131 : ((own_f13 x6_5) = m122_s0) := own_named hm122_s0
          have f120 := ((f101.ext E99).keep K105 (ninS ne_b2_b99 nin0))
          have hk121 : _ ≤ (T105.heap).size := (Nat.le_trans (Nat.le_trans (Nat.le_trans hk88 K94.1) E99.1) K105.1)
          obtain ⟨_, _, ⟨T119, L119, k119, n119⟩, -, X119, hs119, gr119, ⟨Lc119, hQ119, l119, y119, z119, cs119⟩, st119⟩ := Jvm.RoadKit.callSS X114 hx (y := (⟨"com/example/unicopy/unicopy/UniqueValue", "unnamed", "(ILjava/lang/String;)Lcom/example/unicopy/unicopy/UniqueValue;"⟩ : MethodName)) hown (mvT hZ (hw _ (List.mem_of_getElem? (i := 72) rfl))) (mvT hZ (hw _ (List.mem_of_getElem? (i := 73) rfl))) (mvT hZ (hw _ (List.mem_of_getElem? (i := 46) rfl))) (mvT hZ (hw _ (List.mem_of_getElem? (i := 74) rfl))) (by decide) (Jvm.RoadKit.backOfSH (W := 0) (rm15 l Z aw hw [] (p0) (rs94) (T105.heap) n0 z118) hZ (hw _ (List.mem_of_getElem? (i := 74) rfl)) (hw _ (List.mem_of_getElem? (i := 46) rfl)) (by decide) (by decide) (own_EW hw) cr108.1) (g := (mkF m 139 #[.val (.int p0), .val (.int p1), .val (.int p2), .val (.int p3), .val (.int p4), .val (.int p5), .val (.int x6_5), .val (.ref b2), .val (.ref b85), .val (.ref rs94), .val (.ref b99), .val (.int m122_s0), .unset] [(.ref rs94), (.int p0)])) rfl (by rw [hml]; rfl) (argsL := [(.int p0), (.ref rs94)]) (rest := []) (lenOf pd_12 rfl) rfl (by show 2 * 0 + _ ≤ _; exact Nat.le_of_eq rfl) (hb hby at_139) (fun _ _ => ⟨rfl, eq114, (by decide : 9 + 3 ≤ _), (by decide : 23 + 7 ≤ _)⟩)
          dsimp only [Pt.U, Pt.locs, Pt.cells, Pt.slots] at X119 l119 y119 z119 st119 hQ119 hs119 gr119 cs119
          subst l119 y119 z119
          obtain ⟨X119, hS119⟩ := X119.againW hS88 hs119 (Nat.le_trans hk121 (by rw [← eq114]; exact gr119))
          have hZ : Z.Warmed39 (s.setVm T119.vm).vm := State.Warmed39.trans (t := (s.setVm T88.vm)) hZ hs119.1
          have hown : (s.setVm T119.vm).vm.findClass "com/example/unicopy/unicopy/UniqueValueNamedPinLaw" = some m.cls := by rw [show (s.setVm T119.vm).vm = T119.vm from rfl, hs119.1.alike.findClass]; exact hown
          have hk119 : T119.heap.size ≤ T119.heap.size := Nat.le_refl _
          have cr119 := cr108.trans cs119
          have sf119_b85 := cs119.safe f115.lt sf108_b85
          obtain ⟨rv119, sv119, bv119, kb119, rfl, Nq119, K119, po119_0, po119_1, po119_2, po119_3, po119_4, po119_5⟩ := hQ119
          have N119 := Fr.app N114 Nq119
          have ne_b2_rv119 : b2 ≠ rv119 := Nat.ne_of_lt (Nat.lt_of_lt_of_le f120.lt po119_0)
          have ne_b85_rv119 : b85 ≠ rv119 := Nat.ne_of_lt (Nat.lt_of_lt_of_le f115.lt po119_0)
          have ne_b99_rv119 : b99 ≠ rv119 := Nat.ne_of_lt (Nat.lt_of_lt_of_le po105_0.lt po119_0)
          have ne_bv88_rv119 : bv88 ≠ rv119 := Nat.ne_of_lt (Nat.lt_of_lt_of_le f117.lt po119_0)
          have g_rv119 : n0 ≤ rv119 := Nat.le_trans z118 po119_0
          have z123 : n0 ≤ (T119.heap).size := (Nat.le_trans z118 K119.1)
          obtain ⟨cq122, kq122, q122a, q122b, q122c⟩ := isOf hZ rfl po119_1
          obtain ⟨_, _, ⟨T122, L122, k122, n122⟩, -, X122, ⟨Lc122, hQ122, l122, y122, z122⟩, st122⟩ := X119.virtualBack hx (y := (⟨"com/example/unicopy/unicopy/UniqueValue", "named", "()Z"⟩ : MethodName)) (z := (⟨"com/example/unicopy/unicopy/UniqueValue", "named", "()Z"⟩ : MethodName)) hown (mvT hZ (hw _ (List.mem_of_getElem? (i := 62) rfl))) (mvT hZ (hw _ (List.mem_of_getElem? (i := 63) rfl))) (notFace_of_selects (args := #[]) (mvT hZ (hw _ (List.mem_of_getElem? (i := 65) rfl)))) (mvT hZ (hw _ (List.mem_of_getElem? (i := 65) rfl))) (mvT hZ (hw _ (List.mem_of_getElem? (i := 64) rfl))) (by decide) (backOf (W := 0) (rm13 l Z aw hw [] (rv119) (sv119) (bv119) (kb119) ((0 : Int32)) ([]) (T119.heap) n0 z123 po119_1 po119_2 po119_3 po119_4 po119_5) hZ (hw _ (List.mem_of_getElem? (i := 66) rfl)) (hw _ (List.mem_of_getElem? (i := 46) rfl)) (by decide) (by decide)) q122a q122c (g := (mkF m 146 #[.val (.int p0), .val (.int p1), .val (.int p2), .val (.int p3), .val (.int p4), .val (.int p5), .val (.int x6_5), .val (.ref b2), .val (.ref b85), .val (.ref rs94), .val (.ref b99), .val (.int m122_s0), .val (.ref rv119)] [(.ref rv119)])) rfl (by rw [hml]; rfl) (Steps.refl _) (argsL := []) (rest := []) (lenOf pd_8 rfl) rfl (by show 2 * 0 + _ ≤ _; exact Nat.le_of_eq rfl) (hb hby at_146) (fun _ _ => ⟨rfl, rfl, (by decide : 12 + 0 ≤ _), (by decide : 30 + 0 ≤ _)⟩)
          dsimp only [Pt.U, Pt.locs, Pt.cells, Pt.slots] at X122 l122 y122 z122 st122 hQ122
          subst l122 y122 z122
          obtain ⟨rfl, Nq122, eq122⟩ := hQ122
          have N122 := Fr.app N119 Nq122
          have hc149 : ((own_f13 ((0 : Int32))) = (0 : Int32)) := by decide
          obtain ⟨fs, hr, hrun, hended, hREW⟩ := X122.leaveW hS119 (by rw [eq122]; exact hk119) (v := some (.int (1 : Int32))) (fun h => by rw [Bd.returns] at h; cases h)
          refine ⟨_, _, pre110 _ ?_, hrun, hended, _, _, rfl, ?_, by rw [hh, show (State.setFrames T122 fs).heap = T119.heap from eq122]; have hq := cr119.trans (Jvm.RoadKit.CHv.at X122 hZ (own_EW hw) cr119.1); exact hq, hREW.1, hREW.2.1, hREW.2.2.1, hREW.2.2.2.mono (by decide) (by decide)⟩
          · show Steps p.tables e below (T105.setTop (mkF m 122 #[.val (.int p0), .val (.int p1), .val (.int p2), .val (.int p3), .val (.int p4), .val (.int p5), .val (.int x6_5), .val (.ref b2), .val (.ref b85), .val (.ref rs94), .val (.ref b99), .unset, .unset] [(.int m122_s0)])) _
            refine XS.istore X105.here hx rfl (hb hby at_122) rfl (l' := #[.val (.int p0), .val (.int p1), .val (.int p2), .val (.int p3), .val (.int p4), .val (.int p5), .val (.int x6_5), .val (.ref b2), .val (.ref b85), .val (.ref rs94), .val (.ref b99), .val (.int m122_s0), .unset]) rfl ?_
            refine XS.aload X105.here hx rfl (hb hby at_124) rfl rfl ?_
            refine st114.trans ?_
            refine XS.iload X114.here hx rfl (hb hby at_129) rfl ?_
            refine XS.icmpYes X114.here hx rfl (pc0 := 131) (pc' := 136) rfl (hb hby at_131) rfl (teq hc131).1 (by decide) (by decide) ?_
            show Steps p.tables e below (T114.setTop (mkF m 136 #[.val (.int p0), .val (.int p1), .val (.int p2), .val (.int p3), .val (.int p4), .val (.int p5), .val (.int x6_5), .val (.ref b2), .val (.ref b85), .val (.ref rs94), .val (.ref b99), .val (.int m122_s0), .unset] [])) _
            refine XS.iloadN X114.here hx rfl (hb hby at_136) rfl ?_
            refine XS.aload X114.here hx rfl (hb hby at_137) rfl rfl ?_
            refine st119.trans ?_
            refine XS.astore X119.here hx rfl (hb hby at_142) rfl rfl (l' := #[.val (.int p0), .val (.int p1), .val (.int p2), .val (.int p3), .val (.int p4), .val (.int p5), .val (.int x6_5), .val (.ref b2), .val (.ref b85), .val (.ref rs94), .val (.ref b99), .val (.int m122_s0), .val (.ref rv119)]) rfl ?_
            refine XS.aload X119.here hx rfl (hb hby at_144) rfl rfl ?_
            show Steps p.tables e below (T119.setTop (mkF m 146 #[.val (.int p0), .val (.int p1), .val (.int p2), .val (.int p3), .val (.int p4), .val (.int p5), .val (.int x6_5), .val (.ref b2), .val (.ref b85), .val (.ref rs94), .val (.ref b99), .val (.int m122_s0), .val (.ref rv119)] [(.ref rv119)])) _
            refine st122.trans ?_
            refine XS.ifNo X122.here hx rfl (hb hby at_149) rfl ((if0 _ _).trans (teq hc149).2) ?_
            refine XS.iconst X122.here hx rfl (hb hby at_152) ?_
            refine XS.goto X122.here hx rfl (pc0 := 153) (pc' := 157) rfl (hb hby at_153) (by decide) (by decide) ?_
            show Steps p.tables e below (T122.setTop (mkF m 157 #[.val (.int p0), .val (.int p1), .val (.int p2), .val (.int p3), .val (.int p4), .val (.int p5), .val (.int x6_5), .val (.ref b2), .val (.ref b85), .val (.ref rs94), .val (.ref b99), .val (.int m122_s0), .val (.ref rv119)] [(.int (1 : Int32))])) _
            exact retN X122 hx (t := .boolean) Bd.returns (by simp) (hb hby at_157) hr
          · show Q0 Z p0 p1 p2 p3 p4 p5 cv h0 n0 _ T122.heap _
            rw [eq122]
            unfold Q0
            refine ⟨rfl, N122⟩
        · have z125 : n0 ≤ (T88.heap).size := (Nat.le_trans z91 K88.1)
          obtain ⟨a124, T124, h124, k124, b124, c124, X124, e124, E124, hS124, hk124, hZ, hown, Ea124, Fc124, Fv124, Ab124, -, -, cs124, -, sn124, st124⟩ := Jvm.RoadKit.ldcCH X88 hx hZ hown (hw _ (List.mem_of_getElem? (i := 80) rfl)) (own_atoms hw) rfl hS88 hk88 (own_EW hw) (List.mem_of_getElem? (i := 1) rfl) cr88.1 (vs := []) (z := 0) own_nil (by decide) (by decide) (g := (mkF m 79 #[.val (.int p0), .val (.int p1), .val (.int p2), .val (.int p3), .val (.int p4), .val (.int p5), .val (.int x6_5), .val (.ref b2), .val (.ref b85), .unset, .unset, .unset, .unset] [])) rfl (hb hby at_79) (n := 0) (by decide) (by decide) (by decide) (by decide)
          have V124 : own_AI Z h124 b124 c124 .byte (0 : Int32) [] := ⟨Ab124, by decide⟩
          have cr124 := cr88.trans cs124
          have sf124_b85 := cs124.safe po88_0.lt sf88_b85
          have f126 := ((f89.keep K88 (ninS ne_b2_b85 nin0)).ext E124)
          obtain ⟨cl127, Ar127, -, -⟩ := f126.len
          have nn124_b2 := sn124 b2 (Jvm.RoadKit.Safe.arr hZ.alike Ar127 (by decide))
          have nn124_b85 := sn124 b85 sf124_b85
          have z129 : n0 ≤ (h124).size := (Nat.le_trans z125 E124.1)
          obtain ⟨T128, h128, X128, e128, E128, A128, D128, -, st128⟩ := newO X124 hx hZ hown (hw _ (List.mem_of_getElem? (i := 44) rfl)) (hw _ (List.mem_of_getElem? (i := 45) rfl)) (hw _ (List.mem_of_getElem? (i := 46) rfl)) e124 (g := (mkF m 98 #[.val (.int p0), .val (.int p1), .val (.int p2), .val (.int p3), .val (.int p4), .val (.int p5), .val (.int x6_5), .val (.ref b2), .val (.ref b85), .val (.ref a124), .unset, .unset, .unset] [])) rfl (hb hby at_98) (by decide) (by decide)
          obtain ⟨b128, gq128⟩ : ∃ z, z = (h124).size := ⟨_, rfl⟩
          rw [← gq128] at A128 D128 st128
          have ne_a124_b128 : a124 ≠ b128 := Nat.ne_of_lt (Nat.lt_of_lt_of_le Ea124.lt (Nat.le_of_eq gq128.symm))
          have ne_b124_b128 : b124 ≠ b128 := Nat.ne_of_lt (Nat.lt_of_lt_of_le V124.lt (Nat.le_of_eq gq128.symm))
          have ne_b2_b128 : b2 ≠ b128 := Nat.ne_of_lt (Nat.lt_of_lt_of_le f126.lt (Nat.le_of_eq gq128.symm))
          have f130 := (po88_0.ext E124)
          have ne_b85_b128 : b85 ≠ b128 := Nat.ne_of_lt (Nat.lt_of_lt_of_le f130.lt (Nat.le_of_eq gq128.symm))
          have f131 := (po88_2.ext E124)
          have ne_bv88_b128 : bv88 ≠ b128 := Nat.ne_of_lt (Nat.lt_of_lt_of_le f131.lt (Nat.le_of_eq gq128.symm))
          have g_b128 : n0 ≤ b128 := Nat.le_trans z129 (Nat.le_of_eq gq128.symm)
          have cs132 := Jvm.RoadKit.CHr.ext E128 cr124.1
          have cr132 := cr124.trans cs132
          have sf132_b85 := cs132.safe f130.lt sf124_b85
          have F_b128_change : Fld Z h128 b128 "com/example/unicopy/unicopy/UniqueValue" "change" "I" (.int (0 : Int32)) := D128 (Or.inr (hw _ (List.mem_of_getElem? (i := 57) rfl))) (ty := .int) (by decide)
          have F_b128_index : Fld Z h128 b128 "com/example/unicopy/unicopy/UniqueValue" "index" "Ljava/lang/String;" .null := D128 (Or.inr (hw _ (List.mem_of_getElem? (i := 59) rfl))) (ty := (.object "java/lang/String")) (by decide)
          have F_b128_value : Fld Z h128 b128 "com/example/unicopy/unicopy/UniqueValue" "value" "Ljava/lang/String;" .null := D128 (Or.inr (hw _ (List.mem_of_getElem? (i := 61) rfl))) (ty := (.object "java/lang/String")) (by decide)
          have z134 : n0 ≤ (h128).size := (Nat.le_trans z129 E128.1)
          obtain ⟨_, _, ⟨T133, L133, k133, n133⟩, -, X133, ⟨Lc133, hQ133, l133, y133, z133⟩, st133⟩ := X128.specialBack hx (y := (⟨"com/example/unicopy/unicopy/UniqueValue", "<init>", "(ILjava/lang/String;Ljava/lang/String;)V"⟩ : MethodName)) rfl hown (mvT hZ (hw _ (List.mem_of_getElem? (i := 47) rfl))) (mvT hZ (hw _ (List.mem_of_getElem? (i := 48) rfl))) (mvT hZ (hw _ (List.mem_of_getElem? (i := 49) rfl))) (by decide) (backOf (W := 1) (rm11 l Z aw hw [] (b128) (p0) (a124) (b85) (h128) n0 z134 A128 F_b128_change F_b128_index F_b128_value g_b128) hZ (hw _ (List.mem_of_getElem? (i := 49) rfl)) (hw _ (List.mem_of_getElem? (i := 46) rfl)) (by decide) (by decide)) (g := (mkF m 107 #[.val (.int p0), .val (.int p1), .val (.int p2), .val (.int p3), .val (.int p4), .val (.int p5), .val (.int x6_5), .val (.ref b2), .val (.ref b85), .val (.ref a124), .unset, .unset, .unset] [(.ref b85), (.ref a124), (.int p0), (.ref b128), (.ref b128)])) rfl (by rw [hml]; rfl) (Steps.refl _) (a := b128) (argsL := [(.int p0), (.ref a124), (.ref b85)]) (rest := [(.ref b128)]) (lenOf pd_9 rfl) rfl (by show 2 * 0 + _ ≤ _; exact Nat.le_of_eq rfl) (hb hby at_107) (fun _ _ => ⟨rfl, e128, (by decide : 9 + 0 ≤ _), (by decide : 22 + 0 ≤ _)⟩)
          dsimp only [Pt.U, Pt.locs, Pt.cells, Pt.slots] at X133 l133 y133 z133 st133 hQ133
          subst l133 y133 z133
          obtain ⟨rfl, Nq133, K133, po133_0, po133_1⟩ := hQ133
          have N133 := Fr.app N88 Nq133
          have f135 := (f130.ext E128)
          have cs136 := Jvm.RoadKit.CHr.keep K133 (own_alS (Jvm.RoadKit.Safe.exa hZ.alike A128 (by decide) (by decide)) own_al0) cr132.1
          have cr136 := cr132.trans cs136
          have sf136_b85 := cs136.safe f135.lt sf132_b85
          have pre139 : own_Pre p e below (s₁.setTop (entryFrame m #[(.int p0), (.int p1), (.int p2), (.int p3), (.int p4), (.int p5)] maxLocals)) (T133.setTop (mkF m 114 #[.val (.int p0), .val (.int p1), .val (.int p2), .val (.int p3), .val (.int p4), .val (.int p5), .val (.int x6_5), .val (.ref b2), .val (.ref b85), .val (.ref a124), .val (.ref b128), .unset, .unset] [(.int x6_5)])) := fun t k => pre93 t (by
              show Steps p.tables e below (T88.setTop (mkF m 76 #[.val (.int p0), .val (.int p1), .val (.int p2), .val (.int p3), .val (.int p4), .val (.int p5), .val (.int x6_5), .val (.ref b2), .val (.ref b85), .unset, .unset, .unset, .unset] [(.int (p5 &&& (256 : Int32)))])) _
              refine XS.ifNo X88.here hx rfl (hb hby at_76) rfl ((if0 _ _).trans (feq hc76).1) ?_
              refine st124 _ ?_
              refine XS.astore X124.here hx rfl (hb hby at_81) rfl rfl (l' := #[.val (.int p0), .val (.int p1), .val (.int p2), .val (.int p3), .val (.int p4), .val (.int p5), .val (.int x6_5), .val (.ref b2), .val (.ref b85), .val (.ref a124), .unset, .unset, .unset]) rfl ?_
              refine XS.goto X124.here hx rfl (pc0 := 83) (pc' := 98) rfl (hb hby at_83) (by decide) (by decide) ?_
              refine st128 _ ?_
              show Steps p.tables e below (T128.setTop (mkF m 101 #[.val (.int p0), .val (.int p1), .val (.int p2), .val (.int p3), .val (.int p4), .val (.int p5), .val (.int x6_5), .val (.ref b2), .val (.ref b85), .val (.ref a124), .unset, .unset, .unset] [(.ref b128)])) _
              refine XS.dup X128.here hx rfl (hb hby at_101) rfl rfl ?_
              refine XS.iloadN X128.here hx rfl (hb hby at_102) rfl ?_
              refine XS.aload X128.here hx rfl (hb hby at_103) rfl rfl ?_
              refine XS.aload X128.here hx rfl (hb hby at_105) rfl rfl ?_
              refine st133.trans ?_
              show Steps p.tables e below (T133.setTop (mkF m 110 #[.val (.int p0), .val (.int p1), .val (.int p2), .val (.int p3), .val (.int p4), .val (.int p5), .val (.int x6_5), .val (.ref b2), .val (.ref b85), .val (.ref a124), .unset, .unset, .unset] [(.ref b128)])) _
              refine XS.astore X133.here hx rfl (hb hby at_110) rfl rfl (l' := #[.val (.int p0), .val (.int p1), .val (.int p2), .val (.int p3), .val (.int p4), .val (.int p5), .val (.int x6_5), .val (.ref b2), .val (.ref b85), .val (.ref a124), .val (.ref b128), .unset, .unset]) rfl ?_
              refine XS.iload X133.here hx rfl (hb hby at_112) rfl ?_
              exact k)
          obtain ⟨m122_s0, hm122_s0, pre138⟩ : ∃ (m122_s0 : Int32), m122_s0 = (own_m0_122_s0 x6_5) ∧ own_Pre p e below (s₁.setTop (entryFrame m #[(.int p0), (.int p1), (.int p2), (.int p3), (.int p4), (.int p5)] maxLocals)) (T133.setTop (mkF m 122 #[.val (.int p0), .val (.int p1), .val (.int p2), .val (.int p3), .val (.int p4), .val (.int p5), .val (.int x6_5), .val (.ref b2), .val (.ref b85), .val (.ref a124), .val (.ref b128), .unset, .unset] [(.int m122_s0)])) := by
            by_cases hc114 : x6_5 = (0 : Int32)
            · have pre140 : own_Pre p e below (s₁.setTop (entryFrame m #[(.int p0), (.int p1), (.int p2), (.int p3), (.int p4), (.int p5)] maxLocals)) (T133.setTop (mkF m 122 #[.val (.int p0), .val (.int p1), .val (.int p2), .val (.int p3), .val (.int p4), .val (.int p5), .val (.int x6_5), .val (.ref b2), .val (.ref b85), .val (.ref a124), .val (.ref b128), .unset, .unset] [(.int (0 : Int32))])) := fun t k => pre139 t (by
                  show Steps p.tables e below (T133.setTop (mkF m 114 #[.val (.int p0), .val (.int p1), .val (.int p2), .val (.int p3), .val (.int p4), .val (.int p5), .val (.int x6_5), .val (.ref b2), .val (.ref b85), .val (.ref a124), .val (.ref b128), .unset, .unset] [(.int x6_5)])) _
                  refine XS.ifYes X133.here hx rfl (pc0 := 114) (pc' := 121) rfl (hb hby at_114) rfl ((if0 _ _).trans (teq hc114).1) (by decide) (by decide) ?_
                  refine XS.iconst X133.here hx rfl (hb hby at_121) ?_
                  exact k)
              refine ⟨_, ?_, pre140⟩
              all_goals (first | (simp only [own_m0_122_s0, if_pos hc114]; done) | (simp [own_m0_122_s0, if_pos hc114]; done))
            · have pre141 : own_Pre p e below (s₁.setTop (entryFrame m #[(.int p0), (.int p1), (.int p2), (.int p3), (.int p4), (.int p5)] maxLocals)) (T133.setTop (mkF m 122 #[.val (.int p0), .val (.int p1), .val (.int p2), .val (.int p3), .val (.int p4), .val (.int p5), .val (.int x6_5), .val (.ref b2), .val (.ref b85), .val (.ref a124), .val (.ref b128), .unset, .unset] [(.int (1 : Int32))])) := fun t k => pre139 t (by
                  show Steps p.tables e below (T133.setTop (mkF m 114 #[.val (.int p0), .val (.int p1), .val (.int p2), .val (.int p3), .val (.int p4), .val (.int p5), .val (.int x6_5), .val (.ref b2), .val (.ref b85), .val (.ref a124), .val (.ref b128), .unset, .unset] [(.int x6_5)])) _
                  refine XS.ifNo X133.here hx rfl (hb hby at_114) rfl ((if0 _ _).trans (feq hc114).1) ?_
                  refine XS.iconst X133.here hx rfl (hb hby at_117) ?_
                  refine XS.goto X133.here hx rfl (pc0 := 118) (pc' := 122) rfl (hb hby at_118) (by decide) (by decide) ?_
                  exact k)
              refine ⟨_, ?_, pre141⟩
              all_goals (first | (simp only [own_m0_122_s0, if_neg hc114]; done) | (simp [own_m0_122_s0, if_neg hc114]; done))
          have f143 := (f135.keep K133)
          have f144 := (((po88_1.ext E124).ext E128).keep K133 (ninS ne_b85_b128 nin0))
          have f145 := ((f131.ext E128).keep K133 (ninS ne_bv88_b128 nin0))
          have z146 : n0 ≤ (T133.heap).size := (Nat.le_trans z134 K133.1)
          obtain ⟨cq142, kq142, q142a, q142b, q142c⟩ := isOf hZ rfl po133_0
          obtain ⟨_, _, ⟨T142, L142, k142, n142⟩, -, X142, ⟨Lc142, hQ142, l142, y142, z142⟩, st142⟩ := X133.virtualBack hx (y := (⟨"com/example/unicopy/unicopy/UniqueValue", "named", "()Z"⟩ : MethodName)) (z := (⟨"com/example/unicopy/unicopy/UniqueValue", "named", "()Z"⟩ : MethodName)) hown (mvT hZ (hw _ (List.mem_of_getElem? (i := 62) rfl))) (mvT hZ (hw _ (List.mem_of_getElem? (i := 63) rfl))) (notFace_of_selects (args := #[]) (mvT hZ (hw _ (List.mem_of_getElem? (i := 65) rfl)))) (mvT hZ (hw _ (List.mem_of_getElem? (i := 65) rfl))) (mvT hZ (hw _ (List.mem_of_getElem? (i := 64) rfl))) (by decide) (backOf (W := 0) (rm13 l Z aw hw [] (b128) (b85) (bv88) (kb88) (x6_5) (wb88) (T133.heap) n0 z146 po133_0 po133_1 f143 f144 f145) hZ (hw _ (List.mem_of_getElem? (i := 66) rfl)) (hw _ (List.mem_of_getElem? (i := 46) rfl)) (by decide) (by decide)) q142a q142c (g := (mkF m 126 #[.val (.int p0), .val (.int p1), .val (.int p2), .val (.int p3), .val (.int p4), .val (.int p5), .val (.int x6_5), .val (.ref b2), .val (.ref b85), .val (.ref a124), .val (.ref b128), .val (.int m122_s0), .unset] [(.ref b128)])) rfl (by rw [hml]; rfl) (Steps.refl _) (argsL := []) (rest := []) (lenOf pd_8 rfl) rfl (by show 2 * 0 + _ ≤ _; exact Nat.le_of_eq rfl) (hb hby at_126) (fun _ _ => ⟨rfl, rfl, (by decide : 9 + 0 ≤ _), (by decide : 22 + 0 ≤ _)⟩)
          dsimp only [Pt.U, Pt.locs, Pt.cells, Pt.slots] at X142 l142 y142 z142 st142 hQ142
          subst l142 y142 z142
          obtain ⟨rfl, Nq142, eq142⟩ := hQ142
          have N142 := Fr.app N133 Nq142
          have hc131 : ((own_f13 x6_5) = m122_s0) := own_named hm122_s0
          have f148 := ((Ea124.ext E128).keep K133)
          have f149 := ((V124.ext E128).keep K133 (ninS ne_b124_b128 nin0))
          have f150 := ((f126.ext E128).keep K133 (ninS ne_b2_b128 nin0))
          have hk151 : _ ≤ (T133.heap).size := (Nat.le_trans (Nat.le_trans hk124 E128.1) K133.1)
          obtain ⟨_, _, ⟨T147, L147, k147, n147⟩, -, X147, hs147, gr147, ⟨Lc147, hQ147, l147, y147, z147, cs147⟩, st147⟩ := Jvm.RoadKit.callSS X142 hx (y := (⟨"com/example/unicopy/unicopy/UniqueValue", "unnamed", "(ILjava/lang/String;)Lcom/example/unicopy/unicopy/UniqueValue;"⟩ : MethodName)) hown (mvT hZ (hw _ (List.mem_of_getElem? (i := 72) rfl))) (mvT hZ (hw _ (List.mem_of_getElem? (i := 73) rfl))) (mvT hZ (hw _ (List.mem_of_getElem? (i := 46) rfl))) (mvT hZ (hw _ (List.mem_of_getElem? (i := 74) rfl))) (by decide) (Jvm.RoadKit.backOfSH (W := 0) (rm15 l Z aw hw [] (p0) (a124) (T133.heap) n0 z146) hZ (hw _ (List.mem_of_getElem? (i := 74) rfl)) (hw _ (List.mem_of_getElem? (i := 46) rfl)) (by decide) (by decide) (own_EW hw) cr136.1) (g := (mkF m 139 #[.val (.int p0), .val (.int p1), .val (.int p2), .val (.int p3), .val (.int p4), .val (.int p5), .val (.int x6_5), .val (.ref b2), .val (.ref b85), .val (.ref a124), .val (.ref b128), .val (.int m122_s0), .unset] [(.ref a124), (.int p0)])) rfl (by rw [hml]; rfl) (argsL := [(.int p0), (.ref a124)]) (rest := []) (lenOf pd_12 rfl) rfl (by show 2 * 0 + _ ≤ _; exact Nat.le_of_eq rfl) (hb hby at_139) (fun _ _ => ⟨rfl, eq142, (by decide : 9 + 3 ≤ _), (by decide : 22 + 7 ≤ _)⟩)
          dsimp only [Pt.U, Pt.locs, Pt.cells, Pt.slots] at X147 l147 y147 z147 st147 hQ147 hs147 gr147 cs147
          subst l147 y147 z147
          obtain ⟨X147, hS147⟩ := X147.againW hS124 hs147 (Nat.le_trans hk151 (by rw [← eq142]; exact gr147))
          have hZ : Z.Warmed39 (s.setVm T147.vm).vm := State.Warmed39.trans (t := (s.setVm T124.vm)) hZ hs147.1
          have hown : (s.setVm T147.vm).vm.findClass "com/example/unicopy/unicopy/UniqueValueNamedPinLaw" = some m.cls := by rw [show (s.setVm T147.vm).vm = T147.vm from rfl, hs147.1.alike.findClass]; exact hown
          have hk147 : T147.heap.size ≤ T147.heap.size := Nat.le_refl _
          have cr147 := cr136.trans cs147
          have sf147_b85 := cs147.safe f143.lt sf136_b85
          obtain ⟨rv147, sv147, bv147, kb147, rfl, Nq147, K147, po147_0, po147_1, po147_2, po147_3, po147_4, po147_5⟩ := hQ147
          have N147 := Fr.app N142 Nq147
          have ne_a124_rv147 : a124 ≠ rv147 := Nat.ne_of_lt (Nat.lt_of_lt_of_le f148.lt po147_0)
          have ne_b124_rv147 : b124 ≠ rv147 := Nat.ne_of_lt (Nat.lt_of_lt_of_le f149.lt po147_0)
          have ne_b128_rv147 : b128 ≠ rv147 := Nat.ne_of_lt (Nat.lt_of_lt_of_le po133_0.lt po147_0)
          have ne_b2_rv147 : b2 ≠ rv147 := Nat.ne_of_lt (Nat.lt_of_lt_of_le f150.lt po147_0)
          have ne_b85_rv147 : b85 ≠ rv147 := Nat.ne_of_lt (Nat.lt_of_lt_of_le f143.lt po147_0)
          have ne_bv88_rv147 : bv88 ≠ rv147 := Nat.ne_of_lt (Nat.lt_of_lt_of_le f145.lt po147_0)
          have g_rv147 : n0 ≤ rv147 := Nat.le_trans z146 po147_0
          have z153 : n0 ≤ (T147.heap).size := (Nat.le_trans z146 K147.1)
          obtain ⟨cq152, kq152, q152a, q152b, q152c⟩ := isOf hZ rfl po147_1
          obtain ⟨_, _, ⟨T152, L152, k152, n152⟩, -, X152, ⟨Lc152, hQ152, l152, y152, z152⟩, st152⟩ := X147.virtualBack hx (y := (⟨"com/example/unicopy/unicopy/UniqueValue", "named", "()Z"⟩ : MethodName)) (z := (⟨"com/example/unicopy/unicopy/UniqueValue", "named", "()Z"⟩ : MethodName)) hown (mvT hZ (hw _ (List.mem_of_getElem? (i := 62) rfl))) (mvT hZ (hw _ (List.mem_of_getElem? (i := 63) rfl))) (notFace_of_selects (args := #[]) (mvT hZ (hw _ (List.mem_of_getElem? (i := 65) rfl)))) (mvT hZ (hw _ (List.mem_of_getElem? (i := 65) rfl))) (mvT hZ (hw _ (List.mem_of_getElem? (i := 64) rfl))) (by decide) (backOf (W := 0) (rm13 l Z aw hw [] (rv147) (sv147) (bv147) (kb147) ((0 : Int32)) ([]) (T147.heap) n0 z153 po147_1 po147_2 po147_3 po147_4 po147_5) hZ (hw _ (List.mem_of_getElem? (i := 66) rfl)) (hw _ (List.mem_of_getElem? (i := 46) rfl)) (by decide) (by decide)) q152a q152c (g := (mkF m 146 #[.val (.int p0), .val (.int p1), .val (.int p2), .val (.int p3), .val (.int p4), .val (.int p5), .val (.int x6_5), .val (.ref b2), .val (.ref b85), .val (.ref a124), .val (.ref b128), .val (.int m122_s0), .val (.ref rv147)] [(.ref rv147)])) rfl (by rw [hml]; rfl) (Steps.refl _) (argsL := []) (rest := []) (lenOf pd_8 rfl) rfl (by show 2 * 0 + _ ≤ _; exact Nat.le_of_eq rfl) (hb hby at_146) (fun _ _ => ⟨rfl, rfl, (by decide : 12 + 0 ≤ _), (by decide : 29 + 0 ≤ _)⟩)
          dsimp only [Pt.U, Pt.locs, Pt.cells, Pt.slots] at X152 l152 y152 z152 st152 hQ152
          subst l152 y152 z152
          obtain ⟨rfl, Nq152, eq152⟩ := hQ152
          have N152 := Fr.app N147 Nq152
          have hc149 : ((own_f13 ((0 : Int32))) = (0 : Int32)) := by decide
          obtain ⟨fs, hr, hrun, hended, hREW⟩ := X152.leaveW hS147 (by rw [eq152]; exact hk147) (v := some (.int (1 : Int32))) (fun h => by rw [Bd.returns] at h; cases h)
          refine ⟨_, _, pre138 _ ?_, hrun, hended, _, _, rfl, ?_, by rw [hh, show (State.setFrames T152 fs).heap = T147.heap from eq152]; have hq := cr147.trans (Jvm.RoadKit.CHv.at X152 hZ (own_EW hw) cr147.1); exact hq, hREW.1, hREW.2.1, hREW.2.2.1, hREW.2.2.2.mono (by decide) (by decide)⟩
          · show Steps p.tables e below (T133.setTop (mkF m 122 #[.val (.int p0), .val (.int p1), .val (.int p2), .val (.int p3), .val (.int p4), .val (.int p5), .val (.int x6_5), .val (.ref b2), .val (.ref b85), .val (.ref a124), .val (.ref b128), .unset, .unset] [(.int m122_s0)])) _
            refine XS.istore X133.here hx rfl (hb hby at_122) rfl (l' := #[.val (.int p0), .val (.int p1), .val (.int p2), .val (.int p3), .val (.int p4), .val (.int p5), .val (.int x6_5), .val (.ref b2), .val (.ref b85), .val (.ref a124), .val (.ref b128), .val (.int m122_s0), .unset]) rfl ?_
            refine XS.aload X133.here hx rfl (hb hby at_124) rfl rfl ?_
            refine st142.trans ?_
            refine XS.iload X142.here hx rfl (hb hby at_129) rfl ?_
            refine XS.icmpYes X142.here hx rfl (pc0 := 131) (pc' := 136) rfl (hb hby at_131) rfl (teq hc131).1 (by decide) (by decide) ?_
            show Steps p.tables e below (T142.setTop (mkF m 136 #[.val (.int p0), .val (.int p1), .val (.int p2), .val (.int p3), .val (.int p4), .val (.int p5), .val (.int x6_5), .val (.ref b2), .val (.ref b85), .val (.ref a124), .val (.ref b128), .val (.int m122_s0), .unset] [])) _
            refine XS.iloadN X142.here hx rfl (hb hby at_136) rfl ?_
            refine XS.aload X142.here hx rfl (hb hby at_137) rfl rfl ?_
            refine st147.trans ?_
            refine XS.astore X147.here hx rfl (hb hby at_142) rfl rfl (l' := #[.val (.int p0), .val (.int p1), .val (.int p2), .val (.int p3), .val (.int p4), .val (.int p5), .val (.int x6_5), .val (.ref b2), .val (.ref b85), .val (.ref a124), .val (.ref b128), .val (.int m122_s0), .val (.ref rv147)]) rfl ?_
            refine XS.aload X147.here hx rfl (hb hby at_144) rfl rfl ?_
            show Steps p.tables e below (T147.setTop (mkF m 146 #[.val (.int p0), .val (.int p1), .val (.int p2), .val (.int p3), .val (.int p4), .val (.int p5), .val (.int x6_5), .val (.ref b2), .val (.ref b85), .val (.ref a124), .val (.ref b128), .val (.int m122_s0), .val (.ref rv147)] [(.ref rv147)])) _
            refine st152.trans ?_
            refine XS.ifNo X152.here hx rfl (hb hby at_149) rfl ((if0 _ _).trans (teq hc149).2) ?_
            refine XS.iconst X152.here hx rfl (hb hby at_152) ?_
            refine XS.goto X152.here hx rfl (pc0 := 153) (pc' := 157) rfl (hb hby at_153) (by decide) (by decide) ?_
            show Steps p.tables e below (T152.setTop (mkF m 157 #[.val (.int p0), .val (.int p1), .val (.int p2), .val (.int p3), .val (.int p4), .val (.int p5), .val (.int x6_5), .val (.ref b2), .val (.ref b85), .val (.ref a124), .val (.ref b128), .val (.int m122_s0), .val (.ref rv147)] [(.int (1 : Int32))])) _
            exact retN X152 hx (t := .boolean) Bd.returns (by simp) (hb hby at_157) hr
          · show Q0 Z p0 p1 p2 p3 p4 p5 cv h0 n0 _ T152.heap _
            rw [eq152]
            unfold Q0
            refine ⟨rfl, N152⟩
    · have hc45 : ¬ ((2 : Int32) < x6_5) := own_low hc29
      have z155 : n0 ≤ (h5).size := (Nat.le_trans (Nat.le_trans Z0 E2.1) (Keep.of_wr W5).1)
      obtain ⟨T154, h154, X154, e154, E154, A154, D154, -, st154⟩ := newO X5 hx hZ hown (hw _ (List.mem_of_getElem? (i := 1) rfl)) (hw _ (List.mem_of_getElem? (i := 2) rfl)) (hw _ (List.mem_of_getElem? (i := 3) rfl)) e5 (g := (mkF m 59 #[.val (.int p0), .val (.int p1), .val (.int p2), .val (.int p3), .val (.int p4), .val (.int p5), .val (.int x6_5), .val (.ref b2), .unset, .unset, .unset, .unset, .unset] [])) rfl (hb hby at_59) (by decide) (by decide)
      obtain ⟨b154, gq154⟩ : ∃ z, z = (h5).size := ⟨_, rfl⟩
      rw [← gq154] at A154 D154 st154
      have ne_b2_b154 : b2 ≠ b154 := Nat.ne_of_lt (Nat.lt_of_lt_of_le V5.lt (Nat.le_of_eq gq154.symm))
      have g_b154 : n0 ≤ b154 := Nat.le_trans z155 (Nat.le_of_eq gq154.symm)
      have cs156 := Jvm.RoadKit.CHr.ext E154 cr7.1
      have cr156 := cr7.trans cs156
      have sf154 := Jvm.RoadKit.Safe.ext E154 cr7.1 (Jvm.RoadKit.Safe.new (Nat.le_of_eq gq154.symm))
      have F_b154_coder : Fld Z h154 b154 "java/lang/String" "coder" "B" (.int (0 : Int32)) := D154 (Or.inr (hw _ (List.mem_of_getElem? (i := 27) rfl))) (ty := .byte) (by decide)
      have F_b154_value : Fld Z h154 b154 "java/lang/String" "value" "[B" .null := D154 (Or.inr (hw _ (List.mem_of_getElem? (i := 29) rfl))) (ty := (.array .byte)) (by decide)
      have f158 := (V5.ext E154)
      have f159 := (((S_COMPACT_STRINGS.ext E2).wr W5).ext E154)
      have z160 : n0 ≤ (h154).size := (Nat.le_trans z155 E154.1)
      have hk161 : _ ≤ (h154).size := (Nat.le_trans (Nat.le_trans (Nat.le_trans hk0 E2.1) (Keep.of_wr W5).1) E154.1)
      obtain ⟨_, _, ⟨T157, L157, k157, n157⟩, -, X157, hs157, gr157, ⟨Lc157, hQ157, l157, y157, z157, cs157⟩, st157⟩ := X154.specialBackS hx (y := (⟨"java/lang/String", "<init>", "([C)V"⟩ : MethodName)) rfl hown (mvT hZ (hw _ (List.mem_of_getElem? (i := 4) rfl))) (mvT hZ (hw _ (List.mem_of_getElem? (i := 5) rfl))) (mvT hZ (hw _ (List.mem_of_getElem? (i := 6) rfl))) (by decide) (Jvm.RoadKit.backOfSH (W := 1) (rm1 l Z aw hw [] (b154) (b2) (k2) (x6_5) (ws5) (cv) (h154) n0 z160 A154 F_b154_value F_b154_coder f158 f159 hcv (own_rng hx6_5) (by rw [hws5]; exact own_set own_rep (own_c _)) (Ne.symm ne_b2_b154) g_b154) hZ (hw _ (List.mem_of_getElem? (i := 6) rfl)) (hw _ (List.mem_of_getElem? (i := 3) rfl)) (by decide) (by decide) (own_EW hw) cr156.1) (g := (mkF m 65 #[.val (.int p0), .val (.int p1), .val (.int p2), .val (.int p3), .val (.int p4), .val (.int p5), .val (.int x6_5), .val (.ref b2), .unset, .unset, .unset, .unset, .unset] [(.ref b2), (.ref b154), (.ref b154)])) rfl (by rw [hml]; rfl) (Steps.refl _) (a := b154) (argsL := [(.ref b2)]) (rest := [(.ref b154)]) (lenOf pd_10 rfl) rfl (by show 2 * 0 + _ ≤ _; exact Nat.le_of_eq rfl) (hb hby at_65) (fun _ _ => ⟨rfl, e154, (by decide : 2 + 4 ≤ _), (by decide : 7 + 8 ≤ _)⟩)
      dsimp only [Pt.U, Pt.locs, Pt.cells, Pt.slots] at X157 l157 y157 z157 st157 hQ157 hs157 gr157 cs157
      subst l157 y157 z157
      obtain ⟨X157, hS157⟩ := X157.againW hS0 hs157 (Nat.le_trans hk161 (by rw [← e154]; exact gr157))
      have hZ : Z.Warmed39 (s.setVm T157.vm).vm := State.Warmed39.trans (t := (s.setVm s.vm)) hZ hs157.1
      have hown : (s.setVm T157.vm).vm.findClass "com/example/unicopy/unicopy/UniqueValueNamedPinLaw" = some m.cls := by rw [show (s.setVm T157.vm).vm = T157.vm from rfl, hs157.1.alike.findClass]; exact hown
      have hk157 : T157.heap.size ≤ T157.heap.size := Nat.le_refl _
      have cr157 := cr156.trans cs157
      have sf157_b154 := cs157.safe A154.lt sf154
      obtain ⟨bv157, kb157, wb157, rfl, Nq157, K157, po157_0, po157_1, po157_2⟩ := hQ157
      have N157 := Fr.app N5 Nq157
      have pre162 : own_Pre p e below (s₁.setTop (entryFrame m #[(.int p0), (.int p1), (.int p2), (.int p3), (.int p4), (.int p5)] maxLocals)) (T157.setTop (mkF m 76 #[.val (.int p0), .val (.int p1), .val (.int p2), .val (.int p3), .val (.int p4), .val (.int p5), .val (.int x6_5), .val (.ref b2), .val (.ref b154), .unset, .unset, .unset, .unset] [(.int (p5 &&& (256 : Int32)))])) := fun t k => pre8 t (by
          show Steps p.tables e below (T5.setTop (mkF m 29 #[.val (.int p0), .val (.int p1), .val (.int p2), .val (.int p3), .val (.int p4), .val (.int p5), .val (.int x6_5), .val (.ref b2), .unset, .unset, .unset, .unset, .unset] [(.int (1 : Int32)), (.int x6_5)])) _
          refine XS.icmpYes X5.here hx rfl (pc0 := 29) (pc' := 42) rfl (hb hby at_29) rfl (flt hc29).2.2.2 (by decide) (by decide) ?_
          refine XS.iload X5.here hx rfl (hb hby at_42) rfl ?_
          refine XS.iconst X5.here hx rfl (hb hby at_44) ?_
          refine XS.icmpYes X5.here hx rfl (pc0 := 45) (pc' := 59) rfl (hb hby at_45) rfl (flt hc45).2.2.2 (by decide) (by decide) ?_
          refine st154 _ ?_
          show Steps p.tables e below (T154.setTop (mkF m 62 #[.val (.int p0), .val (.int p1), .val (.int p2), .val (.int p3), .val (.int p4), .val (.int p5), .val (.int x6_5), .val (.ref b2), .unset, .unset, .unset, .unset, .unset] [(.ref b154)])) _
          refine XS.dup X154.here hx rfl (hb hby at_62) rfl rfl ?_
          refine XS.aload X154.here hx rfl (hb hby at_63) rfl rfl ?_
          refine st157.trans ?_
          refine XS.astore X157.here hx rfl (hb hby at_68) rfl rfl (l' := #[.val (.int p0), .val (.int p1), .val (.int p2), .val (.int p3), .val (.int p4), .val (.int p5), .val (.int x6_5), .val (.ref b2), .val (.ref b154), .unset, .unset, .unset, .unset]) rfl ?_
          refine XS.iload X157.here hx rfl (hb hby at_70) rfl ?_
          show Steps p.tables e below (T157.setTop (mkF m 72 #[.val (.int p0), .val (.int p1), .val (.int p2), .val (.int p3), .val (.int p4), .val (.int p5), .val (.int x6_5), .val (.ref b2), .val (.ref b154), .unset, .unset, .unset, .unset] [(.int p5)])) _
          refine XS.sipush X157.here hx rfl (hb hby at_72) ?_
          refine XS.iand X157.here hx rfl (hb hby at_75) rfl ?_
          exact k)
      by_cases hc76 : (p5 &&& (256 : Int32)) = (0 : Int32)
      · have f164 := (own_Sta_keep f159 K157 (own_alS (Jvm.RoadKit.Exa.nostat A154) own_al0))
        have z165 : n0 ≤ (T157.heap).size := (Nat.le_trans z160 K157.1)
        have f166 := (f158.keep K157 (ninS ne_b2_b154 nin0))
        obtain ⟨_, _, ⟨T163, L163, k163, n163⟩, -, X163, ⟨Lc163, hQ163, l163, y163, z163⟩, st163⟩ := Jvm.LawKit.callS X157 hx (y := (⟨"java/lang/String", "valueOf", "(C)Ljava/lang/String;"⟩ : MethodName)) hown (mvT hZ (hw _ (List.mem_of_getElem? (i := 30) rfl))) (mvT hZ (hw _ (List.mem_of_getElem? (i := 31) rfl))) (mvT hZ (hw _ (List.mem_of_getElem? (i := 3) rfl))) (mvT hZ (hw _ (List.mem_of_getElem? (i := 32) rfl))) (by decide) (backOf (W := 0) (rm7 l Z aw hw [] (((p5 &&& (255 : Int32))).toUInt32.toUInt16.toUInt32.toInt32) (cv) (T157.heap) n0 z165 f164 hcv (own_c2 _)) hZ (hw _ (List.mem_of_getElem? (i := 32) rfl)) (hw _ (List.mem_of_getElem? (i := 3) rfl)) (by decide) (by decide)) (g := (mkF m 93 #[.val (.int p0), .val (.int p1), .val (.int p2), .val (.int p3), .val (.int p4), .val (.int p5), .val (.int x6_5), .val (.ref b2), .val (.ref b154), .unset, .unset, .unset, .unset] [(.int ((p5 &&& (255 : Int32))).toUInt32.toUInt16.toUInt32.toInt32)])) rfl (by rw [hml]; rfl) (argsL := [(.int ((p5 &&& (255 : Int32))).toUInt32.toUInt16.toUInt32.toInt32)]) (rest := []) (lenOf pd_11 rfl) rfl (by show 2 * 0 + _ ≤ _; exact Nat.le_of_eq rfl) (hb hby at_93) (fun _ _ => ⟨rfl, rfl, (by decide : 6 + 2 ≤ _), (by decide : 15 + 5 ≤ _)⟩)
        dsimp only [Pt.U, Pt.locs, Pt.cells, Pt.slots] at X163 l163 y163 z163 st163 hQ163
        subst l163 y163 z163
        obtain ⟨rs163, rfl, Nq163, K163, po163_0⟩ := hQ163
        have N163 := Fr.app N157 Nq163
        have cs167 := Jvm.RoadKit.CHr.keep K163 own_al0 cr157.1
        have cr167 := cr157.trans cs167
        have sf167_b154 := cs167.safe po157_0.lt sf157_b154
        have ne_b154_rs163 : b154 ≠ rs163 := Nat.ne_of_lt (Nat.lt_of_lt_of_le po157_0.lt po163_0)
        have ne_b2_rs163 : b2 ≠ rs163 := Nat.ne_of_lt (Nat.lt_of_lt_of_le f166.lt po163_0)
        have ne_bv157_rs163 : bv157 ≠ rs163 := Nat.ne_of_lt (Nat.lt_of_lt_of_le po157_2.lt po163_0)
        have g_rs163 : n0 ≤ rs163 := Nat.le_trans z165 po163_0
        have z169 : n0 ≤ (T163.heap).size := (Nat.le_trans z165 K163.1)
        obtain ⟨T168, h168, X168, e168, E168, A168, D168, -, st168⟩ := newO X163 hx hZ hown (hw _ (List.mem_of_getElem? (i := 44) rfl)) (hw _ (List.mem_of_getElem? (i := 45) rfl)) (hw _ (List.mem_of_getElem? (i := 46) rfl)) rfl (g := (mkF m 98 #[.val (.int p0), .val (.int p1), .val (.int p2), .val (.int p3), .val (.int p4), .val (.int p5), .val (.int x6_5), .val (.ref b2), .val (.ref b154), .val (.ref rs163), .unset, .unset, .unset] [])) rfl (hb hby at_98) (by decide) (by decide)
        obtain ⟨b168, gq168⟩ : ∃ z, z = (T163.heap).size := ⟨_, rfl⟩
        rw [← gq168] at A168 D168 st168
        have f170 := (po157_0.keep K163)
        have ne_b154_b168 : b154 ≠ b168 := Nat.ne_of_lt (Nat.lt_of_lt_of_le f170.lt (Nat.le_of_eq gq168.symm))
        have f171 := (f166.keep K163 nin0)
        have ne_b2_b168 : b2 ≠ b168 := Nat.ne_of_lt (Nat.lt_of_lt_of_le f171.lt (Nat.le_of_eq gq168.symm))
        have f172 := (po157_2.keep K163 nin0)
        have ne_bv157_b168 : bv157 ≠ b168 := Nat.ne_of_lt (Nat.lt_of_lt_of_le f172.lt (Nat.le_of_eq gq168.symm))
        have g_b168 : n0 ≤ b168 := Nat.le_trans z169 (Nat.le_of_eq gq168.symm)
        have cs173 := Jvm.RoadKit.CHr.ext E168 cr167.1
        have cr173 := cr167.trans cs173
        have sf173_b154 := cs173.safe f170.lt sf167_b154
        have F_b168_change : Fld Z h168 b168 "com/example/unicopy/unicopy/UniqueValue" "change" "I" (.int (0 : Int32)) := D168 (Or.inr (hw _ (List.mem_of_getElem? (i := 57) rfl))) (ty := .int) (by decide)
        have F_b168_index : Fld Z h168 b168 "com/example/unicopy/unicopy/UniqueValue" "index" "Ljava/lang/String;" .null := D168 (Or.inr (hw _ (List.mem_of_getElem? (i := 59) rfl))) (ty := (.object "java/lang/String")) (by decide)
        have F_b168_value : Fld Z h168 b168 "com/example/unicopy/unicopy/UniqueValue" "value" "Ljava/lang/String;" .null := D168 (Or.inr (hw _ (List.mem_of_getElem? (i := 61) rfl))) (ty := (.object "java/lang/String")) (by decide)
        have z175 : n0 ≤ (h168).size := (Nat.le_trans z169 E168.1)
        obtain ⟨_, _, ⟨T174, L174, k174, n174⟩, -, X174, ⟨Lc174, hQ174, l174, y174, z174⟩, st174⟩ := X168.specialBack hx (y := (⟨"com/example/unicopy/unicopy/UniqueValue", "<init>", "(ILjava/lang/String;Ljava/lang/String;)V"⟩ : MethodName)) rfl hown (mvT hZ (hw _ (List.mem_of_getElem? (i := 47) rfl))) (mvT hZ (hw _ (List.mem_of_getElem? (i := 48) rfl))) (mvT hZ (hw _ (List.mem_of_getElem? (i := 49) rfl))) (by decide) (backOf (W := 1) (rm11 l Z aw hw [] (b168) (p0) (rs163) (b154) (h168) n0 z175 A168 F_b168_change F_b168_index F_b168_value g_b168) hZ (hw _ (List.mem_of_getElem? (i := 49) rfl)) (hw _ (List.mem_of_getElem? (i := 46) rfl)) (by decide) (by decide)) (g := (mkF m 107 #[.val (.int p0), .val (.int p1), .val (.int p2), .val (.int p3), .val (.int p4), .val (.int p5), .val (.int x6_5), .val (.ref b2), .val (.ref b154), .val (.ref rs163), .unset, .unset, .unset] [(.ref b154), (.ref rs163), (.int p0), (.ref b168), (.ref b168)])) rfl (by rw [hml]; rfl) (Steps.refl _) (a := b168) (argsL := [(.int p0), (.ref rs163), (.ref b154)]) (rest := [(.ref b168)]) (lenOf pd_9 rfl) rfl (by show 2 * 0 + _ ≤ _; exact Nat.le_of_eq rfl) (hb hby at_107) (fun _ _ => ⟨rfl, e168, (by decide : 9 + 0 ≤ _), (by decide : 23 + 0 ≤ _)⟩)
        dsimp only [Pt.U, Pt.locs, Pt.cells, Pt.slots] at X174 l174 y174 z174 st174 hQ174
        subst l174 y174 z174
        obtain ⟨rfl, Nq174, K174, po174_0, po174_1⟩ := hQ174
        have N174 := Fr.app N163 Nq174
        have f176 := (f170.ext E168)
        have cs177 := Jvm.RoadKit.CHr.keep K174 (own_alS (Jvm.RoadKit.Safe.exa hZ.alike A168 (by decide) (by decide)) own_al0) cr173.1
        have cr177 := cr173.trans cs177
        have sf177_b154 := cs177.safe f176.lt sf173_b154
        have pre180 : own_Pre p e below (s₁.setTop (entryFrame m #[(.int p0), (.int p1), (.int p2), (.int p3), (.int p4), (.int p5)] maxLocals)) (T174.setTop (mkF m 114 #[.val (.int p0), .val (.int p1), .val (.int p2), .val (.int p3), .val (.int p4), .val (.int p5), .val (.int x6_5), .val (.ref b2), .val (.ref b154), .val (.ref rs163), .val (.ref b168), .unset, .unset] [(.int x6_5)])) := fun t k => pre162 t (by
            show Steps p.tables e below (T157.setTop (mkF m 76 #[.val (.int p0), .val (.int p1), .val (.int p2), .val (.int p3), .val (.int p4), .val (.int p5), .val (.int x6_5), .val (.ref b2), .val (.ref b154), .unset, .unset, .unset, .unset] [(.int (p5 &&& (256 : Int32)))])) _
            refine XS.ifYes X157.here hx rfl (pc0 := 76) (pc' := 86) rfl (hb hby at_76) rfl ((if0 _ _).trans (teq hc76).1) (by decide) (by decide) ?_
            refine XS.iload X157.here hx rfl (hb hby at_86) rfl ?_
            refine XS.sipush X157.here hx rfl (hb hby at_88) ?_
            refine XS.iand X157.here hx rfl (hb hby at_91) rfl ?_
            refine XS.i2c X157.here hx rfl (hb hby at_92) rfl ?_
            show Steps p.tables e below (T157.setTop (mkF m 93 #[.val (.int p0), .val (.int p1), .val (.int p2), .val (.int p3), .val (.int p4), .val (.int p5), .val (.int x6_5), .val (.ref b2), .val (.ref b154), .unset, .unset, .unset, .unset] [(.int ((p5 &&& (255 : Int32))).toUInt32.toUInt16.toUInt32.toInt32)])) _
            refine st163 _ ?_
            refine XS.astore X163.here hx rfl (hb hby at_96) rfl rfl (l' := #[.val (.int p0), .val (.int p1), .val (.int p2), .val (.int p3), .val (.int p4), .val (.int p5), .val (.int x6_5), .val (.ref b2), .val (.ref b154), .val (.ref rs163), .unset, .unset, .unset]) rfl ?_
            refine st168 _ ?_
            refine XS.dup X168.here hx rfl (hb hby at_101) rfl rfl ?_
            refine XS.iloadN X168.here hx rfl (hb hby at_102) rfl ?_
            show Steps p.tables e below (T168.setTop (mkF m 103 #[.val (.int p0), .val (.int p1), .val (.int p2), .val (.int p3), .val (.int p4), .val (.int p5), .val (.int x6_5), .val (.ref b2), .val (.ref b154), .val (.ref rs163), .unset, .unset, .unset] [(.int p0), (.ref b168), (.ref b168)])) _
            refine XS.aload X168.here hx rfl (hb hby at_103) rfl rfl ?_
            refine XS.aload X168.here hx rfl (hb hby at_105) rfl rfl ?_
            refine st174.trans ?_
            refine XS.astore X174.here hx rfl (hb hby at_110) rfl rfl (l' := #[.val (.int p0), .val (.int p1), .val (.int p2), .val (.int p3), .val (.int p4), .val (.int p5), .val (.int x6_5), .val (.ref b2), .val (.ref b154), .val (.ref rs163), .val (.ref b168), .unset, .unset]) rfl ?_
            refine XS.iload X174.here hx rfl (hb hby at_112) rfl ?_
            exact k)
        obtain ⟨m122_s0, hm122_s0, pre179⟩ : ∃ (m122_s0 : Int32), m122_s0 = (own_m0_122_s0 x6_5) ∧ own_Pre p e below (s₁.setTop (entryFrame m #[(.int p0), (.int p1), (.int p2), (.int p3), (.int p4), (.int p5)] maxLocals)) (T174.setTop (mkF m 122 #[.val (.int p0), .val (.int p1), .val (.int p2), .val (.int p3), .val (.int p4), .val (.int p5), .val (.int x6_5), .val (.ref b2), .val (.ref b154), .val (.ref rs163), .val (.ref b168), .unset, .unset] [(.int m122_s0)])) := by
          by_cases hc114 : x6_5 = (0 : Int32)
          · have pre181 : own_Pre p e below (s₁.setTop (entryFrame m #[(.int p0), (.int p1), (.int p2), (.int p3), (.int p4), (.int p5)] maxLocals)) (T174.setTop (mkF m 122 #[.val (.int p0), .val (.int p1), .val (.int p2), .val (.int p3), .val (.int p4), .val (.int p5), .val (.int x6_5), .val (.ref b2), .val (.ref b154), .val (.ref rs163), .val (.ref b168), .unset, .unset] [(.int (0 : Int32))])) := fun t k => pre180 t (by
                show Steps p.tables e below (T174.setTop (mkF m 114 #[.val (.int p0), .val (.int p1), .val (.int p2), .val (.int p3), .val (.int p4), .val (.int p5), .val (.int x6_5), .val (.ref b2), .val (.ref b154), .val (.ref rs163), .val (.ref b168), .unset, .unset] [(.int x6_5)])) _
                refine XS.ifYes X174.here hx rfl (pc0 := 114) (pc' := 121) rfl (hb hby at_114) rfl ((if0 _ _).trans (teq hc114).1) (by decide) (by decide) ?_
                refine XS.iconst X174.here hx rfl (hb hby at_121) ?_
                exact k)
            refine ⟨_, ?_, pre181⟩
            all_goals (first | (simp only [own_m0_122_s0, if_pos hc114]; done) | (simp [own_m0_122_s0, if_pos hc114]; done))
          · have pre182 : own_Pre p e below (s₁.setTop (entryFrame m #[(.int p0), (.int p1), (.int p2), (.int p3), (.int p4), (.int p5)] maxLocals)) (T174.setTop (mkF m 122 #[.val (.int p0), .val (.int p1), .val (.int p2), .val (.int p3), .val (.int p4), .val (.int p5), .val (.int x6_5), .val (.ref b2), .val (.ref b154), .val (.ref rs163), .val (.ref b168), .unset, .unset] [(.int (1 : Int32))])) := fun t k => pre180 t (by
                show Steps p.tables e below (T174.setTop (mkF m 114 #[.val (.int p0), .val (.int p1), .val (.int p2), .val (.int p3), .val (.int p4), .val (.int p5), .val (.int x6_5), .val (.ref b2), .val (.ref b154), .val (.ref rs163), .val (.ref b168), .unset, .unset] [(.int x6_5)])) _
                refine XS.ifNo X174.here hx rfl (hb hby at_114) rfl ((if0 _ _).trans (feq hc114).1) ?_
                refine XS.iconst X174.here hx rfl (hb hby at_117) ?_
                refine XS.goto X174.here hx rfl (pc0 := 118) (pc' := 122) rfl (hb hby at_118) (by decide) (by decide) ?_
                exact k)
            refine ⟨_, ?_, pre182⟩
            all_goals (first | (simp only [own_m0_122_s0, if_neg hc114]; done) | (simp [own_m0_122_s0, if_neg hc114]; done))
        have f184 := (f176.keep K174)
        have f185 := (((po157_1.keep K163 nin0).ext E168).keep K174 (ninS ne_b154_b168 nin0))
        have f186 := ((f172.ext E168).keep K174 (ninS ne_bv157_b168 nin0))
        have z187 : n0 ≤ (T174.heap).size := (Nat.le_trans z175 K174.1)
        obtain ⟨cq183, kq183, q183a, q183b, q183c⟩ := isOf hZ rfl po174_0
        obtain ⟨_, _, ⟨T183, L183, k183, n183⟩, -, X183, ⟨Lc183, hQ183, l183, y183, z183⟩, st183⟩ := X174.virtualBack hx (y := (⟨"com/example/unicopy/unicopy/UniqueValue", "named", "()Z"⟩ : MethodName)) (z := (⟨"com/example/unicopy/unicopy/UniqueValue", "named", "()Z"⟩ : MethodName)) hown (mvT hZ (hw _ (List.mem_of_getElem? (i := 62) rfl))) (mvT hZ (hw _ (List.mem_of_getElem? (i := 63) rfl))) (notFace_of_selects (args := #[]) (mvT hZ (hw _ (List.mem_of_getElem? (i := 65) rfl)))) (mvT hZ (hw _ (List.mem_of_getElem? (i := 65) rfl))) (mvT hZ (hw _ (List.mem_of_getElem? (i := 64) rfl))) (by decide) (backOf (W := 0) (rm13 l Z aw hw [] (b168) (b154) (bv157) (kb157) (x6_5) (wb157) (T174.heap) n0 z187 po174_0 po174_1 f184 f185 f186) hZ (hw _ (List.mem_of_getElem? (i := 66) rfl)) (hw _ (List.mem_of_getElem? (i := 46) rfl)) (by decide) (by decide)) q183a q183c (g := (mkF m 126 #[.val (.int p0), .val (.int p1), .val (.int p2), .val (.int p3), .val (.int p4), .val (.int p5), .val (.int x6_5), .val (.ref b2), .val (.ref b154), .val (.ref rs163), .val (.ref b168), .val (.int m122_s0), .unset] [(.ref b168)])) rfl (by rw [hml]; rfl) (Steps.refl _) (argsL := []) (rest := []) (lenOf pd_8 rfl) rfl (by show 2 * 0 + _ ≤ _; exact Nat.le_of_eq rfl) (hb hby at_126) (fun _ _ => ⟨rfl, rfl, (by decide : 9 + 0 ≤ _), (by decide : 23 + 0 ≤ _)⟩)
        dsimp only [Pt.U, Pt.locs, Pt.cells, Pt.slots] at X183 l183 y183 z183 st183 hQ183
        subst l183 y183 z183
        obtain ⟨rfl, Nq183, eq183⟩ := hQ183
        have N183 := Fr.app N174 Nq183
        have hc131 : ((own_f13 x6_5) = m122_s0) := own_named hm122_s0
        have f189 := ((f171.ext E168).keep K174 (ninS ne_b2_b168 nin0))
        have hk190 : _ ≤ (T174.heap).size := (Nat.le_trans (Nat.le_trans (Nat.le_trans hk157 K163.1) E168.1) K174.1)
        obtain ⟨_, _, ⟨T188, L188, k188, n188⟩, -, X188, hs188, gr188, ⟨Lc188, hQ188, l188, y188, z188, cs188⟩, st188⟩ := Jvm.RoadKit.callSS X183 hx (y := (⟨"com/example/unicopy/unicopy/UniqueValue", "unnamed", "(ILjava/lang/String;)Lcom/example/unicopy/unicopy/UniqueValue;"⟩ : MethodName)) hown (mvT hZ (hw _ (List.mem_of_getElem? (i := 72) rfl))) (mvT hZ (hw _ (List.mem_of_getElem? (i := 73) rfl))) (mvT hZ (hw _ (List.mem_of_getElem? (i := 46) rfl))) (mvT hZ (hw _ (List.mem_of_getElem? (i := 74) rfl))) (by decide) (Jvm.RoadKit.backOfSH (W := 0) (rm15 l Z aw hw [] (p0) (rs163) (T174.heap) n0 z187) hZ (hw _ (List.mem_of_getElem? (i := 74) rfl)) (hw _ (List.mem_of_getElem? (i := 46) rfl)) (by decide) (by decide) (own_EW hw) cr177.1) (g := (mkF m 139 #[.val (.int p0), .val (.int p1), .val (.int p2), .val (.int p3), .val (.int p4), .val (.int p5), .val (.int x6_5), .val (.ref b2), .val (.ref b154), .val (.ref rs163), .val (.ref b168), .val (.int m122_s0), .unset] [(.ref rs163), (.int p0)])) rfl (by rw [hml]; rfl) (argsL := [(.int p0), (.ref rs163)]) (rest := []) (lenOf pd_12 rfl) rfl (by show 2 * 0 + _ ≤ _; exact Nat.le_of_eq rfl) (hb hby at_139) (fun _ _ => ⟨rfl, eq183, (by decide : 9 + 3 ≤ _), (by decide : 23 + 7 ≤ _)⟩)
        dsimp only [Pt.U, Pt.locs, Pt.cells, Pt.slots] at X188 l188 y188 z188 st188 hQ188 hs188 gr188 cs188
        subst l188 y188 z188
        obtain ⟨X188, hS188⟩ := X188.againW hS157 hs188 (Nat.le_trans hk190 (by rw [← eq183]; exact gr188))
        have hZ : Z.Warmed39 (s.setVm T188.vm).vm := State.Warmed39.trans (t := (s.setVm T157.vm)) hZ hs188.1
        have hown : (s.setVm T188.vm).vm.findClass "com/example/unicopy/unicopy/UniqueValueNamedPinLaw" = some m.cls := by rw [show (s.setVm T188.vm).vm = T188.vm from rfl, hs188.1.alike.findClass]; exact hown
        have hk188 : T188.heap.size ≤ T188.heap.size := Nat.le_refl _
        have cr188 := cr177.trans cs188
        have sf188_b154 := cs188.safe f184.lt sf177_b154
        obtain ⟨rv188, sv188, bv188, kb188, rfl, Nq188, K188, po188_0, po188_1, po188_2, po188_3, po188_4, po188_5⟩ := hQ188
        have N188 := Fr.app N183 Nq188
        have ne_b154_rv188 : b154 ≠ rv188 := Nat.ne_of_lt (Nat.lt_of_lt_of_le f184.lt po188_0)
        have ne_b168_rv188 : b168 ≠ rv188 := Nat.ne_of_lt (Nat.lt_of_lt_of_le po174_0.lt po188_0)
        have ne_b2_rv188 : b2 ≠ rv188 := Nat.ne_of_lt (Nat.lt_of_lt_of_le f189.lt po188_0)
        have ne_bv157_rv188 : bv157 ≠ rv188 := Nat.ne_of_lt (Nat.lt_of_lt_of_le f186.lt po188_0)
        have g_rv188 : n0 ≤ rv188 := Nat.le_trans z187 po188_0
        have z192 : n0 ≤ (T188.heap).size := (Nat.le_trans z187 K188.1)
        obtain ⟨cq191, kq191, q191a, q191b, q191c⟩ := isOf hZ rfl po188_1
        obtain ⟨_, _, ⟨T191, L191, k191, n191⟩, -, X191, ⟨Lc191, hQ191, l191, y191, z191⟩, st191⟩ := X188.virtualBack hx (y := (⟨"com/example/unicopy/unicopy/UniqueValue", "named", "()Z"⟩ : MethodName)) (z := (⟨"com/example/unicopy/unicopy/UniqueValue", "named", "()Z"⟩ : MethodName)) hown (mvT hZ (hw _ (List.mem_of_getElem? (i := 62) rfl))) (mvT hZ (hw _ (List.mem_of_getElem? (i := 63) rfl))) (notFace_of_selects (args := #[]) (mvT hZ (hw _ (List.mem_of_getElem? (i := 65) rfl)))) (mvT hZ (hw _ (List.mem_of_getElem? (i := 65) rfl))) (mvT hZ (hw _ (List.mem_of_getElem? (i := 64) rfl))) (by decide) (backOf (W := 0) (rm13 l Z aw hw [] (rv188) (sv188) (bv188) (kb188) ((0 : Int32)) ([]) (T188.heap) n0 z192 po188_1 po188_2 po188_3 po188_4 po188_5) hZ (hw _ (List.mem_of_getElem? (i := 66) rfl)) (hw _ (List.mem_of_getElem? (i := 46) rfl)) (by decide) (by decide)) q191a q191c (g := (mkF m 146 #[.val (.int p0), .val (.int p1), .val (.int p2), .val (.int p3), .val (.int p4), .val (.int p5), .val (.int x6_5), .val (.ref b2), .val (.ref b154), .val (.ref rs163), .val (.ref b168), .val (.int m122_s0), .val (.ref rv188)] [(.ref rv188)])) rfl (by rw [hml]; rfl) (Steps.refl _) (argsL := []) (rest := []) (lenOf pd_8 rfl) rfl (by show 2 * 0 + _ ≤ _; exact Nat.le_of_eq rfl) (hb hby at_146) (fun _ _ => ⟨rfl, rfl, (by decide : 12 + 0 ≤ _), (by decide : 30 + 0 ≤ _)⟩)
        dsimp only [Pt.U, Pt.locs, Pt.cells, Pt.slots] at X191 l191 y191 z191 st191 hQ191
        subst l191 y191 z191
        obtain ⟨rfl, Nq191, eq191⟩ := hQ191
        have N191 := Fr.app N188 Nq191
        have hc149 : ((own_f13 ((0 : Int32))) = (0 : Int32)) := by decide
        obtain ⟨fs, hr, hrun, hended, hREW⟩ := X191.leaveW hS188 (by rw [eq191]; exact hk188) (v := some (.int (1 : Int32))) (fun h => by rw [Bd.returns] at h; cases h)
        refine ⟨_, _, pre179 _ ?_, hrun, hended, _, _, rfl, ?_, by rw [hh, show (State.setFrames T191 fs).heap = T188.heap from eq191]; have hq := cr188.trans (Jvm.RoadKit.CHv.at X191 hZ (own_EW hw) cr188.1); exact hq, hREW.1, hREW.2.1, hREW.2.2.1, hREW.2.2.2.mono (by decide) (by decide)⟩
        · show Steps p.tables e below (T174.setTop (mkF m 122 #[.val (.int p0), .val (.int p1), .val (.int p2), .val (.int p3), .val (.int p4), .val (.int p5), .val (.int x6_5), .val (.ref b2), .val (.ref b154), .val (.ref rs163), .val (.ref b168), .unset, .unset] [(.int m122_s0)])) _
          refine XS.istore X174.here hx rfl (hb hby at_122) rfl (l' := #[.val (.int p0), .val (.int p1), .val (.int p2), .val (.int p3), .val (.int p4), .val (.int p5), .val (.int x6_5), .val (.ref b2), .val (.ref b154), .val (.ref rs163), .val (.ref b168), .val (.int m122_s0), .unset]) rfl ?_
          refine XS.aload X174.here hx rfl (hb hby at_124) rfl rfl ?_
          refine st183.trans ?_
          refine XS.iload X183.here hx rfl (hb hby at_129) rfl ?_
          refine XS.icmpYes X183.here hx rfl (pc0 := 131) (pc' := 136) rfl (hb hby at_131) rfl (teq hc131).1 (by decide) (by decide) ?_
          show Steps p.tables e below (T183.setTop (mkF m 136 #[.val (.int p0), .val (.int p1), .val (.int p2), .val (.int p3), .val (.int p4), .val (.int p5), .val (.int x6_5), .val (.ref b2), .val (.ref b154), .val (.ref rs163), .val (.ref b168), .val (.int m122_s0), .unset] [])) _
          refine XS.iloadN X183.here hx rfl (hb hby at_136) rfl ?_
          refine XS.aload X183.here hx rfl (hb hby at_137) rfl rfl ?_
          refine st188.trans ?_
          refine XS.astore X188.here hx rfl (hb hby at_142) rfl rfl (l' := #[.val (.int p0), .val (.int p1), .val (.int p2), .val (.int p3), .val (.int p4), .val (.int p5), .val (.int x6_5), .val (.ref b2), .val (.ref b154), .val (.ref rs163), .val (.ref b168), .val (.int m122_s0), .val (.ref rv188)]) rfl ?_
          refine XS.aload X188.here hx rfl (hb hby at_144) rfl rfl ?_
          show Steps p.tables e below (T188.setTop (mkF m 146 #[.val (.int p0), .val (.int p1), .val (.int p2), .val (.int p3), .val (.int p4), .val (.int p5), .val (.int x6_5), .val (.ref b2), .val (.ref b154), .val (.ref rs163), .val (.ref b168), .val (.int m122_s0), .val (.ref rv188)] [(.ref rv188)])) _
          refine st191.trans ?_
          refine XS.ifNo X191.here hx rfl (hb hby at_149) rfl ((if0 _ _).trans (teq hc149).2) ?_
          refine XS.iconst X191.here hx rfl (hb hby at_152) ?_
          refine XS.goto X191.here hx rfl (pc0 := 153) (pc' := 157) rfl (hb hby at_153) (by decide) (by decide) ?_
          show Steps p.tables e below (T191.setTop (mkF m 157 #[.val (.int p0), .val (.int p1), .val (.int p2), .val (.int p3), .val (.int p4), .val (.int p5), .val (.int x6_5), .val (.ref b2), .val (.ref b154), .val (.ref rs163), .val (.ref b168), .val (.int m122_s0), .val (.ref rv188)] [(.int (1 : Int32))])) _
          exact retN X191 hx (t := .boolean) Bd.returns (by simp) (hb hby at_157) hr
        · show Q0 Z p0 p1 p2 p3 p4 p5 cv h0 n0 _ T191.heap _
          rw [eq191]
          unfold Q0
          refine ⟨rfl, N191⟩
      · have z194 : n0 ≤ (T157.heap).size := (Nat.le_trans z160 K157.1)
        obtain ⟨a193, T193, h193, k193, b193, c193, X193, e193, E193, hS193, hk193, hZ, hown, Ea193, Fc193, Fv193, Ab193, -, -, cs193, -, sn193, st193⟩ := Jvm.RoadKit.ldcCH X157 hx hZ hown (hw _ (List.mem_of_getElem? (i := 80) rfl)) (own_atoms hw) rfl hS157 hk157 (own_EW hw) (List.mem_of_getElem? (i := 1) rfl) cr157.1 (vs := []) (z := 0) own_nil (by decide) (by decide) (g := (mkF m 79 #[.val (.int p0), .val (.int p1), .val (.int p2), .val (.int p3), .val (.int p4), .val (.int p5), .val (.int x6_5), .val (.ref b2), .val (.ref b154), .unset, .unset, .unset, .unset] [])) rfl (hb hby at_79) (n := 0) (by decide) (by decide) (by decide) (by decide)
        have V193 : own_AI Z h193 b193 c193 .byte (0 : Int32) [] := ⟨Ab193, by decide⟩
        have cr193 := cr157.trans cs193
        have sf193_b154 := cs193.safe po157_0.lt sf157_b154
        have nn193_b154 := sn193 b154 sf193_b154
        have f195 := ((f158.keep K157 (ninS ne_b2_b154 nin0)).ext E193)
        obtain ⟨cl196, Ar196, -, -⟩ := f195.len
        have nn193_b2 := sn193 b2 (Jvm.RoadKit.Safe.arr hZ.alike Ar196 (by decide))
        have z198 : n0 ≤ (h193).size := (Nat.le_trans z194 E193.1)
        obtain ⟨T197, h197, X197, e197, E197, A197, D197, -, st197⟩ := newO X193 hx hZ hown (hw _ (List.mem_of_getElem? (i := 44) rfl)) (hw _ (List.mem_of_getElem? (i := 45) rfl)) (hw _ (List.mem_of_getElem? (i := 46) rfl)) e193 (g := (mkF m 98 #[.val (.int p0), .val (.int p1), .val (.int p2), .val (.int p3), .val (.int p4), .val (.int p5), .val (.int x6_5), .val (.ref b2), .val (.ref b154), .val (.ref a193), .unset, .unset, .unset] [])) rfl (hb hby at_98) (by decide) (by decide)
        obtain ⟨b197, gq197⟩ : ∃ z, z = (h193).size := ⟨_, rfl⟩
        rw [← gq197] at A197 D197 st197
        have ne_a193_b197 : a193 ≠ b197 := Nat.ne_of_lt (Nat.lt_of_lt_of_le Ea193.lt (Nat.le_of_eq gq197.symm))
        have f199 := (po157_0.ext E193)
        have ne_b154_b197 : b154 ≠ b197 := Nat.ne_of_lt (Nat.lt_of_lt_of_le f199.lt (Nat.le_of_eq gq197.symm))
        have ne_b193_b197 : b193 ≠ b197 := Nat.ne_of_lt (Nat.lt_of_lt_of_le V193.lt (Nat.le_of_eq gq197.symm))
        have ne_b2_b197 : b2 ≠ b197 := Nat.ne_of_lt (Nat.lt_of_lt_of_le f195.lt (Nat.le_of_eq gq197.symm))
        have f200 := (po157_2.ext E193)
        have ne_bv157_b197 : bv157 ≠ b197 := Nat.ne_of_lt (Nat.lt_of_lt_of_le f200.lt (Nat.le_of_eq gq197.symm))
        have g_b197 : n0 ≤ b197 := Nat.le_trans z198 (Nat.le_of_eq gq197.symm)
        have cs201 := Jvm.RoadKit.CHr.ext E197 cr193.1
        have cr201 := cr193.trans cs201
        have sf201_b154 := cs201.safe f199.lt sf193_b154
        have F_b197_change : Fld Z h197 b197 "com/example/unicopy/unicopy/UniqueValue" "change" "I" (.int (0 : Int32)) := D197 (Or.inr (hw _ (List.mem_of_getElem? (i := 57) rfl))) (ty := .int) (by decide)
        have F_b197_index : Fld Z h197 b197 "com/example/unicopy/unicopy/UniqueValue" "index" "Ljava/lang/String;" .null := D197 (Or.inr (hw _ (List.mem_of_getElem? (i := 59) rfl))) (ty := (.object "java/lang/String")) (by decide)
        have F_b197_value : Fld Z h197 b197 "com/example/unicopy/unicopy/UniqueValue" "value" "Ljava/lang/String;" .null := D197 (Or.inr (hw _ (List.mem_of_getElem? (i := 61) rfl))) (ty := (.object "java/lang/String")) (by decide)
        have z203 : n0 ≤ (h197).size := (Nat.le_trans z198 E197.1)
        obtain ⟨_, _, ⟨T202, L202, k202, n202⟩, -, X202, ⟨Lc202, hQ202, l202, y202, z202⟩, st202⟩ := X197.specialBack hx (y := (⟨"com/example/unicopy/unicopy/UniqueValue", "<init>", "(ILjava/lang/String;Ljava/lang/String;)V"⟩ : MethodName)) rfl hown (mvT hZ (hw _ (List.mem_of_getElem? (i := 47) rfl))) (mvT hZ (hw _ (List.mem_of_getElem? (i := 48) rfl))) (mvT hZ (hw _ (List.mem_of_getElem? (i := 49) rfl))) (by decide) (backOf (W := 1) (rm11 l Z aw hw [] (b197) (p0) (a193) (b154) (h197) n0 z203 A197 F_b197_change F_b197_index F_b197_value g_b197) hZ (hw _ (List.mem_of_getElem? (i := 49) rfl)) (hw _ (List.mem_of_getElem? (i := 46) rfl)) (by decide) (by decide)) (g := (mkF m 107 #[.val (.int p0), .val (.int p1), .val (.int p2), .val (.int p3), .val (.int p4), .val (.int p5), .val (.int x6_5), .val (.ref b2), .val (.ref b154), .val (.ref a193), .unset, .unset, .unset] [(.ref b154), (.ref a193), (.int p0), (.ref b197), (.ref b197)])) rfl (by rw [hml]; rfl) (Steps.refl _) (a := b197) (argsL := [(.int p0), (.ref a193), (.ref b154)]) (rest := [(.ref b197)]) (lenOf pd_9 rfl) rfl (by show 2 * 0 + _ ≤ _; exact Nat.le_of_eq rfl) (hb hby at_107) (fun _ _ => ⟨rfl, e197, (by decide : 9 + 0 ≤ _), (by decide : 22 + 0 ≤ _)⟩)
        dsimp only [Pt.U, Pt.locs, Pt.cells, Pt.slots] at X202 l202 y202 z202 st202 hQ202
        subst l202 y202 z202
        obtain ⟨rfl, Nq202, K202, po202_0, po202_1⟩ := hQ202
        have N202 := Fr.app N157 Nq202
        have f204 := (f199.ext E197)
        have cs205 := Jvm.RoadKit.CHr.keep K202 (own_alS (Jvm.RoadKit.Safe.exa hZ.alike A197 (by decide) (by decide)) own_al0) cr201.1
        have cr205 := cr201.trans cs205
        have sf205_b154 := cs205.safe f204.lt sf201_b154
        have pre208 : own_Pre p e below (s₁.setTop (entryFrame m #[(.int p0), (.int p1), (.int p2), (.int p3), (.int p4), (.int p5)] maxLocals)) (T202.setTop (mkF m 114 #[.val (.int p0), .val (.int p1), .val (.int p2), .val (.int p3), .val (.int p4), .val (.int p5), .val (.int x6_5), .val (.ref b2), .val (.ref b154), .val (.ref a193), .val (.ref b197), .unset, .unset] [(.int x6_5)])) := fun t k => pre162 t (by
            show Steps p.tables e below (T157.setTop (mkF m 76 #[.val (.int p0), .val (.int p1), .val (.int p2), .val (.int p3), .val (.int p4), .val (.int p5), .val (.int x6_5), .val (.ref b2), .val (.ref b154), .unset, .unset, .unset, .unset] [(.int (p5 &&& (256 : Int32)))])) _
            refine XS.ifNo X157.here hx rfl (hb hby at_76) rfl ((if0 _ _).trans (feq hc76).1) ?_
            refine st193 _ ?_
            refine XS.astore X193.here hx rfl (hb hby at_81) rfl rfl (l' := #[.val (.int p0), .val (.int p1), .val (.int p2), .val (.int p3), .val (.int p4), .val (.int p5), .val (.int x6_5), .val (.ref b2), .val (.ref b154), .val (.ref a193), .unset, .unset, .unset]) rfl ?_
            refine XS.goto X193.here hx rfl (pc0 := 83) (pc' := 98) rfl (hb hby at_83) (by decide) (by decide) ?_
            refine st197 _ ?_
            show Steps p.tables e below (T197.setTop (mkF m 101 #[.val (.int p0), .val (.int p1), .val (.int p2), .val (.int p3), .val (.int p4), .val (.int p5), .val (.int x6_5), .val (.ref b2), .val (.ref b154), .val (.ref a193), .unset, .unset, .unset] [(.ref b197)])) _
            refine XS.dup X197.here hx rfl (hb hby at_101) rfl rfl ?_
            refine XS.iloadN X197.here hx rfl (hb hby at_102) rfl ?_
            refine XS.aload X197.here hx rfl (hb hby at_103) rfl rfl ?_
            refine XS.aload X197.here hx rfl (hb hby at_105) rfl rfl ?_
            refine st202.trans ?_
            show Steps p.tables e below (T202.setTop (mkF m 110 #[.val (.int p0), .val (.int p1), .val (.int p2), .val (.int p3), .val (.int p4), .val (.int p5), .val (.int x6_5), .val (.ref b2), .val (.ref b154), .val (.ref a193), .unset, .unset, .unset] [(.ref b197)])) _
            refine XS.astore X202.here hx rfl (hb hby at_110) rfl rfl (l' := #[.val (.int p0), .val (.int p1), .val (.int p2), .val (.int p3), .val (.int p4), .val (.int p5), .val (.int x6_5), .val (.ref b2), .val (.ref b154), .val (.ref a193), .val (.ref b197), .unset, .unset]) rfl ?_
            refine XS.iload X202.here hx rfl (hb hby at_112) rfl ?_
            exact k)
        obtain ⟨m122_s0, hm122_s0, pre207⟩ : ∃ (m122_s0 : Int32), m122_s0 = (own_m0_122_s0 x6_5) ∧ own_Pre p e below (s₁.setTop (entryFrame m #[(.int p0), (.int p1), (.int p2), (.int p3), (.int p4), (.int p5)] maxLocals)) (T202.setTop (mkF m 122 #[.val (.int p0), .val (.int p1), .val (.int p2), .val (.int p3), .val (.int p4), .val (.int p5), .val (.int x6_5), .val (.ref b2), .val (.ref b154), .val (.ref a193), .val (.ref b197), .unset, .unset] [(.int m122_s0)])) := by
          by_cases hc114 : x6_5 = (0 : Int32)
          · have pre209 : own_Pre p e below (s₁.setTop (entryFrame m #[(.int p0), (.int p1), (.int p2), (.int p3), (.int p4), (.int p5)] maxLocals)) (T202.setTop (mkF m 122 #[.val (.int p0), .val (.int p1), .val (.int p2), .val (.int p3), .val (.int p4), .val (.int p5), .val (.int x6_5), .val (.ref b2), .val (.ref b154), .val (.ref a193), .val (.ref b197), .unset, .unset] [(.int (0 : Int32))])) := fun t k => pre208 t (by
                show Steps p.tables e below (T202.setTop (mkF m 114 #[.val (.int p0), .val (.int p1), .val (.int p2), .val (.int p3), .val (.int p4), .val (.int p5), .val (.int x6_5), .val (.ref b2), .val (.ref b154), .val (.ref a193), .val (.ref b197), .unset, .unset] [(.int x6_5)])) _
                refine XS.ifYes X202.here hx rfl (pc0 := 114) (pc' := 121) rfl (hb hby at_114) rfl ((if0 _ _).trans (teq hc114).1) (by decide) (by decide) ?_
                refine XS.iconst X202.here hx rfl (hb hby at_121) ?_
                exact k)
            refine ⟨_, ?_, pre209⟩
            all_goals (first | (simp only [own_m0_122_s0, if_pos hc114]; done) | (simp [own_m0_122_s0, if_pos hc114]; done))
          · have pre210 : own_Pre p e below (s₁.setTop (entryFrame m #[(.int p0), (.int p1), (.int p2), (.int p3), (.int p4), (.int p5)] maxLocals)) (T202.setTop (mkF m 122 #[.val (.int p0), .val (.int p1), .val (.int p2), .val (.int p3), .val (.int p4), .val (.int p5), .val (.int x6_5), .val (.ref b2), .val (.ref b154), .val (.ref a193), .val (.ref b197), .unset, .unset] [(.int (1 : Int32))])) := fun t k => pre208 t (by
                show Steps p.tables e below (T202.setTop (mkF m 114 #[.val (.int p0), .val (.int p1), .val (.int p2), .val (.int p3), .val (.int p4), .val (.int p5), .val (.int x6_5), .val (.ref b2), .val (.ref b154), .val (.ref a193), .val (.ref b197), .unset, .unset] [(.int x6_5)])) _
                refine XS.ifNo X202.here hx rfl (hb hby at_114) rfl ((if0 _ _).trans (feq hc114).1) ?_
                refine XS.iconst X202.here hx rfl (hb hby at_117) ?_
                refine XS.goto X202.here hx rfl (pc0 := 118) (pc' := 122) rfl (hb hby at_118) (by decide) (by decide) ?_
                exact k)
            refine ⟨_, ?_, pre210⟩
            all_goals (first | (simp only [own_m0_122_s0, if_neg hc114]; done) | (simp [own_m0_122_s0, if_neg hc114]; done))
        have f212 := (f204.keep K202)
        have f213 := (((po157_1.ext E193).ext E197).keep K202 (ninS ne_b154_b197 nin0))
        have f214 := ((f200.ext E197).keep K202 (ninS ne_bv157_b197 nin0))
        have z215 : n0 ≤ (T202.heap).size := (Nat.le_trans z203 K202.1)
        obtain ⟨cq211, kq211, q211a, q211b, q211c⟩ := isOf hZ rfl po202_0
        obtain ⟨_, _, ⟨T211, L211, k211, n211⟩, -, X211, ⟨Lc211, hQ211, l211, y211, z211⟩, st211⟩ := X202.virtualBack hx (y := (⟨"com/example/unicopy/unicopy/UniqueValue", "named", "()Z"⟩ : MethodName)) (z := (⟨"com/example/unicopy/unicopy/UniqueValue", "named", "()Z"⟩ : MethodName)) hown (mvT hZ (hw _ (List.mem_of_getElem? (i := 62) rfl))) (mvT hZ (hw _ (List.mem_of_getElem? (i := 63) rfl))) (notFace_of_selects (args := #[]) (mvT hZ (hw _ (List.mem_of_getElem? (i := 65) rfl)))) (mvT hZ (hw _ (List.mem_of_getElem? (i := 65) rfl))) (mvT hZ (hw _ (List.mem_of_getElem? (i := 64) rfl))) (by decide) (backOf (W := 0) (rm13 l Z aw hw [] (b197) (b154) (bv157) (kb157) (x6_5) (wb157) (T202.heap) n0 z215 po202_0 po202_1 f212 f213 f214) hZ (hw _ (List.mem_of_getElem? (i := 66) rfl)) (hw _ (List.mem_of_getElem? (i := 46) rfl)) (by decide) (by decide)) q211a q211c (g := (mkF m 126 #[.val (.int p0), .val (.int p1), .val (.int p2), .val (.int p3), .val (.int p4), .val (.int p5), .val (.int x6_5), .val (.ref b2), .val (.ref b154), .val (.ref a193), .val (.ref b197), .val (.int m122_s0), .unset] [(.ref b197)])) rfl (by rw [hml]; rfl) (Steps.refl _) (argsL := []) (rest := []) (lenOf pd_8 rfl) rfl (by show 2 * 0 + _ ≤ _; exact Nat.le_of_eq rfl) (hb hby at_126) (fun _ _ => ⟨rfl, rfl, (by decide : 9 + 0 ≤ _), (by decide : 22 + 0 ≤ _)⟩)
        dsimp only [Pt.U, Pt.locs, Pt.cells, Pt.slots] at X211 l211 y211 z211 st211 hQ211
        subst l211 y211 z211
        obtain ⟨rfl, Nq211, eq211⟩ := hQ211
        have N211 := Fr.app N202 Nq211
        have hc131 : ((own_f13 x6_5) = m122_s0) := own_named hm122_s0
        have f217 := ((Ea193.ext E197).keep K202)
        have f218 := ((V193.ext E197).keep K202 (ninS ne_b193_b197 nin0))
        have f219 := ((f195.ext E197).keep K202 (ninS ne_b2_b197 nin0))
        have hk220 : _ ≤ (T202.heap).size := (Nat.le_trans (Nat.le_trans hk193 E197.1) K202.1)
        obtain ⟨_, _, ⟨T216, L216, k216, n216⟩, -, X216, hs216, gr216, ⟨Lc216, hQ216, l216, y216, z216, cs216⟩, st216⟩ := Jvm.RoadKit.callSS X211 hx (y := (⟨"com/example/unicopy/unicopy/UniqueValue", "unnamed", "(ILjava/lang/String;)Lcom/example/unicopy/unicopy/UniqueValue;"⟩ : MethodName)) hown (mvT hZ (hw _ (List.mem_of_getElem? (i := 72) rfl))) (mvT hZ (hw _ (List.mem_of_getElem? (i := 73) rfl))) (mvT hZ (hw _ (List.mem_of_getElem? (i := 46) rfl))) (mvT hZ (hw _ (List.mem_of_getElem? (i := 74) rfl))) (by decide) (Jvm.RoadKit.backOfSH (W := 0) (rm15 l Z aw hw [] (p0) (a193) (T202.heap) n0 z215) hZ (hw _ (List.mem_of_getElem? (i := 74) rfl)) (hw _ (List.mem_of_getElem? (i := 46) rfl)) (by decide) (by decide) (own_EW hw) cr205.1) (g := (mkF m 139 #[.val (.int p0), .val (.int p1), .val (.int p2), .val (.int p3), .val (.int p4), .val (.int p5), .val (.int x6_5), .val (.ref b2), .val (.ref b154), .val (.ref a193), .val (.ref b197), .val (.int m122_s0), .unset] [(.ref a193), (.int p0)])) rfl (by rw [hml]; rfl) (argsL := [(.int p0), (.ref a193)]) (rest := []) (lenOf pd_12 rfl) rfl (by show 2 * 0 + _ ≤ _; exact Nat.le_of_eq rfl) (hb hby at_139) (fun _ _ => ⟨rfl, eq211, (by decide : 9 + 3 ≤ _), (by decide : 22 + 7 ≤ _)⟩)
        dsimp only [Pt.U, Pt.locs, Pt.cells, Pt.slots] at X216 l216 y216 z216 st216 hQ216 hs216 gr216 cs216
        subst l216 y216 z216
        obtain ⟨X216, hS216⟩ := X216.againW hS193 hs216 (Nat.le_trans hk220 (by rw [← eq211]; exact gr216))
        have hZ : Z.Warmed39 (s.setVm T216.vm).vm := State.Warmed39.trans (t := (s.setVm T193.vm)) hZ hs216.1
        have hown : (s.setVm T216.vm).vm.findClass "com/example/unicopy/unicopy/UniqueValueNamedPinLaw" = some m.cls := by rw [show (s.setVm T216.vm).vm = T216.vm from rfl, hs216.1.alike.findClass]; exact hown
        have hk216 : T216.heap.size ≤ T216.heap.size := Nat.le_refl _
        have cr216 := cr205.trans cs216
        have sf216_b154 := cs216.safe f212.lt sf205_b154
        obtain ⟨rv216, sv216, bv216, kb216, rfl, Nq216, K216, po216_0, po216_1, po216_2, po216_3, po216_4, po216_5⟩ := hQ216
        have N216 := Fr.app N211 Nq216
        have ne_a193_rv216 : a193 ≠ rv216 := Nat.ne_of_lt (Nat.lt_of_lt_of_le f217.lt po216_0)
        have ne_b154_rv216 : b154 ≠ rv216 := Nat.ne_of_lt (Nat.lt_of_lt_of_le f212.lt po216_0)
        have ne_b193_rv216 : b193 ≠ rv216 := Nat.ne_of_lt (Nat.lt_of_lt_of_le f218.lt po216_0)
        have ne_b197_rv216 : b197 ≠ rv216 := Nat.ne_of_lt (Nat.lt_of_lt_of_le po202_0.lt po216_0)
        have ne_b2_rv216 : b2 ≠ rv216 := Nat.ne_of_lt (Nat.lt_of_lt_of_le f219.lt po216_0)
        have ne_bv157_rv216 : bv157 ≠ rv216 := Nat.ne_of_lt (Nat.lt_of_lt_of_le f214.lt po216_0)
        have g_rv216 : n0 ≤ rv216 := Nat.le_trans z215 po216_0
        have z222 : n0 ≤ (T216.heap).size := (Nat.le_trans z215 K216.1)
        obtain ⟨cq221, kq221, q221a, q221b, q221c⟩ := isOf hZ rfl po216_1
        obtain ⟨_, _, ⟨T221, L221, k221, n221⟩, -, X221, ⟨Lc221, hQ221, l221, y221, z221⟩, st221⟩ := X216.virtualBack hx (y := (⟨"com/example/unicopy/unicopy/UniqueValue", "named", "()Z"⟩ : MethodName)) (z := (⟨"com/example/unicopy/unicopy/UniqueValue", "named", "()Z"⟩ : MethodName)) hown (mvT hZ (hw _ (List.mem_of_getElem? (i := 62) rfl))) (mvT hZ (hw _ (List.mem_of_getElem? (i := 63) rfl))) (notFace_of_selects (args := #[]) (mvT hZ (hw _ (List.mem_of_getElem? (i := 65) rfl)))) (mvT hZ (hw _ (List.mem_of_getElem? (i := 65) rfl))) (mvT hZ (hw _ (List.mem_of_getElem? (i := 64) rfl))) (by decide) (backOf (W := 0) (rm13 l Z aw hw [] (rv216) (sv216) (bv216) (kb216) ((0 : Int32)) ([]) (T216.heap) n0 z222 po216_1 po216_2 po216_3 po216_4 po216_5) hZ (hw _ (List.mem_of_getElem? (i := 66) rfl)) (hw _ (List.mem_of_getElem? (i := 46) rfl)) (by decide) (by decide)) q221a q221c (g := (mkF m 146 #[.val (.int p0), .val (.int p1), .val (.int p2), .val (.int p3), .val (.int p4), .val (.int p5), .val (.int x6_5), .val (.ref b2), .val (.ref b154), .val (.ref a193), .val (.ref b197), .val (.int m122_s0), .val (.ref rv216)] [(.ref rv216)])) rfl (by rw [hml]; rfl) (Steps.refl _) (argsL := []) (rest := []) (lenOf pd_8 rfl) rfl (by show 2 * 0 + _ ≤ _; exact Nat.le_of_eq rfl) (hb hby at_146) (fun _ _ => ⟨rfl, rfl, (by decide : 12 + 0 ≤ _), (by decide : 29 + 0 ≤ _)⟩)
        dsimp only [Pt.U, Pt.locs, Pt.cells, Pt.slots] at X221 l221 y221 z221 st221 hQ221
        subst l221 y221 z221
        obtain ⟨rfl, Nq221, eq221⟩ := hQ221
        have N221 := Fr.app N216 Nq221
        have hc149 : ((own_f13 ((0 : Int32))) = (0 : Int32)) := by decide
        obtain ⟨fs, hr, hrun, hended, hREW⟩ := X221.leaveW hS216 (by rw [eq221]; exact hk216) (v := some (.int (1 : Int32))) (fun h => by rw [Bd.returns] at h; cases h)
        refine ⟨_, _, pre207 _ ?_, hrun, hended, _, _, rfl, ?_, by rw [hh, show (State.setFrames T221 fs).heap = T216.heap from eq221]; have hq := cr216.trans (Jvm.RoadKit.CHv.at X221 hZ (own_EW hw) cr216.1); exact hq, hREW.1, hREW.2.1, hREW.2.2.1, hREW.2.2.2.mono (by decide) (by decide)⟩
        · show Steps p.tables e below (T202.setTop (mkF m 122 #[.val (.int p0), .val (.int p1), .val (.int p2), .val (.int p3), .val (.int p4), .val (.int p5), .val (.int x6_5), .val (.ref b2), .val (.ref b154), .val (.ref a193), .val (.ref b197), .unset, .unset] [(.int m122_s0)])) _
          refine XS.istore X202.here hx rfl (hb hby at_122) rfl (l' := #[.val (.int p0), .val (.int p1), .val (.int p2), .val (.int p3), .val (.int p4), .val (.int p5), .val (.int x6_5), .val (.ref b2), .val (.ref b154), .val (.ref a193), .val (.ref b197), .val (.int m122_s0), .unset]) rfl ?_
          refine XS.aload X202.here hx rfl (hb hby at_124) rfl rfl ?_
          refine st211.trans ?_
          refine XS.iload X211.here hx rfl (hb hby at_129) rfl ?_
          refine XS.icmpYes X211.here hx rfl (pc0 := 131) (pc' := 136) rfl (hb hby at_131) rfl (teq hc131).1 (by decide) (by decide) ?_
          show Steps p.tables e below (T211.setTop (mkF m 136 #[.val (.int p0), .val (.int p1), .val (.int p2), .val (.int p3), .val (.int p4), .val (.int p5), .val (.int x6_5), .val (.ref b2), .val (.ref b154), .val (.ref a193), .val (.ref b197), .val (.int m122_s0), .unset] [])) _
          refine XS.iloadN X211.here hx rfl (hb hby at_136) rfl ?_
          refine XS.aload X211.here hx rfl (hb hby at_137) rfl rfl ?_
          refine st216.trans ?_
          refine XS.astore X216.here hx rfl (hb hby at_142) rfl rfl (l' := #[.val (.int p0), .val (.int p1), .val (.int p2), .val (.int p3), .val (.int p4), .val (.int p5), .val (.int x6_5), .val (.ref b2), .val (.ref b154), .val (.ref a193), .val (.ref b197), .val (.int m122_s0), .val (.ref rv216)]) rfl ?_
          refine XS.aload X216.here hx rfl (hb hby at_144) rfl rfl ?_
          show Steps p.tables e below (T216.setTop (mkF m 146 #[.val (.int p0), .val (.int p1), .val (.int p2), .val (.int p3), .val (.int p4), .val (.int p5), .val (.int x6_5), .val (.ref b2), .val (.ref b154), .val (.ref a193), .val (.ref b197), .val (.int m122_s0), .val (.ref rv216)] [(.ref rv216)])) _
          refine st221.trans ?_
          refine XS.ifNo X221.here hx rfl (hb hby at_149) rfl ((if0 _ _).trans (teq hc149).2) ?_
          refine XS.iconst X221.here hx rfl (hb hby at_152) ?_
          refine XS.goto X221.here hx rfl (pc0 := 153) (pc' := 157) rfl (hb hby at_153) (by decide) (by decide) ?_
          show Steps p.tables e below (T221.setTop (mkF m 157 #[.val (.int p0), .val (.int p1), .val (.int p2), .val (.int p3), .val (.int p4), .val (.int p5), .val (.int x6_5), .val (.ref b2), .val (.ref b154), .val (.ref a193), .val (.ref b197), .val (.int m122_s0), .val (.ref rv216)] [(.int (1 : Int32))])) _
          exact retN X221 hx (t := .boolean) Bd.returns (by simp) (hb hby at_157) hr
        · show Q0 Z p0 p1 p2 p3 p4 p5 cv h0 n0 _ T221.heap _
          rw [eq221]
          unfold Q0
          refine ⟨rfl, N221⟩
  · have hc29 : ¬ ((1 : Int32) < x6_5) := own_low hc13
    have hc45 : ¬ ((2 : Int32) < x6_5) := own_low hc29
    have z224 : n0 ≤ (h2).size := (Nat.le_trans Z0 E2.1)
    obtain ⟨T223, h223, X223, e223, E223, A223, D223, -, st223⟩ := newO X2 hx hZ hown (hw _ (List.mem_of_getElem? (i := 1) rfl)) (hw _ (List.mem_of_getElem? (i := 2) rfl)) (hw _ (List.mem_of_getElem? (i := 3) rfl)) e2 (g := (mkF m 59 #[.val (.int p0), .val (.int p1), .val (.int p2), .val (.int p3), .val (.int p4), .val (.int p5), .val (.int x6_5), .val (.ref b2), .unset, .unset, .unset, .unset, .unset] [])) rfl (hb hby at_59) (by decide) (by decide)
    obtain ⟨b223, gq223⟩ : ∃ z, z = (h2).size := ⟨_, rfl⟩
    rw [← gq223] at A223 D223 st223
    have ne_b2_b223 : b2 ≠ b223 := Nat.ne_of_lt (Nat.lt_of_lt_of_le V_b2.lt (Nat.le_of_eq gq223.symm))
    have g_b223 : n0 ≤ b223 := Nat.le_trans z224 (Nat.le_of_eq gq223.symm)
    have cs225 := Jvm.RoadKit.CHr.ext E223 cr3.1
    have cr225 := cr3.trans cs225
    have sf223 := Jvm.RoadKit.Safe.ext E223 cr3.1 (Jvm.RoadKit.Safe.new (Nat.le_of_eq gq223.symm))
    have F_b223_coder : Fld Z h223 b223 "java/lang/String" "coder" "B" (.int (0 : Int32)) := D223 (Or.inr (hw _ (List.mem_of_getElem? (i := 27) rfl))) (ty := .byte) (by decide)
    have F_b223_value : Fld Z h223 b223 "java/lang/String" "value" "[B" .null := D223 (Or.inr (hw _ (List.mem_of_getElem? (i := 29) rfl))) (ty := (.array .byte)) (by decide)
    have f227 := (V_b2.ext E223)
    have f228 := ((S_COMPACT_STRINGS.ext E2).ext E223)
    have z229 : n0 ≤ (h223).size := (Nat.le_trans z224 E223.1)
    have hk230 : _ ≤ (h223).size := (Nat.le_trans (Nat.le_trans hk0 E2.1) E223.1)
    obtain ⟨_, _, ⟨T226, L226, k226, n226⟩, -, X226, hs226, gr226, ⟨Lc226, hQ226, l226, y226, z226, cs226⟩, st226⟩ := X223.specialBackS hx (y := (⟨"java/lang/String", "<init>", "([C)V"⟩ : MethodName)) rfl hown (mvT hZ (hw _ (List.mem_of_getElem? (i := 4) rfl))) (mvT hZ (hw _ (List.mem_of_getElem? (i := 5) rfl))) (mvT hZ (hw _ (List.mem_of_getElem? (i := 6) rfl))) (by decide) (Jvm.RoadKit.backOfSH (W := 1) (rm1 l Z aw hw [] (b223) (b2) (k2) (x6_5) ((List.replicate 3 (0 : Int32))) (cv) (h223) n0 z229 A223 F_b223_value F_b223_coder f227 f228 hcv (own_rng hx6_5) own_rep (Ne.symm ne_b2_b223) g_b223) hZ (hw _ (List.mem_of_getElem? (i := 6) rfl)) (hw _ (List.mem_of_getElem? (i := 3) rfl)) (by decide) (by decide) (own_EW hw) cr225.1) (g := (mkF m 65 #[.val (.int p0), .val (.int p1), .val (.int p2), .val (.int p3), .val (.int p4), .val (.int p5), .val (.int x6_5), .val (.ref b2), .unset, .unset, .unset, .unset, .unset] [(.ref b2), (.ref b223), (.ref b223)])) rfl (by rw [hml]; rfl) (Steps.refl _) (a := b223) (argsL := [(.ref b2)]) (rest := [(.ref b223)]) (lenOf pd_10 rfl) rfl (by show 2 * 0 + _ ≤ _; exact Nat.le_of_eq rfl) (hb hby at_65) (fun _ _ => ⟨rfl, e223, (by decide : 2 + 4 ≤ _), (by decide : 7 + 8 ≤ _)⟩)
    dsimp only [Pt.U, Pt.locs, Pt.cells, Pt.slots] at X226 l226 y226 z226 st226 hQ226 hs226 gr226 cs226
    subst l226 y226 z226
    obtain ⟨X226, hS226⟩ := X226.againW hS0 hs226 (Nat.le_trans hk230 (by rw [← e223]; exact gr226))
    have hZ : Z.Warmed39 (s.setVm T226.vm).vm := State.Warmed39.trans (t := (s.setVm s.vm)) hZ hs226.1
    have hown : (s.setVm T226.vm).vm.findClass "com/example/unicopy/unicopy/UniqueValueNamedPinLaw" = some m.cls := by rw [show (s.setVm T226.vm).vm = T226.vm from rfl, hs226.1.alike.findClass]; exact hown
    have hk226 : T226.heap.size ≤ T226.heap.size := Nat.le_refl _
    have cr226 := cr225.trans cs226
    have sf226_b223 := cs226.safe A223.lt sf223
    obtain ⟨bv226, kb226, wb226, rfl, Nq226, K226, po226_0, po226_1, po226_2⟩ := hQ226
    have N226 := Fr.app N0 Nq226
    have pre231 : own_Pre p e below (s₁.setTop (entryFrame m #[(.int p0), (.int p1), (.int p2), (.int p3), (.int p4), (.int p5)] maxLocals)) (T226.setTop (mkF m 76 #[.val (.int p0), .val (.int p1), .val (.int p2), .val (.int p3), .val (.int p4), .val (.int p5), .val (.int x6_5), .val (.ref b2), .val (.ref b223), .unset, .unset, .unset, .unset] [(.int (p5 &&& (256 : Int32)))])) := fun t k => pre4 t (by
        show Steps p.tables e below (T2.setTop (mkF m 13 #[.val (.int p0), .val (.int p1), .val (.int p2), .val (.int p3), .val (.int p4), .val (.int p5), .val (.int x6_5), .val (.ref b2), .unset, .unset, .unset, .unset, .unset] [(.int x6_5)])) _
        refine XS.ifYes X2.here hx rfl (pc0 := 13) (pc' := 26) rfl (hb hby at_13) rfl ((if0 _ _).trans (flt hc13).2.2.2) (by decide) (by decide) ?_
        refine XS.iload X2.here hx rfl (hb hby at_26) rfl ?_
        refine XS.iconst X2.here hx rfl (hb hby at_28) ?_
        refine XS.icmpYes X2.here hx rfl (pc0 := 29) (pc' := 42) rfl (hb hby at_29) rfl (flt hc29).2.2.2 (by decide) (by decide) ?_
        refine XS.iload X2.here hx rfl (hb hby at_42) rfl ?_
        show Steps p.tables e below (T2.setTop (mkF m 44 #[.val (.int p0), .val (.int p1), .val (.int p2), .val (.int p3), .val (.int p4), .val (.int p5), .val (.int x6_5), .val (.ref b2), .unset, .unset, .unset, .unset, .unset] [(.int x6_5)])) _
        refine XS.iconst X2.here hx rfl (hb hby at_44) ?_
        refine XS.icmpYes X2.here hx rfl (pc0 := 45) (pc' := 59) rfl (hb hby at_45) rfl (flt hc45).2.2.2 (by decide) (by decide) ?_
        refine st223 _ ?_
        refine XS.dup X223.here hx rfl (hb hby at_62) rfl rfl ?_
        refine XS.aload X223.here hx rfl (hb hby at_63) rfl rfl ?_
        show Steps p.tables e below (T223.setTop (mkF m 65 #[.val (.int p0), .val (.int p1), .val (.int p2), .val (.int p3), .val (.int p4), .val (.int p5), .val (.int x6_5), .val (.ref b2), .unset, .unset, .unset, .unset, .unset] [(.ref b2), (.ref b223), (.ref b223)])) _
        refine st226.trans ?_
        refine XS.astore X226.here hx rfl (hb hby at_68) rfl rfl (l' := #[.val (.int p0), .val (.int p1), .val (.int p2), .val (.int p3), .val (.int p4), .val (.int p5), .val (.int x6_5), .val (.ref b2), .val (.ref b223), .unset, .unset, .unset, .unset]) rfl ?_
        refine XS.iload X226.here hx rfl (hb hby at_70) rfl ?_
        refine XS.sipush X226.here hx rfl (hb hby at_72) ?_
        refine XS.iand X226.here hx rfl (hb hby at_75) rfl ?_
        exact k)
    by_cases hc76 : (p5 &&& (256 : Int32)) = (0 : Int32)
    · have f233 := (own_Sta_keep f228 K226 (own_alS (Jvm.RoadKit.Exa.nostat A223) own_al0))
      have z234 : n0 ≤ (T226.heap).size := (Nat.le_trans z229 K226.1)
      have f235 := (f227.keep K226 (ninS ne_b2_b223 nin0))
      obtain ⟨_, _, ⟨T232, L232, k232, n232⟩, -, X232, ⟨Lc232, hQ232, l232, y232, z232⟩, st232⟩ := Jvm.LawKit.callS X226 hx (y := (⟨"java/lang/String", "valueOf", "(C)Ljava/lang/String;"⟩ : MethodName)) hown (mvT hZ (hw _ (List.mem_of_getElem? (i := 30) rfl))) (mvT hZ (hw _ (List.mem_of_getElem? (i := 31) rfl))) (mvT hZ (hw _ (List.mem_of_getElem? (i := 3) rfl))) (mvT hZ (hw _ (List.mem_of_getElem? (i := 32) rfl))) (by decide) (backOf (W := 0) (rm7 l Z aw hw [] (((p5 &&& (255 : Int32))).toUInt32.toUInt16.toUInt32.toInt32) (cv) (T226.heap) n0 z234 f233 hcv (own_c2 _)) hZ (hw _ (List.mem_of_getElem? (i := 32) rfl)) (hw _ (List.mem_of_getElem? (i := 3) rfl)) (by decide) (by decide)) (g := (mkF m 93 #[.val (.int p0), .val (.int p1), .val (.int p2), .val (.int p3), .val (.int p4), .val (.int p5), .val (.int x6_5), .val (.ref b2), .val (.ref b223), .unset, .unset, .unset, .unset] [(.int ((p5 &&& (255 : Int32))).toUInt32.toUInt16.toUInt32.toInt32)])) rfl (by rw [hml]; rfl) (argsL := [(.int ((p5 &&& (255 : Int32))).toUInt32.toUInt16.toUInt32.toInt32)]) (rest := []) (lenOf pd_11 rfl) rfl (by show 2 * 0 + _ ≤ _; exact Nat.le_of_eq rfl) (hb hby at_93) (fun _ _ => ⟨rfl, rfl, (by decide : 6 + 2 ≤ _), (by decide : 15 + 5 ≤ _)⟩)
      dsimp only [Pt.U, Pt.locs, Pt.cells, Pt.slots] at X232 l232 y232 z232 st232 hQ232
      subst l232 y232 z232
      obtain ⟨rs232, rfl, Nq232, K232, po232_0⟩ := hQ232
      have N232 := Fr.app N226 Nq232
      have cs236 := Jvm.RoadKit.CHr.keep K232 own_al0 cr226.1
      have cr236 := cr226.trans cs236
      have sf236_b223 := cs236.safe po226_0.lt sf226_b223
      have ne_b2_rs232 : b2 ≠ rs232 := Nat.ne_of_lt (Nat.lt_of_lt_of_le f235.lt po232_0)
      have ne_b223_rs232 : b223 ≠ rs232 := Nat.ne_of_lt (Nat.lt_of_lt_of_le po226_0.lt po232_0)
      have ne_bv226_rs232 : bv226 ≠ rs232 := Nat.ne_of_lt (Nat.lt_of_lt_of_le po226_2.lt po232_0)
      have g_rs232 : n0 ≤ rs232 := Nat.le_trans z234 po232_0
      have z238 : n0 ≤ (T232.heap).size := (Nat.le_trans z234 K232.1)
      obtain ⟨T237, h237, X237, e237, E237, A237, D237, -, st237⟩ := newO X232 hx hZ hown (hw _ (List.mem_of_getElem? (i := 44) rfl)) (hw _ (List.mem_of_getElem? (i := 45) rfl)) (hw _ (List.mem_of_getElem? (i := 46) rfl)) rfl (g := (mkF m 98 #[.val (.int p0), .val (.int p1), .val (.int p2), .val (.int p3), .val (.int p4), .val (.int p5), .val (.int x6_5), .val (.ref b2), .val (.ref b223), .val (.ref rs232), .unset, .unset, .unset] [])) rfl (hb hby at_98) (by decide) (by decide)
      obtain ⟨b237, gq237⟩ : ∃ z, z = (T232.heap).size := ⟨_, rfl⟩
      rw [← gq237] at A237 D237 st237
      have f239 := (f235.keep K232 nin0)
      have ne_b2_b237 : b2 ≠ b237 := Nat.ne_of_lt (Nat.lt_of_lt_of_le f239.lt (Nat.le_of_eq gq237.symm))
      have f240 := (po226_0.keep K232)
      have ne_b223_b237 : b223 ≠ b237 := Nat.ne_of_lt (Nat.lt_of_lt_of_le f240.lt (Nat.le_of_eq gq237.symm))
      have f241 := (po226_2.keep K232 nin0)
      have ne_bv226_b237 : bv226 ≠ b237 := Nat.ne_of_lt (Nat.lt_of_lt_of_le f241.lt (Nat.le_of_eq gq237.symm))
      have g_b237 : n0 ≤ b237 := Nat.le_trans z238 (Nat.le_of_eq gq237.symm)
      have cs242 := Jvm.RoadKit.CHr.ext E237 cr236.1
      have cr242 := cr236.trans cs242
      have sf242_b223 := cs242.safe f240.lt sf236_b223
      have F_b237_change : Fld Z h237 b237 "com/example/unicopy/unicopy/UniqueValue" "change" "I" (.int (0 : Int32)) := D237 (Or.inr (hw _ (List.mem_of_getElem? (i := 57) rfl))) (ty := .int) (by decide)
      have F_b237_index : Fld Z h237 b237 "com/example/unicopy/unicopy/UniqueValue" "index" "Ljava/lang/String;" .null := D237 (Or.inr (hw _ (List.mem_of_getElem? (i := 59) rfl))) (ty := (.object "java/lang/String")) (by decide)
      have F_b237_value : Fld Z h237 b237 "com/example/unicopy/unicopy/UniqueValue" "value" "Ljava/lang/String;" .null := D237 (Or.inr (hw _ (List.mem_of_getElem? (i := 61) rfl))) (ty := (.object "java/lang/String")) (by decide)
      have z244 : n0 ≤ (h237).size := (Nat.le_trans z238 E237.1)
      obtain ⟨_, _, ⟨T243, L243, k243, n243⟩, -, X243, ⟨Lc243, hQ243, l243, y243, z243⟩, st243⟩ := X237.specialBack hx (y := (⟨"com/example/unicopy/unicopy/UniqueValue", "<init>", "(ILjava/lang/String;Ljava/lang/String;)V"⟩ : MethodName)) rfl hown (mvT hZ (hw _ (List.mem_of_getElem? (i := 47) rfl))) (mvT hZ (hw _ (List.mem_of_getElem? (i := 48) rfl))) (mvT hZ (hw _ (List.mem_of_getElem? (i := 49) rfl))) (by decide) (backOf (W := 1) (rm11 l Z aw hw [] (b237) (p0) (rs232) (b223) (h237) n0 z244 A237 F_b237_change F_b237_index F_b237_value g_b237) hZ (hw _ (List.mem_of_getElem? (i := 49) rfl)) (hw _ (List.mem_of_getElem? (i := 46) rfl)) (by decide) (by decide)) (g := (mkF m 107 #[.val (.int p0), .val (.int p1), .val (.int p2), .val (.int p3), .val (.int p4), .val (.int p5), .val (.int x6_5), .val (.ref b2), .val (.ref b223), .val (.ref rs232), .unset, .unset, .unset] [(.ref b223), (.ref rs232), (.int p0), (.ref b237), (.ref b237)])) rfl (by rw [hml]; rfl) (Steps.refl _) (a := b237) (argsL := [(.int p0), (.ref rs232), (.ref b223)]) (rest := [(.ref b237)]) (lenOf pd_9 rfl) rfl (by show 2 * 0 + _ ≤ _; exact Nat.le_of_eq rfl) (hb hby at_107) (fun _ _ => ⟨rfl, e237, (by decide : 9 + 0 ≤ _), (by decide : 23 + 0 ≤ _)⟩)
      dsimp only [Pt.U, Pt.locs, Pt.cells, Pt.slots] at X243 l243 y243 z243 st243 hQ243
      subst l243 y243 z243
      obtain ⟨rfl, Nq243, K243, po243_0, po243_1⟩ := hQ243
      have N243 := Fr.app N232 Nq243
      have f245 := (f240.ext E237)
      have cs246 := Jvm.RoadKit.CHr.keep K243 (own_alS (Jvm.RoadKit.Safe.exa hZ.alike A237 (by decide) (by decide)) own_al0) cr242.1
      have cr246 := cr242.trans cs246
      have sf246_b223 := cs246.safe f245.lt sf242_b223
      have pre249 : own_Pre p e below (s₁.setTop (entryFrame m #[(.int p0), (.int p1), (.int p2), (.int p3), (.int p4), (.int p5)] maxLocals)) (T243.setTop (mkF m 114 #[.val (.int p0), .val (.int p1), .val (.int p2), .val (.int p3), .val (.int p4), .val (.int p5), .val (.int x6_5), .val (.ref b2), .val (.ref b223), .val (.ref rs232), .val (.ref b237), .unset, .unset] [(.int x6_5)])) := fun t k => pre231 t (by
          show Steps p.tables e below (T226.setTop (mkF m 76 #[.val (.int p0), .val (.int p1), .val (.int p2), .val (.int p3), .val (.int p4), .val (.int p5), .val (.int x6_5), .val (.ref b2), .val (.ref b223), .unset, .unset, .unset, .unset] [(.int (p5 &&& (256 : Int32)))])) _
          refine XS.ifYes X226.here hx rfl (pc0 := 76) (pc' := 86) rfl (hb hby at_76) rfl ((if0 _ _).trans (teq hc76).1) (by decide) (by decide) ?_
          refine XS.iload X226.here hx rfl (hb hby at_86) rfl ?_
          refine XS.sipush X226.here hx rfl (hb hby at_88) ?_
          refine XS.iand X226.here hx rfl (hb hby at_91) rfl ?_
          refine XS.i2c X226.here hx rfl (hb hby at_92) rfl ?_
          show Steps p.tables e below (T226.setTop (mkF m 93 #[.val (.int p0), .val (.int p1), .val (.int p2), .val (.int p3), .val (.int p4), .val (.int p5), .val (.int x6_5), .val (.ref b2), .val (.ref b223), .unset, .unset, .unset, .unset] [(.int ((p5 &&& (255 : Int32))).toUInt32.toUInt16.toUInt32.toInt32)])) _
          refine st232 _ ?_
          refine XS.astore X232.here hx rfl (hb hby at_96) rfl rfl (l' := #[.val (.int p0), .val (.int p1), .val (.int p2), .val (.int p3), .val (.int p4), .val (.int p5), .val (.int x6_5), .val (.ref b2), .val (.ref b223), .val (.ref rs232), .unset, .unset, .unset]) rfl ?_
          refine st237 _ ?_
          refine XS.dup X237.here hx rfl (hb hby at_101) rfl rfl ?_
          refine XS.iloadN X237.here hx rfl (hb hby at_102) rfl ?_
          show Steps p.tables e below (T237.setTop (mkF m 103 #[.val (.int p0), .val (.int p1), .val (.int p2), .val (.int p3), .val (.int p4), .val (.int p5), .val (.int x6_5), .val (.ref b2), .val (.ref b223), .val (.ref rs232), .unset, .unset, .unset] [(.int p0), (.ref b237), (.ref b237)])) _
          refine XS.aload X237.here hx rfl (hb hby at_103) rfl rfl ?_
          refine XS.aload X237.here hx rfl (hb hby at_105) rfl rfl ?_
          refine st243.trans ?_
          refine XS.astore X243.here hx rfl (hb hby at_110) rfl rfl (l' := #[.val (.int p0), .val (.int p1), .val (.int p2), .val (.int p3), .val (.int p4), .val (.int p5), .val (.int x6_5), .val (.ref b2), .val (.ref b223), .val (.ref rs232), .val (.ref b237), .unset, .unset]) rfl ?_
          refine XS.iload X243.here hx rfl (hb hby at_112) rfl ?_
          exact k)
      obtain ⟨m122_s0, hm122_s0, pre248⟩ : ∃ (m122_s0 : Int32), m122_s0 = (own_m0_122_s0 x6_5) ∧ own_Pre p e below (s₁.setTop (entryFrame m #[(.int p0), (.int p1), (.int p2), (.int p3), (.int p4), (.int p5)] maxLocals)) (T243.setTop (mkF m 122 #[.val (.int p0), .val (.int p1), .val (.int p2), .val (.int p3), .val (.int p4), .val (.int p5), .val (.int x6_5), .val (.ref b2), .val (.ref b223), .val (.ref rs232), .val (.ref b237), .unset, .unset] [(.int m122_s0)])) := by
        by_cases hc114 : x6_5 = (0 : Int32)
        · have pre250 : own_Pre p e below (s₁.setTop (entryFrame m #[(.int p0), (.int p1), (.int p2), (.int p3), (.int p4), (.int p5)] maxLocals)) (T243.setTop (mkF m 122 #[.val (.int p0), .val (.int p1), .val (.int p2), .val (.int p3), .val (.int p4), .val (.int p5), .val (.int x6_5), .val (.ref b2), .val (.ref b223), .val (.ref rs232), .val (.ref b237), .unset, .unset] [(.int (0 : Int32))])) := fun t k => pre249 t (by
              show Steps p.tables e below (T243.setTop (mkF m 114 #[.val (.int p0), .val (.int p1), .val (.int p2), .val (.int p3), .val (.int p4), .val (.int p5), .val (.int x6_5), .val (.ref b2), .val (.ref b223), .val (.ref rs232), .val (.ref b237), .unset, .unset] [(.int x6_5)])) _
              refine XS.ifYes X243.here hx rfl (pc0 := 114) (pc' := 121) rfl (hb hby at_114) rfl ((if0 _ _).trans (teq hc114).1) (by decide) (by decide) ?_
              refine XS.iconst X243.here hx rfl (hb hby at_121) ?_
              exact k)
          refine ⟨_, ?_, pre250⟩
          all_goals (first | (simp only [own_m0_122_s0, if_pos hc114]; done) | (simp [own_m0_122_s0, if_pos hc114]; done))
        · have pre251 : own_Pre p e below (s₁.setTop (entryFrame m #[(.int p0), (.int p1), (.int p2), (.int p3), (.int p4), (.int p5)] maxLocals)) (T243.setTop (mkF m 122 #[.val (.int p0), .val (.int p1), .val (.int p2), .val (.int p3), .val (.int p4), .val (.int p5), .val (.int x6_5), .val (.ref b2), .val (.ref b223), .val (.ref rs232), .val (.ref b237), .unset, .unset] [(.int (1 : Int32))])) := fun t k => pre249 t (by
              show Steps p.tables e below (T243.setTop (mkF m 114 #[.val (.int p0), .val (.int p1), .val (.int p2), .val (.int p3), .val (.int p4), .val (.int p5), .val (.int x6_5), .val (.ref b2), .val (.ref b223), .val (.ref rs232), .val (.ref b237), .unset, .unset] [(.int x6_5)])) _
              refine XS.ifNo X243.here hx rfl (hb hby at_114) rfl ((if0 _ _).trans (feq hc114).1) ?_
              refine XS.iconst X243.here hx rfl (hb hby at_117) ?_
              refine XS.goto X243.here hx rfl (pc0 := 118) (pc' := 122) rfl (hb hby at_118) (by decide) (by decide) ?_
              exact k)
          refine ⟨_, ?_, pre251⟩
          all_goals (first | (simp only [own_m0_122_s0, if_neg hc114]; done) | (simp [own_m0_122_s0, if_neg hc114]; done))
      have f253 := (f245.keep K243)
      have f254 := (((po226_1.keep K232 nin0).ext E237).keep K243 (ninS ne_b223_b237 nin0))
      have f255 := ((f241.ext E237).keep K243 (ninS ne_bv226_b237 nin0))
      have z256 : n0 ≤ (T243.heap).size := (Nat.le_trans z244 K243.1)
      obtain ⟨cq252, kq252, q252a, q252b, q252c⟩ := isOf hZ rfl po243_0
      obtain ⟨_, _, ⟨T252, L252, k252, n252⟩, -, X252, ⟨Lc252, hQ252, l252, y252, z252⟩, st252⟩ := X243.virtualBack hx (y := (⟨"com/example/unicopy/unicopy/UniqueValue", "named", "()Z"⟩ : MethodName)) (z := (⟨"com/example/unicopy/unicopy/UniqueValue", "named", "()Z"⟩ : MethodName)) hown (mvT hZ (hw _ (List.mem_of_getElem? (i := 62) rfl))) (mvT hZ (hw _ (List.mem_of_getElem? (i := 63) rfl))) (notFace_of_selects (args := #[]) (mvT hZ (hw _ (List.mem_of_getElem? (i := 65) rfl)))) (mvT hZ (hw _ (List.mem_of_getElem? (i := 65) rfl))) (mvT hZ (hw _ (List.mem_of_getElem? (i := 64) rfl))) (by decide) (backOf (W := 0) (rm13 l Z aw hw [] (b237) (b223) (bv226) (kb226) (x6_5) (wb226) (T243.heap) n0 z256 po243_0 po243_1 f253 f254 f255) hZ (hw _ (List.mem_of_getElem? (i := 66) rfl)) (hw _ (List.mem_of_getElem? (i := 46) rfl)) (by decide) (by decide)) q252a q252c (g := (mkF m 126 #[.val (.int p0), .val (.int p1), .val (.int p2), .val (.int p3), .val (.int p4), .val (.int p5), .val (.int x6_5), .val (.ref b2), .val (.ref b223), .val (.ref rs232), .val (.ref b237), .val (.int m122_s0), .unset] [(.ref b237)])) rfl (by rw [hml]; rfl) (Steps.refl _) (argsL := []) (rest := []) (lenOf pd_8 rfl) rfl (by show 2 * 0 + _ ≤ _; exact Nat.le_of_eq rfl) (hb hby at_126) (fun _ _ => ⟨rfl, rfl, (by decide : 9 + 0 ≤ _), (by decide : 23 + 0 ≤ _)⟩)
      dsimp only [Pt.U, Pt.locs, Pt.cells, Pt.slots] at X252 l252 y252 z252 st252 hQ252
      subst l252 y252 z252
      obtain ⟨rfl, Nq252, eq252⟩ := hQ252
      have N252 := Fr.app N243 Nq252
      have hc131 : ((own_f13 x6_5) = m122_s0) := own_named hm122_s0
      have f258 := ((f239.ext E237).keep K243 (ninS ne_b2_b237 nin0))
      have hk259 : _ ≤ (T243.heap).size := (Nat.le_trans (Nat.le_trans (Nat.le_trans hk226 K232.1) E237.1) K243.1)
      obtain ⟨_, _, ⟨T257, L257, k257, n257⟩, -, X257, hs257, gr257, ⟨Lc257, hQ257, l257, y257, z257, cs257⟩, st257⟩ := Jvm.RoadKit.callSS X252 hx (y := (⟨"com/example/unicopy/unicopy/UniqueValue", "unnamed", "(ILjava/lang/String;)Lcom/example/unicopy/unicopy/UniqueValue;"⟩ : MethodName)) hown (mvT hZ (hw _ (List.mem_of_getElem? (i := 72) rfl))) (mvT hZ (hw _ (List.mem_of_getElem? (i := 73) rfl))) (mvT hZ (hw _ (List.mem_of_getElem? (i := 46) rfl))) (mvT hZ (hw _ (List.mem_of_getElem? (i := 74) rfl))) (by decide) (Jvm.RoadKit.backOfSH (W := 0) (rm15 l Z aw hw [] (p0) (rs232) (T243.heap) n0 z256) hZ (hw _ (List.mem_of_getElem? (i := 74) rfl)) (hw _ (List.mem_of_getElem? (i := 46) rfl)) (by decide) (by decide) (own_EW hw) cr246.1) (g := (mkF m 139 #[.val (.int p0), .val (.int p1), .val (.int p2), .val (.int p3), .val (.int p4), .val (.int p5), .val (.int x6_5), .val (.ref b2), .val (.ref b223), .val (.ref rs232), .val (.ref b237), .val (.int m122_s0), .unset] [(.ref rs232), (.int p0)])) rfl (by rw [hml]; rfl) (argsL := [(.int p0), (.ref rs232)]) (rest := []) (lenOf pd_12 rfl) rfl (by show 2 * 0 + _ ≤ _; exact Nat.le_of_eq rfl) (hb hby at_139) (fun _ _ => ⟨rfl, eq252, (by decide : 9 + 3 ≤ _), (by decide : 23 + 7 ≤ _)⟩)
      dsimp only [Pt.U, Pt.locs, Pt.cells, Pt.slots] at X257 l257 y257 z257 st257 hQ257 hs257 gr257 cs257
      subst l257 y257 z257
      obtain ⟨X257, hS257⟩ := X257.againW hS226 hs257 (Nat.le_trans hk259 (by rw [← eq252]; exact gr257))
      have hZ : Z.Warmed39 (s.setVm T257.vm).vm := State.Warmed39.trans (t := (s.setVm T226.vm)) hZ hs257.1
      have hown : (s.setVm T257.vm).vm.findClass "com/example/unicopy/unicopy/UniqueValueNamedPinLaw" = some m.cls := by rw [show (s.setVm T257.vm).vm = T257.vm from rfl, hs257.1.alike.findClass]; exact hown
      have hk257 : T257.heap.size ≤ T257.heap.size := Nat.le_refl _
      have cr257 := cr246.trans cs257
      have sf257_b223 := cs257.safe f253.lt sf246_b223
      obtain ⟨rv257, sv257, bv257, kb257, rfl, Nq257, K257, po257_0, po257_1, po257_2, po257_3, po257_4, po257_5⟩ := hQ257
      have N257 := Fr.app N252 Nq257
      have ne_b2_rv257 : b2 ≠ rv257 := Nat.ne_of_lt (Nat.lt_of_lt_of_le f258.lt po257_0)
      have ne_b223_rv257 : b223 ≠ rv257 := Nat.ne_of_lt (Nat.lt_of_lt_of_le f253.lt po257_0)
      have ne_b237_rv257 : b237 ≠ rv257 := Nat.ne_of_lt (Nat.lt_of_lt_of_le po243_0.lt po257_0)
      have ne_bv226_rv257 : bv226 ≠ rv257 := Nat.ne_of_lt (Nat.lt_of_lt_of_le f255.lt po257_0)
      have g_rv257 : n0 ≤ rv257 := Nat.le_trans z256 po257_0
      have z261 : n0 ≤ (T257.heap).size := (Nat.le_trans z256 K257.1)
      obtain ⟨cq260, kq260, q260a, q260b, q260c⟩ := isOf hZ rfl po257_1
      obtain ⟨_, _, ⟨T260, L260, k260, n260⟩, -, X260, ⟨Lc260, hQ260, l260, y260, z260⟩, st260⟩ := X257.virtualBack hx (y := (⟨"com/example/unicopy/unicopy/UniqueValue", "named", "()Z"⟩ : MethodName)) (z := (⟨"com/example/unicopy/unicopy/UniqueValue", "named", "()Z"⟩ : MethodName)) hown (mvT hZ (hw _ (List.mem_of_getElem? (i := 62) rfl))) (mvT hZ (hw _ (List.mem_of_getElem? (i := 63) rfl))) (notFace_of_selects (args := #[]) (mvT hZ (hw _ (List.mem_of_getElem? (i := 65) rfl)))) (mvT hZ (hw _ (List.mem_of_getElem? (i := 65) rfl))) (mvT hZ (hw _ (List.mem_of_getElem? (i := 64) rfl))) (by decide) (backOf (W := 0) (rm13 l Z aw hw [] (rv257) (sv257) (bv257) (kb257) ((0 : Int32)) ([]) (T257.heap) n0 z261 po257_1 po257_2 po257_3 po257_4 po257_5) hZ (hw _ (List.mem_of_getElem? (i := 66) rfl)) (hw _ (List.mem_of_getElem? (i := 46) rfl)) (by decide) (by decide)) q260a q260c (g := (mkF m 146 #[.val (.int p0), .val (.int p1), .val (.int p2), .val (.int p3), .val (.int p4), .val (.int p5), .val (.int x6_5), .val (.ref b2), .val (.ref b223), .val (.ref rs232), .val (.ref b237), .val (.int m122_s0), .val (.ref rv257)] [(.ref rv257)])) rfl (by rw [hml]; rfl) (Steps.refl _) (argsL := []) (rest := []) (lenOf pd_8 rfl) rfl (by show 2 * 0 + _ ≤ _; exact Nat.le_of_eq rfl) (hb hby at_146) (fun _ _ => ⟨rfl, rfl, (by decide : 12 + 0 ≤ _), (by decide : 30 + 0 ≤ _)⟩)
      dsimp only [Pt.U, Pt.locs, Pt.cells, Pt.slots] at X260 l260 y260 z260 st260 hQ260
      subst l260 y260 z260
      obtain ⟨rfl, Nq260, eq260⟩ := hQ260
      have N260 := Fr.app N257 Nq260
      have hc149 : ((own_f13 ((0 : Int32))) = (0 : Int32)) := by decide
      obtain ⟨fs, hr, hrun, hended, hREW⟩ := X260.leaveW hS257 (by rw [eq260]; exact hk257) (v := some (.int (1 : Int32))) (fun h => by rw [Bd.returns] at h; cases h)
      refine ⟨_, _, pre248 _ ?_, hrun, hended, _, _, rfl, ?_, by rw [hh, show (State.setFrames T260 fs).heap = T257.heap from eq260]; have hq := cr257.trans (Jvm.RoadKit.CHv.at X260 hZ (own_EW hw) cr257.1); exact hq, hREW.1, hREW.2.1, hREW.2.2.1, hREW.2.2.2.mono (by decide) (by decide)⟩
      · show Steps p.tables e below (T243.setTop (mkF m 122 #[.val (.int p0), .val (.int p1), .val (.int p2), .val (.int p3), .val (.int p4), .val (.int p5), .val (.int x6_5), .val (.ref b2), .val (.ref b223), .val (.ref rs232), .val (.ref b237), .unset, .unset] [(.int m122_s0)])) _
        refine XS.istore X243.here hx rfl (hb hby at_122) rfl (l' := #[.val (.int p0), .val (.int p1), .val (.int p2), .val (.int p3), .val (.int p4), .val (.int p5), .val (.int x6_5), .val (.ref b2), .val (.ref b223), .val (.ref rs232), .val (.ref b237), .val (.int m122_s0), .unset]) rfl ?_
        refine XS.aload X243.here hx rfl (hb hby at_124) rfl rfl ?_
        refine st252.trans ?_
        refine XS.iload X252.here hx rfl (hb hby at_129) rfl ?_
        refine XS.icmpYes X252.here hx rfl (pc0 := 131) (pc' := 136) rfl (hb hby at_131) rfl (teq hc131).1 (by decide) (by decide) ?_
        show Steps p.tables e below (T252.setTop (mkF m 136 #[.val (.int p0), .val (.int p1), .val (.int p2), .val (.int p3), .val (.int p4), .val (.int p5), .val (.int x6_5), .val (.ref b2), .val (.ref b223), .val (.ref rs232), .val (.ref b237), .val (.int m122_s0), .unset] [])) _
        refine XS.iloadN X252.here hx rfl (hb hby at_136) rfl ?_
        refine XS.aload X252.here hx rfl (hb hby at_137) rfl rfl ?_
        refine st257.trans ?_
        refine XS.astore X257.here hx rfl (hb hby at_142) rfl rfl (l' := #[.val (.int p0), .val (.int p1), .val (.int p2), .val (.int p3), .val (.int p4), .val (.int p5), .val (.int x6_5), .val (.ref b2), .val (.ref b223), .val (.ref rs232), .val (.ref b237), .val (.int m122_s0), .val (.ref rv257)]) rfl ?_
        refine XS.aload X257.here hx rfl (hb hby at_144) rfl rfl ?_
        show Steps p.tables e below (T257.setTop (mkF m 146 #[.val (.int p0), .val (.int p1), .val (.int p2), .val (.int p3), .val (.int p4), .val (.int p5), .val (.int x6_5), .val (.ref b2), .val (.ref b223), .val (.ref rs232), .val (.ref b237), .val (.int m122_s0), .val (.ref rv257)] [(.ref rv257)])) _
        refine st260.trans ?_
        refine XS.ifNo X260.here hx rfl (hb hby at_149) rfl ((if0 _ _).trans (teq hc149).2) ?_
        refine XS.iconst X260.here hx rfl (hb hby at_152) ?_
        refine XS.goto X260.here hx rfl (pc0 := 153) (pc' := 157) rfl (hb hby at_153) (by decide) (by decide) ?_
        show Steps p.tables e below (T260.setTop (mkF m 157 #[.val (.int p0), .val (.int p1), .val (.int p2), .val (.int p3), .val (.int p4), .val (.int p5), .val (.int x6_5), .val (.ref b2), .val (.ref b223), .val (.ref rs232), .val (.ref b237), .val (.int m122_s0), .val (.ref rv257)] [(.int (1 : Int32))])) _
        exact retN X260 hx (t := .boolean) Bd.returns (by simp) (hb hby at_157) hr
      · show Q0 Z p0 p1 p2 p3 p4 p5 cv h0 n0 _ T260.heap _
        rw [eq260]
        unfold Q0
        refine ⟨rfl, N260⟩
    · have z263 : n0 ≤ (T226.heap).size := (Nat.le_trans z229 K226.1)
      obtain ⟨a262, T262, h262, k262, b262, c262, X262, e262, E262, hS262, hk262, hZ, hown, Ea262, Fc262, Fv262, Ab262, -, -, cs262, -, sn262, st262⟩ := Jvm.RoadKit.ldcCH X226 hx hZ hown (hw _ (List.mem_of_getElem? (i := 80) rfl)) (own_atoms hw) rfl hS226 hk226 (own_EW hw) (List.mem_of_getElem? (i := 1) rfl) cr226.1 (vs := []) (z := 0) own_nil (by decide) (by decide) (g := (mkF m 79 #[.val (.int p0), .val (.int p1), .val (.int p2), .val (.int p3), .val (.int p4), .val (.int p5), .val (.int x6_5), .val (.ref b2), .val (.ref b223), .unset, .unset, .unset, .unset] [])) rfl (hb hby at_79) (n := 0) (by decide) (by decide) (by decide) (by decide)
      have V262 : own_AI Z h262 b262 c262 .byte (0 : Int32) [] := ⟨Ab262, by decide⟩
      have cr262 := cr226.trans cs262
      have sf262_b223 := cs262.safe po226_0.lt sf226_b223
      have f264 := ((f227.keep K226 (ninS ne_b2_b223 nin0)).ext E262)
      obtain ⟨cl265, Ar265, -, -⟩ := f264.len
      have nn262_b2 := sn262 b2 (Jvm.RoadKit.Safe.arr hZ.alike Ar265 (by decide))
      have nn262_b223 := sn262 b223 sf262_b223
      have z267 : n0 ≤ (h262).size := (Nat.le_trans z263 E262.1)
      obtain ⟨T266, h266, X266, e266, E266, A266, D266, -, st266⟩ := newO X262 hx hZ hown (hw _ (List.mem_of_getElem? (i := 44) rfl)) (hw _ (List.mem_of_getElem? (i := 45) rfl)) (hw _ (List.mem_of_getElem? (i := 46) rfl)) e262 (g := (mkF m 98 #[.val (.int p0), .val (.int p1), .val (.int p2), .val (.int p3), .val (.int p4), .val (.int p5), .val (.int x6_5), .val (.ref b2), .val (.ref b223), .val (.ref a262), .unset, .unset, .unset] [])) rfl (hb hby at_98) (by decide) (by decide)
      obtain ⟨b266, gq266⟩ : ∃ z, z = (h262).size := ⟨_, rfl⟩
      rw [← gq266] at A266 D266 st266
      have ne_a262_b266 : a262 ≠ b266 := Nat.ne_of_lt (Nat.lt_of_lt_of_le Ea262.lt (Nat.le_of_eq gq266.symm))
      have ne_b2_b266 : b2 ≠ b266 := Nat.ne_of_lt (Nat.lt_of_lt_of_le f264.lt (Nat.le_of_eq gq266.symm))
      have f268 := (po226_0.ext E262)
      have ne_b223_b266 : b223 ≠ b266 := Nat.ne_of_lt (Nat.lt_of_lt_of_le f268.lt (Nat.le_of_eq gq266.symm))
      have ne_b262_b266 : b262 ≠ b266 := Nat.ne_of_lt (Nat.lt_of_lt_of_le V262.lt (Nat.le_of_eq gq266.symm))
      have f269 := (po226_2.ext E262)
      have ne_bv226_b266 : bv226 ≠ b266 := Nat.ne_of_lt (Nat.lt_of_lt_of_le f269.lt (Nat.le_of_eq gq266.symm))
      have g_b266 : n0 ≤ b266 := Nat.le_trans z267 (Nat.le_of_eq gq266.symm)
      have cs270 := Jvm.RoadKit.CHr.ext E266 cr262.1
      have cr270 := cr262.trans cs270
      have sf270_b223 := cs270.safe f268.lt sf262_b223
      have F_b266_change : Fld Z h266 b266 "com/example/unicopy/unicopy/UniqueValue" "change" "I" (.int (0 : Int32)) := D266 (Or.inr (hw _ (List.mem_of_getElem? (i := 57) rfl))) (ty := .int) (by decide)
      have F_b266_index : Fld Z h266 b266 "com/example/unicopy/unicopy/UniqueValue" "index" "Ljava/lang/String;" .null := D266 (Or.inr (hw _ (List.mem_of_getElem? (i := 59) rfl))) (ty := (.object "java/lang/String")) (by decide)
      have F_b266_value : Fld Z h266 b266 "com/example/unicopy/unicopy/UniqueValue" "value" "Ljava/lang/String;" .null := D266 (Or.inr (hw _ (List.mem_of_getElem? (i := 61) rfl))) (ty := (.object "java/lang/String")) (by decide)
      have z272 : n0 ≤ (h266).size := (Nat.le_trans z267 E266.1)
      obtain ⟨_, _, ⟨T271, L271, k271, n271⟩, -, X271, ⟨Lc271, hQ271, l271, y271, z271⟩, st271⟩ := X266.specialBack hx (y := (⟨"com/example/unicopy/unicopy/UniqueValue", "<init>", "(ILjava/lang/String;Ljava/lang/String;)V"⟩ : MethodName)) rfl hown (mvT hZ (hw _ (List.mem_of_getElem? (i := 47) rfl))) (mvT hZ (hw _ (List.mem_of_getElem? (i := 48) rfl))) (mvT hZ (hw _ (List.mem_of_getElem? (i := 49) rfl))) (by decide) (backOf (W := 1) (rm11 l Z aw hw [] (b266) (p0) (a262) (b223) (h266) n0 z272 A266 F_b266_change F_b266_index F_b266_value g_b266) hZ (hw _ (List.mem_of_getElem? (i := 49) rfl)) (hw _ (List.mem_of_getElem? (i := 46) rfl)) (by decide) (by decide)) (g := (mkF m 107 #[.val (.int p0), .val (.int p1), .val (.int p2), .val (.int p3), .val (.int p4), .val (.int p5), .val (.int x6_5), .val (.ref b2), .val (.ref b223), .val (.ref a262), .unset, .unset, .unset] [(.ref b223), (.ref a262), (.int p0), (.ref b266), (.ref b266)])) rfl (by rw [hml]; rfl) (Steps.refl _) (a := b266) (argsL := [(.int p0), (.ref a262), (.ref b223)]) (rest := [(.ref b266)]) (lenOf pd_9 rfl) rfl (by show 2 * 0 + _ ≤ _; exact Nat.le_of_eq rfl) (hb hby at_107) (fun _ _ => ⟨rfl, e266, (by decide : 9 + 0 ≤ _), (by decide : 22 + 0 ≤ _)⟩)
      dsimp only [Pt.U, Pt.locs, Pt.cells, Pt.slots] at X271 l271 y271 z271 st271 hQ271
      subst l271 y271 z271
      obtain ⟨rfl, Nq271, K271, po271_0, po271_1⟩ := hQ271
      have N271 := Fr.app N226 Nq271
      have f273 := (f268.ext E266)
      have cs274 := Jvm.RoadKit.CHr.keep K271 (own_alS (Jvm.RoadKit.Safe.exa hZ.alike A266 (by decide) (by decide)) own_al0) cr270.1
      have cr274 := cr270.trans cs274
      have sf274_b223 := cs274.safe f273.lt sf270_b223
      have pre277 : own_Pre p e below (s₁.setTop (entryFrame m #[(.int p0), (.int p1), (.int p2), (.int p3), (.int p4), (.int p5)] maxLocals)) (T271.setTop (mkF m 114 #[.val (.int p0), .val (.int p1), .val (.int p2), .val (.int p3), .val (.int p4), .val (.int p5), .val (.int x6_5), .val (.ref b2), .val (.ref b223), .val (.ref a262), .val (.ref b266), .unset, .unset] [(.int x6_5)])) := fun t k => pre231 t (by
          show Steps p.tables e below (T226.setTop (mkF m 76 #[.val (.int p0), .val (.int p1), .val (.int p2), .val (.int p3), .val (.int p4), .val (.int p5), .val (.int x6_5), .val (.ref b2), .val (.ref b223), .unset, .unset, .unset, .unset] [(.int (p5 &&& (256 : Int32)))])) _
          refine XS.ifNo X226.here hx rfl (hb hby at_76) rfl ((if0 _ _).trans (feq hc76).1) ?_
          refine st262 _ ?_
          refine XS.astore X262.here hx rfl (hb hby at_81) rfl rfl (l' := #[.val (.int p0), .val (.int p1), .val (.int p2), .val (.int p3), .val (.int p4), .val (.int p5), .val (.int x6_5), .val (.ref b2), .val (.ref b223), .val (.ref a262), .unset, .unset, .unset]) rfl ?_
          refine XS.goto X262.here hx rfl (pc0 := 83) (pc' := 98) rfl (hb hby at_83) (by decide) (by decide) ?_
          refine st266 _ ?_
          show Steps p.tables e below (T266.setTop (mkF m 101 #[.val (.int p0), .val (.int p1), .val (.int p2), .val (.int p3), .val (.int p4), .val (.int p5), .val (.int x6_5), .val (.ref b2), .val (.ref b223), .val (.ref a262), .unset, .unset, .unset] [(.ref b266)])) _
          refine XS.dup X266.here hx rfl (hb hby at_101) rfl rfl ?_
          refine XS.iloadN X266.here hx rfl (hb hby at_102) rfl ?_
          refine XS.aload X266.here hx rfl (hb hby at_103) rfl rfl ?_
          refine XS.aload X266.here hx rfl (hb hby at_105) rfl rfl ?_
          refine st271.trans ?_
          show Steps p.tables e below (T271.setTop (mkF m 110 #[.val (.int p0), .val (.int p1), .val (.int p2), .val (.int p3), .val (.int p4), .val (.int p5), .val (.int x6_5), .val (.ref b2), .val (.ref b223), .val (.ref a262), .unset, .unset, .unset] [(.ref b266)])) _
          refine XS.astore X271.here hx rfl (hb hby at_110) rfl rfl (l' := #[.val (.int p0), .val (.int p1), .val (.int p2), .val (.int p3), .val (.int p4), .val (.int p5), .val (.int x6_5), .val (.ref b2), .val (.ref b223), .val (.ref a262), .val (.ref b266), .unset, .unset]) rfl ?_
          refine XS.iload X271.here hx rfl (hb hby at_112) rfl ?_
          exact k)
      obtain ⟨m122_s0, hm122_s0, pre276⟩ : ∃ (m122_s0 : Int32), m122_s0 = (own_m0_122_s0 x6_5) ∧ own_Pre p e below (s₁.setTop (entryFrame m #[(.int p0), (.int p1), (.int p2), (.int p3), (.int p4), (.int p5)] maxLocals)) (T271.setTop (mkF m 122 #[.val (.int p0), .val (.int p1), .val (.int p2), .val (.int p3), .val (.int p4), .val (.int p5), .val (.int x6_5), .val (.ref b2), .val (.ref b223), .val (.ref a262), .val (.ref b266), .unset, .unset] [(.int m122_s0)])) := by
        by_cases hc114 : x6_5 = (0 : Int32)
        · have pre278 : own_Pre p e below (s₁.setTop (entryFrame m #[(.int p0), (.int p1), (.int p2), (.int p3), (.int p4), (.int p5)] maxLocals)) (T271.setTop (mkF m 122 #[.val (.int p0), .val (.int p1), .val (.int p2), .val (.int p3), .val (.int p4), .val (.int p5), .val (.int x6_5), .val (.ref b2), .val (.ref b223), .val (.ref a262), .val (.ref b266), .unset, .unset] [(.int (0 : Int32))])) := fun t k => pre277 t (by
              show Steps p.tables e below (T271.setTop (mkF m 114 #[.val (.int p0), .val (.int p1), .val (.int p2), .val (.int p3), .val (.int p4), .val (.int p5), .val (.int x6_5), .val (.ref b2), .val (.ref b223), .val (.ref a262), .val (.ref b266), .unset, .unset] [(.int x6_5)])) _
              refine XS.ifYes X271.here hx rfl (pc0 := 114) (pc' := 121) rfl (hb hby at_114) rfl ((if0 _ _).trans (teq hc114).1) (by decide) (by decide) ?_
              refine XS.iconst X271.here hx rfl (hb hby at_121) ?_
              exact k)
          refine ⟨_, ?_, pre278⟩
          all_goals (first | (simp only [own_m0_122_s0, if_pos hc114]; done) | (simp [own_m0_122_s0, if_pos hc114]; done))
        · have pre279 : own_Pre p e below (s₁.setTop (entryFrame m #[(.int p0), (.int p1), (.int p2), (.int p3), (.int p4), (.int p5)] maxLocals)) (T271.setTop (mkF m 122 #[.val (.int p0), .val (.int p1), .val (.int p2), .val (.int p3), .val (.int p4), .val (.int p5), .val (.int x6_5), .val (.ref b2), .val (.ref b223), .val (.ref a262), .val (.ref b266), .unset, .unset] [(.int (1 : Int32))])) := fun t k => pre277 t (by
              show Steps p.tables e below (T271.setTop (mkF m 114 #[.val (.int p0), .val (.int p1), .val (.int p2), .val (.int p3), .val (.int p4), .val (.int p5), .val (.int x6_5), .val (.ref b2), .val (.ref b223), .val (.ref a262), .val (.ref b266), .unset, .unset] [(.int x6_5)])) _
              refine XS.ifNo X271.here hx rfl (hb hby at_114) rfl ((if0 _ _).trans (feq hc114).1) ?_
              refine XS.iconst X271.here hx rfl (hb hby at_117) ?_
              refine XS.goto X271.here hx rfl (pc0 := 118) (pc' := 122) rfl (hb hby at_118) (by decide) (by decide) ?_
              exact k)
          refine ⟨_, ?_, pre279⟩
          all_goals (first | (simp only [own_m0_122_s0, if_neg hc114]; done) | (simp [own_m0_122_s0, if_neg hc114]; done))
      have f281 := (f273.keep K271)
      have f282 := (((po226_1.ext E262).ext E266).keep K271 (ninS ne_b223_b266 nin0))
      have f283 := ((f269.ext E266).keep K271 (ninS ne_bv226_b266 nin0))
      have z284 : n0 ≤ (T271.heap).size := (Nat.le_trans z272 K271.1)
      obtain ⟨cq280, kq280, q280a, q280b, q280c⟩ := isOf hZ rfl po271_0
      obtain ⟨_, _, ⟨T280, L280, k280, n280⟩, -, X280, ⟨Lc280, hQ280, l280, y280, z280⟩, st280⟩ := X271.virtualBack hx (y := (⟨"com/example/unicopy/unicopy/UniqueValue", "named", "()Z"⟩ : MethodName)) (z := (⟨"com/example/unicopy/unicopy/UniqueValue", "named", "()Z"⟩ : MethodName)) hown (mvT hZ (hw _ (List.mem_of_getElem? (i := 62) rfl))) (mvT hZ (hw _ (List.mem_of_getElem? (i := 63) rfl))) (notFace_of_selects (args := #[]) (mvT hZ (hw _ (List.mem_of_getElem? (i := 65) rfl)))) (mvT hZ (hw _ (List.mem_of_getElem? (i := 65) rfl))) (mvT hZ (hw _ (List.mem_of_getElem? (i := 64) rfl))) (by decide) (backOf (W := 0) (rm13 l Z aw hw [] (b266) (b223) (bv226) (kb226) (x6_5) (wb226) (T271.heap) n0 z284 po271_0 po271_1 f281 f282 f283) hZ (hw _ (List.mem_of_getElem? (i := 66) rfl)) (hw _ (List.mem_of_getElem? (i := 46) rfl)) (by decide) (by decide)) q280a q280c (g := (mkF m 126 #[.val (.int p0), .val (.int p1), .val (.int p2), .val (.int p3), .val (.int p4), .val (.int p5), .val (.int x6_5), .val (.ref b2), .val (.ref b223), .val (.ref a262), .val (.ref b266), .val (.int m122_s0), .unset] [(.ref b266)])) rfl (by rw [hml]; rfl) (Steps.refl _) (argsL := []) (rest := []) (lenOf pd_8 rfl) rfl (by show 2 * 0 + _ ≤ _; exact Nat.le_of_eq rfl) (hb hby at_126) (fun _ _ => ⟨rfl, rfl, (by decide : 9 + 0 ≤ _), (by decide : 22 + 0 ≤ _)⟩)
      dsimp only [Pt.U, Pt.locs, Pt.cells, Pt.slots] at X280 l280 y280 z280 st280 hQ280
      subst l280 y280 z280
      obtain ⟨rfl, Nq280, eq280⟩ := hQ280
      have N280 := Fr.app N271 Nq280
      have hc131 : ((own_f13 x6_5) = m122_s0) := own_named hm122_s0
      have f286 := ((Ea262.ext E266).keep K271)
      have f287 := ((f264.ext E266).keep K271 (ninS ne_b2_b266 nin0))
      have f288 := ((V262.ext E266).keep K271 (ninS ne_b262_b266 nin0))
      have hk289 : _ ≤ (T271.heap).size := (Nat.le_trans (Nat.le_trans hk262 E266.1) K271.1)
      obtain ⟨_, _, ⟨T285, L285, k285, n285⟩, -, X285, hs285, gr285, ⟨Lc285, hQ285, l285, y285, z285, cs285⟩, st285⟩ := Jvm.RoadKit.callSS X280 hx (y := (⟨"com/example/unicopy/unicopy/UniqueValue", "unnamed", "(ILjava/lang/String;)Lcom/example/unicopy/unicopy/UniqueValue;"⟩ : MethodName)) hown (mvT hZ (hw _ (List.mem_of_getElem? (i := 72) rfl))) (mvT hZ (hw _ (List.mem_of_getElem? (i := 73) rfl))) (mvT hZ (hw _ (List.mem_of_getElem? (i := 46) rfl))) (mvT hZ (hw _ (List.mem_of_getElem? (i := 74) rfl))) (by decide) (Jvm.RoadKit.backOfSH (W := 0) (rm15 l Z aw hw [] (p0) (a262) (T271.heap) n0 z284) hZ (hw _ (List.mem_of_getElem? (i := 74) rfl)) (hw _ (List.mem_of_getElem? (i := 46) rfl)) (by decide) (by decide) (own_EW hw) cr274.1) (g := (mkF m 139 #[.val (.int p0), .val (.int p1), .val (.int p2), .val (.int p3), .val (.int p4), .val (.int p5), .val (.int x6_5), .val (.ref b2), .val (.ref b223), .val (.ref a262), .val (.ref b266), .val (.int m122_s0), .unset] [(.ref a262), (.int p0)])) rfl (by rw [hml]; rfl) (argsL := [(.int p0), (.ref a262)]) (rest := []) (lenOf pd_12 rfl) rfl (by show 2 * 0 + _ ≤ _; exact Nat.le_of_eq rfl) (hb hby at_139) (fun _ _ => ⟨rfl, eq280, (by decide : 9 + 3 ≤ _), (by decide : 22 + 7 ≤ _)⟩)
      dsimp only [Pt.U, Pt.locs, Pt.cells, Pt.slots] at X285 l285 y285 z285 st285 hQ285 hs285 gr285 cs285
      subst l285 y285 z285
      obtain ⟨X285, hS285⟩ := X285.againW hS262 hs285 (Nat.le_trans hk289 (by rw [← eq280]; exact gr285))
      have hZ : Z.Warmed39 (s.setVm T285.vm).vm := State.Warmed39.trans (t := (s.setVm T262.vm)) hZ hs285.1
      have hown : (s.setVm T285.vm).vm.findClass "com/example/unicopy/unicopy/UniqueValueNamedPinLaw" = some m.cls := by rw [show (s.setVm T285.vm).vm = T285.vm from rfl, hs285.1.alike.findClass]; exact hown
      have hk285 : T285.heap.size ≤ T285.heap.size := Nat.le_refl _
      have cr285 := cr274.trans cs285
      have sf285_b223 := cs285.safe f281.lt sf274_b223
      obtain ⟨rv285, sv285, bv285, kb285, rfl, Nq285, K285, po285_0, po285_1, po285_2, po285_3, po285_4, po285_5⟩ := hQ285
      have N285 := Fr.app N280 Nq285
      have ne_a262_rv285 : a262 ≠ rv285 := Nat.ne_of_lt (Nat.lt_of_lt_of_le f286.lt po285_0)
      have ne_b2_rv285 : b2 ≠ rv285 := Nat.ne_of_lt (Nat.lt_of_lt_of_le f287.lt po285_0)
      have ne_b223_rv285 : b223 ≠ rv285 := Nat.ne_of_lt (Nat.lt_of_lt_of_le f281.lt po285_0)
      have ne_b262_rv285 : b262 ≠ rv285 := Nat.ne_of_lt (Nat.lt_of_lt_of_le f288.lt po285_0)
      have ne_b266_rv285 : b266 ≠ rv285 := Nat.ne_of_lt (Nat.lt_of_lt_of_le po271_0.lt po285_0)
      have ne_bv226_rv285 : bv226 ≠ rv285 := Nat.ne_of_lt (Nat.lt_of_lt_of_le f283.lt po285_0)
      have g_rv285 : n0 ≤ rv285 := Nat.le_trans z284 po285_0
      have z291 : n0 ≤ (T285.heap).size := (Nat.le_trans z284 K285.1)
      obtain ⟨cq290, kq290, q290a, q290b, q290c⟩ := isOf hZ rfl po285_1
      obtain ⟨_, _, ⟨T290, L290, k290, n290⟩, -, X290, ⟨Lc290, hQ290, l290, y290, z290⟩, st290⟩ := X285.virtualBack hx (y := (⟨"com/example/unicopy/unicopy/UniqueValue", "named", "()Z"⟩ : MethodName)) (z := (⟨"com/example/unicopy/unicopy/UniqueValue", "named", "()Z"⟩ : MethodName)) hown (mvT hZ (hw _ (List.mem_of_getElem? (i := 62) rfl))) (mvT hZ (hw _ (List.mem_of_getElem? (i := 63) rfl))) (notFace_of_selects (args := #[]) (mvT hZ (hw _ (List.mem_of_getElem? (i := 65) rfl)))) (mvT hZ (hw _ (List.mem_of_getElem? (i := 65) rfl))) (mvT hZ (hw _ (List.mem_of_getElem? (i := 64) rfl))) (by decide) (backOf (W := 0) (rm13 l Z aw hw [] (rv285) (sv285) (bv285) (kb285) ((0 : Int32)) ([]) (T285.heap) n0 z291 po285_1 po285_2 po285_3 po285_4 po285_5) hZ (hw _ (List.mem_of_getElem? (i := 66) rfl)) (hw _ (List.mem_of_getElem? (i := 46) rfl)) (by decide) (by decide)) q290a q290c (g := (mkF m 146 #[.val (.int p0), .val (.int p1), .val (.int p2), .val (.int p3), .val (.int p4), .val (.int p5), .val (.int x6_5), .val (.ref b2), .val (.ref b223), .val (.ref a262), .val (.ref b266), .val (.int m122_s0), .val (.ref rv285)] [(.ref rv285)])) rfl (by rw [hml]; rfl) (Steps.refl _) (argsL := []) (rest := []) (lenOf pd_8 rfl) rfl (by show 2 * 0 + _ ≤ _; exact Nat.le_of_eq rfl) (hb hby at_146) (fun _ _ => ⟨rfl, rfl, (by decide : 12 + 0 ≤ _), (by decide : 29 + 0 ≤ _)⟩)
      dsimp only [Pt.U, Pt.locs, Pt.cells, Pt.slots] at X290 l290 y290 z290 st290 hQ290
      subst l290 y290 z290
      obtain ⟨rfl, Nq290, eq290⟩ := hQ290
      have N290 := Fr.app N285 Nq290
      have hc149 : ((own_f13 ((0 : Int32))) = (0 : Int32)) := by decide
      obtain ⟨fs, hr, hrun, hended, hREW⟩ := X290.leaveW hS285 (by rw [eq290]; exact hk285) (v := some (.int (1 : Int32))) (fun h => by rw [Bd.returns] at h; cases h)
      refine ⟨_, _, pre276 _ ?_, hrun, hended, _, _, rfl, ?_, by rw [hh, show (State.setFrames T290 fs).heap = T285.heap from eq290]; have hq := cr285.trans (Jvm.RoadKit.CHv.at X290 hZ (own_EW hw) cr285.1); exact hq, hREW.1, hREW.2.1, hREW.2.2.1, hREW.2.2.2.mono (by decide) (by decide)⟩
      · show Steps p.tables e below (T271.setTop (mkF m 122 #[.val (.int p0), .val (.int p1), .val (.int p2), .val (.int p3), .val (.int p4), .val (.int p5), .val (.int x6_5), .val (.ref b2), .val (.ref b223), .val (.ref a262), .val (.ref b266), .unset, .unset] [(.int m122_s0)])) _
        refine XS.istore X271.here hx rfl (hb hby at_122) rfl (l' := #[.val (.int p0), .val (.int p1), .val (.int p2), .val (.int p3), .val (.int p4), .val (.int p5), .val (.int x6_5), .val (.ref b2), .val (.ref b223), .val (.ref a262), .val (.ref b266), .val (.int m122_s0), .unset]) rfl ?_
        refine XS.aload X271.here hx rfl (hb hby at_124) rfl rfl ?_
        refine st280.trans ?_
        refine XS.iload X280.here hx rfl (hb hby at_129) rfl ?_
        refine XS.icmpYes X280.here hx rfl (pc0 := 131) (pc' := 136) rfl (hb hby at_131) rfl (teq hc131).1 (by decide) (by decide) ?_
        show Steps p.tables e below (T280.setTop (mkF m 136 #[.val (.int p0), .val (.int p1), .val (.int p2), .val (.int p3), .val (.int p4), .val (.int p5), .val (.int x6_5), .val (.ref b2), .val (.ref b223), .val (.ref a262), .val (.ref b266), .val (.int m122_s0), .unset] [])) _
        refine XS.iloadN X280.here hx rfl (hb hby at_136) rfl ?_
        refine XS.aload X280.here hx rfl (hb hby at_137) rfl rfl ?_
        refine st285.trans ?_
        refine XS.astore X285.here hx rfl (hb hby at_142) rfl rfl (l' := #[.val (.int p0), .val (.int p1), .val (.int p2), .val (.int p3), .val (.int p4), .val (.int p5), .val (.int x6_5), .val (.ref b2), .val (.ref b223), .val (.ref a262), .val (.ref b266), .val (.int m122_s0), .val (.ref rv285)]) rfl ?_
        refine XS.aload X285.here hx rfl (hb hby at_144) rfl rfl ?_
        show Steps p.tables e below (T285.setTop (mkF m 146 #[.val (.int p0), .val (.int p1), .val (.int p2), .val (.int p3), .val (.int p4), .val (.int p5), .val (.int x6_5), .val (.ref b2), .val (.ref b223), .val (.ref a262), .val (.ref b266), .val (.int m122_s0), .val (.ref rv285)] [(.ref rv285)])) _
        refine st290.trans ?_
        refine XS.ifNo X290.here hx rfl (hb hby at_149) rfl ((if0 _ _).trans (teq hc149).2) ?_
        refine XS.iconst X290.here hx rfl (hb hby at_152) ?_
        refine XS.goto X290.here hx rfl (pc0 := 153) (pc' := 157) rfl (hb hby at_153) (by decide) (by decide) ?_
        show Steps p.tables e below (T290.setTop (mkF m 157 #[.val (.int p0), .val (.int p1), .val (.int p2), .val (.int p3), .val (.int p4), .val (.int p5), .val (.int x6_5), .val (.ref b2), .val (.ref b223), .val (.ref a262), .val (.ref b266), .val (.int m122_s0), .val (.ref rv285)] [(.int (1 : Int32))])) _
        exact retN X290 hx (t := .boolean) Bd.returns (by simp) (hb hby at_157) hr
      · show Q0 Z p0 p1 p2 p3 p4 p5 cv h0 n0 _ T290.heap _
        rw [eq290]
        unfold Q0
        refine ⟨rfl, N290⟩
set_option maxRecDepth 65536 in
set_option maxHeartbeats 40000000 in
theorem comes_1 {Post : Tables → Env → Array Value → State → Outcome → State → Prop} (hpost : ∀ tb e args s v u, (limb_1_1.after args s (.returned v) u = true ∧ limb_1_2.after args s (.returned v) u = true ∧ True) → ReturnedEndW s (.returned v) u (Jvm.fieldLocs frame_1_writes args s ++ Jvm.arrayLocs frame_1_arrays args s ++ Jvm.staticLocs frame_1_statics s) 32 3200 → Post tb e args s (.returned v) u) :
    ArmFor flags0 classFile x code maxLocals ret World_1 tables_1 room_1 Calls_1 rest_1 Pre_1 Post := by
  intro l hfl _ _ p e ha hc hk s m args below hf hA hF happ hP
  obtain ⟨hcalls, hrest, hpre⟩ := hP
  obtain ⟨-, -, -, hnamed, -, -, -, hat⟩ := (Spec.applies_iff hf).mp happ
  obtain ⟨hg, hn⟩ := and_e (Cond.before_iff.mp (show (Jvm.Cond.and given_1 narrow_1).before args s = true from hpre))
  obtain ⟨gv1, gv2⟩ := and_e hg
  obtain ⟨gv3, gv4⟩ := and_e gv2
  obtain ⟨gv5, gv6⟩ := and_e gv4
  obtain ⟨gv7, gv8⟩ := and_e gv6
  obtain ⟨gv9, gv10⟩ := and_e gv8
  obtain ⟨gv11, gv12⟩ := and_e gv10
  obtain ⟨w0, w1, w2, w3, w4, w5, rfl⟩ : ∃ w0 w1 w2 w3 w4 w5 : Value, args = #[w0, w1, w2, w3, w4, w5] := by
    have hs : args.size = 6 := by simpa [Cond.value, given_1] using gv1
    obtain ⟨L⟩ := args
    match L, hs with
    | [w0, w1, w2, w3, w4, w5], _ => exact ⟨w0, w1, w2, w3, w4, w5, rfl⟩
  have hw := fun d (hd : d ∈ tables_1) => atoms_spec (ws := Jvm.Cond.code x code maxLocals ret :: tables_1) hat d (List.mem_cons_of_mem _ hd)
  obtain ⟨i0, ei0⟩ := is_v gv3
  obtain rfl : w0 = (.int i0) := Option.some.inj ei0
  obtain ⟨i1, ei1⟩ := is_v gv5
  obtain rfl : w1 = (.int i1) := Option.some.inj ei1
  obtain ⟨i2, ei2⟩ := is_v gv7
  obtain rfl : w2 = (.int i2) := Option.some.inj ei2
  obtain ⟨i3, ei3⟩ := is_v gv9
  obtain rfl : w3 = (.int i3) := Option.some.inj ei3
  obtain ⟨i4, ei4⟩ := is_v gv11
  obtain rfl : w4 = (.int i4) := Option.some.inj ei4
  obtain ⟨i5, ei5⟩ := is_v gv12
  obtain rfl : w5 = (.int i5) := Option.some.inj ei5
  have hr0 := Cond.before_iff.mp (show rest_1_c.before _ s = true from hrest)
  unfold rest_1_c at hr0
  obtain ⟨hr1, hr2⟩ := and_e hr0
  obtain ⟨hr3, hr4⟩ := and_e hr2
  obtain ⟨hr5, hr6⟩ := and_e hr4
  obtain ⟨cv, ecv⟩ := is_v hr3
  have hst : Sta s s.heap "java/lang/String" "COMPACT_STRINGS" "Z" (.int cv) := Sta.start ecv (Or.inl (Cond.before_iff.mpr hr1))
  have hcv : ¬ cv = (0 : Int32) := fun z => by subst z; have q := eq_i ecv (Term.int_eval (0)) rfl; simp only [Cond.value] at hr5 q; rw [q] at hr5; cases hr5
  have hCH : Jvm.RoadKit.CHv s consts_1 s.vm s.heap := Jvm.RoadKit.CHv.start (own_EW hw) hcalls.1 (Cond.before_iff.mpr hr5) (hw _ (List.mem_of_getElem? (i := 19) rfl)) (hw _ (List.mem_of_getElem? (i := 2) rfl))
  obtain ⟨n, o, h1, h2, h3, _, L, rfl, ⟨rfl, N⟩, -, hq⟩ := rm0 l s _ hw tables_1 i0 i1 i2 i3 i4 i5 cv s.heap s.heap.size (Nat.le_refl _) hst hcv p e ha hc hk s m _ below hf ((Spec.applies_iff_loose hf).mp happ).1 ⟨rfl, State.Warmed39.refl s, rfl, hCH⟩ trivial
  refine ⟨n, _, h1, h2, h3, hpost _ _ _ _ _ _ ⟨Cond.after_iff.mpr rfl, Cond.after_iff.mpr (eq_i res_at (Term.int_eval (1)) rfl), trivial⟩ ⟨hq.1, hq.2.1, hq.2.2.1, (hq.2.2.2.sift fun y hy => Or.inr (N y hy)).mono (by decide) (by decide)⟩⟩
theorem main_1_1 : Claimed_1_1 := comes_1 fun _ _ _ _ _ _ h hF => ⟨h.1, hF⟩
theorem main_1_2 : Claimed_1_2 := comes_1 fun _ _ _ _ _ _ h hF => ⟨h.2.1, hF⟩
end Jvm.Pilot.@@N@@
namespace Jvm.Pilot.@@N@@
open Jvm Jvm.ClassFile Sem Op Lib Jvm.Free Jvm.Stand Jvm.Pilot.@@N@@.Jvm.D
/-! MADE BY PROGRAM (witnessworld.py) out of the Statement's table words and the real class files: 21 classes; the members and pool entries that the words name. The judged class is class 1, her method 1. -/
namespace start1
open Jvm.ClassFile
def u (s : String) : CpInfo := .utf8 (stringToUtf16 s)
/-- a pool by its gaps: so many unusable entries, then the entry; so many at the end -/
def gap : Nat → List CpInfo → List CpInfo
  | 0, r => r
  | n + 1, r => .unusable :: gap n r
def poolList (es : List (Nat × CpInfo)) (last : Nat) : List CpInfo := es.foldr (fun e r => gap e.1 (e.2 :: r)) (gap last [])
def pool (es : List (Nat × CpInfo)) (last : Nat) : Array CpInfo := ⟨poolList es last⟩
def fileOf (pool : Array CpInfo) (this : Nat) (attrs : Array Attribute := #[]) (ms : Array MethodInfo := #[]) (fl : Nat := 33) (sup : Nat := 0) (ifs : Array Nat := #[]) (fds : Array FieldInfo := #[]) : ClassFile where
  minorVersion := 0
  majorVersion := 65
  constantPool := pool
  accessFlags := fl
  thisClass := this
  superClass := sup
  interfaces := ifs
  fields := fds
  methods := ms
  attributes := attrs
def plain (name : String) (sup : Option ClassId) : Class where
  name := name
  kind := .ordinary
  loader := none
  accessFlags := 33
  super := sup
  interfaces := #[]
  cf := none
  fields := #[]
  methods := #[]
  instanceTypes := #[]
  staticTypes := #[]
  resolved := #[]
  callSites := []
  init := .initialized
  statics := none
  mirror := none

def pool0 : Array CpInfo := pool [(5, u "<init>"), (0, u "()V"), (1, .class_ 10), (1, u "java/lang/Object")] 113

def k0c0 : Code := { maxStack := 0, maxLocals := 1, code := object_method_1_code, exceptionTable := #[], attributes := #[] }
def k0m0 : Method := { name := "<init>", desc := "()V", sig := { parameters := [], returnType := none }, accessFlags := 1, code := some k0c0 }
/-- java/lang/Object -/
def k0 : Class := { plain "java/lang/Object" none with
  accessFlags := 33
  interfaces := #[]
  cf := some (fileOf pool0 8 #[] #[{ accessFlags := 1, nameIndex := 5, descriptorIndex := 6, attributes := #[] }] 33 0 #[] #[])
  fields := #[]
  methods := #[k0m0]
  instanceTypes := #[]
  staticTypes := #[]
  resolved := Array.replicate 124 none
  statics := none }

def pool1 : Array CpInfo := pool [(2, .class_ 4), (1, u "java/lang/Object"), (0, u "<init>"), (0, u "()V"), (0, .class_ 8), (0, u "java/lang/String"), (0, .methodref 7 10), (0, .nameAndType 5 11), (0, u "([C)V"), (0, .string 13), (0, u ""), (0, .methodref 7 15), (0, .nameAndType 16 17), (0, u "valueOf"), (0, u "(C)Ljava/lang/String;"), (0, .class_ 19), (0, u "com/example/unicopy/unicopy/UniqueValue"), (0, .methodref 18 21), (0, .nameAndType 5 22), (0, u "(ILjava/lang/String;Ljava/lang/String;)V"), (0, .methodref 18 24), (0, .nameAndType 25 26), (0, u "named"), (0, u "()Z"), (0, .methodref 18 28), (0, .nameAndType 29 30), (0, u "unnamed"), (0, u "(ILjava/lang/String;)Lcom/example/unicopy/unicopy/UniqueValue;"), (0, .class_ 32), (0, u "com/example/unicopy/unicopy/UniqueValueNamedPinLaw"), (2, u "law"), (0, u "(IIIIII)Z")] 5

def k1m0 : Method := { name := "<init>", desc := "()V", sig := { parameters := [], returnType := none }, accessFlags := 2, code := none }
def k1c1 : Code := { maxStack := 5, maxLocals := 13, code := code, exceptionTable := #[], attributes := #[] }
def k1m1 : Method := { name := "law", desc := "(IIIIII)Z", sig := { parameters := [.int, .int, .int, .int, .int, .int], returnType := some .boolean }, accessFlags := 9, code := some k1c1 }
/-- com/example/unicopy/unicopy/UniqueValueNamedPinLaw -/
def k1 : Class := { plain "com/example/unicopy/unicopy/UniqueValueNamedPinLaw" (some 0) with
  accessFlags := 49
  interfaces := #[]
  cf := some (fileOf pool1 31 #[] #[{ accessFlags := 2, nameIndex := 5, descriptorIndex := 6, attributes := #[] }, { accessFlags := 9, nameIndex := 35, descriptorIndex := 36, attributes := #[] }] 49 2 #[] #[])
  fields := #[]
  methods := #[k1m0, k1m1]
  instanceTypes := #[]
  staticTypes := #[]
  resolved := Array.replicate 42 none
  statics := none }

def pool2 : Array CpInfo := pool [(1, .class_ 2), (0, u "java/io/Serializable"), (0, .class_ 4), (0, u "java/lang/Object")] 2

/-- java/io/Serializable -/
def k2 : Class := { plain "java/io/Serializable" (some 0) with
  accessFlags := 1537
  interfaces := #[]
  cf := some (fileOf pool2 1 #[] #[] 1537 3 #[] #[])
  fields := #[]
  methods := #[]
  instanceTypes := #[]
  staticTypes := #[]
  resolved := Array.replicate 7 none
  statics := none }

def pool3 : Array CpInfo := pool [(1, .class_ 2), (0, u "java/lang/Comparable"), (0, .class_ 4), (0, u "java/lang/Object")] 7

/-- java/lang/Comparable -/
def k3 : Class := { plain "java/lang/Comparable" (some 0) with
  accessFlags := 1537
  interfaces := #[]
  cf := some (fileOf pool3 1 #[] #[] 1537 3 #[] #[])
  fields := #[]
  methods := #[]
  instanceTypes := #[]
  staticTypes := #[]
  resolved := Array.replicate 12 none
  statics := none }

def pool4 : Array CpInfo := pool [(2, .class_ 4), (1, u "java/lang/CharSequence"), (42, .class_ 48), (0, u "java/lang/CharSequence$1CodePointIterator"), (10, .class_ 60), (0, u "java/lang/CharSequence$1CharIterator"), (5, .class_ 67), (0, u "java/lang/Object")] 63

/-- java/lang/CharSequence -/
def k4 : Class := { plain "java/lang/CharSequence" (some 0) with
  accessFlags := 1537
  interfaces := #[]
  cf := some (fileOf pool4 2 #[.nestMembers #[47, 59]] #[] 1537 66 #[] #[])
  fields := #[]
  methods := #[]
  instanceTypes := #[]
  staticTypes := #[]
  resolved := Array.replicate 131 none
  statics := none }

def pool5 : Array CpInfo := pool [(1, .class_ 2), (0, u "java/lang/constant/Constable"), (0, .class_ 4), (0, u "java/lang/Object")] 6

/-- java/lang/constant/Constable -/
def k5 : Class := { plain "java/lang/constant/Constable" (some 0) with
  accessFlags := 1537
  interfaces := #[]
  cf := some (fileOf pool5 1 #[] #[] 1537 3 #[] #[])
  fields := #[]
  methods := #[]
  instanceTypes := #[]
  staticTypes := #[]
  resolved := Array.replicate 11 none
  statics := none }

def pool6 : Array CpInfo := pool [(1, .class_ 2), (0, u "java/lang/constant/ConstantDesc"), (0, .class_ 4), (0, u "java/lang/Object")] 32

/-- java/lang/constant/ConstantDesc -/
def k6 : Class := { plain "java/lang/constant/ConstantDesc" (some 0) with
  accessFlags := 1537
  interfaces := #[]
  cf := some (fileOf pool6 1 #[] #[] 1537 3 #[] #[])
  fields := #[]
  methods := #[]
  instanceTypes := #[]
  staticTypes := #[]
  resolved := Array.replicate 37 none
  statics := none }

def pool7 : Array CpInfo := pool [(1, .methodref 2 3), (0, .class_ 4), (0, .nameAndType 5 6), (0, u "java/lang/Object"), (0, u "<init>"), (0, u "()V"), (0, .string 8), (0, u ""), (0, .fieldref 10 11), (0, .class_ 12), (0, .nameAndType 13 14), (0, u "java/lang/String"), (0, u "value"), (0, u "[B"), (0, .fieldref 10 16), (0, .nameAndType 17 18), (0, u "coder"), (0, u "B"), (2, u "hash"), (0, u "I"), (2, u "hashIsZero"), (0, u "Z"), (0, .methodref 10 28), (0, .nameAndType 5 29), (0, u "([CIILjava/lang/Void;)V"), (8, .fieldref 10 39), (0, .nameAndType 40 26), (0, u "COMPACT_STRINGS"), (1, .class_ 44), (1, u "java/lang/StringUTF16"), (0, u "compress"), (1, .methodref 42 48), (0, .nameAndType 49 50), (0, u "coderFromArrayLen"), (0, u "([BI)B"), (2, u "toBytes"), (53, .class_ 109), (1, u "java/lang/StringLatin1"), (32, u "()Z"), (34, .methodref 42 178), (0, .nameAndType 45 179), (0, u "([CII)[B"), (29, .methodref 10 210), (0, .nameAndType 5 211), (0, u "([BB)V"), (157, u "(C)Z"), (205, .class_ 576), (0, u "java/lang/CharSequence"), (22, u "CASE_INSENSITIVE_ORDER"), (0, u "Ljava/util/Comparator;"), (91, u "isEmpty"), (89, u "valueOf"), (0, u "(C)Ljava/lang/String;"), (226, u "([C)V"), (4, .methodref 107 1016), (0, .nameAndType 1017 369), (0, u "canEncode"), (0, .methodref 107 1019), (0, .nameAndType 53 1020), (0, u "(C)[B"), (80, u "serialPersistentFields"), (0, u "[Ljava/io/ObjectStreamField;"), (0, .class_ 1104), (0, u "java/lang/String$CaseInsensitiveComparator"), (1, .class_ 1107), (0, u "java/io/Serializable"), (0, .class_ 1109), (0, u "java/lang/Comparable"), (0, .class_ 1111), (0, u "java/lang/constant/Constable"), (0, .class_ 1113), (0, u "java/lang/constant/ConstantDesc"), (2, u "serialVersionUID"), (0, u "J"), (3, u "REPL"), (0, u "C"), (2, u "LATIN1"), (1, u "UTF16")] 323

def k7m0 : Method := { name := "<init>", desc := "()V", sig := { parameters := [], returnType := none }, accessFlags := 1, code := none }
def k7c1 : Code := { maxStack := 5, maxLocals := 2, code := jdk_42_method_3_code, exceptionTable := #[], attributes := #[] }
def k7m1 : Method := { name := "<init>", desc := "([C)V", sig := { parameters := [(.array .char)], returnType := none }, accessFlags := 1, code := some k7c1 }
def k7c2 : Code := { maxStack := 1, maxLocals := 1, code := jdk_42_method_55_code, exceptionTable := #[], attributes := #[] }
def k7m2 : Method := { name := "isEmpty", desc := "()Z", sig := { parameters := [], returnType := some .boolean }, accessFlags := 1, code := some k7c2 }
def k7c3 : Code := { maxStack := 4, maxLocals := 1, code := jdk_42_method_139_code, exceptionTable := #[], attributes := #[] }
def k7m3 : Method := { name := "valueOf", desc := "(C)Ljava/lang/String;", sig := { parameters := [.char], returnType := some (.object "java/lang/String") }, accessFlags := 9, code := some k7c3 }
def k7c4 : Code := { maxStack := 4, maxLocals := 6, code := jdk_42_method_149_code, exceptionTable := #[], attributes := #[] }
def k7m4 : Method := { name := "<init>", desc := "([CIILjava/lang/Void;)V", sig := { parameters := [(.array .char), .int, .int, (.object "java/lang/Void")], returnType := none }, accessFlags := 2, code := some k7c4 }
def k7c5 : Code := { maxStack := 2, maxLocals := 3, code := jdk_42_method_151_code, exceptionTable := #[], attributes := #[] }
def k7m5 : Method := { name := "<init>", desc := "([BB)V", sig := { parameters := [(.array .byte), .byte], returnType := none }, accessFlags := 0, code := some k7c5 }
/-- java/lang/String -/
def k7 : Class := { plain "java/lang/String" (some 0) with
  accessFlags := 49
  interfaces := #[2, 3, 4, 5, 6]
  cf := some (fileOf pool7 10 #[.nestMembers #[1103]] #[{ accessFlags := 1, nameIndex := 5, descriptorIndex := 6, attributes := #[] }, { accessFlags := 1, nameIndex := 5, descriptorIndex := 1010, attributes := #[] }, { accessFlags := 1, nameIndex := 692, descriptorIndex := 142, attributes := #[] }, { accessFlags := 9, nameIndex := 782, descriptorIndex := 783, attributes := #[] }, { accessFlags := 2, nameIndex := 5, descriptorIndex := 29, attributes := #[] }, { accessFlags := 0, nameIndex := 5, descriptorIndex := 211, attributes := #[] }] 49 2 #[1106, 1108, 575, 1110, 1112] #[{ accessFlags := 18, nameIndex := 13, descriptorIndex := 14, attributes := #[] }, { accessFlags := 18, nameIndex := 17, descriptorIndex := 18, attributes := #[] }, { accessFlags := 2, nameIndex := 21, descriptorIndex := 22, attributes := #[] }, { accessFlags := 2, nameIndex := 25, descriptorIndex := 26, attributes := #[] }, { accessFlags := 26, nameIndex := 1116, descriptorIndex := 1117, attributes := #[] }, { accessFlags := 24, nameIndex := 40, descriptorIndex := 26, attributes := #[] }, { accessFlags := 26, nameIndex := 1101, descriptorIndex := 1102, attributes := #[] }, { accessFlags := 26, nameIndex := 1121, descriptorIndex := 1122, attributes := #[] }, { accessFlags := 25, nameIndex := 599, descriptorIndex := 600, attributes := #[] }, { accessFlags := 24, nameIndex := 1125, descriptorIndex := 18, attributes := #[] }, { accessFlags := 24, nameIndex := 1127, descriptorIndex := 18, attributes := #[] }])
  fields := #[{ name := "value", type := (.array .byte), accessFlags := 18, slot := 0, constantValue := 0 }, { name := "coder", type := .byte, accessFlags := 18, slot := 1, constantValue := 0 }, { name := "hash", type := .int, accessFlags := 2, slot := 2, constantValue := 0 }, { name := "hashIsZero", type := .boolean, accessFlags := 2, slot := 3, constantValue := 0 }, { name := "serialVersionUID", type := .long, accessFlags := 26, slot := 0, constantValue := 0 }, { name := "COMPACT_STRINGS", type := .boolean, accessFlags := 24, slot := 1, constantValue := 0 }, { name := "serialPersistentFields", type := (.array (.object "java/io/ObjectStreamField")), accessFlags := 26, slot := 2, constantValue := 0 }, { name := "REPL", type := .char, accessFlags := 26, slot := 3, constantValue := 0 }, { name := "CASE_INSENSITIVE_ORDER", type := (.object "java/util/Comparator"), accessFlags := 25, slot := 4, constantValue := 0 }, { name := "LATIN1", type := .byte, accessFlags := 24, slot := 5, constantValue := 0 }, { name := "UTF16", type := .byte, accessFlags := 24, slot := 6, constantValue := 0 }]
  methods := #[k7m0, k7m1, k7m2, k7m3, k7m4, k7m5]
  instanceTypes := #[(.array .byte), .byte, .int, .boolean]
  staticTypes := #[.long, .boolean, (.array (.object "java/io/ObjectStreamField")), .char, (.object "java/util/Comparator"), .byte, .byte]
  resolved := Array.replicate 1451 none
  statics := some 0 }

def pool8 : Array CpInfo := pool [(6, .class_ 8), (1, u "java/lang/Object"), (0, u "<init>"), (0, u "()V"), (1, .class_ 14), (1, u "java/lang/StringUTF16"), (31, u "$assertionsDisabled"), (0, u "Z"), (13, u "HI_BYTE_SHIFT"), (0, u "I"), (2, u "LO_BYTE_SHIFT"), (49, .methodref 12 116), (0, .nameAndType 117 118), (0, u "compress"), (0, u "([CI[BII)I"), (3, u "([CII)[B"), (138, u "coderFromArrayLen"), (0, u "([BI)B"), (106, .class_ 371), (1, u "java/lang/StringUTF16$LinesSpliterator"), (58, u "MAX_LENGTH"), (196, .class_ 628), (0, u "java/lang/StringUTF16$CodePointsSpliterator"), (0, .class_ 630), (0, u "java/lang/StringUTF16$CharsSpliterator")] 4

def k8m0 : Method := { name := "<init>", desc := "()V", sig := { parameters := [], returnType := none }, accessFlags := 0, code := none }
def k8c1 : Code := { maxStack := 2, maxLocals := 2, code := jdk_52_method_15_code, exceptionTable := #[], attributes := #[] }
def k8m1 : Method := { name := "coderFromArrayLen", desc := "([BI)B", sig := { parameters := [(.array .byte), .int], returnType := some .byte }, accessFlags := 8, code := some k8c1 }
def k8c2 : Code := { maxStack := 5, maxLocals := 6, code := jdk_52_method_16_code, exceptionTable := #[], attributes := #[] }
def k8m2 : Method := { name := "compress", desc := "([CII)[B", sig := { parameters := [(.array .char), .int, .int], returnType := some (.array .byte) }, accessFlags := 9, code := some k8c2 }
def k8c3 : Code := { maxStack := 3, maxLocals := 7, code := jdk_52_method_21_code, exceptionTable := #[], attributes := #[] }
def k8m3 : Method := { name := "compress", desc := "([CI[BII)I", sig := { parameters := [(.array .char), .int, (.array .byte), .int, .int], returnType := some .int }, accessFlags := 9, code := some k8c3 }
/-- java/lang/StringUTF16 -/
def k8 : Class := { plain "java/lang/StringUTF16" (some 0) with
  accessFlags := 48
  interfaces := #[]
  cf := some (fileOf pool8 12 #[.nestMembers #[627, 629, 369]] #[{ accessFlags := 0, nameIndex := 9, descriptorIndex := 10, attributes := #[] }, { accessFlags := 8, nameIndex := 261, descriptorIndex := 262, attributes := #[] }, { accessFlags := 9, nameIndex := 117, descriptorIndex := 122, attributes := #[] }, { accessFlags := 9, nameIndex := 117, descriptorIndex := 118, attributes := #[] }] 48 6 #[] #[{ accessFlags := 26, nameIndex := 61, descriptorIndex := 62, attributes := #[] }, { accessFlags := 26, nameIndex := 65, descriptorIndex := 62, attributes := #[] }, { accessFlags := 24, nameIndex := 430, descriptorIndex := 62, attributes := #[] }, { accessFlags := 4120, nameIndex := 46, descriptorIndex := 47, attributes := #[] }])
  fields := #[{ name := "HI_BYTE_SHIFT", type := .int, accessFlags := 26, slot := 0, constantValue := 0 }, { name := "LO_BYTE_SHIFT", type := .int, accessFlags := 26, slot := 1, constantValue := 0 }, { name := "MAX_LENGTH", type := .int, accessFlags := 24, slot := 2, constantValue := 0 }, { name := "$assertionsDisabled", type := .boolean, accessFlags := 4120, slot := 3, constantValue := 0 }]
  methods := #[k8m0, k8m1, k8m2, k8m3]
  instanceTypes := #[]
  staticTypes := #[.int, .int, .int, .boolean]
  resolved := Array.replicate 635 none
  statics := none }

def pool9 : Array CpInfo := pool [(4, .class_ 6), (1, u "java/lang/Object"), (0, u "<init>"), (0, u "()V"), (5, .class_ 16), (1, u "java/lang/StringLatin1"), (73, u "canEncode"), (14, u "(C)Z"), (15, u "$assertionsDisabled"), (0, u "Z"), (98, .class_ 223), (1, u "java/lang/StringLatin1$LinesSpliterator"), (156, u "toBytes"), (1, u "(C)[B"), (7, .class_ 391), (0, u "java/lang/StringLatin1$CharsSpliterator")] 3

def k9m0 : Method := { name := "<init>", desc := "()V", sig := { parameters := [], returnType := none }, accessFlags := 0, code := none }
def k9c1 : Code := { maxStack := 2, maxLocals := 1, code := jdk_43_method_3_code, exceptionTable := #[], attributes := #[] }
def k9m1 : Method := { name := "canEncode", desc := "(C)Z", sig := { parameters := [.char], returnType := some .boolean }, accessFlags := 9, code := some k9c1 }
def k9c2 : Code := { maxStack := 4, maxLocals := 1, code := jdk_43_method_46_code, exceptionTable := #[], attributes := #[] }
def k9m2 : Method := { name := "toBytes", desc := "(C)[B", sig := { parameters := [.char], returnType := some (.array .byte) }, accessFlags := 9, code := some k9c2 }
/-- java/lang/StringLatin1 -/
def k9 : Class := { plain "java/lang/StringLatin1" (some 0) with
  accessFlags := 48
  interfaces := #[]
  cf := some (fileOf pool9 14 #[.nestMembers #[390, 221]] #[{ accessFlags := 0, nameIndex := 7, descriptorIndex := 8, attributes := #[] }, { accessFlags := 9, nameIndex := 90, descriptorIndex := 105, attributes := #[] }, { accessFlags := 9, nameIndex := 380, descriptorIndex := 382, attributes := #[] }] 48 4 #[] #[{ accessFlags := 4120, nameIndex := 121, descriptorIndex := 122, attributes := #[] }])
  fields := #[{ name := "$assertionsDisabled", type := .boolean, accessFlags := 4120, slot := 0, constantValue := 0 }]
  methods := #[k9m0, k9m1, k9m2]
  instanceTypes := #[]
  staticTypes := #[.boolean]
  resolved := Array.replicate 395 none
  statics := none }

def pool10 : Array CpInfo := pool [(1, .methodref 2 3), (0, .class_ 4), (0, .nameAndType 5 6), (0, u "java/lang/Object"), (0, u "<init>"), (0, u "()V"), (0, .class_ 8), (0, u "java/lang/Record")] 13

def k10c0 : Code := { maxStack := 1, maxLocals := 1, code := jdk_30_method_1_code, exceptionTable := #[], attributes := #[] }
def k10m0 : Method := { name := "<init>", desc := "()V", sig := { parameters := [], returnType := none }, accessFlags := 4, code := some k10c0 }
/-- java/lang/Record -/
def k10 : Class := { plain "java/lang/Record" (some 0) with
  accessFlags := 1057
  interfaces := #[]
  cf := some (fileOf pool10 7 #[] #[{ accessFlags := 4, nameIndex := 5, descriptorIndex := 6, attributes := #[] }] 1057 2 #[] #[])
  fields := #[]
  methods := #[k10m0]
  instanceTypes := #[]
  staticTypes := #[]
  resolved := Array.replicate 22 none
  statics := none }

def pool11 : Array CpInfo := pool [(1, .methodref 2 3), (0, .class_ 4), (0, .nameAndType 5 6), (0, u "java/lang/Record"), (0, u "<init>"), (0, u "()V"), (0, .fieldref 8 9), (0, .class_ 10), (0, .nameAndType 11 12), (0, u "com/example/unicopy/unicopy/UniqueValue"), (0, u "change"), (0, u "I"), (0, .fieldref 8 14), (0, .nameAndType 15 16), (0, u "index"), (0, u "Ljava/lang/String;"), (0, .fieldref 8 18), (0, .nameAndType 19 16), (0, u "value"), (0, .string 21), (0, u ""), (0, .methodref 8 23), (0, .nameAndType 5 24), (0, u "(ILjava/lang/String;Ljava/lang/String;)V"), (0, .methodref 26 27), (0, .class_ 28), (0, .nameAndType 29 30), (0, u "java/lang/String"), (0, u "isEmpty"), (0, u "()Z"), (41, u "unnamed"), (0, u "(ILjava/lang/String;)Lcom/example/unicopy/unicopy/UniqueValue;"), (0, u "named")] 41

def k11c0 : Code := { maxStack := 2, maxLocals := 4, code := prog_44_method_1_code, exceptionTable := #[], attributes := #[] }
def k11m0 : Method := { name := "<init>", desc := "(ILjava/lang/String;Ljava/lang/String;)V", sig := { parameters := [.int, (.object "java/lang/String"), (.object "java/lang/String")], returnType := none }, accessFlags := 0, code := some k11c0 }
def k11c1 : Code := { maxStack := 5, maxLocals := 2, code := prog_44_method_2_code, exceptionTable := #[], attributes := #[] }
def k11m1 : Method := { name := "unnamed", desc := "(ILjava/lang/String;)Lcom/example/unicopy/unicopy/UniqueValue;", sig := { parameters := [.int, (.object "java/lang/String")], returnType := some (.object "com/example/unicopy/unicopy/UniqueValue") }, accessFlags := 8, code := some k11c1 }
def k11c2 : Code := { maxStack := 1, maxLocals := 1, code := prog_44_method_3_code, exceptionTable := #[], attributes := #[] }
def k11m2 : Method := { name := "named", desc := "()Z", sig := { parameters := [], returnType := some .boolean }, accessFlags := 0, code := some k11c2 }
/-- com/example/unicopy/unicopy/UniqueValue -/
def k11 : Class := { plain "com/example/unicopy/unicopy/UniqueValue" (some 10) with
  accessFlags := 48
  interfaces := #[]
  cf := some (fileOf pool11 8 #[] #[{ accessFlags := 0, nameIndex := 5, descriptorIndex := 24, attributes := #[] }, { accessFlags := 8, nameIndex := 72, descriptorIndex := 73, attributes := #[] }, { accessFlags := 0, nameIndex := 74, descriptorIndex := 30, attributes := #[] }] 48 2 #[] #[{ accessFlags := 18, nameIndex := 11, descriptorIndex := 12, attributes := #[] }, { accessFlags := 18, nameIndex := 15, descriptorIndex := 16, attributes := #[] }, { accessFlags := 18, nameIndex := 19, descriptorIndex := 16, attributes := #[] }])
  fields := #[{ name := "change", type := .int, accessFlags := 18, slot := 0, constantValue := 0 }, { name := "index", type := (.object "java/lang/String"), accessFlags := 18, slot := 1, constantValue := 0 }, { name := "value", type := (.object "java/lang/String"), accessFlags := 18, slot := 2, constantValue := 0 }]
  methods := #[k11m0, k11m1, k11m2]
  instanceTypes := #[.int, (.object "java/lang/String"), (.object "java/lang/String")]
  staticTypes := #[]
  resolved := Array.replicate 116 none
  statics := none }

def pool12 : Array CpInfo := pool [(2, .class_ 4), (1, u "java/lang/Object"), (0, u "<init>"), (0, u "()V"), (17, .class_ 26), (1, u "jdk/internal/util/Preconditions"), (28, .class_ 56), (0, u "jdk/internal/util/Preconditions$4"), (57, .class_ 115), (0, u "jdk/internal/util/Preconditions$1"), (7, u "SIOOBE_FORMATTER"), (0, u "Ljava/util/function/BiFunction;"), (0, .class_ 126), (0, u "jdk/internal/util/Preconditions$2"), (3, u "AIOOBE_FORMATTER"), (0, .class_ 132), (0, u "jdk/internal/util/Preconditions$3"), (3, u "IOOBE_FORMATTER")] 57

def k12m0 : Method := { name := "<init>", desc := "()V", sig := { parameters := [], returnType := none }, accessFlags := 1, code := none }
/-- jdk/internal/util/Preconditions -/
def k12 : Class := { plain "jdk/internal/util/Preconditions" (some 0) with
  accessFlags := 33
  interfaces := #[]
  cf := some (fileOf pool12 24 #[.nestMembers #[55, 131, 125, 114]] #[{ accessFlags := 1, nameIndex := 5, descriptorIndex := 6, attributes := #[] }] 33 2 #[] #[{ accessFlags := 25, nameIndex := 123, descriptorIndex := 124, attributes := #[] }, { accessFlags := 25, nameIndex := 130, descriptorIndex := 124, attributes := #[] }, { accessFlags := 25, nameIndex := 136, descriptorIndex := 124, attributes := #[] }])
  fields := #[{ name := "SIOOBE_FORMATTER", type := (.object "java/util/function/BiFunction"), accessFlags := 25, slot := 0, constantValue := 0 }, { name := "AIOOBE_FORMATTER", type := (.object "java/util/function/BiFunction"), accessFlags := 25, slot := 1, constantValue := 0 }, { name := "IOOBE_FORMATTER", type := (.object "java/util/function/BiFunction"), accessFlags := 25, slot := 2, constantValue := 0 }]
  methods := #[k12m0]
  instanceTypes := #[]
  staticTypes := #[(.object "java/util/function/BiFunction"), (.object "java/util/function/BiFunction"), (.object "java/util/function/BiFunction")]
  resolved := Array.replicate 194 none
  statics := some 1 }

def pool13 : Array CpInfo := pool [(9, u "<init>"), (6, .class_ 18), (1, u "java/lang/Object"), (0, u "()V"), (1, .class_ 23), (1, u "jdk/internal/util/ArraysSupport"), (0, u "LOG2_ARRAY_LONG_INDEX_SCALE"), (0, u "I"), (2, u "U"), (0, u "Ljdk/internal/misc/Unsafe;"), (8, u "BIG_ENDIAN"), (0, u "Z"), (8, u "LOG2_BYTE_BIT_SIZE"), (4, u "LOG2_ARRAY_INT_INDEX_SCALE"), (54, u "JLA"), (0, u "Ljdk/internal/access/JavaLangAccess;"), (11, u "LOG2_ARRAY_BOOLEAN_INDEX_SCALE"), (9, u "LOG2_ARRAY_BYTE_INDEX_SCALE"), (5, u "LOG2_ARRAY_CHAR_INDEX_SCALE"), (5, u "LOG2_ARRAY_SHORT_INDEX_SCALE"), (18, u "LOG2_ARRAY_FLOAT_INDEX_SCALE"), (24, u "LOG2_ARRAY_DOUBLE_INDEX_SCALE"), (89, u "T_BOOLEAN"), (2, u "T_CHAR"), (1, u "T_FLOAT"), (1, u "T_DOUBLE"), (1, u "T_BYTE"), (1, u "T_SHORT"), (1, u "T_INT"), (1, u "T_LONG"), (1, u "SOFT_MAX_ARRAY_LENGTH")] 83

def k13m0 : Method := { name := "<init>", desc := "()V", sig := { parameters := [], returnType := none }, accessFlags := 2, code := none }
/-- jdk/internal/util/ArraysSupport -/
def k13 : Class := { plain "jdk/internal/util/ArraysSupport" (some 0) with
  accessFlags := 33
  interfaces := #[]
  cf := some (fileOf pool13 21 #[] #[{ accessFlags := 2, nameIndex := 9, descriptorIndex := 19, attributes := #[] }] 33 16 #[] #[{ accessFlags := 24, nameIndex := 28, descriptorIndex := 29, attributes := #[] }, { accessFlags := 26, nameIndex := 38, descriptorIndex := 39, attributes := #[] }, { accessFlags := 25, nameIndex := 121, descriptorIndex := 25, attributes := #[] }, { accessFlags := 25, nameIndex := 131, descriptorIndex := 25, attributes := #[] }, { accessFlags := 25, nameIndex := 137, descriptorIndex := 25, attributes := #[] }, { accessFlags := 25, nameIndex := 143, descriptorIndex := 25, attributes := #[] }, { accessFlags := 25, nameIndex := 53, descriptorIndex := 25, attributes := #[] }, { accessFlags := 25, nameIndex := 24, descriptorIndex := 25, attributes := #[] }, { accessFlags := 25, nameIndex := 162, descriptorIndex := 25, attributes := #[] }, { accessFlags := 25, nameIndex := 187, descriptorIndex := 25, attributes := #[] }, { accessFlags := 26, nameIndex := 48, descriptorIndex := 25, attributes := #[] }, { accessFlags := 25, nameIndex := 277, descriptorIndex := 25, attributes := #[] }, { accessFlags := 25, nameIndex := 280, descriptorIndex := 25, attributes := #[] }, { accessFlags := 25, nameIndex := 282, descriptorIndex := 25, attributes := #[] }, { accessFlags := 25, nameIndex := 284, descriptorIndex := 25, attributes := #[] }, { accessFlags := 25, nameIndex := 286, descriptorIndex := 25, attributes := #[] }, { accessFlags := 25, nameIndex := 288, descriptorIndex := 25, attributes := #[] }, { accessFlags := 25, nameIndex := 290, descriptorIndex := 25, attributes := #[] }, { accessFlags := 25, nameIndex := 292, descriptorIndex := 25, attributes := #[] }, { accessFlags := 26, nameIndex := 108, descriptorIndex := 109, attributes := #[] }, { accessFlags := 25, nameIndex := 294, descriptorIndex := 25, attributes := #[] }])
  fields := #[{ name := "U", type := (.object "jdk/internal/misc/Unsafe"), accessFlags := 24, slot := 0, constantValue := 0 }, { name := "BIG_ENDIAN", type := .boolean, accessFlags := 26, slot := 1, constantValue := 0 }, { name := "LOG2_ARRAY_BOOLEAN_INDEX_SCALE", type := .int, accessFlags := 25, slot := 2, constantValue := 0 }, { name := "LOG2_ARRAY_BYTE_INDEX_SCALE", type := .int, accessFlags := 25, slot := 3, constantValue := 0 }, { name := "LOG2_ARRAY_CHAR_INDEX_SCALE", type := .int, accessFlags := 25, slot := 4, constantValue := 0 }, { name := "LOG2_ARRAY_SHORT_INDEX_SCALE", type := .int, accessFlags := 25, slot := 5, constantValue := 0 }, { name := "LOG2_ARRAY_INT_INDEX_SCALE", type := .int, accessFlags := 25, slot := 6, constantValue := 0 }, { name := "LOG2_ARRAY_LONG_INDEX_SCALE", type := .int, accessFlags := 25, slot := 7, constantValue := 0 }, { name := "LOG2_ARRAY_FLOAT_INDEX_SCALE", type := .int, accessFlags := 25, slot := 8, constantValue := 0 }, { name := "LOG2_ARRAY_DOUBLE_INDEX_SCALE", type := .int, accessFlags := 25, slot := 9, constantValue := 0 }, { name := "LOG2_BYTE_BIT_SIZE", type := .int, accessFlags := 26, slot := 10, constantValue := 0 }, { name := "T_BOOLEAN", type := .int, accessFlags := 25, slot := 11, constantValue := 0 }, { name := "T_CHAR", type := .int, accessFlags := 25, slot := 12, constantValue := 0 }, { name := "T_FLOAT", type := .int, accessFlags := 25, slot := 13, constantValue := 0 }, { name := "T_DOUBLE", type := .int, accessFlags := 25, slot := 14, constantValue := 0 }, { name := "T_BYTE", type := .int, accessFlags := 25, slot := 15, constantValue := 0 }, { name := "T_SHORT", type := .int, accessFlags := 25, slot := 16, constantValue := 0 }, { name := "T_INT", type := .int, accessFlags := 25, slot := 17, constantValue := 0 }, { name := "T_LONG", type := .int, accessFlags := 25, slot := 18, constantValue := 0 }, { name := "JLA", type := (.object "jdk/internal/access/JavaLangAccess"), accessFlags := 26, slot := 19, constantValue := 0 }, { name := "SOFT_MAX_ARRAY_LENGTH", type := .int, accessFlags := 25, slot := 20, constantValue := 0 }]
  methods := #[k13m0]
  instanceTypes := #[]
  staticTypes := #[(.object "jdk/internal/misc/Unsafe"), .boolean, .int, .int, .int, .int, .int, .int, .int, .int, .int, .int, .int, .int, .int, .int, .int, .int, .int, (.object "jdk/internal/access/JavaLangAccess"), .int]
  resolved := Array.replicate 378 none
  statics := none }

def pool14 : Array CpInfo := pool [(1, u "java/lang/Cloneable"), (0, .class_ 1), (0, u "java/lang/Object"), (0, .class_ 3)] 3

/-- java/lang/Cloneable -/
def k14 : Class := { plain "java/lang/Cloneable" (some 0) with
  accessFlags := 1537
  interfaces := #[]
  cf := some (fileOf pool14 2 #[] #[] 1537 4 #[] #[])
  fields := #[]
  methods := #[]
  instanceTypes := #[]
  staticTypes := #[]
  resolved := Array.replicate 8 none
  statics := none }

/-- the primitive byte -/
def k15 : Class := { plain "byte" none with kind := .primitive 'B', accessFlags := 0x411 }
/-- [B -/
def k16 : Class := { plain "[B" (some 0) with kind := .array 15 .byte, interfaces := #[14, 2], accessFlags := 1041 }

/-- the primitive char -/
def k17 : Class := { plain "char" none with kind := .primitive 'C', accessFlags := 0x411 }
/-- [C -/
def k18 : Class := { plain "[C" (some 0) with kind := .array 17 .char, interfaces := #[14, 2], accessFlags := 1041 }

/-- the primitive int -/
def k19 : Class := { plain "int" none with kind := .primitive 'I', accessFlags := 0x411 }
/-- [I -/
def k20 : Class := { plain "[I" (some 0) with kind := .array 19 .int, interfaces := #[14, 2], accessFlags := 1041 }

def heap : Heap := #[{ cls := 7, slots := #[.long 0, .int 1, .null, .int 0, .null, .int 0, .int 0], vm := .statics 7 },
  { cls := 12, slots := #[.null, .null, .null], vm := .statics 12 }]
def classes : Array Class := #[k0, k1, k2, k3, k4, k5, k6, k7, k8, k9, k10, k11, k12, k13, k14, k15, k16, k17, k18, k19, k20]
def interned : List (Array UInt16 × Addr) := []
def slotsUsed : Nat := 10
def theMethod : MethodId := ⟨1, 1⟩
def args0 : Array Value := #[.int 5, .int 2, .int 65, .int 66, .int 67, .int 68]
def aboutOver (below : List Frame) : State where
  vm := { classes := classes, interned := interned.toArray }
  heap := heap
  slotsUsed := slotsUsed
  threads := #[{ frames := .invoking theMethod args0 :: below }]
def below0 : List Frame := [.native { method := ⟨0, 0⟩, args := #[] }]
def about1 : State := aboutOver below0
def p0 : Program := .bare "" "" ""
def e0 : Env := launch0.env 0 0 0
theorem w_frames : about1.frames = Frame.invoking theMethod args0 :: below0 := rfl
set_option maxRecDepth 65536 in
theorem w_args : argsFit about1.vm theMethod args0 = true := by decide +kernel
set_option maxRecDepth 65536 in
theorem w_heap : heapFits about1 = true := by decide +kernel
set_option maxRecDepth 65536 in
theorem w_runnable : about1.curStatus? = some .runnable := by decide +kernel
set_option maxRecDepth 65536 in
theorem w_alone : about1.alone = true := by decide +kernel
set_option maxRecDepth 65536 in
theorem w_named : about1.methodNamed? x = some theMethod := by decide +kernel
set_option maxRecDepth 65536 in
theorem w_hears : about1.hears theMethod below0 = true := by decide +kernel
set_option maxRecDepth 65536 in
theorem w_ripe : about1.ripe theMethod args0 below0 = true := by decide +kernel
theorem w_running : about1.status = .running := rfl
set_option maxRecDepth 65536 in
theorem w_room : about1.hasRoom e0.platform room_1 = true :=
  launch0.hasRoom_least _ room_1 (by decide +kernel) (by decide +kernel) (by decide +kernel) (by decide +kernel) (by decide +kernel) (by decide +kernel)
theorem allAtoms_all (ts : List Jvm.Cond) (a : Array Jvm.Value) (st : Jvm.State) : (allAtoms ts).before a st = ts.all (fun c => c.before a st) := by
  induction ts with
  | nil => rfl
  | cons c t ih =>
    show (Jvm.Cond.and c (allAtoms t)).before a st = _
    rw [Jvm.Cond.before_and, ih, List.all_cons]
def words1 : List Jvm.Cond := Jvm.Cond.code x code maxLocals ret :: tables_1
/-- a 'code' word, met by the world's own term for the bytes: nothing is compared byte by byte -/
theorem code_word {y : MethodName} {bytes : ByteArray} {mx : Nat} {rt : Option FieldType} {a : Array Value} {s : State} {m : MethodId} {meth : Method} {c : Code} (h1 : s.methodNamed? y = some m) (h2 : s.vm.method? m = some meth) (h3 : meth.code = some c) (h4 : c.code = bytes)
    (h5 : (c.maxLocals == mx && c.exceptionTable.isEmpty && decide (c.maxStack ≤ mostOperands) && decide (meth.sig.returnType = rt) && !meth.locks && decide (parseMethodDescriptor y.desc = some meth.sig)) = true) : (Jvm.Cond.code y bytes mx rt).before a s = true := by
  simp only [Bool.and_eq_true, beq_iff_eq, Bool.not_eq_true', decide_eq_true_eq] at h5
  obtain ⟨⟨⟨⟨⟨g1, g2⟩, g3⟩, g4⟩, g5⟩, g6⟩ := h5
  simp [Cond.before, Cond.holds, Cond.value, h1, h2, h3, h4, g1, g2, g3, g4, g5, g6]
def isCode : Jvm.Cond → Bool
  | .code _ _ _ _ => true
  | _ => false
theorem all_split {L : List Jvm.Cond} {P : Jvm.Cond → Bool} (h1 : L.all (fun c => isCode c || P c) = true) (h2 : ∀ c ∈ L.filter isCode, P c = true) : L.all P = true := by
  refine List.all_eq_true.mpr fun c hc => ?_
  have h := List.all_eq_true.mp h1 c hc
  rcases Bool.eq_false_or_eq_true (isCode c) with hi | hi
  · exact h2 c (List.mem_filter.mpr ⟨hc, hi⟩)
  · simpa [hi] using h
set_option maxRecDepth 65536 in
theorem w_c0 : (Jvm.Cond.code x code maxLocals ret).before args0 about1 = true := code_word (m := ⟨1, 1⟩) (meth := k1m1) (c := k1c1) (by decide +kernel) rfl rfl rfl (by decide +kernel)
set_option maxRecDepth 65536 in
theorem w_c1 : (Jvm.Cond.code ({ cls := "java/lang/String", name := "<init>", desc := "([C)V" } : Jvm.MethodName) jdk_42_method_3_code (2 : Nat) (Option.none : Option Jvm.ClassFile.FieldType)).before args0 about1 = true := code_word (m := ⟨7, 1⟩) (meth := k7m1) (c := k7c1) (by decide +kernel) rfl rfl rfl (by decide +kernel)
set_option maxRecDepth 65536 in
theorem w_c2 : (Jvm.Cond.code ({ cls := "java/lang/String", name := "<init>", desc := "([CIILjava/lang/Void;)V" } : Jvm.MethodName) jdk_42_method_149_code (6 : Nat) (Option.none : Option Jvm.ClassFile.FieldType)).before args0 about1 = true := code_word (m := ⟨7, 4⟩) (meth := k7m4) (c := k7c4) (by decide +kernel) rfl rfl rfl (by decide +kernel)
set_option maxRecDepth 65536 in
theorem w_c3 : (Jvm.Cond.code ({ cls := "java/lang/Object", name := "<init>", desc := "()V" } : Jvm.MethodName) object_method_1_code (1 : Nat) (Option.none : Option Jvm.ClassFile.FieldType)).before args0 about1 = true := code_word (m := ⟨0, 0⟩) (meth := k0m0) (c := k0c0) (by decide +kernel) rfl rfl rfl (by decide +kernel)
set_option maxRecDepth 65536 in
theorem w_c4 : (Jvm.Cond.code ({ cls := "java/lang/StringUTF16", name := "compress", desc := "([CII)[B" } : Jvm.MethodName) jdk_52_method_16_code (6 : Nat) (Option.some (Jvm.ClassFile.FieldType.array Jvm.ClassFile.FieldType.byte))).before args0 about1 = true := code_word (m := ⟨8, 2⟩) (meth := k8m2) (c := k8c2) (by decide +kernel) rfl rfl rfl (by decide +kernel)
set_option maxRecDepth 65536 in
theorem w_c5 : (Jvm.Cond.code ({ cls := "java/lang/StringUTF16", name := "compress", desc := "([CI[BII)I" } : Jvm.MethodName) jdk_52_method_21_code (7 : Nat) (Option.some Jvm.ClassFile.FieldType.int)).before args0 about1 = true := code_word (m := ⟨8, 3⟩) (meth := k8m3) (c := k8c3) (by decide +kernel) rfl rfl rfl (by decide +kernel)
set_option maxRecDepth 65536 in
theorem w_c6 : (Jvm.Cond.code ({ cls := "java/lang/StringUTF16", name := "coderFromArrayLen", desc := "([BI)B" } : Jvm.MethodName) jdk_52_method_15_code (2 : Nat) (Option.some Jvm.ClassFile.FieldType.byte)).before args0 about1 = true := code_word (m := ⟨8, 1⟩) (meth := k8m1) (c := k8c1) (by decide +kernel) rfl rfl rfl (by decide +kernel)
set_option maxRecDepth 65536 in
theorem w_c7 : (Jvm.Cond.code ({ cls := "java/lang/String", name := "valueOf", desc := "(C)Ljava/lang/String;" } : Jvm.MethodName) jdk_42_method_139_code (1 : Nat) (Option.some (Jvm.ClassFile.FieldType.object "java/lang/String"))).before args0 about1 = true := code_word (m := ⟨7, 3⟩) (meth := k7m3) (c := k7c3) (by decide +kernel) rfl rfl rfl (by decide +kernel)
set_option maxRecDepth 65536 in
theorem w_c8 : (Jvm.Cond.code ({ cls := "java/lang/StringLatin1", name := "canEncode", desc := "(C)Z" } : Jvm.MethodName) jdk_43_method_3_code (1 : Nat) (Option.some Jvm.ClassFile.FieldType.boolean)).before args0 about1 = true := code_word (m := ⟨9, 1⟩) (meth := k9m1) (c := k9c1) (by decide +kernel) rfl rfl rfl (by decide +kernel)
set_option maxRecDepth 65536 in
theorem w_c9 : (Jvm.Cond.code ({ cls := "java/lang/StringLatin1", name := "toBytes", desc := "(C)[B" } : Jvm.MethodName) jdk_43_method_46_code (1 : Nat) (Option.some (Jvm.ClassFile.FieldType.array Jvm.ClassFile.FieldType.byte))).before args0 about1 = true := code_word (m := ⟨9, 2⟩) (meth := k9m2) (c := k9c2) (by decide +kernel) rfl rfl rfl (by decide +kernel)
set_option maxRecDepth 65536 in
theorem w_c10 : (Jvm.Cond.code ({ cls := "java/lang/String", name := "<init>", desc := "([BB)V" } : Jvm.MethodName) jdk_42_method_151_code (3 : Nat) (Option.none : Option Jvm.ClassFile.FieldType)).before args0 about1 = true := code_word (m := ⟨7, 5⟩) (meth := k7m5) (c := k7c5) (by decide +kernel) rfl rfl rfl (by decide +kernel)
set_option maxRecDepth 65536 in
theorem w_c11 : (Jvm.Cond.code ({ cls := "com/example/unicopy/unicopy/UniqueValue", name := "<init>", desc := "(ILjava/lang/String;Ljava/lang/String;)V" } : Jvm.MethodName) prog_44_method_1_code (4 : Nat) (Option.none : Option Jvm.ClassFile.FieldType)).before args0 about1 = true := code_word (m := ⟨11, 0⟩) (meth := k11m0) (c := k11c0) (by decide +kernel) rfl rfl rfl (by decide +kernel)
set_option maxRecDepth 65536 in
theorem w_c12 : (Jvm.Cond.code ({ cls := "java/lang/Record", name := "<init>", desc := "()V" } : Jvm.MethodName) jdk_30_method_1_code (1 : Nat) (Option.none : Option Jvm.ClassFile.FieldType)).before args0 about1 = true := code_word (m := ⟨10, 0⟩) (meth := k10m0) (c := k10c0) (by decide +kernel) rfl rfl rfl (by decide +kernel)
set_option maxRecDepth 65536 in
theorem w_c13 : (Jvm.Cond.code ({ cls := "com/example/unicopy/unicopy/UniqueValue", name := "named", desc := "()Z" } : Jvm.MethodName) prog_44_method_3_code (1 : Nat) (Option.some Jvm.ClassFile.FieldType.boolean)).before args0 about1 = true := code_word (m := ⟨11, 2⟩) (meth := k11m2) (c := k11c2) (by decide +kernel) rfl rfl rfl (by decide +kernel)
set_option maxRecDepth 65536 in
theorem w_c14 : (Jvm.Cond.code ({ cls := "java/lang/String", name := "isEmpty", desc := "()Z" } : Jvm.MethodName) jdk_42_method_55_code (1 : Nat) (Option.some Jvm.ClassFile.FieldType.boolean)).before args0 about1 = true := code_word (m := ⟨7, 2⟩) (meth := k7m2) (c := k7c2) (by decide +kernel) rfl rfl rfl (by decide +kernel)
set_option maxRecDepth 65536 in
theorem w_c15 : (Jvm.Cond.code ({ cls := "com/example/unicopy/unicopy/UniqueValue", name := "unnamed", desc := "(ILjava/lang/String;)Lcom/example/unicopy/unicopy/UniqueValue;" } : Jvm.MethodName) prog_44_method_2_code (2 : Nat) (Option.some (Jvm.ClassFile.FieldType.object "com/example/unicopy/unicopy/UniqueValue"))).before args0 about1 = true := code_word (m := ⟨11, 1⟩) (meth := k11m1) (c := k11c1) (by decide +kernel) rfl rfl rfl (by decide +kernel)
def codes1 : List Jvm.Cond := [Jvm.Cond.code x code maxLocals ret, Jvm.Cond.code ({ cls := "java/lang/String", name := "<init>", desc := "([C)V" } : Jvm.MethodName) jdk_42_method_3_code (2 : Nat) (Option.none : Option Jvm.ClassFile.FieldType), Jvm.Cond.code ({ cls := "java/lang/String", name := "<init>", desc := "([CIILjava/lang/Void;)V" } : Jvm.MethodName) jdk_42_method_149_code (6 : Nat) (Option.none : Option Jvm.ClassFile.FieldType), Jvm.Cond.code ({ cls := "java/lang/Object", name := "<init>", desc := "()V" } : Jvm.MethodName) object_method_1_code (1 : Nat) (Option.none : Option Jvm.ClassFile.FieldType), Jvm.Cond.code ({ cls := "java/lang/StringUTF16", name := "compress", desc := "([CII)[B" } : Jvm.MethodName) jdk_52_method_16_code (6 : Nat) (Option.some (Jvm.ClassFile.FieldType.array Jvm.ClassFile.FieldType.byte)), Jvm.Cond.code ({ cls := "java/lang/StringUTF16", name := "compress", desc := "([CI[BII)I" } : Jvm.MethodName) jdk_52_method_21_code (7 : Nat) (Option.some Jvm.ClassFile.FieldType.int), Jvm.Cond.code ({ cls := "java/lang/StringUTF16", name := "coderFromArrayLen", desc := "([BI)B" } : Jvm.MethodName) jdk_52_method_15_code (2 : Nat) (Option.some Jvm.ClassFile.FieldType.byte), Jvm.Cond.code ({ cls := "java/lang/String", name := "valueOf", desc := "(C)Ljava/lang/String;" } : Jvm.MethodName) jdk_42_method_139_code (1 : Nat) (Option.some (Jvm.ClassFile.FieldType.object "java/lang/String")), Jvm.Cond.code ({ cls := "java/lang/StringLatin1", name := "canEncode", desc := "(C)Z" } : Jvm.MethodName) jdk_43_method_3_code (1 : Nat) (Option.some Jvm.ClassFile.FieldType.boolean), Jvm.Cond.code ({ cls := "java/lang/StringLatin1", name := "toBytes", desc := "(C)[B" } : Jvm.MethodName) jdk_43_method_46_code (1 : Nat) (Option.some (Jvm.ClassFile.FieldType.array Jvm.ClassFile.FieldType.byte)), Jvm.Cond.code ({ cls := "java/lang/String", name := "<init>", desc := "([BB)V" } : Jvm.MethodName) jdk_42_method_151_code (3 : Nat) (Option.none : Option Jvm.ClassFile.FieldType), Jvm.Cond.code ({ cls := "com/example/unicopy/unicopy/UniqueValue", name := "<init>", desc := "(ILjava/lang/String;Ljava/lang/String;)V" } : Jvm.MethodName) prog_44_method_1_code (4 : Nat) (Option.none : Option Jvm.ClassFile.FieldType), Jvm.Cond.code ({ cls := "java/lang/Record", name := "<init>", desc := "()V" } : Jvm.MethodName) jdk_30_method_1_code (1 : Nat) (Option.none : Option Jvm.ClassFile.FieldType), Jvm.Cond.code ({ cls := "com/example/unicopy/unicopy/UniqueValue", name := "named", desc := "()Z" } : Jvm.MethodName) prog_44_method_3_code (1 : Nat) (Option.some Jvm.ClassFile.FieldType.boolean), Jvm.Cond.code ({ cls := "java/lang/String", name := "isEmpty", desc := "()Z" } : Jvm.MethodName) jdk_42_method_55_code (1 : Nat) (Option.some Jvm.ClassFile.FieldType.boolean), Jvm.Cond.code ({ cls := "com/example/unicopy/unicopy/UniqueValue", name := "unnamed", desc := "(ILjava/lang/String;)Lcom/example/unicopy/unicopy/UniqueValue;" } : Jvm.MethodName) prog_44_method_2_code (2 : Nat) (Option.some (Jvm.ClassFile.FieldType.object "com/example/unicopy/unicopy/UniqueValue"))]
set_option maxRecDepth 65536 in
theorem codes_eq : words1.filter isCode = codes1 := rfl
theorem w_codes : ∀ c ∈ words1.filter isCode, c.before args0 about1 = true := by
  rw [codes_eq]
  intro c hc
  simp only [codes1, List.mem_cons, List.not_mem_nil, or_false] at hc
  rcases hc with rfl | rfl | rfl | rfl | rfl | rfl | rfl | rfl | rfl | rfl | rfl | rfl | rfl | rfl | rfl | rfl
  · exact w_c0
  · exact w_c1
  · exact w_c2
  · exact w_c3
  · exact w_c4
  · exact w_c5
  · exact w_c6
  · exact w_c7
  · exact w_c8
  · exact w_c9
  · exact w_c10
  · exact w_c11
  · exact w_c12
  · exact w_c13
  · exact w_c14
  · exact w_c15
set_option maxRecDepth 65536 in
theorem w_t1 : (words1.take 24).all (fun c => isCode c || c.before args0 about1) = true := by decide +kernel
set_option maxRecDepth 65536 in
theorem w_t2 : ((words1.drop 24).take 24).all (fun c => isCode c || c.before args0 about1) = true := by decide +kernel
set_option maxRecDepth 65536 in
theorem w_t3 : (((words1.drop 24).drop 24).take 24).all (fun c => isCode c || c.before args0 about1) = true := by decide +kernel
set_option maxRecDepth 65536 in
theorem w_t4 : (((words1.drop 24).drop 24).drop 24).all (fun c => isCode c || c.before args0 about1) = true := by decide +kernel
theorem w_tables : (allAtoms (Jvm.Cond.code x code maxLocals ret :: tables_1)).before args0 about1 = true := by
  rw [allAtoms_all]
  show words1.all (fun c => c.before args0 about1) = true
  refine all_split ?_ w_codes
  rw [← List.take_append_drop 24 words1, List.all_append, w_t1, ← List.take_append_drop 24 (words1.drop 24), List.all_append, w_t2, ← List.take_append_drop 24 ((words1.drop 24).drop 24), List.all_append, w_t3, w_t4]
  rfl
set_option maxRecDepth 65536 in
theorem w_rest : rest_1_c.before args0 about1 = true := by decide +kernel
set_option maxRecDepth 65536 in
theorem w_case : (Jvm.Cond.and given_1 narrow_1).before args0 about1 = true := by decide +kernel
set_option maxRecDepth 65536 in
theorem w_consts : constsHeld consts_1 about1 := Jvm.Lit.constsHeldB_iff.mp (by decide +kernel)
theorem w_applies : (headSpec (Jvm.Cond.code x code maxLocals ret :: tables_1) room_1).applies x e0.platform about1 = true :=
  (Spec.applies_iff w_frames).mpr ⟨w_running, w_runnable, w_alone, w_named, w_hears, w_ripe, w_room, w_tables⟩
theorem atStart : AtStart classFile x code maxLocals ret World_1 tables_1 room_1 Calls_1 rest_1 Pre_1 launch0 p0 e0 about1 theMethod args0 below0 :=
  ⟨lists_1, trivial, launch0.admits_env _ _ _, launch0.least_env, fairChoices_fair.cas, fairChoices_fair.clock, w_frames, w_args, w_heap, w_applies, ⟨w_consts, trivial⟩, w_rest, w_case⟩
end start1
theorem witness_1 : WitnessClaimed_1 := ⟨start1.p0, start1.e0, start1.about1, start1.theMethod, start1.args0, start1.below0, start1.atStart⟩
end Jvm.Pilot.@@N@@
