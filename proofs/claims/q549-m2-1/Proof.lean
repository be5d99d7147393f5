import JvmDerived
import JvmDerived.Pilot.@@N@@Statement
import JvmDerived.Pilot.@@N@@Code
set_option linter.unusedVariables false
set_option linter.unusedSimpArgs false
namespace Jvm.RoadKit
open Sem ClassFile Op Lib Jvm.Stand Jvm.Free Jvm.LawKit
section New
variable {p : Program} {l : Launch} {e : Env} {R : Room} {s : State} {m : MethodId} {args : Array Value} {below : List Frame} {meth : Method} {c : Code} {T : State} {locs : List Loc} {cells slots : Nat}
theorem retI (X : Stand p l e R s m args below meth c T locs cells slots) (hx : p.tables.exec = Jvm.exec) {pc : Nat} {Ls : Array Slot} {z : Int32} {rest : List Value} (hret : meth.sig.returnType = some .int) (hd : decode c.code pc = .ok (.ireturn, 1)) {fs : List Frame}
    (hl : ∀ (f : JFrame) (acts : List Action), f.method = m → f.locked = none → f.entered = [] → (doReturn e (T.setTop f) acts (some (.int z))).1 = T.setFrames fs) : Steps p.tables e below (T.setTop (mkF m pc Ls (.int z :: rest))) (T.setFrames fs) := by
  have hm' : T.vm.method? m = some meth := X.method'
  have hn : narrow .int (.int z) = .int z := rfl
  show Steps p.tables e below (T.setTop { method := m, pc := pc, locals := Ls, stack := _ :: rest, locked := none }) _
  jvm_step X.here [X.here.top, hx, hd, hm', hret, hn]
  first | (intro acts; rw [hl _ acts rfl rfl rfl]) | rw [hl _ _ rfl rfl rfl]
  exact Steps.refl _
theorem retJ (X : Stand p l e R s m args below meth c T locs cells slots) (hx : p.tables.exec = Jvm.exec) {pc : Nat} {Ls : Array Slot} {z : Int64} {rest : List Value} (hret : meth.sig.returnType = some .long) (hd : decode c.code pc = .ok (.lreturn, 1)) {fs : List Frame}
    (hl : ∀ (f : JFrame) (acts : List Action), f.method = m → f.locked = none → f.entered = [] → (doReturn e (T.setTop f) acts (some (.long z))).1 = T.setFrames fs) : Steps p.tables e below (T.setTop (mkF m pc Ls (.long z :: rest))) (T.setFrames fs) := by
  have hm' : T.vm.method? m = some meth := X.method'
  have hn : narrow .long (.long z) = .long z := rfl
  show Steps p.tables e below (T.setTop { method := m, pc := pc, locals := Ls, stack := _ :: rest, locked := none }) _
  jvm_step X.here [X.here.top, hx, hd, hm', hret, hn]
  first | (intro acts; rw [hl _ acts rfl rfl rfl]) | rw [hl _ _ rfl rfl rfl]
  exact Steps.refl _
theorem retR (X : Stand p l e R s m args below meth c T locs cells slots) (hx : p.tables.exec = Jvm.exec) {pc : Nat} {Ls : Array Slot} {v : Value} {rest : List Value} (hv : v.isRef = true) {ty : FieldType} (hret : meth.sig.returnType = some ty) (ht : ty.isReference = true) (hd : decode c.code pc = .ok (.areturn, 1)) {fs : List Frame}
    (hl : ∀ (f : JFrame) (acts : List Action), f.method = m → f.locked = none → f.entered = [] → (doReturn e (T.setTop f) acts (some v)).1 = T.setFrames fs) : Steps p.tables e below (T.setTop (mkF m pc Ls (v :: rest))) (T.setFrames fs) := by
  have hm' : T.vm.method? m = some meth := X.method'
  show Steps p.tables e below (T.setTop { method := m, pc := pc, locals := Ls, stack := _ :: rest, locked := none }) _
  jvm_step X.here [X.here.top, hx, hd, hm', hret, hv, ht]
  first | (intro acts; rw [hl _ acts rfl rfl rfl]) | rw [hl _ _ rfl rfl rfl]
  exact Steps.refl _
end New
end Jvm.RoadKit
namespace Jvm.Pilot.@@N@@
open Jvm Jvm.ClassFile Sem Op Lib Jvm.Free Jvm.Stand Jvm.LawKit Jvm.RoadKit Bundle Jvm.Pilot.@@N@@.Jvm.D
/-- from the state 'cur' on is enough -/
def own_Pre (p : Program) (e : Env) (below : List Frame) (start cur : State) : Prop := ∀ t, Steps p.tables e below cur t → Steps p.tables e below start t
/-- an array of ints (bytes, chars, booleans): its length z, its components ws (at least so many) -/
def own_AI (Z : State) (h : Heap) (a : Addr) (k : ClassId) (ty : FieldType) (z : Int32) (ws : List Int32) : Prop := Arv Z h a k ty z (ws.map Value.int) (.int 0) ∧ z.toNatClampNeg ≤ ws.length
def own_AJ (Z : State) (h : Heap) (a : Addr) (k : ClassId) (ty : FieldType) (z : Int32) (ws : List Int64) : Prop := Arv Z h a k ty z (ws.map Value.long) (.long 0) ∧ z.toNatClampNeg ≤ ws.length
section OwnA
variable {Z : State} {h h' : Heap} {a b : Addr} {k : ClassId} {ty : FieldType} {z : Int32} {ws : List Int32} {wl : List Int64} {sl : Nat} {v : Value} {L : List Addr}
theorem own_AI.lt (F : own_AI Z h a k ty z ws) : a < h.size := Arv.lt F.1
theorem own_AI.ext (F : own_AI Z h a k ty z ws) (E : Ext h h') : own_AI Z h' a k ty z ws := ⟨Arv.ext F.1 E, F.2⟩
theorem own_AI.other (F : own_AI Z h b k ty z ws) (W : Wr h h' a sl v) (q : b ≠ a) : own_AI Z h' b k ty z ws := ⟨Arv.other F.1 W q, F.2⟩
theorem own_AI.keep (F : own_AI Z h a k ty z ws) (K : Keep h h' L) (q : a ∉ L) : own_AI Z h' a k ty z ws := ⟨Arv.keep F.1 K q, F.2⟩
theorem own_AJ.lt (F : own_AJ Z h a k ty z wl) : a < h.size := Arv.lt F.1
theorem own_AJ.ext (F : own_AJ Z h a k ty z wl) (E : Ext h h') : own_AJ Z h' a k ty z wl := ⟨Arv.ext F.1 E, F.2⟩
theorem own_AJ.other (F : own_AJ Z h b k ty z wl) (W : Wr h h' a sl v) (q : b ≠ a) : own_AJ Z h' b k ty z wl := ⟨Arv.other F.1 W q, F.2⟩
theorem own_AJ.keep (F : own_AJ Z h a k ty z wl) (K : Keep h h' L) (q : a ∉ L) : own_AJ Z h' a k ty z wl := ⟨Arv.keep F.1 K q, F.2⟩
theorem own_AI.new (n : Nat) (A : Arr Z h a (newA k ty z) ty) (q : ¬ z < 0) (hn : z.toNatClampNeg ≤ n) (hd : defaultValue ty = .int 0) : own_AI Z h a k ty z (List.replicate n (0 : Int32)) := by
  have := Arv.new A q
  rw [hd] at this
  have r := this.pad (pad_rep [] (.int 0) n)
  exact ⟨by simpa [List.map_replicate] using r, by simpa using hn⟩
theorem own_AJ.new (n : Nat) (A : Arr Z h a (newA k ty z) ty) (q : ¬ z < 0) (hn : z.toNatClampNeg ≤ n) (hd : defaultValue ty = .long 0) : own_AJ Z h a k ty z (List.replicate n (0 : Int64)) := by
  have := Arv.new A q
  rw [hd] at this
  have r := this.pad (pad_rep [] (.long 0) n)
  exact ⟨by simpa [List.map_replicate] using r, by simpa using hn⟩
theorem own_getI (ws : List Int32) (i : Nat) : (ws.map Value.int).getD i (.int 0) = .int (ws.getD i 0) := by
  simp only [List.getD_eq_getElem?_getD, List.getElem?_map]
  cases ws[i]? <;> rfl
theorem own_getJ (ws : List Int64) (i : Nat) : (ws.map Value.long).getD i (.long 0) = .long (ws.getD i 0) := by
  simp only [List.getD_eq_getElem?_getD, List.getElem?_map]
  cases ws[i]? <;> rfl
theorem own_AI.at (F : own_AI Z h a k ty z ws) {j : Int32} (q : ¬ j < 0 ∧ j < z) : ∃ cl : Cell, Arr Z h a cl ty ∧ ¬ (j < 0 ∨ cl.slots.size ≤ j.toNatClampNeg) ∧ cl.slots[j.toNatClampNeg]? = some (.int (ws.getD j.toNatClampNeg 0)) := by
  obtain ⟨⟨cl, A, -, S, -, H, -⟩, -⟩ := F
  have hin := inb_of S q
  exact ⟨cl, A, hin, H.at hin (own_getI _ _)⟩
theorem own_AJ.at (F : own_AJ Z h a k ty z wl) {j : Int32} (q : ¬ j < 0 ∧ j < z) : ∃ cl : Cell, Arr Z h a cl ty ∧ ¬ (j < 0 ∨ cl.slots.size ≤ j.toNatClampNeg) ∧ cl.slots[j.toNatClampNeg]? = some (.long (wl.getD j.toNatClampNeg 0)) := by
  obtain ⟨⟨cl, A, -, S, -, H, -⟩, -⟩ := F
  have hin := inb_of S q
  exact ⟨cl, A, hin, H.at hin (own_getJ _ _)⟩
theorem own_AI.arr (F : own_AI Z h a k ty z ws) {j : Int32} (q : ¬ j < 0 ∧ j < z) : ∃ cl : Cell, Arr Z h a cl ty ∧ ¬ (j < 0 ∨ cl.slots.size ≤ j.toNatClampNeg) ∧ ∀ (h' : Heap) (x : Int32), fits ty (.int x) = true → Wr h h' a j.toNatClampNeg (.int x) → own_AI Z h' a k ty z (ws.set j.toNatClampNeg x) := by
  obtain ⟨⟨cl, A, q1, S, q3, H, G⟩, ln⟩ := F
  have hin := inb_of S q
  refine ⟨cl, A, hin, fun h' x hv W => ?_⟩
  have hl : j.toNatClampNeg < ws.length := by
    rcases Nat.lt_or_ge j.toNatClampNeg ws.length with u | u
    · exact u
    · exact absurd (Or.inr (by omega)) hin
  have := Arv.set A q1 S q3 H G hv W _ rfl (by simpa using hl)
  rw [← List.map_set] at this
  exact ⟨this, by simpa using ln⟩
theorem own_AJ.arr (F : own_AJ Z h a k ty z wl) {j : Int32} (q : ¬ j < 0 ∧ j < z) : ∃ cl : Cell, Arr Z h a cl ty ∧ ¬ (j < 0 ∨ cl.slots.size ≤ j.toNatClampNeg) ∧ ∀ (h' : Heap) (x : Int64), fits ty (.long x) = true → Wr h h' a j.toNatClampNeg (.long x) → own_AJ Z h' a k ty z (wl.set j.toNatClampNeg x) := by
  obtain ⟨⟨cl, A, q1, S, q3, H, G⟩, ln⟩ := F
  have hin := inb_of S q
  refine ⟨cl, A, hin, fun h' x hv W => ?_⟩
  have hl : j.toNatClampNeg < wl.length := by
    rcases Nat.lt_or_ge j.toNatClampNeg wl.length with u | u
    · exact u
    · exact absurd (Or.inr (by omega)) hin
  have := Arv.set A q1 S q3 H G hv W _ rfl (by simpa using hl)
  rw [← List.map_set] at this
  exact ⟨this, by simpa using ln⟩
theorem own_AI.len (F : own_AI Z h a k ty z ws) : ∃ cl : Cell, Arr Z h a cl ty ∧ cl.slots.size = z.toNatClampNeg ∧ ¬ z < 0 := by
  obtain ⟨⟨cl, A, -, S, q3, -, -⟩, -⟩ := F
  exact ⟨cl, A, S, q3⟩
theorem own_AJ.len (F : own_AJ Z h a k ty z wl) : ∃ cl : Cell, Arr Z h a cl ty ∧ cl.slots.size = z.toNatClampNeg ∧ ¬ z < 0 := by
  obtain ⟨⟨cl, A, -, S, q3, -, -⟩, -⟩ := F
  exact ⟨cl, A, S, q3⟩
end OwnA
/-- a private method selects itself, where another method of its class is known to be no interface's -/
theorem own_selp {s : State} {args : Array Value} {y z : MethodName} (hz : (Cond.selects z.cls z z).before args s = true) (hc : z.cls = y.cls) (hpriv : s.PrivateAt y) (hinst : (Cond.instanceMethod y).before args s = true) (hy : y.cls ≠ "java/lang/invoke/MethodHandle" ∧ y.cls ≠ "java/lang/invoke/VarHandle") : (Cond.selects y.cls y y).before args s = true := by
  obtain ⟨c2, r2, m2, -, -, q3, -, kP, hkP, hkPi⟩ := Cond.selects_spec hz
  have hf := findClass_of_methodNamed q3
  rw [hc] at hf
  exact selects_self_of_private hf hkP hkPi hpriv hinst hy
/-- what holds of every byte -/
theorem own_bytes {P : Int32 → Prop} (H : ∀ i : Fin 256, P (Int32.ofInt ((i.1 : Int) - 128))) (x : Int32) : P x.toInt8.toInt32 := by
  obtain ⟨-, h1, h2⟩ := c_i2b x
  have e : x.toInt8.toInt32 = Int32.ofInt (((⟨(x.toInt8.toInt32.toInt + 128).toNat, by omega⟩ : Fin 256).1 : Int) - 128) := by
    apply Int32.toInt_inj.mp
    show _ = (Int32.ofInt (((x.toInt8.toInt32.toInt + 128).toNat : Int) - 128)).toInt
    rw [Int32.toInt_ofInt_of_le (by omega) (by omega)]
    omega
  rw [e]
  exact H _


theorem d1_0 : decode method_2_code 0 = .ok (.iload_n 0, 1) := by decide +kernel
theorem d1_1 : decode method_2_code 1 = .ok (.ifCond .ne 7, 3) := by decide +kernel
theorem d1_4 : decode method_2_code 4 = .ok (.getstatic 7, 3) := by decide +kernel
theorem d1_7 : decode method_2_code 7 = .ok (.areturn, 1) := by decide +kernel
theorem d1_8 : decode method_2_code 8 = .ok (.iload_n 0, 1) := by decide +kernel
theorem d1_9 : decode method_2_code 9 = .ok (.iconst 1, 1) := by decide +kernel
theorem d1_10 : decode method_2_code 10 = .ok (.if_icmp .ne 7, 3) := by decide +kernel
theorem d1_13 : decode method_2_code 13 = .ok (.getstatic 13, 3) := by decide +kernel
theorem d1_16 : decode method_2_code 16 = .ok (.areturn, 1) := by decide +kernel
theorem d1_17 : decode method_2_code 17 = .ok (.iload_n 0, 1) := by decide +kernel
theorem d1_18 : decode method_2_code 18 = .ok (.iconst 2, 1) := by decide +kernel
theorem d1_19 : decode method_2_code 19 = .ok (.if_icmp .ne 7, 3) := by decide +kernel
theorem d1_22 : decode method_2_code 22 = .ok (.getstatic 16, 3) := by decide +kernel
theorem d1_25 : decode method_2_code 25 = .ok (.areturn, 1) := by decide +kernel
theorem d1_26 : decode method_2_code 26 = .ok (.iload_n 0, 1) := by decide +kernel
theorem d1_27 : decode method_2_code 27 = .ok (.iconst 3, 1) := by decide +kernel
theorem d1_28 : decode method_2_code 28 = .ok (.if_icmp .ne 7, 3) := by decide +kernel
theorem d1_31 : decode method_2_code 31 = .ok (.getstatic 19, 3) := by decide +kernel
theorem d1_34 : decode method_2_code 34 = .ok (.areturn, 1) := by decide +kernel
theorem d1_35 : decode method_2_code 35 = .ok (.iload_n 0, 1) := by decide +kernel
theorem d1_36 : decode method_2_code 36 = .ok (.iconst 4, 1) := by decide +kernel
theorem d1_37 : decode method_2_code 37 = .ok (.if_icmp .ne 7, 3) := by decide +kernel
theorem d1_40 : decode method_2_code 40 = .ok (.getstatic 22, 3) := by decide +kernel
theorem d1_43 : decode method_2_code 43 = .ok (.areturn, 1) := by decide +kernel
theorem d1_44 : decode method_2_code 44 = .ok (.iload_n 0, 1) := by decide +kernel
theorem d1_45 : decode method_2_code 45 = .ok (.iconst 5, 1) := by decide +kernel
theorem d1_46 : decode method_2_code 46 = .ok (.if_icmp .ne 7, 3) := by decide +kernel
theorem d1_49 : decode method_2_code 49 = .ok (.getstatic 25, 3) := by decide +kernel
theorem d1_52 : decode method_2_code 52 = .ok (.areturn, 1) := by decide +kernel
theorem d1_53 : decode method_2_code 53 = .ok (.iload_n 0, 1) := by decide +kernel
theorem d1_54 : decode method_2_code 54 = .ok (.bipush 6, 2) := by decide +kernel
theorem d1_56 : decode method_2_code 56 = .ok (.if_icmp .ne 7, 3) := by decide +kernel
theorem d1_59 : decode method_2_code 59 = .ok (.getstatic 28, 3) := by decide +kernel
theorem d1_62 : decode method_2_code 62 = .ok (.areturn, 1) := by decide +kernel
theorem d1_63 : decode method_2_code 63 = .ok (.iload_n 0, 1) := by decide +kernel
theorem d1_64 : decode method_2_code 64 = .ok (.bipush 7, 2) := by decide +kernel
theorem d1_66 : decode method_2_code 66 = .ok (.if_icmp .ne 7, 3) := by decide +kernel
theorem d1_69 : decode method_2_code 69 = .ok (.getstatic 31, 3) := by decide +kernel
theorem d1_72 : decode method_2_code 72 = .ok (.areturn, 1) := by decide +kernel
theorem d1_73 : decode method_2_code 73 = .ok (.iload_n 0, 1) := by decide +kernel
theorem d1_74 : decode method_2_code 74 = .ok (.bipush 8, 2) := by decide +kernel
theorem d1_76 : decode method_2_code 76 = .ok (.if_icmp .ne 7, 3) := by decide +kernel
theorem d1_79 : decode method_2_code 79 = .ok (.getstatic 34, 3) := by decide +kernel
theorem d1_82 : decode method_2_code 82 = .ok (.areturn, 1) := by decide +kernel
theorem d1_83 : decode method_2_code 83 = .ok (.iload_n 0, 1) := by decide +kernel
theorem d1_84 : decode method_2_code 84 = .ok (.bipush 9, 2) := by decide +kernel
theorem d1_86 : decode method_2_code 86 = .ok (.if_icmp .ne 7, 3) := by decide +kernel
theorem d1_89 : decode method_2_code 89 = .ok (.getstatic 37, 3) := by decide +kernel
theorem d1_92 : decode method_2_code 92 = .ok (.areturn, 1) := by decide +kernel
theorem d1_93 : decode method_2_code 93 = .ok (.iload_n 0, 1) := by decide +kernel
theorem d1_94 : decode method_2_code 94 = .ok (.bipush 10, 2) := by decide +kernel
theorem d1_96 : decode method_2_code 96 = .ok (.if_icmp .ne 7, 3) := by decide +kernel
theorem d1_99 : decode method_2_code 99 = .ok (.getstatic 40, 3) := by decide +kernel
theorem d1_102 : decode method_2_code 102 = .ok (.areturn, 1) := by decide +kernel
theorem d1_103 : decode method_2_code 103 = .ok (.iload_n 0, 1) := by decide +kernel
theorem d1_104 : decode method_2_code 104 = .ok (.bipush 11, 2) := by decide +kernel
theorem d1_106 : decode method_2_code 106 = .ok (.if_icmp .ne 7, 3) := by decide +kernel
theorem d1_109 : decode method_2_code 109 = .ok (.getstatic 43, 3) := by decide +kernel
theorem d1_112 : decode method_2_code 112 = .ok (.areturn, 1) := by decide +kernel
theorem d1_113 : decode method_2_code 113 = .ok (.getstatic 46, 3) := by decide +kernel
theorem d1_116 : decode method_2_code 116 = .ok (.areturn, 1) := by decide +kernel
theorem pn_0 : plainName "dev/stint/policy/IntegrationTypeIsHttpPinLaw" = true := by first | (simp [plainName, overriddenIn]; done) | decide +kernel
theorem ef_1 (m : MethodId) (p0 : Int32) : entryFrame m #[(.int p0)] 1 = mkF m 0 #[.val (.int p0)] [] := by first | (simp [entryFrame, mkF, argsToLocals, Value.category]; done) | rfl
def own_f1 (p0 : Int32) (c_rest : Addr) (c_grpc_unary : Addr) (c_grpc_streaming : Addr) (c_db_query : Addr) (c_db_transaction : Addr) (c_message_publish : Addr) (c_message_consume : Addr) (c_cache : Addr) (c_object_storage : Addr) (c_smtp : Addr) (c_dns : Addr) (c_mcp_tool : Addr) (c_webhook : Addr) : Addr := (if p0 = (0 : Int32) then c_rest else (if p0 = (1 : Int32) then c_grpc_unary else (if p0 = (2 : Int32) then c_grpc_streaming else (if p0 = (3 : Int32) then c_db_query else (if p0 = (4 : Int32) then c_db_transaction else (if p0 = (5 : Int32) then c_message_publish else (if p0 = (6 : Int32) then c_message_consume else (if p0 = (7 : Int32) then c_cache else (if p0 = (8 : Int32) then c_object_storage else (if p0 = (9 : Int32) then c_smtp else (if p0 = (10 : Int32) then c_dns else (if p0 = (11 : Int32) then c_mcp_tool else c_webhook))))))))))))
def Q1 (Z : State) (p0 : Int32) (c_rest : Addr) (c_grpc_unary : Addr) (c_grpc_streaming : Addr) (c_db_query : Addr) (c_db_transaction : Addr) (c_message_publish : Addr) (c_message_consume : Addr) (c_cache : Addr) (c_object_storage : Addr) (c_smtp : Addr) (c_dns : Addr) (c_mcp_tool : Addr) (c_webhook : Addr) (h0 : Heap) (n0 : Nat) (v : Option Value) (h : Heap) (L : List Loc) : Prop := v = some (.ref (own_f1 p0 c_rest c_grpc_unary c_grpc_streaming c_db_query c_db_transaction c_message_publish c_message_consume c_cache c_object_storage c_smtp c_dns c_mcp_tool c_webhook)) ∧ Fr n0 L ∧ h = h0
set_option maxRecDepth 65536 in
set_option maxHeartbeats 40000000 in
theorem rm1 (l : Launch) (Z : State) (aw : Array Value) (hw : ∀ d ∈ tables_1, d.before aw Z = true) (wq : List Jvm.Cond) (p0 : Int32) (c_rest : Addr) (c_grpc_unary : Addr) (c_grpc_streaming : Addr) (c_db_query : Addr) (c_db_transaction : Addr) (c_message_publish : Addr) (c_message_consume : Addr) (c_cache : Addr) (c_object_storage : Addr) (c_smtp : Addr) (c_dns : Addr) (c_mcp_tool : Addr) (c_webhook : Addr) (h0 : Heap) (n0 : Nat) (Z0 : n0 ≤ h0.size) (S_REST : Sta Z h0 "dev/stint/policy/IntegrationType" "REST" "Ldev/stint/policy/IntegrationType;" (.ref c_rest)) (S_GRPC_UNARY : Sta Z h0 "dev/stint/policy/IntegrationType" "GRPC_UNARY" "Ldev/stint/policy/IntegrationType;" (.ref c_grpc_unary)) (S_GRPC_STREAMING : Sta Z h0 "dev/stint/policy/IntegrationType" "GRPC_STREAMING" "Ldev/stint/policy/IntegrationType;" (.ref c_grpc_streaming)) (S_DB_QUERY : Sta Z h0 "dev/stint/policy/IntegrationType" "DB_QUERY" "Ldev/stint/policy/IntegrationType;" (.ref c_db_query)) (S_DB_TRANSACTION : Sta Z h0 "dev/stint/policy/IntegrationType" "DB_TRANSACTION" "Ldev/stint/policy/IntegrationType;" (.ref c_db_transaction)) (S_MESSAGE_PUBLISH : Sta Z h0 "dev/stint/policy/IntegrationType" "MESSAGE_PUBLISH" "Ldev/stint/policy/IntegrationType;" (.ref c_message_publish)) (S_MESSAGE_CONSUME : Sta Z h0 "dev/stint/policy/IntegrationType" "MESSAGE_CONSUME" "Ldev/stint/policy/IntegrationType;" (.ref c_message_consume)) (S_CACHE : Sta Z h0 "dev/stint/policy/IntegrationType" "CACHE" "Ldev/stint/policy/IntegrationType;" (.ref c_cache)) (S_OBJECT_STORAGE : Sta Z h0 "dev/stint/policy/IntegrationType" "OBJECT_STORAGE" "Ldev/stint/policy/IntegrationType;" (.ref c_object_storage)) (S_SMTP : Sta Z h0 "dev/stint/policy/IntegrationType" "SMTP" "Ldev/stint/policy/IntegrationType;" (.ref c_smtp)) (S_DNS : Sta Z h0 "dev/stint/policy/IntegrationType" "DNS" "Ldev/stint/policy/IntegrationType;" (.ref c_dns)) (S_MCP_TOOL : Sta Z h0 "dev/stint/policy/IntegrationType" "MCP_TOOL" "Ldev/stint/policy/IntegrationType;" (.ref c_mcp_tool)) (S_WEBHOOK : Sta Z h0 "dev/stint/policy/IntegrationType" "WEBHOOK" "Ldev/stint/policy/IntegrationType;" (.ref c_webhook)) :
    MetFree l (⟨"dev/stint/policy/IntegrationTypeIsHttpPinLaw", "pick", "(I)Ldev/stint/policy/IntegrationType;"⟩ : MethodName) (head1 (Jvm.Cond.code (⟨"dev/stint/policy/IntegrationTypeIsHttpPinLaw", "pick", "(I)Ldev/stint/policy/IntegrationType;"⟩ : MethodName) method_2_code 1 (some (.object "dev/stint/policy/IntegrationType")) :: wq) ({ frames := 0, cells := 0, slots := 0, locals := 0 } : Room)) (fun a U => a = #[(.int p0)] ∧ Z.Warmed39 U.vm ∧ U.heap = h0) (fun _ _ _ _ _ => True) (fun _ U o U' => ∃ v L, o = .returned v ∧ Q1 Z p0 c_rest c_grpc_unary c_grpc_streaming c_db_query c_db_transaction c_message_publish c_message_consume c_cache c_object_storage c_smtp c_dns c_mcp_tool c_webhook h0 n0 v U'.heap L ∧ FrameEnd U o U' L ({ frames := 0, cells := 0, slots := 0, locals := 0 } : Room).cells ({ frames := 0, cells := 0, slots := 0, locals := 0 } : Room).slots) := by
  refine MetFree.of_bodySF (plainFor_of_name pn_0) hisR ?_
  intro p e s m args below meth c s₁ Bd hml0 hP hK
  obtain ⟨rfl, hZ, hh⟩ := hP
  have hx := Bd.exec
  have hby := Bd.bytes
  have hml : c.maxLocals = 1 := hml0
  have hown : s.vm.findClass "dev/stint/policy/IntegrationTypeIsHttpPinLaw" = some m.cls := findClass_of_methodNamed Bd.named
  have hnm := (name_of_methodNamed Bd.named Bd.method).1
  have X0 : Stand p l e ({ frames := 0, cells := 0, slots := 0, locals := 0 } : Room) s m #[(.int p0)] below meth c s₁ [] 0 0 := Stand.of_body Bd
  have e0 : s₁.heap = h0 := by rw [← hh, Bd.state]; rfl
  have N0 := Fr.nil n0
  have pre0 : own_Pre p e below (s₁.setTop (entryFrame m #[(.int p0)] 1)) (s₁.setTop (mkF m 0 #[.val (.int p0)] [])) := fun t k => castTop (ef_1 m p0) k
  have pre1 : own_Pre p e below (s₁.setTop (entryFrame m #[(.int p0)] 1)) (s₁.setTop (mkF m 1 #[.val (.int p0)] [(.int p0)])) := fun t k => pre0 t (by
      show Steps p.tables e below (s₁.setTop (mkF m 0 #[.val (.int p0)] [])) _
      refine XS.iloadN X0.here hx rfl (hb hby d1_0) rfl ?_
      exact k)
  by_cases hc1 : p0 = (0 : Int32)
  · obtain ⟨T2, X2, e2, st2⟩ := getS2 X0 hx hZ hown (host := "") (Or.inl (hw _ (List.mem_of_getElem? (i := 5) rfl))) Via.refl e0 S_REST (g := (mkF m 4 #[.val (.int p0)] [])) rfl (hb hby d1_4)
    obtain ⟨fs, hr, hrun, hended, hW, hsame⟩ := X2.leave (v := some (.ref c_rest)) (fun h => by rw [Bd.returns] at h; cases h)
    refine ⟨_, _, pre1 _ ?_, hrun, hended, _, _, rfl, ?_, ⟨_, rfl⟩, hW, hsame.mono (by decide) (by decide)⟩
    · show Steps p.tables e below (s₁.setTop (mkF m 1 #[.val (.int p0)] [(.int p0)])) _
      refine XS.ifNo X0.here hx rfl (hb hby d1_1) rfl ((if0 _ _).trans (teq hc1).2) ?_
      show Steps p.tables e below (s₁.setTop (mkF m 4 #[.val (.int p0)] [])) _
      refine st2 _ ?_
      show Steps p.tables e below (T2.setTop (mkF m 7 #[.val (.int p0)] [(.ref c_rest)])) _
      exact retR X2 hx (v := (.ref c_rest)) rfl Bd.returns rfl (hb hby d1_7) hr
    · show Q1 Z p0 c_rest c_grpc_unary c_grpc_streaming c_db_query c_db_transaction c_message_publish c_message_consume c_cache c_object_storage c_smtp c_dns c_mcp_tool c_webhook h0 n0 _ T2.heap _
      rw [e2]
      unfold Q1
      refine ⟨?_, N0, rfl⟩
      · simp only [own_f1, if_pos hc1]
  · have pre3 : own_Pre p e below (s₁.setTop (entryFrame m #[(.int p0)] 1)) (s₁.setTop (mkF m 10 #[.val (.int p0)] [(.int (1 : Int32)), (.int p0)])) := fun t k => pre1 t (by
        show Steps p.tables e below (s₁.setTop (mkF m 1 #[.val (.int p0)] [(.int p0)])) _
        refine XS.ifYes X0.here hx rfl (pc0 := 1) (pc' := 8) rfl (hb hby d1_1) rfl ((if0 _ _).trans (feq hc1).2) (by decide) (by decide) ?_
        show Steps p.tables e below (s₁.setTop (mkF m 8 #[.val (.int p0)] [])) _
        refine XS.iloadN X0.here hx rfl (hb hby d1_8) rfl ?_
        show Steps p.tables e below (s₁.setTop (mkF m 9 #[.val (.int p0)] [(.int p0)])) _
        refine XS.iconst X0.here hx rfl (hb hby d1_9) ?_
        exact k)
    by_cases hc10 : p0 = (1 : Int32)
    · obtain ⟨T4, X4, e4, st4⟩ := getS2 X0 hx hZ hown (host := "") (Or.inl (hw _ (List.mem_of_getElem? (i := 31) rfl))) Via.refl e0 S_GRPC_UNARY (g := (mkF m 13 #[.val (.int p0)] [])) rfl (hb hby d1_13)
      obtain ⟨fs, hr, hrun, hended, hW, hsame⟩ := X4.leave (v := some (.ref c_grpc_unary)) (fun h => by rw [Bd.returns] at h; cases h)
      refine ⟨_, _, pre3 _ ?_, hrun, hended, _, _, rfl, ?_, ⟨_, rfl⟩, hW, hsame.mono (by decide) (by decide)⟩
      · show Steps p.tables e below (s₁.setTop (mkF m 10 #[.val (.int p0)] [(.int (1 : Int32)), (.int p0)])) _
        refine XS.icmpNo X0.here hx rfl (hb hby d1_10) rfl (teq hc10).2 ?_
        show Steps p.tables e below (s₁.setTop (mkF m 13 #[.val (.int p0)] [])) _
        refine st4 _ ?_
        show Steps p.tables e below (T4.setTop (mkF m 16 #[.val (.int p0)] [(.ref c_grpc_unary)])) _
        exact retR X4 hx (v := (.ref c_grpc_unary)) rfl Bd.returns rfl (hb hby d1_16) hr
      · show Q1 Z p0 c_rest c_grpc_unary c_grpc_streaming c_db_query c_db_transaction c_message_publish c_message_consume c_cache c_object_storage c_smtp c_dns c_mcp_tool c_webhook h0 n0 _ T4.heap _
        rw [e4]
        unfold Q1
        refine ⟨?_, N0, rfl⟩
        · simp only [own_f1, if_neg hc1, if_pos hc10]
    · have pre5 : own_Pre p e below (s₁.setTop (entryFrame m #[(.int p0)] 1)) (s₁.setTop (mkF m 19 #[.val (.int p0)] [(.int (2 : Int32)), (.int p0)])) := fun t k => pre3 t (by
          show Steps p.tables e below (s₁.setTop (mkF m 10 #[.val (.int p0)] [(.int (1 : Int32)), (.int p0)])) _
          refine XS.icmpYes X0.here hx rfl (pc0 := 10) (pc' := 17) rfl (hb hby d1_10) rfl (feq hc10).2 (by decide) (by decide) ?_
          show Steps p.tables e below (s₁.setTop (mkF m 17 #[.val (.int p0)] [])) _
          refine XS.iloadN X0.here hx rfl (hb hby d1_17) rfl ?_
          show Steps p.tables e below (s₁.setTop (mkF m 18 #[.val (.int p0)] [(.int p0)])) _
          refine XS.iconst X0.here hx rfl (hb hby d1_18) ?_
          exact k)
      by_cases hc19 : p0 = (2 : Int32)
      · obtain ⟨T6, X6, e6, st6⟩ := getS2 X0 hx hZ hown (host := "") (Or.inl (hw _ (List.mem_of_getElem? (i := 28) rfl))) Via.refl e0 S_GRPC_STREAMING (g := (mkF m 22 #[.val (.int p0)] [])) rfl (hb hby d1_22)
        obtain ⟨fs, hr, hrun, hended, hW, hsame⟩ := X6.leave (v := some (.ref c_grpc_streaming)) (fun h => by rw [Bd.returns] at h; cases h)
        refine ⟨_, _, pre5 _ ?_, hrun, hended, _, _, rfl, ?_, ⟨_, rfl⟩, hW, hsame.mono (by decide) (by decide)⟩
        · show Steps p.tables e below (s₁.setTop (mkF m 19 #[.val (.int p0)] [(.int (2 : Int32)), (.int p0)])) _
          refine XS.icmpNo X0.here hx rfl (hb hby d1_19) rfl (teq hc19).2 ?_
          show Steps p.tables e below (s₁.setTop (mkF m 22 #[.val (.int p0)] [])) _
          refine st6 _ ?_
          show Steps p.tables e below (T6.setTop (mkF m 25 #[.val (.int p0)] [(.ref c_grpc_streaming)])) _
          exact retR X6 hx (v := (.ref c_grpc_streaming)) rfl Bd.returns rfl (hb hby d1_25) hr
        · show Q1 Z p0 c_rest c_grpc_unary c_grpc_streaming c_db_query c_db_transaction c_message_publish c_message_consume c_cache c_object_storage c_smtp c_dns c_mcp_tool c_webhook h0 n0 _ T6.heap _
          rw [e6]
          unfold Q1
          refine ⟨?_, N0, rfl⟩
          · simp only [own_f1, if_neg hc1, if_neg hc10, if_pos hc19]
      · have pre7 : own_Pre p e below (s₁.setTop (entryFrame m #[(.int p0)] 1)) (s₁.setTop (mkF m 28 #[.val (.int p0)] [(.int (3 : Int32)), (.int p0)])) := fun t k => pre5 t (by
            show Steps p.tables e below (s₁.setTop (mkF m 19 #[.val (.int p0)] [(.int (2 : Int32)), (.int p0)])) _
            refine XS.icmpYes X0.here hx rfl (pc0 := 19) (pc' := 26) rfl (hb hby d1_19) rfl (feq hc19).2 (by decide) (by decide) ?_
            show Steps p.tables e below (s₁.setTop (mkF m 26 #[.val (.int p0)] [])) _
            refine XS.iloadN X0.here hx rfl (hb hby d1_26) rfl ?_
            show Steps p.tables e below (s₁.setTop (mkF m 27 #[.val (.int p0)] [(.int p0)])) _
            refine XS.iconst X0.here hx rfl (hb hby d1_27) ?_
            exact k)
        by_cases hc28 : p0 = (3 : Int32)
        · obtain ⟨T8, X8, e8, st8⟩ := getS2 X0 hx hZ hown (host := "") (Or.inl (hw _ (List.mem_of_getElem? (i := 14) rfl))) Via.refl e0 S_DB_QUERY (g := (mkF m 31 #[.val (.int p0)] [])) rfl (hb hby d1_31)
          obtain ⟨fs, hr, hrun, hended, hW, hsame⟩ := X8.leave (v := some (.ref c_db_query)) (fun h => by rw [Bd.returns] at h; cases h)
          refine ⟨_, _, pre7 _ ?_, hrun, hended, _, _, rfl, ?_, ⟨_, rfl⟩, hW, hsame.mono (by decide) (by decide)⟩
          · show Steps p.tables e below (s₁.setTop (mkF m 28 #[.val (.int p0)] [(.int (3 : Int32)), (.int p0)])) _
            refine XS.icmpNo X0.here hx rfl (hb hby d1_28) rfl (teq hc28).2 ?_
            show Steps p.tables e below (s₁.setTop (mkF m 31 #[.val (.int p0)] [])) _
            refine st8 _ ?_
            show Steps p.tables e below (T8.setTop (mkF m 34 #[.val (.int p0)] [(.ref c_db_query)])) _
            exact retR X8 hx (v := (.ref c_db_query)) rfl Bd.returns rfl (hb hby d1_34) hr
          · show Q1 Z p0 c_rest c_grpc_unary c_grpc_streaming c_db_query c_db_transaction c_message_publish c_message_consume c_cache c_object_storage c_smtp c_dns c_mcp_tool c_webhook h0 n0 _ T8.heap _
            rw [e8]
            unfold Q1
            refine ⟨?_, N0, rfl⟩
            · simp only [own_f1, if_neg hc1, if_neg hc10, if_neg hc19, if_pos hc28]
        · have pre9 : own_Pre p e below (s₁.setTop (entryFrame m #[(.int p0)] 1)) (s₁.setTop (mkF m 37 #[.val (.int p0)] [(.int (4 : Int32)), (.int p0)])) := fun t k => pre7 t (by
              show Steps p.tables e below (s₁.setTop (mkF m 28 #[.val (.int p0)] [(.int (3 : Int32)), (.int p0)])) _
              refine XS.icmpYes X0.here hx rfl (pc0 := 28) (pc' := 35) rfl (hb hby d1_28) rfl (feq hc28).2 (by decide) (by decide) ?_
              show Steps p.tables e below (s₁.setTop (mkF m 35 #[.val (.int p0)] [])) _
              refine XS.iloadN X0.here hx rfl (hb hby d1_35) rfl ?_
              show Steps p.tables e below (s₁.setTop (mkF m 36 #[.val (.int p0)] [(.int p0)])) _
              refine XS.iconst X0.here hx rfl (hb hby d1_36) ?_
              exact k)
          by_cases hc37 : p0 = (4 : Int32)
          · obtain ⟨T10, X10, e10, st10⟩ := getS2 X0 hx hZ hown (host := "") (Or.inl (hw _ (List.mem_of_getElem? (i := 38) rfl))) Via.refl e0 S_DB_TRANSACTION (g := (mkF m 40 #[.val (.int p0)] [])) rfl (hb hby d1_40)
            obtain ⟨fs, hr, hrun, hended, hW, hsame⟩ := X10.leave (v := some (.ref c_db_transaction)) (fun h => by rw [Bd.returns] at h; cases h)
            refine ⟨_, _, pre9 _ ?_, hrun, hended, _, _, rfl, ?_, ⟨_, rfl⟩, hW, hsame.mono (by decide) (by decide)⟩
            · show Steps p.tables e below (s₁.setTop (mkF m 37 #[.val (.int p0)] [(.int (4 : Int32)), (.int p0)])) _
              refine XS.icmpNo X0.here hx rfl (hb hby d1_37) rfl (teq hc37).2 ?_
              show Steps p.tables e below (s₁.setTop (mkF m 40 #[.val (.int p0)] [])) _
              refine st10 _ ?_
              show Steps p.tables e below (T10.setTop (mkF m 43 #[.val (.int p0)] [(.ref c_db_transaction)])) _
              exact retR X10 hx (v := (.ref c_db_transaction)) rfl Bd.returns rfl (hb hby d1_43) hr
            · show Q1 Z p0 c_rest c_grpc_unary c_grpc_streaming c_db_query c_db_transaction c_message_publish c_message_consume c_cache c_object_storage c_smtp c_dns c_mcp_tool c_webhook h0 n0 _ T10.heap _
              rw [e10]
              unfold Q1
              refine ⟨?_, N0, rfl⟩
              · simp only [own_f1, if_neg hc1, if_neg hc10, if_neg hc19, if_neg hc28, if_pos hc37]
          · have pre11 : own_Pre p e below (s₁.setTop (entryFrame m #[(.int p0)] 1)) (s₁.setTop (mkF m 46 #[.val (.int p0)] [(.int (5 : Int32)), (.int p0)])) := fun t k => pre9 t (by
                show Steps p.tables e below (s₁.setTop (mkF m 37 #[.val (.int p0)] [(.int (4 : Int32)), (.int p0)])) _
                refine XS.icmpYes X0.here hx rfl (pc0 := 37) (pc' := 44) rfl (hb hby d1_37) rfl (feq hc37).2 (by decide) (by decide) ?_
                show Steps p.tables e below (s₁.setTop (mkF m 44 #[.val (.int p0)] [])) _
                refine XS.iloadN X0.here hx rfl (hb hby d1_44) rfl ?_
                show Steps p.tables e below (s₁.setTop (mkF m 45 #[.val (.int p0)] [(.int p0)])) _
                refine XS.iconst X0.here hx rfl (hb hby d1_45) ?_
                exact k)
            by_cases hc46 : p0 = (5 : Int32)
            · obtain ⟨T12, X12, e12, st12⟩ := getS2 X0 hx hZ hown (host := "") (Or.inl (hw _ (List.mem_of_getElem? (i := 22) rfl))) Via.refl e0 S_MESSAGE_PUBLISH (g := (mkF m 49 #[.val (.int p0)] [])) rfl (hb hby d1_49)
              obtain ⟨fs, hr, hrun, hended, hW, hsame⟩ := X12.leave (v := some (.ref c_message_publish)) (fun h => by rw [Bd.returns] at h; cases h)
              refine ⟨_, _, pre11 _ ?_, hrun, hended, _, _, rfl, ?_, ⟨_, rfl⟩, hW, hsame.mono (by decide) (by decide)⟩
              · show Steps p.tables e below (s₁.setTop (mkF m 46 #[.val (.int p0)] [(.int (5 : Int32)), (.int p0)])) _
                refine XS.icmpNo X0.here hx rfl (hb hby d1_46) rfl (teq hc46).2 ?_
                show Steps p.tables e below (s₁.setTop (mkF m 49 #[.val (.int p0)] [])) _
                refine st12 _ ?_
                show Steps p.tables e below (T12.setTop (mkF m 52 #[.val (.int p0)] [(.ref c_message_publish)])) _
                exact retR X12 hx (v := (.ref c_message_publish)) rfl Bd.returns rfl (hb hby d1_52) hr
              · show Q1 Z p0 c_rest c_grpc_unary c_grpc_streaming c_db_query c_db_transaction c_message_publish c_message_consume c_cache c_object_storage c_smtp c_dns c_mcp_tool c_webhook h0 n0 _ T12.heap _
                rw [e12]
                unfold Q1
                refine ⟨?_, N0, rfl⟩
                · simp only [own_f1, if_neg hc1, if_neg hc10, if_neg hc19, if_neg hc28, if_neg hc37, if_pos hc46]
            · have pre13 : own_Pre p e below (s₁.setTop (entryFrame m #[(.int p0)] 1)) (s₁.setTop (mkF m 56 #[.val (.int p0)] [(.int (6 : Int32)), (.int p0)])) := fun t k => pre11 t (by
                  show Steps p.tables e below (s₁.setTop (mkF m 46 #[.val (.int p0)] [(.int (5 : Int32)), (.int p0)])) _
                  refine XS.icmpYes X0.here hx rfl (pc0 := 46) (pc' := 53) rfl (hb hby d1_46) rfl (feq hc46).2 (by decide) (by decide) ?_
                  show Steps p.tables e below (s₁.setTop (mkF m 53 #[.val (.int p0)] [])) _
                  refine XS.iloadN X0.here hx rfl (hb hby d1_53) rfl ?_
                  show Steps p.tables e below (s₁.setTop (mkF m 54 #[.val (.int p0)] [(.int p0)])) _
                  refine XS.bipush X0.here hx rfl (hb hby d1_54) ?_
                  exact k)
              by_cases hc56 : p0 = (6 : Int32)
              · obtain ⟨T14, X14, e14, st14⟩ := getS2 X0 hx hZ hown (host := "") (Or.inl (hw _ (List.mem_of_getElem? (i := 20) rfl))) Via.refl e0 S_MESSAGE_CONSUME (g := (mkF m 59 #[.val (.int p0)] [])) rfl (hb hby d1_59)
                obtain ⟨fs, hr, hrun, hended, hW, hsame⟩ := X14.leave (v := some (.ref c_message_consume)) (fun h => by rw [Bd.returns] at h; cases h)
                refine ⟨_, _, pre13 _ ?_, hrun, hended, _, _, rfl, ?_, ⟨_, rfl⟩, hW, hsame.mono (by decide) (by decide)⟩
                · show Steps p.tables e below (s₁.setTop (mkF m 56 #[.val (.int p0)] [(.int (6 : Int32)), (.int p0)])) _
                  refine XS.icmpNo X0.here hx rfl (hb hby d1_56) rfl (teq hc56).2 ?_
                  show Steps p.tables e below (s₁.setTop (mkF m 59 #[.val (.int p0)] [])) _
                  refine st14 _ ?_
                  show Steps p.tables e below (T14.setTop (mkF m 62 #[.val (.int p0)] [(.ref c_message_consume)])) _
                  exact retR X14 hx (v := (.ref c_message_consume)) rfl Bd.returns rfl (hb hby d1_62) hr
                · show Q1 Z p0 c_rest c_grpc_unary c_grpc_streaming c_db_query c_db_transaction c_message_publish c_message_consume c_cache c_object_storage c_smtp c_dns c_mcp_tool c_webhook h0 n0 _ T14.heap _
                  rw [e14]
                  unfold Q1
                  refine ⟨?_, N0, rfl⟩
                  · simp only [own_f1, if_neg hc1, if_neg hc10, if_neg hc19, if_neg hc28, if_neg hc37, if_neg hc46, if_pos hc56]
              · have pre15 : own_Pre p e below (s₁.setTop (entryFrame m #[(.int p0)] 1)) (s₁.setTop (mkF m 66 #[.val (.int p0)] [(.int (7 : Int32)), (.int p0)])) := fun t k => pre13 t (by
                    show Steps p.tables e below (s₁.setTop (mkF m 56 #[.val (.int p0)] [(.int (6 : Int32)), (.int p0)])) _
                    refine XS.icmpYes X0.here hx rfl (pc0 := 56) (pc' := 63) rfl (hb hby d1_56) rfl (feq hc56).2 (by decide) (by decide) ?_
                    show Steps p.tables e below (s₁.setTop (mkF m 63 #[.val (.int p0)] [])) _
                    refine XS.iloadN X0.here hx rfl (hb hby d1_63) rfl ?_
                    show Steps p.tables e below (s₁.setTop (mkF m 64 #[.val (.int p0)] [(.int p0)])) _
                    refine XS.bipush X0.here hx rfl (hb hby d1_64) ?_
                    exact k)
                by_cases hc66 : p0 = (7 : Int32)
                · obtain ⟨T16, X16, e16, st16⟩ := getS2 X0 hx hZ hown (host := "") (Or.inl (hw _ (List.mem_of_getElem? (i := 24) rfl))) Via.refl e0 S_CACHE (g := (mkF m 69 #[.val (.int p0)] [])) rfl (hb hby d1_69)
                  obtain ⟨fs, hr, hrun, hended, hW, hsame⟩ := X16.leave (v := some (.ref c_cache)) (fun h => by rw [Bd.returns] at h; cases h)
                  refine ⟨_, _, pre15 _ ?_, hrun, hended, _, _, rfl, ?_, ⟨_, rfl⟩, hW, hsame.mono (by decide) (by decide)⟩
                  · show Steps p.tables e below (s₁.setTop (mkF m 66 #[.val (.int p0)] [(.int (7 : Int32)), (.int p0)])) _
                    refine XS.icmpNo X0.here hx rfl (hb hby d1_66) rfl (teq hc66).2 ?_
                    show Steps p.tables e below (s₁.setTop (mkF m 69 #[.val (.int p0)] [])) _
                    refine st16 _ ?_
                    show Steps p.tables e below (T16.setTop (mkF m 72 #[.val (.int p0)] [(.ref c_cache)])) _
                    exact retR X16 hx (v := (.ref c_cache)) rfl Bd.returns rfl (hb hby d1_72) hr
                  · show Q1 Z p0 c_rest c_grpc_unary c_grpc_streaming c_db_query c_db_transaction c_message_publish c_message_consume c_cache c_object_storage c_smtp c_dns c_mcp_tool c_webhook h0 n0 _ T16.heap _
                    rw [e16]
                    unfold Q1
                    refine ⟨?_, N0, rfl⟩
                    · simp only [own_f1, if_neg hc1, if_neg hc10, if_neg hc19, if_neg hc28, if_neg hc37, if_neg hc46, if_neg hc56, if_pos hc66]
                · have pre17 : own_Pre p e below (s₁.setTop (entryFrame m #[(.int p0)] 1)) (s₁.setTop (mkF m 76 #[.val (.int p0)] [(.int (8 : Int32)), (.int p0)])) := fun t k => pre15 t (by
                      show Steps p.tables e below (s₁.setTop (mkF m 66 #[.val (.int p0)] [(.int (7 : Int32)), (.int p0)])) _
                      refine XS.icmpYes X0.here hx rfl (pc0 := 66) (pc' := 73) rfl (hb hby d1_66) rfl (feq hc66).2 (by decide) (by decide) ?_
                      show Steps p.tables e below (s₁.setTop (mkF m 73 #[.val (.int p0)] [])) _
                      refine XS.iloadN X0.here hx rfl (hb hby d1_73) rfl ?_
                      show Steps p.tables e below (s₁.setTop (mkF m 74 #[.val (.int p0)] [(.int p0)])) _
                      refine XS.bipush X0.here hx rfl (hb hby d1_74) ?_
                      exact k)
                  by_cases hc76 : p0 = (8 : Int32)
                  · obtain ⟨T18, X18, e18, st18⟩ := getS2 X0 hx hZ hown (host := "") (Or.inl (hw _ (List.mem_of_getElem? (i := 33) rfl))) Via.refl e0 S_OBJECT_STORAGE (g := (mkF m 79 #[.val (.int p0)] [])) rfl (hb hby d1_79)
                    obtain ⟨fs, hr, hrun, hended, hW, hsame⟩ := X18.leave (v := some (.ref c_object_storage)) (fun h => by rw [Bd.returns] at h; cases h)
                    refine ⟨_, _, pre17 _ ?_, hrun, hended, _, _, rfl, ?_, ⟨_, rfl⟩, hW, hsame.mono (by decide) (by decide)⟩
                    · show Steps p.tables e below (s₁.setTop (mkF m 76 #[.val (.int p0)] [(.int (8 : Int32)), (.int p0)])) _
                      refine XS.icmpNo X0.here hx rfl (hb hby d1_76) rfl (teq hc76).2 ?_
                      show Steps p.tables e below (s₁.setTop (mkF m 79 #[.val (.int p0)] [])) _
                      refine st18 _ ?_
                      show Steps p.tables e below (T18.setTop (mkF m 82 #[.val (.int p0)] [(.ref c_object_storage)])) _
                      exact retR X18 hx (v := (.ref c_object_storage)) rfl Bd.returns rfl (hb hby d1_82) hr
                    · show Q1 Z p0 c_rest c_grpc_unary c_grpc_streaming c_db_query c_db_transaction c_message_publish c_message_consume c_cache c_object_storage c_smtp c_dns c_mcp_tool c_webhook h0 n0 _ T18.heap _
                      rw [e18]
                      unfold Q1
                      refine ⟨?_, N0, rfl⟩
                      · simp only [own_f1, if_neg hc1, if_neg hc10, if_neg hc19, if_neg hc28, if_neg hc37, if_neg hc46, if_neg hc56, if_neg hc66, if_pos hc76]
                  · have pre19 : own_Pre p e below (s₁.setTop (entryFrame m #[(.int p0)] 1)) (s₁.setTop (mkF m 86 #[.val (.int p0)] [(.int (9 : Int32)), (.int p0)])) := fun t k => pre17 t (by
                        show Steps p.tables e below (s₁.setTop (mkF m 76 #[.val (.int p0)] [(.int (8 : Int32)), (.int p0)])) _
                        refine XS.icmpYes X0.here hx rfl (pc0 := 76) (pc' := 83) rfl (hb hby d1_76) rfl (feq hc76).2 (by decide) (by decide) ?_
                        show Steps p.tables e below (s₁.setTop (mkF m 83 #[.val (.int p0)] [])) _
                        refine XS.iloadN X0.here hx rfl (hb hby d1_83) rfl ?_
                        show Steps p.tables e below (s₁.setTop (mkF m 84 #[.val (.int p0)] [(.int p0)])) _
                        refine XS.bipush X0.here hx rfl (hb hby d1_84) ?_
                        exact k)
                    by_cases hc86 : p0 = (9 : Int32)
                    · obtain ⟨T20, X20, e20, st20⟩ := getS2 X0 hx hZ hown (host := "") (Or.inl (hw _ (List.mem_of_getElem? (i := 26) rfl))) Via.refl e0 S_SMTP (g := (mkF m 89 #[.val (.int p0)] [])) rfl (hb hby d1_89)
                      obtain ⟨fs, hr, hrun, hended, hW, hsame⟩ := X20.leave (v := some (.ref c_smtp)) (fun h => by rw [Bd.returns] at h; cases h)
                      refine ⟨_, _, pre19 _ ?_, hrun, hended, _, _, rfl, ?_, ⟨_, rfl⟩, hW, hsame.mono (by decide) (by decide)⟩
                      · show Steps p.tables e below (s₁.setTop (mkF m 86 #[.val (.int p0)] [(.int (9 : Int32)), (.int p0)])) _
                        refine XS.icmpNo X0.here hx rfl (hb hby d1_86) rfl (teq hc86).2 ?_
                        show Steps p.tables e below (s₁.setTop (mkF m 89 #[.val (.int p0)] [])) _
                        refine st20 _ ?_
                        show Steps p.tables e below (T20.setTop (mkF m 92 #[.val (.int p0)] [(.ref c_smtp)])) _
                        exact retR X20 hx (v := (.ref c_smtp)) rfl Bd.returns rfl (hb hby d1_92) hr
                      · show Q1 Z p0 c_rest c_grpc_unary c_grpc_streaming c_db_query c_db_transaction c_message_publish c_message_consume c_cache c_object_storage c_smtp c_dns c_mcp_tool c_webhook h0 n0 _ T20.heap _
                        rw [e20]
                        unfold Q1
                        refine ⟨?_, N0, rfl⟩
                        · simp only [own_f1, if_neg hc1, if_neg hc10, if_neg hc19, if_neg hc28, if_neg hc37, if_neg hc46, if_neg hc56, if_neg hc66, if_neg hc76, if_pos hc86]
                    · have pre21 : own_Pre p e below (s₁.setTop (entryFrame m #[(.int p0)] 1)) (s₁.setTop (mkF m 96 #[.val (.int p0)] [(.int (10 : Int32)), (.int p0)])) := fun t k => pre19 t (by
                          show Steps p.tables e below (s₁.setTop (mkF m 86 #[.val (.int p0)] [(.int (9 : Int32)), (.int p0)])) _
                          refine XS.icmpYes X0.here hx rfl (pc0 := 86) (pc' := 93) rfl (hb hby d1_86) rfl (feq hc86).2 (by decide) (by decide) ?_
                          show Steps p.tables e below (s₁.setTop (mkF m 93 #[.val (.int p0)] [])) _
                          refine XS.iloadN X0.here hx rfl (hb hby d1_93) rfl ?_
                          show Steps p.tables e below (s₁.setTop (mkF m 94 #[.val (.int p0)] [(.int p0)])) _
                          refine XS.bipush X0.here hx rfl (hb hby d1_94) ?_
                          exact k)
                      by_cases hc96 : p0 = (10 : Int32)
                      · obtain ⟨T22, X22, e22, st22⟩ := getS2 X0 hx hZ hown (host := "") (Or.inl (hw _ (List.mem_of_getElem? (i := 35) rfl))) Via.refl e0 S_DNS (g := (mkF m 99 #[.val (.int p0)] [])) rfl (hb hby d1_99)
                        obtain ⟨fs, hr, hrun, hended, hW, hsame⟩ := X22.leave (v := some (.ref c_dns)) (fun h => by rw [Bd.returns] at h; cases h)
                        refine ⟨_, _, pre21 _ ?_, hrun, hended, _, _, rfl, ?_, ⟨_, rfl⟩, hW, hsame.mono (by decide) (by decide)⟩
                        · show Steps p.tables e below (s₁.setTop (mkF m 96 #[.val (.int p0)] [(.int (10 : Int32)), (.int p0)])) _
                          refine XS.icmpNo X0.here hx rfl (hb hby d1_96) rfl (teq hc96).2 ?_
                          show Steps p.tables e below (s₁.setTop (mkF m 99 #[.val (.int p0)] [])) _
                          refine st22 _ ?_
                          show Steps p.tables e below (T22.setTop (mkF m 102 #[.val (.int p0)] [(.ref c_dns)])) _
                          exact retR X22 hx (v := (.ref c_dns)) rfl Bd.returns rfl (hb hby d1_102) hr
                        · show Q1 Z p0 c_rest c_grpc_unary c_grpc_streaming c_db_query c_db_transaction c_message_publish c_message_consume c_cache c_object_storage c_smtp c_dns c_mcp_tool c_webhook h0 n0 _ T22.heap _
                          rw [e22]
                          unfold Q1
                          refine ⟨?_, N0, rfl⟩
                          · simp only [own_f1, if_neg hc1, if_neg hc10, if_neg hc19, if_neg hc28, if_neg hc37, if_neg hc46, if_neg hc56, if_neg hc66, if_neg hc76, if_neg hc86, if_pos hc96]
                      · have pre23 : own_Pre p e below (s₁.setTop (entryFrame m #[(.int p0)] 1)) (s₁.setTop (mkF m 106 #[.val (.int p0)] [(.int (11 : Int32)), (.int p0)])) := fun t k => pre21 t (by
                            show Steps p.tables e below (s₁.setTop (mkF m 96 #[.val (.int p0)] [(.int (10 : Int32)), (.int p0)])) _
                            refine XS.icmpYes X0.here hx rfl (pc0 := 96) (pc' := 103) rfl (hb hby d1_96) rfl (feq hc96).2 (by decide) (by decide) ?_
                            show Steps p.tables e below (s₁.setTop (mkF m 103 #[.val (.int p0)] [])) _
                            refine XS.iloadN X0.here hx rfl (hb hby d1_103) rfl ?_
                            show Steps p.tables e below (s₁.setTop (mkF m 104 #[.val (.int p0)] [(.int p0)])) _
                            refine XS.bipush X0.here hx rfl (hb hby d1_104) ?_
                            exact k)
                        by_cases hc106 : p0 = (11 : Int32)
                        · obtain ⟨T24, X24, e24, st24⟩ := getS2 X0 hx hZ hown (host := "") (Or.inl (hw _ (List.mem_of_getElem? (i := 30) rfl))) Via.refl e0 S_MCP_TOOL (g := (mkF m 109 #[.val (.int p0)] [])) rfl (hb hby d1_109)
                          obtain ⟨fs, hr, hrun, hended, hW, hsame⟩ := X24.leave (v := some (.ref c_mcp_tool)) (fun h => by rw [Bd.returns] at h; cases h)
                          refine ⟨_, _, pre23 _ ?_, hrun, hended, _, _, rfl, ?_, ⟨_, rfl⟩, hW, hsame.mono (by decide) (by decide)⟩
                          · show Steps p.tables e below (s₁.setTop (mkF m 106 #[.val (.int p0)] [(.int (11 : Int32)), (.int p0)])) _
                            refine XS.icmpNo X0.here hx rfl (hb hby d1_106) rfl (teq hc106).2 ?_
                            show Steps p.tables e below (s₁.setTop (mkF m 109 #[.val (.int p0)] [])) _
                            refine st24 _ ?_
                            show Steps p.tables e below (T24.setTop (mkF m 112 #[.val (.int p0)] [(.ref c_mcp_tool)])) _
                            exact retR X24 hx (v := (.ref c_mcp_tool)) rfl Bd.returns rfl (hb hby d1_112) hr
                          · show Q1 Z p0 c_rest c_grpc_unary c_grpc_streaming c_db_query c_db_transaction c_message_publish c_message_consume c_cache c_object_storage c_smtp c_dns c_mcp_tool c_webhook h0 n0 _ T24.heap _
                            rw [e24]
                            unfold Q1
                            refine ⟨?_, N0, rfl⟩
                            · simp only [own_f1, if_neg hc1, if_neg hc10, if_neg hc19, if_neg hc28, if_neg hc37, if_neg hc46, if_neg hc56, if_neg hc66, if_neg hc76, if_neg hc86, if_neg hc96, if_pos hc106]
                        · obtain ⟨T25, X25, e25, st25⟩ := getS2 X0 hx hZ hown (host := "") (Or.inl (hw _ (List.mem_of_getElem? (i := 37) rfl))) Via.refl e0 S_WEBHOOK (g := (mkF m 113 #[.val (.int p0)] [])) rfl (hb hby d1_113)
                          obtain ⟨fs, hr, hrun, hended, hW, hsame⟩ := X25.leave (v := some (.ref c_webhook)) (fun h => by rw [Bd.returns] at h; cases h)
                          refine ⟨_, _, pre23 _ ?_, hrun, hended, _, _, rfl, ?_, ⟨_, rfl⟩, hW, hsame.mono (by decide) (by decide)⟩
                          · show Steps p.tables e below (s₁.setTop (mkF m 106 #[.val (.int p0)] [(.int (11 : Int32)), (.int p0)])) _
                            refine XS.icmpYes X0.here hx rfl (pc0 := 106) (pc' := 113) rfl (hb hby d1_106) rfl (feq hc106).2 (by decide) (by decide) ?_
                            show Steps p.tables e below (s₁.setTop (mkF m 113 #[.val (.int p0)] [])) _
                            refine st25 _ ?_
                            show Steps p.tables e below (T25.setTop (mkF m 116 #[.val (.int p0)] [(.ref c_webhook)])) _
                            exact retR X25 hx (v := (.ref c_webhook)) rfl Bd.returns rfl (hb hby d1_116) hr
                          · show Q1 Z p0 c_rest c_grpc_unary c_grpc_streaming c_db_query c_db_transaction c_message_publish c_message_consume c_cache c_object_storage c_smtp c_dns c_mcp_tool c_webhook h0 n0 _ T25.heap _
                            rw [e25]
                            unfold Q1
                            refine ⟨?_, N0, rfl⟩
                            · simp only [own_f1, if_neg hc1, if_neg hc10, if_neg hc19, if_neg hc28, if_neg hc37, if_neg hc46, if_neg hc56, if_neg hc66, if_neg hc76, if_neg hc86, if_neg hc96, if_neg hc106]
theorem d2_0 : decode prog_57_method_5_code 0 = .ok (.aload_n 0, 1) := by decide +kernel
theorem d2_1 : decode prog_57_method_5_code 1 = .ok (.getstatic 3, 3) := by decide +kernel
theorem d2_4 : decode prog_57_method_5_code 4 = .ok (.if_acmp .eq 17, 3) := by decide +kernel
theorem d2_7 : decode prog_57_method_5_code 7 = .ok (.aload_n 0, 1) := by decide +kernel
theorem d2_8 : decode prog_57_method_5_code 8 = .ok (.getstatic 40, 3) := by decide +kernel
theorem d2_11 : decode prog_57_method_5_code 11 = .ok (.if_acmp .eq 10, 3) := by decide +kernel
theorem d2_14 : decode prog_57_method_5_code 14 = .ok (.aload_n 0, 1) := by decide +kernel
theorem d2_15 : decode prog_57_method_5_code 15 = .ok (.getstatic 37, 3) := by decide +kernel
theorem d2_18 : decode prog_57_method_5_code 18 = .ok (.if_acmp .ne 7, 3) := by decide +kernel
theorem d2_21 : decode prog_57_method_5_code 21 = .ok (.iconst 1, 1) := by decide +kernel
theorem d2_22 : decode prog_57_method_5_code 22 = .ok (.goto 4, 3) := by decide +kernel
theorem d2_25 : decode prog_57_method_5_code 25 = .ok (.iconst 0, 1) := by decide +kernel
theorem d2_26 : decode prog_57_method_5_code 26 = .ok (.ireturn, 1) := by decide +kernel
theorem pn_1 : plainName "dev/stint/policy/IntegrationType" = true := by first | (simp [plainName, overriddenIn]; done) | decide +kernel
theorem ef_2 (m : MethodId) (a0 : Addr) : entryFrame m #[(.ref a0)] 1 = mkF m 0 #[.val (.ref a0)] [] := by first | (simp [entryFrame, mkF, argsToLocals, Value.category]; done) | rfl
def own_f2 (a0 : Addr) (c_rest : Addr) (c_webhook : Addr) (c_mcp_tool : Addr) : Int32 := (if a0 = c_rest then (1 : Int32) else (if a0 = c_webhook then (1 : Int32) else (if a0 = c_mcp_tool then (1 : Int32) else (0 : Int32))))
def Q2 (Z : State) (a0 : Addr) (c_rest : Addr) (c_webhook : Addr) (c_mcp_tool : Addr) (h0 : Heap) (n0 : Nat) (v : Option Value) (h : Heap) (L : List Loc) : Prop := v = some (.int (own_f2 a0 c_rest c_webhook c_mcp_tool)) ∧ Fr n0 L ∧ h = h0
set_option maxRecDepth 65536 in
set_option maxHeartbeats 40000000 in
theorem rm2 (l : Launch) (Z : State) (aw : Array Value) (hw : ∀ d ∈ tables_1, d.before aw Z = true) (wq : List Jvm.Cond) (a0 : Addr) (c_rest : Addr) (c_webhook : Addr) (c_mcp_tool : Addr) (h0 : Heap) (n0 : Nat) (Z0 : n0 ≤ h0.size) (S_REST : Sta Z h0 "dev/stint/policy/IntegrationType" "REST" "Ldev/stint/policy/IntegrationType;" (.ref c_rest)) (S_WEBHOOK : Sta Z h0 "dev/stint/policy/IntegrationType" "WEBHOOK" "Ldev/stint/policy/IntegrationType;" (.ref c_webhook)) (S_MCP_TOOL : Sta Z h0 "dev/stint/policy/IntegrationType" "MCP_TOOL" "Ldev/stint/policy/IntegrationType;" (.ref c_mcp_tool)) :
    MetFree l (⟨"dev/stint/policy/IntegrationType", "isHttp", "()Z"⟩ : MethodName) (head1 (Jvm.Cond.code (⟨"dev/stint/policy/IntegrationType", "isHttp", "()Z"⟩ : MethodName) prog_57_method_5_code 1 (some .boolean) :: wq) ({ frames := 0, cells := 0, slots := 0, locals := 0 } : Room)) (fun a U => a = #[(.ref a0)] ∧ Z.Warmed39 U.vm ∧ U.heap = h0) (fun _ _ _ _ _ => True) (fun _ U o U' => ∃ v L, o = .returned v ∧ Q2 Z a0 c_rest c_webhook c_mcp_tool h0 n0 v U'.heap L ∧ FrameEnd U o U' L ({ frames := 0, cells := 0, slots := 0, locals := 0 } : Room).cells ({ frames := 0, cells := 0, slots := 0, locals := 0 } : Room).slots) := by
  refine MetFree.of_bodySF (plainFor_of_name pn_1) hisR ?_
  intro p e s m args below meth c s₁ Bd hml0 hP hK
  obtain ⟨rfl, hZ, hh⟩ := hP
  have hx := Bd.exec
  have hby := Bd.bytes
  have hml : c.maxLocals = 1 := hml0
  have hown : s.vm.findClass "dev/stint/policy/IntegrationType" = some m.cls := findClass_of_methodNamed Bd.named
  have hnm := (name_of_methodNamed Bd.named Bd.method).1
  have X0 : Stand p l e ({ frames := 0, cells := 0, slots := 0, locals := 0 } : Room) s m #[(.ref a0)] below meth c s₁ [] 0 0 := Stand.of_body Bd
  have e0 : s₁.heap = h0 := by rw [← hh, Bd.state]; rfl
  have N0 := Fr.nil n0
  have pre0 : own_Pre p e below (s₁.setTop (entryFrame m #[(.ref a0)] 1)) (s₁.setTop (mkF m 0 #[.val (.ref a0)] [])) := fun t k => castTop (ef_2 m a0) k
  obtain ⟨T1, X1, e1, st1⟩ := getS2 X0 hx hZ hown (host := "") (Or.inl (hw _ (List.mem_of_getElem? (i := 13) rfl))) Via.refl e0 S_REST (g := (mkF m 1 #[.val (.ref a0)] [(.ref a0)])) rfl (hb hby d2_1)
  have pre2 : own_Pre p e below (s₁.setTop (entryFrame m #[(.ref a0)] 1)) (T1.setTop (mkF m 4 #[.val (.ref a0)] [(.ref c_rest), (.ref a0)])) := fun t k => pre0 t (by
      show Steps p.tables e below (s₁.setTop (mkF m 0 #[.val (.ref a0)] [])) _
      refine XS.aloadN X0.here hx rfl (hb hby d2_0) rfl rfl ?_
      show Steps p.tables e below (s₁.setTop (mkF m 1 #[.val (.ref a0)] [(.ref a0)])) _
      refine st1 _ ?_
      exact k)
  by_cases hc4 : a0 = c_rest
  · obtain ⟨fs, hr, hrun, hended, hW, hsame⟩ := X1.leave (v := some (.int (1 : Int32))) (fun h => by rw [Bd.returns] at h; cases h)
    refine ⟨_, _, pre2 _ ?_, hrun, hended, _, _, rfl, ?_, ⟨_, rfl⟩, hW, hsame.mono (by decide) (by decide)⟩
    · show Steps p.tables e below (T1.setTop (mkF m 4 #[.val (.ref a0)] [(.ref c_rest), (.ref a0)])) _
      refine Jvm.RoadKit.acmp (g := (mkF m 4 #[.val (.ref a0)] [(.ref c_rest), (.ref a0)])) X1 hx rfl rfl rfl (pc0 := 4) (pc' := 21) (same := true) rfl (hb hby d2_4) rfl (decide_eq_true (congrArg Value.ref hc4)) (by decide) (by decide) ?_
      show Steps p.tables e below (T1.setTop (mkF m 21 #[.val (.ref a0)] [])) _
      refine XS.iconst X1.here hx rfl (hb hby d2_21) ?_
      show Steps p.tables e below (T1.setTop (mkF m 22 #[.val (.ref a0)] [(.int (1 : Int32))])) _
      refine XS.goto X1.here hx rfl (pc0 := 22) (pc' := 26) rfl (hb hby d2_22) (by decide) (by decide) ?_
      show Steps p.tables e below (T1.setTop (mkF m 26 #[.val (.ref a0)] [(.int (1 : Int32))])) _
      exact retN X1 hx (t := .boolean) Bd.returns (by simp) (hb hby d2_26) hr
    · show Q2 Z a0 c_rest c_webhook c_mcp_tool h0 n0 _ T1.heap _
      rw [e1]
      unfold Q2
      refine ⟨?_, N0, rfl⟩
      · simp only [own_f2, if_pos hc4]
  · obtain ⟨T3, X3, e3, st3⟩ := getS2 X1 hx hZ hown (host := "") (Or.inl (hw _ (List.mem_of_getElem? (i := 16) rfl))) Via.refl e1 S_WEBHOOK (g := (mkF m 8 #[.val (.ref a0)] [(.ref a0)])) rfl (hb hby d2_8)
    have pre4 : own_Pre p e below (s₁.setTop (entryFrame m #[(.ref a0)] 1)) (T3.setTop (mkF m 11 #[.val (.ref a0)] [(.ref c_webhook), (.ref a0)])) := fun t k => pre2 t (by
        show Steps p.tables e below (T1.setTop (mkF m 4 #[.val (.ref a0)] [(.ref c_rest), (.ref a0)])) _
        refine Jvm.RoadKit.acmp (g := (mkF m 4 #[.val (.ref a0)] [(.ref c_rest), (.ref a0)])) X1 hx rfl rfl rfl (pc0 := 4) (pc' := 7) (same := false) rfl (hb hby d2_4) rfl (decide_eq_false fun q => hc4 (Value.ref.inj q)) (by decide) (by decide) ?_
        show Steps p.tables e below (T1.setTop (mkF m 7 #[.val (.ref a0)] [])) _
        refine XS.aloadN X1.here hx rfl (hb hby d2_7) rfl rfl ?_
        show Steps p.tables e below (T1.setTop (mkF m 8 #[.val (.ref a0)] [(.ref a0)])) _
        refine st3 _ ?_
        exact k)
    by_cases hc11 : a0 = c_webhook
    · obtain ⟨fs, hr, hrun, hended, hW, hsame⟩ := X3.leave (v := some (.int (1 : Int32))) (fun h => by rw [Bd.returns] at h; cases h)
      refine ⟨_, _, pre4 _ ?_, hrun, hended, _, _, rfl, ?_, ⟨_, rfl⟩, hW, hsame.mono (by decide) (by decide)⟩
      · show Steps p.tables e below (T3.setTop (mkF m 11 #[.val (.ref a0)] [(.ref c_webhook), (.ref a0)])) _
        refine Jvm.RoadKit.acmp (g := (mkF m 11 #[.val (.ref a0)] [(.ref c_webhook), (.ref a0)])) X3 hx rfl rfl rfl (pc0 := 11) (pc' := 21) (same := true) rfl (hb hby d2_11) rfl (decide_eq_true (congrArg Value.ref hc11)) (by decide) (by decide) ?_
        show Steps p.tables e below (T3.setTop (mkF m 21 #[.val (.ref a0)] [])) _
        refine XS.iconst X3.here hx rfl (hb hby d2_21) ?_
        show Steps p.tables e below (T3.setTop (mkF m 22 #[.val (.ref a0)] [(.int (1 : Int32))])) _
        refine XS.goto X3.here hx rfl (pc0 := 22) (pc' := 26) rfl (hb hby d2_22) (by decide) (by decide) ?_
        show Steps p.tables e below (T3.setTop (mkF m 26 #[.val (.ref a0)] [(.int (1 : Int32))])) _
        exact retN X3 hx (t := .boolean) Bd.returns (by simp) (hb hby d2_26) hr
      · show Q2 Z a0 c_rest c_webhook c_mcp_tool h0 n0 _ T3.heap _
        rw [e3]
        unfold Q2
        refine ⟨?_, N0, rfl⟩
        · simp only [own_f2, if_neg hc4, if_pos hc11]
    · obtain ⟨T5, X5, e5, st5⟩ := getS2 X3 hx hZ hown (host := "") (Or.inl (hw _ (List.mem_of_getElem? (i := 18) rfl))) Via.refl e3 S_MCP_TOOL (g := (mkF m 15 #[.val (.ref a0)] [(.ref a0)])) rfl (hb hby d2_15)
      have pre6 : own_Pre p e below (s₁.setTop (entryFrame m #[(.ref a0)] 1)) (T5.setTop (mkF m 18 #[.val (.ref a0)] [(.ref c_mcp_tool), (.ref a0)])) := fun t k => pre4 t (by
          show Steps p.tables e below (T3.setTop (mkF m 11 #[.val (.ref a0)] [(.ref c_webhook), (.ref a0)])) _
          refine Jvm.RoadKit.acmp (g := (mkF m 11 #[.val (.ref a0)] [(.ref c_webhook), (.ref a0)])) X3 hx rfl rfl rfl (pc0 := 11) (pc' := 14) (same := false) rfl (hb hby d2_11) rfl (decide_eq_false fun q => hc11 (Value.ref.inj q)) (by decide) (by decide) ?_
          show Steps p.tables e below (T3.setTop (mkF m 14 #[.val (.ref a0)] [])) _
          refine XS.aloadN X3.here hx rfl (hb hby d2_14) rfl rfl ?_
          show Steps p.tables e below (T3.setTop (mkF m 15 #[.val (.ref a0)] [(.ref a0)])) _
          refine st5 _ ?_
          exact k)
      by_cases hc18 : a0 = c_mcp_tool
      · obtain ⟨fs, hr, hrun, hended, hW, hsame⟩ := X5.leave (v := some (.int (1 : Int32))) (fun h => by rw [Bd.returns] at h; cases h)
        refine ⟨_, _, pre6 _ ?_, hrun, hended, _, _, rfl, ?_, ⟨_, rfl⟩, hW, hsame.mono (by decide) (by decide)⟩
        · show Steps p.tables e below (T5.setTop (mkF m 18 #[.val (.ref a0)] [(.ref c_mcp_tool), (.ref a0)])) _
          refine Jvm.RoadKit.acmp (g := (mkF m 18 #[.val (.ref a0)] [(.ref c_mcp_tool), (.ref a0)])) X5 hx rfl rfl rfl (pc0 := 18) (pc' := 21) (same := true) rfl (hb hby d2_18) rfl (decide_eq_true (congrArg Value.ref hc18)) (by decide) (by decide) ?_
          show Steps p.tables e below (T5.setTop (mkF m 21 #[.val (.ref a0)] [])) _
          refine XS.iconst X5.here hx rfl (hb hby d2_21) ?_
          show Steps p.tables e below (T5.setTop (mkF m 22 #[.val (.ref a0)] [(.int (1 : Int32))])) _
          refine XS.goto X5.here hx rfl (pc0 := 22) (pc' := 26) rfl (hb hby d2_22) (by decide) (by decide) ?_
          show Steps p.tables e below (T5.setTop (mkF m 26 #[.val (.ref a0)] [(.int (1 : Int32))])) _
          exact retN X5 hx (t := .boolean) Bd.returns (by simp) (hb hby d2_26) hr
        · show Q2 Z a0 c_rest c_webhook c_mcp_tool h0 n0 _ T5.heap _
          rw [e5]
          unfold Q2
          refine ⟨?_, N0, rfl⟩
          · simp only [own_f2, if_neg hc4, if_neg hc11, if_pos hc18]
      · obtain ⟨fs, hr, hrun, hended, hW, hsame⟩ := X5.leave (v := some (.int (0 : Int32))) (fun h => by rw [Bd.returns] at h; cases h)
        refine ⟨_, _, pre6 _ ?_, hrun, hended, _, _, rfl, ?_, ⟨_, rfl⟩, hW, hsame.mono (by decide) (by decide)⟩
        · show Steps p.tables e below (T5.setTop (mkF m 18 #[.val (.ref a0)] [(.ref c_mcp_tool), (.ref a0)])) _
          refine Jvm.RoadKit.acmp (g := (mkF m 18 #[.val (.ref a0)] [(.ref c_mcp_tool), (.ref a0)])) X5 hx rfl rfl rfl (pc0 := 18) (pc' := 25) (same := false) rfl (hb hby d2_18) rfl (decide_eq_false fun q => hc18 (Value.ref.inj q)) (by decide) (by decide) ?_
          show Steps p.tables e below (T5.setTop (mkF m 25 #[.val (.ref a0)] [])) _
          refine XS.iconst X5.here hx rfl (hb hby d2_25) ?_
          show Steps p.tables e below (T5.setTop (mkF m 26 #[.val (.ref a0)] [(.int (0 : Int32))])) _
          exact retN X5 hx (t := .boolean) Bd.returns (by simp) (hb hby d2_26) hr
        · show Q2 Z a0 c_rest c_webhook c_mcp_tool h0 n0 _ T5.heap _
          rw [e5]
          unfold Q2
          refine ⟨?_, N0, rfl⟩
          · simp only [own_f2, if_neg hc4, if_neg hc11, if_neg hc18]
theorem pd_0 : parseMethodDescriptor "(I)Ldev/stint/policy/IntegrationType;" = some ⟨[.int], some (.object "dev/stint/policy/IntegrationType")⟩ := by decide +kernel
theorem pd_1 : parseMethodDescriptor "()Z" = some ⟨[], some .boolean⟩ := by decide +kernel
theorem ef_0 (m : MethodId) (p0 : Int32) : entryFrame m #[(.int p0)] maxLocals = mkF m 0 #[.val (.int p0), .unset, .unset, .unset] [] := by first | (simp [entryFrame, mkF, argsToLocals, Value.category, maxLocals]; done) | rfl
def own_m0_34_s0 (v0 : Int32) : Int32 := (if v0 = (0 : Int32) then (1 : Int32) else (if v0 = (11 : Int32) then (1 : Int32) else (if v0 = (12 : Int32) then (1 : Int32) else (0 : Int32))))
theorem own_range {p : Int32} (x : Int32) (hx : x = (p &&& (2147483647 : Int32)) % (13 : Int32)) : x = (0 : Int32) ∨ x = (1 : Int32) ∨ x = (2 : Int32) ∨ x = (3 : Int32) ∨ x = (4 : Int32) ∨ x = (5 : Int32) ∨ x = (6 : Int32) ∨ x = (7 : Int32) ∨ x = (8 : Int32) ∨ x = (9 : Int32) ∨ x = (10 : Int32) ∨ x = (11 : Int32) ∨ x = (12 : Int32) := by
  have h1 := c_mask p 2147483647 31 (by decide) (by decide)
  have h2 := (c_irem (p &&& (2147483647 : Int32)) (13 : Int32) 13 rfl).1 (by omega)
  rw [← hx] at h2
  have h3 : x.toInt = 0 ∨ x.toInt = 1 ∨ x.toInt = 2 ∨ x.toInt = 3 ∨ x.toInt = 4 ∨ x.toInt = 5 ∨ x.toInt = 6 ∨ x.toInt = 7 ∨ x.toInt = 8 ∨ x.toInt = 9 ∨ x.toInt = 10 ∨ x.toInt = 11 ∨ x.toInt = 12 := by omega
  rcases h3 with h | h | h | h | h | h | h | h | h | h | h | h | h
  · exact Or.inl (Int32.toInt_inj.mp h)
  · exact Or.inr (Or.inl (Int32.toInt_inj.mp h))
  · exact Or.inr (Or.inr (Or.inl (Int32.toInt_inj.mp h)))
  · exact Or.inr (Or.inr (Or.inr (Or.inl (Int32.toInt_inj.mp h))))
  · exact Or.inr (Or.inr (Or.inr (Or.inr (Or.inl (Int32.toInt_inj.mp h)))))
  · exact Or.inr (Or.inr (Or.inr (Or.inr (Or.inr (Or.inl (Int32.toInt_inj.mp h))))))
  · exact Or.inr (Or.inr (Or.inr (Or.inr (Or.inr (Or.inr (Or.inl (Int32.toInt_inj.mp h)))))))
  · exact Or.inr (Or.inr (Or.inr (Or.inr (Or.inr (Or.inr (Or.inr (Or.inl (Int32.toInt_inj.mp h))))))))
  · exact Or.inr (Or.inr (Or.inr (Or.inr (Or.inr (Or.inr (Or.inr (Or.inr (Or.inl (Int32.toInt_inj.mp h)))))))))
  · exact Or.inr (Or.inr (Or.inr (Or.inr (Or.inr (Or.inr (Or.inr (Or.inr (Or.inr (Or.inl (Int32.toInt_inj.mp h))))))))))
  · exact Or.inr (Or.inr (Or.inr (Or.inr (Or.inr (Or.inr (Or.inr (Or.inr (Or.inr (Or.inr (Or.inl (Int32.toInt_inj.mp h)))))))))))
  · exact Or.inr (Or.inr (Or.inr (Or.inr (Or.inr (Or.inr (Or.inr (Or.inr (Or.inr (Or.inr (Or.inr (Or.inl (Int32.toInt_inj.mp h))))))))))))
  · exact Or.inr (Or.inr (Or.inr (Or.inr (Or.inr (Or.inr (Or.inr (Or.inr (Or.inr (Or.inr (Or.inr (Or.inr ((Int32.toInt_inj.mp h)))))))))))))
theorem own_plain {p : Int32} (x : Int32) (hx : x = (p &&& (2147483647 : Int32)) % (13 : Int32)) (c_rest c_grpc_unary c_grpc_streaming c_db_query c_db_transaction c_message_publish c_message_consume c_cache c_object_storage c_smtp c_dns c_mcp_tool c_webhook : Addr) (n_rest_grpc_unary : c_grpc_unary ≠ c_rest) (n_rest_grpc_streaming : c_grpc_streaming ≠ c_rest) (n_rest_db_query : c_db_query ≠ c_rest) (n_rest_db_transaction : c_db_transaction ≠ c_rest) (n_rest_message_publish : c_message_publish ≠ c_rest) (n_rest_message_consume : c_message_consume ≠ c_rest) (n_rest_cache : c_cache ≠ c_rest) (n_rest_object_storage : c_object_storage ≠ c_rest) (n_rest_smtp : c_smtp ≠ c_rest) (n_rest_dns : c_dns ≠ c_rest) (n_rest_mcp_tool : c_mcp_tool ≠ c_rest) (n_rest_webhook : c_webhook ≠ c_rest) (n_webhook_rest : c_rest ≠ c_webhook) (n_webhook_grpc_unary : c_grpc_unary ≠ c_webhook) (n_webhook_grpc_streaming : c_grpc_streaming ≠ c_webhook) (n_webhook_db_query : c_db_query ≠ c_webhook) (n_webhook_db_transaction : c_db_transaction ≠ c_webhook) (n_webhook_message_publish : c_message_publish ≠ c_webhook) (n_webhook_message_consume : c_message_consume ≠ c_webhook) (n_webhook_cache : c_cache ≠ c_webhook) (n_webhook_object_storage : c_object_storage ≠ c_webhook) (n_webhook_smtp : c_smtp ≠ c_webhook) (n_webhook_dns : c_dns ≠ c_webhook) (n_webhook_mcp_tool : c_mcp_tool ≠ c_webhook) (n_mcp_tool_rest : c_rest ≠ c_mcp_tool) (n_mcp_tool_grpc_unary : c_grpc_unary ≠ c_mcp_tool) (n_mcp_tool_grpc_streaming : c_grpc_streaming ≠ c_mcp_tool) (n_mcp_tool_db_query : c_db_query ≠ c_mcp_tool) (n_mcp_tool_db_transaction : c_db_transaction ≠ c_mcp_tool) (n_mcp_tool_message_publish : c_message_publish ≠ c_mcp_tool) (n_mcp_tool_message_consume : c_message_consume ≠ c_mcp_tool) (n_mcp_tool_cache : c_cache ≠ c_mcp_tool) (n_mcp_tool_object_storage : c_object_storage ≠ c_mcp_tool) (n_mcp_tool_smtp : c_smtp ≠ c_mcp_tool) (n_mcp_tool_dns : c_dns ≠ c_mcp_tool) (n_mcp_tool_webhook : c_webhook ≠ c_mcp_tool) : (own_f2 (own_f1 x c_rest c_grpc_unary c_grpc_streaming c_db_query c_db_transaction c_message_publish c_message_consume c_cache c_object_storage c_smtp c_dns c_mcp_tool c_webhook) c_rest c_webhook c_mcp_tool) = (own_m0_34_s0 x) := by
  rcases own_range x hx with rfl | rfl | rfl | rfl | rfl | rfl | rfl | rfl | rfl | rfl | rfl | rfl | rfl
  all_goals (simp [own_f1, own_f2, own_m0_34_s0, n_rest_grpc_unary, n_rest_grpc_streaming, n_rest_db_query, n_rest_db_transaction, n_rest_message_publish, n_rest_message_consume, n_rest_cache, n_rest_object_storage, n_rest_smtp, n_rest_dns, n_rest_mcp_tool, n_rest_webhook, n_webhook_rest, n_webhook_grpc_unary, n_webhook_grpc_streaming, n_webhook_db_query, n_webhook_db_transaction, n_webhook_message_publish, n_webhook_message_consume, n_webhook_cache, n_webhook_object_storage, n_webhook_smtp, n_webhook_dns, n_webhook_mcp_tool, n_mcp_tool_rest, n_mcp_tool_grpc_unary, n_mcp_tool_grpc_streaming, n_mcp_tool_db_query, n_mcp_tool_db_transaction, n_mcp_tool_message_publish, n_mcp_tool_message_consume, n_mcp_tool_cache, n_mcp_tool_object_storage, n_mcp_tool_smtp, n_mcp_tool_dns, n_mcp_tool_webhook])
def Q0 (Z : State) (p0 : Int32) (c_rest : Addr) (c_grpc_unary : Addr) (c_grpc_streaming : Addr) (c_db_query : Addr) (c_db_transaction : Addr) (c_message_publish : Addr) (c_message_consume : Addr) (c_cache : Addr) (c_object_storage : Addr) (c_smtp : Addr) (c_dns : Addr) (c_mcp_tool : Addr) (c_webhook : Addr) (h0 : Heap) (n0 : Nat) (v : Option Value) (h : Heap) (L : List Loc) : Prop := v = some (.int (1 : Int32)) ∧ Fr n0 L
set_option maxRecDepth 65536 in
set_option maxHeartbeats 40000000 in
theorem rm0 (l : Launch) (Z : State) (aw : Array Value) (hw : ∀ d ∈ tables_1, d.before aw Z = true) (wq : List Jvm.Cond) (p0 : Int32) (c_rest : Addr) (c_grpc_unary : Addr) (c_grpc_streaming : Addr) (c_db_query : Addr) (c_db_transaction : Addr) (c_message_publish : Addr) (c_message_consume : Addr) (c_cache : Addr) (c_object_storage : Addr) (c_smtp : Addr) (c_dns : Addr) (c_mcp_tool : Addr) (c_webhook : Addr) (h0 : Heap) (n0 : Nat) (Z0 : n0 ≤ h0.size) (S_REST : Sta Z h0 "dev/stint/policy/IntegrationType" "REST" "Ldev/stint/policy/IntegrationType;" (.ref c_rest)) (S_GRPC_UNARY : Sta Z h0 "dev/stint/policy/IntegrationType" "GRPC_UNARY" "Ldev/stint/policy/IntegrationType;" (.ref c_grpc_unary)) (S_GRPC_STREAMING : Sta Z h0 "dev/stint/policy/IntegrationType" "GRPC_STREAMING" "Ldev/stint/policy/IntegrationType;" (.ref c_grpc_streaming)) (S_DB_QUERY : Sta Z h0 "dev/stint/policy/IntegrationType" "DB_QUERY" "Ldev/stint/policy/IntegrationType;" (.ref c_db_query)) (S_DB_TRANSACTION : Sta Z h0 "dev/stint/policy/IntegrationType" "DB_TRANSACTION" "Ldev/stint/policy/IntegrationType;" (.ref c_db_transaction)) (S_MESSAGE_PUBLISH : Sta Z h0 "dev/stint/policy/IntegrationType" "MESSAGE_PUBLISH" "Ldev/stint/policy/IntegrationType;" (.ref c_message_publish)) (S_MESSAGE_CONSUME : Sta Z h0 "dev/stint/policy/IntegrationType" "MESSAGE_CONSUME" "Ldev/stint/policy/IntegrationType;" (.ref c_message_consume)) (S_CACHE : Sta Z h0 "dev/stint/policy/IntegrationType" "CACHE" "Ldev/stint/policy/IntegrationType;" (.ref c_cache)) (S_OBJECT_STORAGE : Sta Z h0 "dev/stint/policy/IntegrationType" "OBJECT_STORAGE" "Ldev/stint/policy/IntegrationType;" (.ref c_object_storage)) (S_SMTP : Sta Z h0 "dev/stint/policy/IntegrationType" "SMTP" "Ldev/stint/policy/IntegrationType;" (.ref c_smtp)) (S_DNS : Sta Z h0 "dev/stint/policy/IntegrationType" "DNS" "Ldev/stint/policy/IntegrationType;" (.ref c_dns)) (S_MCP_TOOL : Sta Z h0 "dev/stint/policy/IntegrationType" "MCP_TOOL" "Ldev/stint/policy/IntegrationType;" (.ref c_mcp_tool)) (S_WEBHOOK : Sta Z h0 "dev/stint/policy/IntegrationType" "WEBHOOK" "Ldev/stint/policy/IntegrationType;" (.ref c_webhook)) (Ex_rest : Exa Z h0 c_rest "dev/stint/policy/IntegrationType") (Ex_grpc_unary : Exa Z h0 c_grpc_unary "dev/stint/policy/IntegrationType") (Ex_grpc_streaming : Exa Z h0 c_grpc_streaming "dev/stint/policy/IntegrationType") (Ex_db_query : Exa Z h0 c_db_query "dev/stint/policy/IntegrationType") (Ex_db_transaction : Exa Z h0 c_db_transaction "dev/stint/policy/IntegrationType") (Ex_message_publish : Exa Z h0 c_message_publish "dev/stint/policy/IntegrationType") (Ex_message_consume : Exa Z h0 c_message_consume "dev/stint/policy/IntegrationType") (Ex_cache : Exa Z h0 c_cache "dev/stint/policy/IntegrationType") (Ex_object_storage : Exa Z h0 c_object_storage "dev/stint/policy/IntegrationType") (Ex_smtp : Exa Z h0 c_smtp "dev/stint/policy/IntegrationType") (Ex_dns : Exa Z h0 c_dns "dev/stint/policy/IntegrationType") (Ex_mcp_tool : Exa Z h0 c_mcp_tool "dev/stint/policy/IntegrationType") (Ex_webhook : Exa Z h0 c_webhook "dev/stint/policy/IntegrationType") (n_rest_grpc_unary : c_grpc_unary ≠ c_rest) (n_rest_grpc_streaming : c_grpc_streaming ≠ c_rest) (n_rest_db_query : c_db_query ≠ c_rest) (n_rest_db_transaction : c_db_transaction ≠ c_rest) (n_rest_message_publish : c_message_publish ≠ c_rest) (n_rest_message_consume : c_message_consume ≠ c_rest) (n_rest_cache : c_cache ≠ c_rest) (n_rest_object_storage : c_object_storage ≠ c_rest) (n_rest_smtp : c_smtp ≠ c_rest) (n_rest_dns : c_dns ≠ c_rest) (n_rest_mcp_tool : c_mcp_tool ≠ c_rest) (n_rest_webhook : c_webhook ≠ c_rest) (n_webhook_rest : c_rest ≠ c_webhook) (n_webhook_grpc_unary : c_grpc_unary ≠ c_webhook) (n_webhook_grpc_streaming : c_grpc_streaming ≠ c_webhook) (n_webhook_db_query : c_db_query ≠ c_webhook) (n_webhook_db_transaction : c_db_transaction ≠ c_webhook) (n_webhook_message_publish : c_message_publish ≠ c_webhook) (n_webhook_message_consume : c_message_consume ≠ c_webhook) (n_webhook_cache : c_cache ≠ c_webhook) (n_webhook_object_storage : c_object_storage ≠ c_webhook) (n_webhook_smtp : c_smtp ≠ c_webhook) (n_webhook_dns : c_dns ≠ c_webhook) (n_webhook_mcp_tool : c_mcp_tool ≠ c_webhook) (n_mcp_tool_rest : c_rest ≠ c_mcp_tool) (n_mcp_tool_grpc_unary : c_grpc_unary ≠ c_mcp_tool) (n_mcp_tool_grpc_streaming : c_grpc_streaming ≠ c_mcp_tool) (n_mcp_tool_db_query : c_db_query ≠ c_mcp_tool) (n_mcp_tool_db_transaction : c_db_transaction ≠ c_mcp_tool) (n_mcp_tool_message_publish : c_message_publish ≠ c_mcp_tool) (n_mcp_tool_message_consume : c_message_consume ≠ c_mcp_tool) (n_mcp_tool_cache : c_cache ≠ c_mcp_tool) (n_mcp_tool_object_storage : c_object_storage ≠ c_mcp_tool) (n_mcp_tool_smtp : c_smtp ≠ c_mcp_tool) (n_mcp_tool_dns : c_dns ≠ c_mcp_tool) (n_mcp_tool_webhook : c_webhook ≠ c_mcp_tool) :
    MetFree l x (head1 (Jvm.Cond.code x code maxLocals ret :: wq) room_1) (fun a U => a = #[(.int p0)] ∧ Z.Warmed39 U.vm ∧ U.heap = h0) (fun _ _ _ _ _ => True) (fun _ U o U' => ∃ v L, o = .returned v ∧ Q0 Z p0 c_rest c_grpc_unary c_grpc_streaming c_db_query c_db_transaction c_message_publish c_message_consume c_cache c_object_storage c_smtp c_dns c_mcp_tool c_webhook h0 n0 v U'.heap L ∧ FrameEnd U o U' L 0 0) := by
  refine MetFree.of_bodySF (plainFor_of_name pn_0) hisR ?_
  intro p e s m args below meth c s₁ Bd hml0 hP hK
  obtain ⟨rfl, hZ, hh⟩ := hP
  have hx := Bd.exec
  have hby := Bd.bytes
  have hml : c.maxLocals = 4 := hml0
  have hown : s.vm.findClass "dev/stint/policy/IntegrationTypeIsHttpPinLaw" = some m.cls := findClass_of_methodNamed Bd.named
  have hnm := (name_of_methodNamed Bd.named Bd.method).1
  have X0 : Stand p l e room_1 s m #[(.int p0)] below meth c s₁ [] 0 0 := Stand.of_body Bd
  have e0 : s₁.heap = h0 := by rw [← hh, Bd.state]; rfl
  have N0 := Fr.nil n0
  have pre0 : own_Pre p e below (s₁.setTop (entryFrame m #[(.int p0)] maxLocals)) (s₁.setTop (mkF m 0 #[.val (.int p0), .unset, .unset, .unset] [])) := fun t k => castTop (ef_0 m p0) k
  obtain ⟨x1_8, hx1_8, pre1⟩ : ∃ z : Int32, z = ((p0 &&& (2147483647 : Int32)) % (13 : Int32)) ∧ own_Pre p e below (s₁.setTop (entryFrame m #[(.int p0)] maxLocals)) (s₁.setTop (mkF m 8 #[.val (.int p0), .val (.int z), .unset, .unset] [])) := ⟨_, rfl, fun t k => pre0 t (by
      show Steps p.tables e below (s₁.setTop (mkF m 0 #[.val (.int p0), .unset, .unset, .unset] [])) _
      refine XS.iloadN X0.here hx rfl (hb hby at_0) rfl ?_
      show Steps p.tables e below (s₁.setTop (mkF m 1 #[.val (.int p0), .unset, .unset, .unset] [(.int p0)])) _
      refine X0.ldcInt hx hown (mvT hZ (hw _ (List.mem_of_getElem? (i := 0) rfl))) (g := (mkF m 1 #[.val (.int p0), .unset, .unset, .unset] [(.int p0)])) rfl (hb hby at_1) _ ?_
      show Steps p.tables e below (s₁.setTop (mkF m 3 #[.val (.int p0), .unset, .unset, .unset] [(.int (2147483647 : Int32)), (.int p0)])) _
      refine XS.iand X0.here hx rfl (hb hby at_3) rfl ?_
      show Steps p.tables e below (s₁.setTop (mkF m 4 #[.val (.int p0), .unset, .unset, .unset] [(.int (p0 &&& (2147483647 : Int32)))])) _
      refine XS.bipush X0.here hx rfl (hb hby at_4) ?_
      show Steps p.tables e below (s₁.setTop (mkF m 6 #[.val (.int p0), .unset, .unset, .unset] [(.int (13 : Int32)), (.int (p0 &&& (2147483647 : Int32)))])) _
      refine iremM X0 hx rfl (hb hby at_6) rfl (by decide) ?_
      show Steps p.tables e below (s₁.setTop (mkF m 7 #[.val (.int p0), .unset, .unset, .unset] [(.int ((p0 &&& (2147483647 : Int32)) % (13 : Int32)))])) _
      refine XS.istoreN X0.here hx rfl (hb hby at_7) rfl (l' := #[.val (.int p0), .val (.int ((p0 &&& (2147483647 : Int32)) % (13 : Int32))), .unset, .unset]) rfl ?_
      exact k)⟩
  obtain ⟨_, _, ⟨T2, L2, k2, n2⟩, -, X2, ⟨Lc2, hQ2, l2, y2, z2⟩, st2⟩ := Jvm.LawKit.callS X0 hx (y := (⟨"dev/stint/policy/IntegrationTypeIsHttpPinLaw", "pick", "(I)Ldev/stint/policy/IntegrationType;"⟩ : MethodName)) hown (mvT hZ (hw _ (List.mem_of_getElem? (i := 1) rfl))) (mvT hZ (hw _ (List.mem_of_getElem? (i := 2) rfl))) (mvT hZ (hw _ (List.mem_of_getElem? (i := 3) rfl))) (mvT hZ (hw _ (List.mem_of_getElem? (i := 4) rfl))) (by decide) (backOf (W := 0) (rm1 l Z aw hw [] (x1_8) (c_rest) (c_grpc_unary) (c_grpc_streaming) (c_db_query) (c_db_transaction) (c_message_publish) (c_message_consume) (c_cache) (c_object_storage) (c_smtp) (c_dns) (c_mcp_tool) (c_webhook) (h0) n0 Z0 S_REST S_GRPC_UNARY S_GRPC_STREAMING S_DB_QUERY S_DB_TRANSACTION S_MESSAGE_PUBLISH S_MESSAGE_CONSUME S_CACHE S_OBJECT_STORAGE S_SMTP S_DNS S_MCP_TOOL S_WEBHOOK) hZ (hw _ (List.mem_of_getElem? (i := 4) rfl)) (hw _ (List.mem_of_getElem? (i := 3) rfl)) (by decide) (by decide)) (g := (mkF m 9 #[.val (.int p0), .val (.int x1_8), .unset, .unset] [(.int x1_8)])) rfl (by rw [hml]; rfl) (argsL := [(.int x1_8)]) (rest := []) (lenOf pd_0 rfl) rfl (by show 2 * 0 + _ ≤ _; exact Nat.le_of_eq rfl) (hb hby at_9) (fun _ _ => ⟨rfl, e0, (by decide : 0 + 0 ≤ _), (by decide : 0 + 0 ≤ _)⟩)
  dsimp only [Pt.U, Pt.locs, Pt.cells, Pt.slots] at X2 l2 y2 z2 st2 hQ2
  subst l2 y2 z2
  obtain ⟨rfl, Nq2, eq2⟩ := hQ2
  have N2 := Fr.app N0 Nq2
  obtain ⟨x2_13, hx2_13, pre3⟩ : ∃ z : Addr, z = (own_f1 x1_8 c_rest c_grpc_unary c_grpc_streaming c_db_query c_db_transaction c_message_publish c_message_consume c_cache c_object_storage c_smtp c_dns c_mcp_tool c_webhook) ∧ own_Pre p e below (s₁.setTop (entryFrame m #[(.int p0)] maxLocals)) (T2.setTop (mkF m 13 #[.val (.int p0), .val (.int x1_8), .val (.ref z), .unset] [])) := ⟨_, rfl, fun t k => pre1 t (by
      show Steps p.tables e below (s₁.setTop (mkF m 8 #[.val (.int p0), .val (.int x1_8), .unset, .unset] [])) _
      refine XS.iloadN X0.here hx rfl (hb hby at_8) rfl ?_
      show Steps p.tables e below (s₁.setTop (mkF m 9 #[.val (.int p0), .val (.int x1_8), .unset, .unset] [(.int x1_8)])) _
      refine st2 _ ?_
      show Steps p.tables e below (T2.setTop (mkF m 12 #[.val (.int p0), .val (.int x1_8), .unset, .unset] [(.ref (own_f1 x1_8 c_rest c_grpc_unary c_grpc_streaming c_db_query c_db_transaction c_message_publish c_message_consume c_cache c_object_storage c_smtp c_dns c_mcp_tool c_webhook))])) _
      refine XS.astoreN X2.here hx rfl (hb hby at_12) rfl rfl (l' := #[.val (.int p0), .val (.int x1_8), .val (.ref (own_f1 x1_8 c_rest c_grpc_unary c_grpc_streaming c_db_query c_db_transaction c_message_publish c_message_consume c_cache c_object_storage c_smtp c_dns c_mcp_tool c_webhook)), .unset]) rfl ?_
      exact k)⟩
  have pre6 : own_Pre p e below (s₁.setTop (entryFrame m #[(.int p0)] maxLocals)) (T2.setTop (mkF m 14 #[.val (.int p0), .val (.int x1_8), .val (.ref x2_13), .unset] [(.int x1_8)])) := fun t k => pre3 t (by
      show Steps p.tables e below (T2.setTop (mkF m 13 #[.val (.int p0), .val (.int x1_8), .val (.ref x2_13), .unset] [])) _
      refine XS.iloadN X2.here hx rfl (hb hby at_13) rfl ?_
      exact k)
  obtain ⟨m34_s0, hm34_s0, pre5⟩ : ∃ (m34_s0 : Int32), m34_s0 = (own_m0_34_s0 x1_8) ∧ own_Pre p e below (s₁.setTop (entryFrame m #[(.int p0)] maxLocals)) (T2.setTop (mkF m 34 #[.val (.int p0), .val (.int x1_8), .val (.ref x2_13), .unset] [(.int m34_s0)])) := by
    by_cases hc14 : x1_8 = (0 : Int32)
    · have pre7 : own_Pre p e below (s₁.setTop (entryFrame m #[(.int p0)] maxLocals)) (T2.setTop (mkF m 34 #[.val (.int p0), .val (.int x1_8), .val (.ref x2_13), .unset] [(.int (1 : Int32))])) := fun t k => pre6 t (by
          show Steps p.tables e below (T2.setTop (mkF m 14 #[.val (.int p0), .val (.int x1_8), .val (.ref x2_13), .unset] [(.int x1_8)])) _
          refine XS.ifYes X2.here hx rfl (pc0 := 14) (pc' := 29) rfl (hb hby at_14) rfl ((if0 _ _).trans (teq hc14).1) (by decide) (by decide) ?_
          show Steps p.tables e below (T2.setTop (mkF m 29 #[.val (.int p0), .val (.int x1_8), .val (.ref x2_13), .unset] [])) _
          refine XS.iconst X2.here hx rfl (hb hby at_29) ?_
          show Steps p.tables e below (T2.setTop (mkF m 30 #[.val (.int p0), .val (.int x1_8), .val (.ref x2_13), .unset] [(.int (1 : Int32))])) _
          refine XS.goto X2.here hx rfl (pc0 := 30) (pc' := 34) rfl (hb hby at_30) (by decide) (by decide) ?_
          exact k)
      refine ⟨_, ?_, pre7⟩
      all_goals (first | (simp only [own_m0_34_s0, if_pos hc14]; done) | (simp [own_m0_34_s0, if_pos hc14]; done))
    · have pre8 : own_Pre p e below (s₁.setTop (entryFrame m #[(.int p0)] maxLocals)) (T2.setTop (mkF m 20 #[.val (.int p0), .val (.int x1_8), .val (.ref x2_13), .unset] [(.int (11 : Int32)), (.int x1_8)])) := fun t k => pre6 t (by
          show Steps p.tables e below (T2.setTop (mkF m 14 #[.val (.int p0), .val (.int x1_8), .val (.ref x2_13), .unset] [(.int x1_8)])) _
          refine XS.ifNo X2.here hx rfl (hb hby at_14) rfl ((if0 _ _).trans (feq hc14).1) ?_
          show Steps p.tables e below (T2.setTop (mkF m 17 #[.val (.int p0), .val (.int x1_8), .val (.ref x2_13), .unset] [])) _
          refine XS.iloadN X2.here hx rfl (hb hby at_17) rfl ?_
          show Steps p.tables e below (T2.setTop (mkF m 18 #[.val (.int p0), .val (.int x1_8), .val (.ref x2_13), .unset] [(.int x1_8)])) _
          refine XS.bipush X2.here hx rfl (hb hby at_18) ?_
          exact k)
      by_cases hc20 : x1_8 = (11 : Int32)
      · have pre9 : own_Pre p e below (s₁.setTop (entryFrame m #[(.int p0)] maxLocals)) (T2.setTop (mkF m 34 #[.val (.int p0), .val (.int x1_8), .val (.ref x2_13), .unset] [(.int (1 : Int32))])) := fun t k => pre8 t (by
            show Steps p.tables e below (T2.setTop (mkF m 20 #[.val (.int p0), .val (.int x1_8), .val (.ref x2_13), .unset] [(.int (11 : Int32)), (.int x1_8)])) _
            refine XS.icmpYes X2.here hx rfl (pc0 := 20) (pc' := 29) rfl (hb hby at_20) rfl (teq hc20).1 (by decide) (by decide) ?_
            show Steps p.tables e below (T2.setTop (mkF m 29 #[.val (.int p0), .val (.int x1_8), .val (.ref x2_13), .unset] [])) _
            refine XS.iconst X2.here hx rfl (hb hby at_29) ?_
            show Steps p.tables e below (T2.setTop (mkF m 30 #[.val (.int p0), .val (.int x1_8), .val (.ref x2_13), .unset] [(.int (1 : Int32))])) _
            refine XS.goto X2.here hx rfl (pc0 := 30) (pc' := 34) rfl (hb hby at_30) (by decide) (by decide) ?_
            exact k)
        refine ⟨_, ?_, pre9⟩
        all_goals (first | (simp only [own_m0_34_s0, if_neg hc14, if_pos hc20]; done) | (simp [own_m0_34_s0, if_neg hc14, if_pos hc20]; done))
      · have pre10 : own_Pre p e below (s₁.setTop (entryFrame m #[(.int p0)] maxLocals)) (T2.setTop (mkF m 26 #[.val (.int p0), .val (.int x1_8), .val (.ref x2_13), .unset] [(.int (12 : Int32)), (.int x1_8)])) := fun t k => pre8 t (by
            show Steps p.tables e below (T2.setTop (mkF m 20 #[.val (.int p0), .val (.int x1_8), .val (.ref x2_13), .unset] [(.int (11 : Int32)), (.int x1_8)])) _
            refine XS.icmpNo X2.here hx rfl (hb hby at_20) rfl (feq hc20).1 ?_
            show Steps p.tables e below (T2.setTop (mkF m 23 #[.val (.int p0), .val (.int x1_8), .val (.ref x2_13), .unset] [])) _
            refine XS.iloadN X2.here hx rfl (hb hby at_23) rfl ?_
            show Steps p.tables e below (T2.setTop (mkF m 24 #[.val (.int p0), .val (.int x1_8), .val (.ref x2_13), .unset] [(.int x1_8)])) _
            refine XS.bipush X2.here hx rfl (hb hby at_24) ?_
            exact k)
        by_cases hc26 : x1_8 = (12 : Int32)
        · have pre11 : own_Pre p e below (s₁.setTop (entryFrame m #[(.int p0)] maxLocals)) (T2.setTop (mkF m 34 #[.val (.int p0), .val (.int x1_8), .val (.ref x2_13), .unset] [(.int (1 : Int32))])) := fun t k => pre10 t (by
              show Steps p.tables e below (T2.setTop (mkF m 26 #[.val (.int p0), .val (.int x1_8), .val (.ref x2_13), .unset] [(.int (12 : Int32)), (.int x1_8)])) _
              refine XS.icmpNo X2.here hx rfl (hb hby at_26) rfl (teq hc26).2 ?_
              show Steps p.tables e below (T2.setTop (mkF m 29 #[.val (.int p0), .val (.int x1_8), .val (.ref x2_13), .unset] [])) _
              refine XS.iconst X2.here hx rfl (hb hby at_29) ?_
              show Steps p.tables e below (T2.setTop (mkF m 30 #[.val (.int p0), .val (.int x1_8), .val (.ref x2_13), .unset] [(.int (1 : Int32))])) _
              refine XS.goto X2.here hx rfl (pc0 := 30) (pc' := 34) rfl (hb hby at_30) (by decide) (by decide) ?_
              exact k)
          refine ⟨_, ?_, pre11⟩
          all_goals (first | (simp only [own_m0_34_s0, if_neg hc14, if_neg hc20, if_pos hc26]; done) | (simp [own_m0_34_s0, if_neg hc14, if_neg hc20, if_pos hc26]; done))
        · have pre12 : own_Pre p e below (s₁.setTop (entryFrame m #[(.int p0)] maxLocals)) (T2.setTop (mkF m 34 #[.val (.int p0), .val (.int x1_8), .val (.ref x2_13), .unset] [(.int (0 : Int32))])) := fun t k => pre10 t (by
              show Steps p.tables e below (T2.setTop (mkF m 26 #[.val (.int p0), .val (.int x1_8), .val (.ref x2_13), .unset] [(.int (12 : Int32)), (.int x1_8)])) _
              refine XS.icmpYes X2.here hx rfl (pc0 := 26) (pc' := 33) rfl (hb hby at_26) rfl (feq hc26).2 (by decide) (by decide) ?_
              show Steps p.tables e below (T2.setTop (mkF m 33 #[.val (.int p0), .val (.int x1_8), .val (.ref x2_13), .unset] [])) _
              refine XS.iconst X2.here hx rfl (hb hby at_33) ?_
              exact k)
          refine ⟨_, ?_, pre12⟩
          all_goals (first | (simp only [own_m0_34_s0, if_neg hc14, if_neg hc20, if_neg hc26]; done) | (simp [own_m0_34_s0, if_neg hc14, if_neg hc20, if_neg hc26]; done))
  have E_rcv : Exa Z h0 x2_13 "dev/stint/policy/IntegrationType" := by
    rw [hx2_13]; unfold own_f1; repeat' split
    all_goals assumption
  obtain ⟨cq13, kq13, q13a, q13b, q13c⟩ := isOf hZ eq2 E_rcv
  obtain ⟨_, _, ⟨T13, L13, k13, n13⟩, -, X13, ⟨Lc13, hQ13, l13, y13, z13⟩, st13⟩ := X2.virtualBack hx (y := (⟨"dev/stint/policy/IntegrationType", "isHttp", "()Z"⟩ : MethodName)) (z := (⟨"dev/stint/policy/IntegrationType", "isHttp", "()Z"⟩ : MethodName)) hown (mvT hZ (hw _ (List.mem_of_getElem? (i := 8) rfl))) (mvT hZ (hw _ (List.mem_of_getElem? (i := 9) rfl))) (notFace_of_selects (args := #[]) (mvT hZ (hw _ (List.mem_of_getElem? (i := 11) rfl)))) (mvT hZ (hw _ (List.mem_of_getElem? (i := 11) rfl))) (mvT hZ (hw _ (List.mem_of_getElem? (i := 10) rfl))) (by decide) (backOf (W := 0) (rm2 l Z aw hw [] (x2_13) (c_rest) (c_webhook) (c_mcp_tool) (h0) n0 Z0 S_REST S_WEBHOOK S_MCP_TOOL) hZ (hw _ (List.mem_of_getElem? (i := 12) rfl)) (hw _ (List.mem_of_getElem? (i := 6) rfl)) (by decide) (by decide)) q13a q13c (g := (mkF m 36 #[.val (.int p0), .val (.int x1_8), .val (.ref x2_13), .val (.int m34_s0)] [(.ref x2_13)])) rfl (by rw [hml]; rfl) (Steps.refl _) (argsL := []) (rest := []) (lenOf pd_1 rfl) rfl (by show 2 * 0 + _ ≤ _; exact Nat.le_of_eq rfl) (hb hby at_36) (fun _ _ => ⟨rfl, eq2, (by decide : 0 + 0 ≤ _), (by decide : 0 + 0 ≤ _)⟩)
  dsimp only [Pt.U, Pt.locs, Pt.cells, Pt.slots] at X13 l13 y13 z13 st13 hQ13
  subst l13 y13 z13
  obtain ⟨rfl, Nq13, eq13⟩ := hQ13
  have N13 := Fr.app N2 Nq13
  have hc40 : ((own_f2 x2_13 c_rest c_webhook c_mcp_tool) = m34_s0) := by rw [hx2_13, hm34_s0]; exact own_plain x1_8 hx1_8 c_rest c_grpc_unary c_grpc_streaming c_db_query c_db_transaction c_message_publish c_message_consume c_cache c_object_storage c_smtp c_dns c_mcp_tool c_webhook n_rest_grpc_unary n_rest_grpc_streaming n_rest_db_query n_rest_db_transaction n_rest_message_publish n_rest_message_consume n_rest_cache n_rest_object_storage n_rest_smtp n_rest_dns n_rest_mcp_tool n_rest_webhook n_webhook_rest n_webhook_grpc_unary n_webhook_grpc_streaming n_webhook_db_query n_webhook_db_transaction n_webhook_message_publish n_webhook_message_consume n_webhook_cache n_webhook_object_storage n_webhook_smtp n_webhook_dns n_webhook_mcp_tool n_mcp_tool_rest n_mcp_tool_grpc_unary n_mcp_tool_grpc_streaming n_mcp_tool_db_query n_mcp_tool_db_transaction n_mcp_tool_message_publish n_mcp_tool_message_consume n_mcp_tool_cache n_mcp_tool_object_storage n_mcp_tool_smtp n_mcp_tool_dns n_mcp_tool_webhook
  obtain ⟨fs, hr, hrun, hended, hW, hsame⟩ := X13.leave (v := some (.int (1 : Int32))) (fun h => by rw [Bd.returns] at h; cases h)
  refine ⟨_, _, pre5 _ ?_, hrun, hended, _, _, rfl, ?_, ⟨_, rfl⟩, hW, hsame.mono (by decide) (by decide)⟩
  · show Steps p.tables e below (T2.setTop (mkF m 34 #[.val (.int p0), .val (.int x1_8), .val (.ref x2_13), .unset] [(.int m34_s0)])) _
    refine XS.istoreN X2.here hx rfl (hb hby at_34) rfl (l' := #[.val (.int p0), .val (.int x1_8), .val (.ref x2_13), .val (.int m34_s0)]) rfl ?_
    show Steps p.tables e below (T2.setTop (mkF m 35 #[.val (.int p0), .val (.int x1_8), .val (.ref x2_13), .val (.int m34_s0)] [])) _
    refine XS.aloadN X2.here hx rfl (hb hby at_35) rfl rfl ?_
    show Steps p.tables e below (T2.setTop (mkF m 36 #[.val (.int p0), .val (.int x1_8), .val (.ref x2_13), .val (.int m34_s0)] [(.ref x2_13)])) _
    refine st13.trans ?_
    show Steps p.tables e below (T13.setTop (mkF m 39 #[.val (.int p0), .val (.int x1_8), .val (.ref x2_13), .val (.int m34_s0)] [(.int (own_f2 x2_13 c_rest c_webhook c_mcp_tool))])) _
    refine XS.iloadN X13.here hx rfl (hb hby at_39) rfl ?_
    show Steps p.tables e below (T13.setTop (mkF m 40 #[.val (.int p0), .val (.int x1_8), .val (.ref x2_13), .val (.int m34_s0)] [(.int m34_s0), (.int (own_f2 x2_13 c_rest c_webhook c_mcp_tool))])) _
    refine XS.icmpNo X13.here hx rfl (hb hby at_40) rfl (teq hc40).2 ?_
    show Steps p.tables e below (T13.setTop (mkF m 43 #[.val (.int p0), .val (.int x1_8), .val (.ref x2_13), .val (.int m34_s0)] [])) _
    refine XS.iconst X13.here hx rfl (hb hby at_43) ?_
    show Steps p.tables e below (T13.setTop (mkF m 44 #[.val (.int p0), .val (.int x1_8), .val (.ref x2_13), .val (.int m34_s0)] [(.int (1 : Int32))])) _
    refine XS.goto X13.here hx rfl (pc0 := 44) (pc' := 48) rfl (hb hby at_44) (by decide) (by decide) ?_
    show Steps p.tables e below (T13.setTop (mkF m 48 #[.val (.int p0), .val (.int x1_8), .val (.ref x2_13), .val (.int m34_s0)] [(.int (1 : Int32))])) _
    exact retN X13 hx (t := .boolean) Bd.returns (by simp) (hb hby at_48) hr
  · show Q0 Z p0 c_rest c_grpc_unary c_grpc_streaming c_db_query c_db_transaction c_message_publish c_message_consume c_cache c_object_storage c_smtp c_dns c_mcp_tool c_webhook h0 n0 _ T13.heap _
    rw [eq13]
    unfold Q0
    refine ⟨rfl, N13⟩
theorem own_ord {args : Array Value} {s : State} {t : Term} {a : Addr} {C n d : String} {k : Int32} (ht : t.eval args s none [] s = some (.ref a)) (h : (Jvm.Cond.eq (Jvm.Term.field t C n d) (Jvm.Term.int k)).value args s none s [] = some true) : s.fieldOf? a C n d = some (.int k) := by
  have e := fld_at (C := C) (n := n) (dd := d) ht
  simp only [Cond.value, e] at h
  cases hv : s.fieldOf? a C n d with
  | none => rw [hv] at h; simp at h
  | some v =>
    rw [hv] at h
    cases v <;> simp [Term.eval] at h
    rw [h]
set_option maxRecDepth 65536 in
set_option maxHeartbeats 40000000 in
theorem comes_1 {Post : Tables → Env → Array Value → State → Outcome → State → Prop} (hpost : ∀ tb e args s v u, (limb_1_1.after args s (.returned v) u = true ∧ limb_1_2.after args s (.returned v) u = true ∧ True) → FrameEnd s (.returned v) u (Jvm.fieldLocs frame_1_writes args s ++ Jvm.arrayLocs frame_1_arrays args s ++ Jvm.staticLocs frame_1_statics s) 0 0 → Post tb e args s (.returned v) u) :
    ArmFor flags0 classFile x code maxLocals ret World_1 tables_1 room_1 Calls_1 rest_1 Pre_1 Post := by
  intro l hfl _ _ p e ha hc hk s m args below hf hA hF happ hP
  obtain ⟨hcalls, hrest, hpre⟩ := hP
  obtain ⟨-, -, -, hnamed, -, -, -, hat⟩ := (Spec.applies_iff hf).mp happ
  obtain ⟨hg, hn⟩ := and_e (Cond.before_iff.mp (show (Jvm.Cond.and given_1 narrow_1).before args s = true from hpre))
  obtain ⟨gv1, gv2⟩ := and_e hg
  obtain ⟨w0, rfl⟩ : ∃ w0 : Value, args = #[w0] := by
    have hs : args.size = 1 := by simpa [Cond.value, given_1] using gv1
    obtain ⟨L⟩ := args
    match L, hs with
    | [w0], _ => exact ⟨w0, rfl⟩
  have hw := fun d (hd : d ∈ tables_1) => atoms_spec (ws := Jvm.Cond.code x code maxLocals ret :: tables_1) hat d (List.mem_cons_of_mem _ hd)
  obtain ⟨i0, ei0⟩ := is_v gv2
  obtain rfl : w0 = (.int i0) := Option.some.inj ei0
  unfold narrow_1 at hn
  obtain ⟨hn1a, hn1b⟩ := and_e hn
  obtain ⟨hn2a, hn2b⟩ := and_e hn1b
  obtain ⟨hn3a, hn3b⟩ := and_e hn2b
  obtain ⟨hn4a, hn4b⟩ := and_e hn3b
  obtain ⟨hn5a, hn5b⟩ := and_e hn4b
  obtain ⟨hn6a, hn6b⟩ := and_e hn5b
  obtain ⟨hn7a, hn7b⟩ := and_e hn6b
  obtain ⟨hn8a, hn8b⟩ := and_e hn7b
  obtain ⟨hn9a, hn9b⟩ := and_e hn8b
  obtain ⟨hn10a, hn10b⟩ := and_e hn9b
  obtain ⟨hn11a, hn11b⟩ := and_e hn10b
  obtain ⟨hn12a, hn12b⟩ := and_e hn11b
  obtain ⟨hn13a, hn13b⟩ := and_e hn12b
  obtain ⟨hn14a, hn14b⟩ := and_e hn13b
  obtain ⟨hn15a, hn15b⟩ := and_e hn14b
  obtain ⟨hn16a, hn16b⟩ := and_e hn15b
  obtain ⟨hn17a, hn17b⟩ := and_e hn16b
  obtain ⟨hn18a, hn18b⟩ := and_e hn17b
  obtain ⟨hn19a, hn19b⟩ := and_e hn18b
  obtain ⟨hn20a, hn20b⟩ := and_e hn19b
  obtain ⟨hn21a, hn21b⟩ := and_e hn20b
  obtain ⟨hn22a, hn22b⟩ := and_e hn21b
  obtain ⟨hn23a, hn23b⟩ := and_e hn22b
  obtain ⟨hn24a, hn24b⟩ := and_e hn23b
  obtain ⟨hn25a, hn25b⟩ := and_e hn24b
  obtain ⟨c_rest, e_c_rest⟩ := exa_v hn1a
  have S_REST : Sta s s.heap "dev/stint/policy/IntegrationType" "REST" "Ldev/stint/policy/IntegrationType;" (.ref c_rest) := Sta.start e_c_rest (Or.inr ⟨(hw _ (List.mem_of_getElem? (i := 6) rfl)), (hw _ (List.mem_of_getElem? (i := 7) rfl))⟩)
  have X_REST : Exa s s.heap c_rest "dev/stint/policy/IntegrationType" := Exa.start e_c_rest hn1a
  have O_REST : Fld s s.heap c_rest "java/lang/Enum" "ordinal" "I" (.int (0 : Int32)) := Fld.start (own_ord e_c_rest hn4a)
  obtain ⟨c_grpc_unary, e_c_grpc_unary⟩ := exa_v hn19a
  have S_GRPC_UNARY : Sta s s.heap "dev/stint/policy/IntegrationType" "GRPC_UNARY" "Ldev/stint/policy/IntegrationType;" (.ref c_grpc_unary) := Sta.start e_c_grpc_unary (Or.inr ⟨(hw _ (List.mem_of_getElem? (i := 6) rfl)), (hw _ (List.mem_of_getElem? (i := 32) rfl))⟩)
  have X_GRPC_UNARY : Exa s s.heap c_grpc_unary "dev/stint/policy/IntegrationType" := Exa.start e_c_grpc_unary hn19a
  have O_GRPC_UNARY : Fld s s.heap c_grpc_unary "java/lang/Enum" "ordinal" "I" (.int (1 : Int32)) := Fld.start (own_ord e_c_grpc_unary hn20a)
  obtain ⟨c_grpc_streaming, e_c_grpc_streaming⟩ := exa_v hn17a
  have S_GRPC_STREAMING : Sta s s.heap "dev/stint/policy/IntegrationType" "GRPC_STREAMING" "Ldev/stint/policy/IntegrationType;" (.ref c_grpc_streaming) := Sta.start e_c_grpc_streaming (Or.inr ⟨(hw _ (List.mem_of_getElem? (i := 6) rfl)), (hw _ (List.mem_of_getElem? (i := 29) rfl))⟩)
  have X_GRPC_STREAMING : Exa s s.heap c_grpc_streaming "dev/stint/policy/IntegrationType" := Exa.start e_c_grpc_streaming hn17a
  have O_GRPC_STREAMING : Fld s s.heap c_grpc_streaming "java/lang/Enum" "ordinal" "I" (.int (2 : Int32)) := Fld.start (own_ord e_c_grpc_streaming hn18a)
  obtain ⟨c_db_query, e_c_db_query⟩ := exa_v hn2a
  have S_DB_QUERY : Sta s s.heap "dev/stint/policy/IntegrationType" "DB_QUERY" "Ldev/stint/policy/IntegrationType;" (.ref c_db_query) := Sta.start e_c_db_query (Or.inr ⟨(hw _ (List.mem_of_getElem? (i := 6) rfl)), (hw _ (List.mem_of_getElem? (i := 15) rfl))⟩)
  have X_DB_QUERY : Exa s s.heap c_db_query "dev/stint/policy/IntegrationType" := Exa.start e_c_db_query hn2a
  have O_DB_QUERY : Fld s s.heap c_db_query "java/lang/Enum" "ordinal" "I" (.int (3 : Int32)) := Fld.start (own_ord e_c_db_query hn3a)
  obtain ⟨c_db_transaction, e_c_db_transaction⟩ := exa_v hn25a
  have S_DB_TRANSACTION : Sta s s.heap "dev/stint/policy/IntegrationType" "DB_TRANSACTION" "Ldev/stint/policy/IntegrationType;" (.ref c_db_transaction) := Sta.start e_c_db_transaction (Or.inr ⟨(hw _ (List.mem_of_getElem? (i := 6) rfl)), (hw _ (List.mem_of_getElem? (i := 39) rfl))⟩)
  have X_DB_TRANSACTION : Exa s s.heap c_db_transaction "dev/stint/policy/IntegrationType" := Exa.start e_c_db_transaction hn25a
  have O_DB_TRANSACTION : Fld s s.heap c_db_transaction "java/lang/Enum" "ordinal" "I" (.int (4 : Int32)) := Fld.start (own_ord e_c_db_transaction hn25b)
  obtain ⟨c_message_publish, e_c_message_publish⟩ := exa_v hn11a
  have S_MESSAGE_PUBLISH : Sta s s.heap "dev/stint/policy/IntegrationType" "MESSAGE_PUBLISH" "Ldev/stint/policy/IntegrationType;" (.ref c_message_publish) := Sta.start e_c_message_publish (Or.inr ⟨(hw _ (List.mem_of_getElem? (i := 6) rfl)), (hw _ (List.mem_of_getElem? (i := 23) rfl))⟩)
  have X_MESSAGE_PUBLISH : Exa s s.heap c_message_publish "dev/stint/policy/IntegrationType" := Exa.start e_c_message_publish hn11a
  have O_MESSAGE_PUBLISH : Fld s s.heap c_message_publish "java/lang/Enum" "ordinal" "I" (.int (5 : Int32)) := Fld.start (own_ord e_c_message_publish hn12a)
  obtain ⟨c_message_consume, e_c_message_consume⟩ := exa_v hn9a
  have S_MESSAGE_CONSUME : Sta s s.heap "dev/stint/policy/IntegrationType" "MESSAGE_CONSUME" "Ldev/stint/policy/IntegrationType;" (.ref c_message_consume) := Sta.start e_c_message_consume (Or.inr ⟨(hw _ (List.mem_of_getElem? (i := 6) rfl)), (hw _ (List.mem_of_getElem? (i := 21) rfl))⟩)
  have X_MESSAGE_CONSUME : Exa s s.heap c_message_consume "dev/stint/policy/IntegrationType" := Exa.start e_c_message_consume hn9a
  have O_MESSAGE_CONSUME : Fld s s.heap c_message_consume "java/lang/Enum" "ordinal" "I" (.int (6 : Int32)) := Fld.start (own_ord e_c_message_consume hn10a)
  obtain ⟨c_cache, e_c_cache⟩ := exa_v hn13a
  have S_CACHE : Sta s s.heap "dev/stint/policy/IntegrationType" "CACHE" "Ldev/stint/policy/IntegrationType;" (.ref c_cache) := Sta.start e_c_cache (Or.inr ⟨(hw _ (List.mem_of_getElem? (i := 6) rfl)), (hw _ (List.mem_of_getElem? (i := 25) rfl))⟩)
  have X_CACHE : Exa s s.heap c_cache "dev/stint/policy/IntegrationType" := Exa.start e_c_cache hn13a
  have O_CACHE : Fld s s.heap c_cache "java/lang/Enum" "ordinal" "I" (.int (7 : Int32)) := Fld.start (own_ord e_c_cache hn14a)
  obtain ⟨c_object_storage, e_c_object_storage⟩ := exa_v hn21a
  have S_OBJECT_STORAGE : Sta s s.heap "dev/stint/policy/IntegrationType" "OBJECT_STORAGE" "Ldev/stint/policy/IntegrationType;" (.ref c_object_storage) := Sta.start e_c_object_storage (Or.inr ⟨(hw _ (List.mem_of_getElem? (i := 6) rfl)), (hw _ (List.mem_of_getElem? (i := 34) rfl))⟩)
  have X_OBJECT_STORAGE : Exa s s.heap c_object_storage "dev/stint/policy/IntegrationType" := Exa.start e_c_object_storage hn21a
  have O_OBJECT_STORAGE : Fld s s.heap c_object_storage "java/lang/Enum" "ordinal" "I" (.int (8 : Int32)) := Fld.start (own_ord e_c_object_storage hn22a)
  obtain ⟨c_smtp, e_c_smtp⟩ := exa_v hn15a
  have S_SMTP : Sta s s.heap "dev/stint/policy/IntegrationType" "SMTP" "Ldev/stint/policy/IntegrationType;" (.ref c_smtp) := Sta.start e_c_smtp (Or.inr ⟨(hw _ (List.mem_of_getElem? (i := 6) rfl)), (hw _ (List.mem_of_getElem? (i := 27) rfl))⟩)
  have X_SMTP : Exa s s.heap c_smtp "dev/stint/policy/IntegrationType" := Exa.start e_c_smtp hn15a
  have O_SMTP : Fld s s.heap c_smtp "java/lang/Enum" "ordinal" "I" (.int (9 : Int32)) := Fld.start (own_ord e_c_smtp hn16a)
  obtain ⟨c_dns, e_c_dns⟩ := exa_v hn23a
  have S_DNS : Sta s s.heap "dev/stint/policy/IntegrationType" "DNS" "Ldev/stint/policy/IntegrationType;" (.ref c_dns) := Sta.start e_c_dns (Or.inr ⟨(hw _ (List.mem_of_getElem? (i := 6) rfl)), (hw _ (List.mem_of_getElem? (i := 36) rfl))⟩)
  have X_DNS : Exa s s.heap c_dns "dev/stint/policy/IntegrationType" := Exa.start e_c_dns hn23a
  have O_DNS : Fld s s.heap c_dns "java/lang/Enum" "ordinal" "I" (.int (10 : Int32)) := Fld.start (own_ord e_c_dns hn24a)
  obtain ⟨c_mcp_tool, e_c_mcp_tool⟩ := exa_v hn7a
  have S_MCP_TOOL : Sta s s.heap "dev/stint/policy/IntegrationType" "MCP_TOOL" "Ldev/stint/policy/IntegrationType;" (.ref c_mcp_tool) := Sta.start e_c_mcp_tool (Or.inr ⟨(hw _ (List.mem_of_getElem? (i := 6) rfl)), (hw _ (List.mem_of_getElem? (i := 19) rfl))⟩)
  have X_MCP_TOOL : Exa s s.heap c_mcp_tool "dev/stint/policy/IntegrationType" := Exa.start e_c_mcp_tool hn7a
  have O_MCP_TOOL : Fld s s.heap c_mcp_tool "java/lang/Enum" "ordinal" "I" (.int (11 : Int32)) := Fld.start (own_ord e_c_mcp_tool hn8a)
  obtain ⟨c_webhook, e_c_webhook⟩ := exa_v hn5a
  have S_WEBHOOK : Sta s s.heap "dev/stint/policy/IntegrationType" "WEBHOOK" "Ldev/stint/policy/IntegrationType;" (.ref c_webhook) := Sta.start e_c_webhook (Or.inr ⟨(hw _ (List.mem_of_getElem? (i := 6) rfl)), (hw _ (List.mem_of_getElem? (i := 17) rfl))⟩)
  have X_WEBHOOK : Exa s s.heap c_webhook "dev/stint/policy/IntegrationType" := Exa.start e_c_webhook hn5a
  have O_WEBHOOK : Fld s s.heap c_webhook "java/lang/Enum" "ordinal" "I" (.int (12 : Int32)) := Fld.start (own_ord e_c_webhook hn6a)
  obtain ⟨n, o, h1, h2, h3, _, L, rfl, ⟨rfl, N⟩, hq⟩ := rm0 l s _ hw tables_1 i0 c_rest c_grpc_unary c_grpc_streaming c_db_query c_db_transaction c_message_publish c_message_consume c_cache c_object_storage c_smtp c_dns c_mcp_tool c_webhook s.heap s.heap.size (Nat.le_refl _) S_REST S_GRPC_UNARY S_GRPC_STREAMING S_DB_QUERY S_DB_TRANSACTION S_MESSAGE_PUBLISH S_MESSAGE_CONSUME S_CACHE S_OBJECT_STORAGE S_SMTP S_DNS S_MCP_TOOL S_WEBHOOK X_REST X_GRPC_UNARY X_GRPC_STREAMING X_DB_QUERY X_DB_TRANSACTION X_MESSAGE_PUBLISH X_MESSAGE_CONSUME X_CACHE X_OBJECT_STORAGE X_SMTP X_DNS X_MCP_TOOL X_WEBHOOK (Fld.ne O_GRPC_UNARY O_REST (by decide)) (Fld.ne O_GRPC_STREAMING O_REST (by decide)) (Fld.ne O_DB_QUERY O_REST (by decide)) (Fld.ne O_DB_TRANSACTION O_REST (by decide)) (Fld.ne O_MESSAGE_PUBLISH O_REST (by decide)) (Fld.ne O_MESSAGE_CONSUME O_REST (by decide)) (Fld.ne O_CACHE O_REST (by decide)) (Fld.ne O_OBJECT_STORAGE O_REST (by decide)) (Fld.ne O_SMTP O_REST (by decide)) (Fld.ne O_DNS O_REST (by decide)) (Fld.ne O_MCP_TOOL O_REST (by decide)) (Fld.ne O_WEBHOOK O_REST (by decide)) (Fld.ne O_REST O_WEBHOOK (by decide)) (Fld.ne O_GRPC_UNARY O_WEBHOOK (by decide)) (Fld.ne O_GRPC_STREAMING O_WEBHOOK (by decide)) (Fld.ne O_DB_QUERY O_WEBHOOK (by decide)) (Fld.ne O_DB_TRANSACTION O_WEBHOOK (by decide)) (Fld.ne O_MESSAGE_PUBLISH O_WEBHOOK (by decide)) (Fld.ne O_MESSAGE_CONSUME O_WEBHOOK (by decide)) (Fld.ne O_CACHE O_WEBHOOK (by decide)) (Fld.ne O_OBJECT_STORAGE O_WEBHOOK (by decide)) (Fld.ne O_SMTP O_WEBHOOK (by decide)) (Fld.ne O_DNS O_WEBHOOK (by decide)) (Fld.ne O_MCP_TOOL O_WEBHOOK (by decide)) (Fld.ne O_REST O_MCP_TOOL (by decide)) (Fld.ne O_GRPC_UNARY O_MCP_TOOL (by decide)) (Fld.ne O_GRPC_STREAMING O_MCP_TOOL (by decide)) (Fld.ne O_DB_QUERY O_MCP_TOOL (by decide)) (Fld.ne O_DB_TRANSACTION O_MCP_TOOL (by decide)) (Fld.ne O_MESSAGE_PUBLISH O_MCP_TOOL (by decide)) (Fld.ne O_MESSAGE_CONSUME O_MCP_TOOL (by decide)) (Fld.ne O_CACHE O_MCP_TOOL (by decide)) (Fld.ne O_OBJECT_STORAGE O_MCP_TOOL (by decide)) (Fld.ne O_SMTP O_MCP_TOOL (by decide)) (Fld.ne O_DNS O_MCP_TOOL (by decide)) (Fld.ne O_WEBHOOK O_MCP_TOOL (by decide)) p e ha hc hk s m _ below hf ((Spec.applies_iff_loose hf).mp happ).1 ⟨rfl, State.Warmed39.refl s, rfl⟩ trivial
  refine ⟨n, _, h1, h2, h3, hpost _ _ _ _ _ _ ⟨Cond.after_iff.mpr rfl, Cond.after_iff.mpr (eq_i res_at (Term.int_eval (1)) rfl), trivial⟩ ⟨hq.1, hq.2.1, (hq.2.2.sift fun y hy => Or.inr (N y hy)).mono (by decide) (by decide)⟩⟩
theorem main_1_1 : Claimed_1_1 := comes_1 fun _ _ _ _ _ _ h hF => ⟨h.1, hF⟩
theorem main_1_2 : Claimed_1_2 := comes_1 fun _ _ _ _ _ _ h hF => ⟨h.2.1, hF⟩
end Jvm.Pilot.@@N@@
namespace Jvm.Pilot.@@N@@
open Jvm Jvm.ClassFile Sem Op Lib Jvm.Free Jvm.Stand Jvm.Pilot.@@N@@.Jvm.D
/-! MADE BY PROGRAM (witnessworld.py) out of the Statement's table words and the real class files: 12 classes; the members and pool entries that the words name. The judged class is class 1, her method 2. -/
namespace start1
open Jvm.ClassFile
def u (s : String) : CpInfo := .utf8 (stringToUtf16 s)
/-- a pool by its gaps: so many unusable entries, then the entry; so many at the end -/
def gap : Nat → List CpInfo → List CpInfo
  | 0, r => r
  | n + 1, r => .unusable :: gap n r
def poolList (es : List (Nat × CpInfo)) (last : Nat) : List CpInfo := es.foldr (fun e r => gap e.1 (e.2 :: r)) (gap last [])
def pool (es : List (Nat × CpInfo)) (last : Nat) : Array CpInfo := ⟨poolList es last⟩
def fileOf (pool : Array CpInfo) (this : Nat) (attrs : Array Attribute := #[]) (ms : Array MethodInfo := #[]) (fl : Nat := 33) (sup : Nat := 0) (ifs : Array Nat := #[]) (fds : Array FieldInfo := #[]) : ClassFile where
  minorVersion := 0
  majorVersion := 65
  constantPool := pool
  accessFlags := fl
  thisClass := this
  superClass := sup
  interfaces := ifs
  fields := fds
  methods := ms
  attributes := attrs
def plain (name : String) (sup : Option ClassId) : Class where
  name := name
  kind := .ordinary
  loader := none
  accessFlags := 33
  super := sup
  interfaces := #[]
  cf := none
  fields := #[]
  methods := #[]
  instanceTypes := #[]
  staticTypes := #[]
  resolved := #[]
  callSites := []
  init := .initialized
  statics := none
  mirror := none

def pool0 : Array CpInfo := pool [(5, u "<init>"), (0, u "()V"), (1, .class_ 10), (1, u "java/lang/Object")] 113

def k0m0 : Method := { name := "<init>", desc := "()V", sig := { parameters := [], returnType := none }, accessFlags := 1, code := none }
/-- java/lang/Object -/
def k0 : Class := { plain "java/lang/Object" none with
  accessFlags := 33
  interfaces := #[]
  cf := some (fileOf pool0 8 #[] #[{ accessFlags := 1, nameIndex := 5, descriptorIndex := 6, attributes := #[] }] 33 0 #[] #[])
  fields := #[]
  methods := #[k0m0]
  instanceTypes := #[]
  staticTypes := #[]
  resolved := Array.replicate 124 none
  statics := none }

def pool1 : Array CpInfo := pool [(2, .class_ 4), (1, u "java/lang/Object"), (0, u "<init>"), (0, u "()V"), (0, .fieldref 8 9), (0, .class_ 10), (0, .nameAndType 11 12), (0, u "dev/stint/policy/IntegrationType"), (0, u "REST"), (0, u "Ldev/stint/policy/IntegrationType;"), (0, .fieldref 8 14), (0, .nameAndType 15 12), (0, u "GRPC_UNARY"), (0, .fieldref 8 17), (0, .nameAndType 18 12), (0, u "GRPC_STREAMING"), (0, .fieldref 8 20), (0, .nameAndType 21 12), (0, u "DB_QUERY"), (0, .fieldref 8 23), (0, .nameAndType 24 12), (0, u "DB_TRANSACTION"), (0, .fieldref 8 26), (0, .nameAndType 27 12), (0, u "MESSAGE_PUBLISH"), (0, .fieldref 8 29), (0, .nameAndType 30 12), (0, u "MESSAGE_CONSUME"), (0, .fieldref 8 32), (0, .nameAndType 33 12), (0, u "CACHE"), (0, .fieldref 8 35), (0, .nameAndType 36 12), (0, u "OBJECT_STORAGE"), (0, .fieldref 8 38), (0, .nameAndType 39 12), (0, u "SMTP"), (0, .fieldref 8 41), (0, .nameAndType 42 12), (0, u "DNS"), (0, .fieldref 8 44), (0, .nameAndType 45 12), (0, u "MCP_TOOL"), (0, .fieldref 8 47), (0, .nameAndType 48 12), (0, u "WEBHOOK"), (0, .integer 2147483647), (0, .methodref 51 52), (0, .class_ 53), (0, .nameAndType 54 55), (0, u "dev/stint/policy/IntegrationTypeIsHttpPinLaw"), (0, u "pick"), (0, u "(I)Ldev/stint/policy/IntegrationType;"), (0, .methodref 8 57), (0, .nameAndType 58 59), (0, u "isHttp"), (0, u "()Z"), (3, u "law"), (0, u "(I)Z")] 2

def k1m0 : Method := { name := "<init>", desc := "()V", sig := { parameters := [], returnType := none }, accessFlags := 2, code := none }
def k1c1 : Code := { maxStack := 2, maxLocals := 1, code := method_2_code, exceptionTable := #[], attributes := #[] }
def k1m1 : Method := { name := "pick", desc := "(I)Ldev/stint/policy/IntegrationType;", sig := { parameters := [.int], returnType := some (.object "dev/stint/policy/IntegrationType") }, accessFlags := 10, code := some k1c1 }
def k1c2 : Code := { maxStack := 2, maxLocals := 4, code := code, exceptionTable := #[], attributes := #[] }
def k1m2 : Method := { name := "law", desc := "(I)Z", sig := { parameters := [.int], returnType := some .boolean }, accessFlags := 9, code := some k1c2 }
/-- dev/stint/policy/IntegrationTypeIsHttpPinLaw -/
def k1 : Class := { plain "dev/stint/policy/IntegrationTypeIsHttpPinLaw" (some 0) with
  accessFlags := 49
  interfaces := #[]
  cf := some (fileOf pool1 51 #[] #[{ accessFlags := 2, nameIndex := 5, descriptorIndex := 6, attributes := #[] }, { accessFlags := 10, nameIndex := 54, descriptorIndex := 55, attributes := #[] }, { accessFlags := 9, nameIndex := 63, descriptorIndex := 64, attributes := #[] }] 49 2 #[] #[])
  fields := #[]
  methods := #[k1m0, k1m1, k1m2]
  instanceTypes := #[]
  staticTypes := #[]
  resolved := Array.replicate 67 none
  statics := none }

def pool2 : Array CpInfo := pool [(1, .class_ 2), (0, u "java/lang/constant/Constable"), (0, .class_ 4), (0, u "java/lang/Object")] 6

/-- java/lang/constant/Constable -/
def k2 : Class := { plain "java/lang/constant/Constable" (some 0) with
  accessFlags := 1537
  interfaces := #[]
  cf := some (fileOf pool2 1 #[] #[] 1537 3 #[] #[])
  fields := #[]
  methods := #[]
  instanceTypes := #[]
  staticTypes := #[]
  resolved := Array.replicate 11 none
  statics := none }

def pool3 : Array CpInfo := pool [(1, .class_ 2), (0, u "java/lang/Comparable"), (0, .class_ 4), (0, u "java/lang/Object")] 7

/-- java/lang/Comparable -/
def k3 : Class := { plain "java/lang/Comparable" (some 0) with
  accessFlags := 1537
  interfaces := #[]
  cf := some (fileOf pool3 1 #[] #[] 1537 3 #[] #[])
  fields := #[]
  methods := #[]
  instanceTypes := #[]
  staticTypes := #[]
  resolved := Array.replicate 12 none
  statics := none }

def pool4 : Array CpInfo := pool [(1, .class_ 2), (0, u "java/io/Serializable"), (0, .class_ 4), (0, u "java/lang/Object")] 2

/-- java/io/Serializable -/
def k4 : Class := { plain "java/io/Serializable" (some 0) with
  accessFlags := 1537
  interfaces := #[]
  cf := some (fileOf pool4 1 #[] #[] 1537 3 #[] #[])
  fields := #[]
  methods := #[]
  instanceTypes := #[]
  staticTypes := #[]
  resolved := Array.replicate 7 none
  statics := none }

def pool5 : Array CpInfo := pool [(2, .class_ 4), (1, u "java/lang/Enum"), (0, u "name"), (0, u "Ljava/lang/String;"), (2, u "ordinal"), (0, u "I"), (1, .class_ 14), (1, u "java/lang/Object"), (4, u "hash"), (86, .class_ 108), (1, u "java/lang/Enum$EnumDesc"), (2, .class_ 112), (0, u "java/lang/constant/Constable"), (0, .class_ 114), (0, u "java/lang/Comparable"), (0, .class_ 116), (0, u "java/io/Serializable")] 87

/-- java/lang/Enum -/
def k5 : Class := { plain "java/lang/Enum" (some 0) with
  accessFlags := 1057
  interfaces := #[2, 3, 4]
  cf := some (fileOf pool5 2 #[.nestMembers #[106]] #[] 1057 12 #[111, 113, 115] #[{ accessFlags := 18, nameIndex := 5, descriptorIndex := 6, attributes := #[] }, { accessFlags := 18, nameIndex := 9, descriptorIndex := 10, attributes := #[] }, { accessFlags := 2, nameIndex := 19, descriptorIndex := 10, attributes := #[] }])
  fields := #[{ name := "name", type := (.object "java/lang/String"), accessFlags := 18, slot := 0, constantValue := 0 }, { name := "ordinal", type := .int, accessFlags := 18, slot := 1, constantValue := 0 }, { name := "hash", type := .int, accessFlags := 2, slot := 2, constantValue := 0 }]
  methods := #[]
  instanceTypes := #[(.object "java/lang/String"), .int, .int]
  staticTypes := #[]
  resolved := Array.replicate 204 none
  statics := none }

def pool6 : Array CpInfo := pool [(1, .class_ 2), (0, u "dev/stint/policy/IntegrationType"), (0, .fieldref 1 4), (0, .nameAndType 5 6), (0, u "REST"), (0, u "Ldev/stint/policy/IntegrationType;"), (2, u "GRPC_UNARY"), (2, u "GRPC_STREAMING"), (2, u "DB_QUERY"), (2, u "DB_TRANSACTION"), (2, u "MESSAGE_PUBLISH"), (2, u "MESSAGE_CONSUME"), (2, u "CACHE"), (2, u "OBJECT_STORAGE"), (2, u "SMTP"), (2, u "DNS"), (0, .fieldref 1 38), (0, .nameAndType 39 6), (0, u "MCP_TOOL"), (0, .fieldref 1 41), (0, .nameAndType 42 6), (0, u "WEBHOOK"), (2, u "$VALUES"), (0, u "[Ldev/stint/policy/IntegrationType;"), (6, .class_ 55), (1, u "java/lang/Enum"), (80, u "isHttp"), (0, u "()Z")] 30

def k6c0 : Code := { maxStack := 2, maxLocals := 1, code := prog_57_method_5_code, exceptionTable := #[], attributes := #[] }
def k6m0 : Method := { name := "isHttp", desc := "()Z", sig := { parameters := [], returnType := some .boolean }, accessFlags := 1, code := some k6c0 }
/-- dev/stint/policy/IntegrationType -/
def k6 : Class := { plain "dev/stint/policy/IntegrationType" (some 5) with
  accessFlags := 16433
  interfaces := #[]
  cf := some (fileOf pool6 1 #[] #[{ accessFlags := 1, nameIndex := 136, descriptorIndex := 137, attributes := #[] }] 16433 53 #[] #[{ accessFlags := 16409, nameIndex := 5, descriptorIndex := 6, attributes := #[] }, { accessFlags := 16409, nameIndex := 9, descriptorIndex := 6, attributes := #[] }, { accessFlags := 16409, nameIndex := 12, descriptorIndex := 6, attributes := #[] }, { accessFlags := 16409, nameIndex := 15, descriptorIndex := 6, attributes := #[] }, { accessFlags := 16409, nameIndex := 18, descriptorIndex := 6, attributes := #[] }, { accessFlags := 16409, nameIndex := 21, descriptorIndex := 6, attributes := #[] }, { accessFlags := 16409, nameIndex := 24, descriptorIndex := 6, attributes := #[] }, { accessFlags := 16409, nameIndex := 27, descriptorIndex := 6, attributes := #[] }, { accessFlags := 16409, nameIndex := 30, descriptorIndex := 6, attributes := #[] }, { accessFlags := 16409, nameIndex := 33, descriptorIndex := 6, attributes := #[] }, { accessFlags := 16409, nameIndex := 36, descriptorIndex := 6, attributes := #[] }, { accessFlags := 16409, nameIndex := 39, descriptorIndex := 6, attributes := #[] }, { accessFlags := 16409, nameIndex := 42, descriptorIndex := 6, attributes := #[] }, { accessFlags := 4122, nameIndex := 45, descriptorIndex := 46, attributes := #[] }])
  fields := #[{ name := "REST", type := (.object "dev/stint/policy/IntegrationType"), accessFlags := 16409, slot := 0, constantValue := 0 }, { name := "GRPC_UNARY", type := (.object "dev/stint/policy/IntegrationType"), accessFlags := 16409, slot := 1, constantValue := 0 }, { name := "GRPC_STREAMING", type := (.object "dev/stint/policy/IntegrationType"), accessFlags := 16409, slot := 2, constantValue := 0 }, { name := "DB_QUERY", type := (.object "dev/stint/policy/IntegrationType"), accessFlags := 16409, slot := 3, constantValue := 0 }, { name := "DB_TRANSACTION", type := (.object "dev/stint/policy/IntegrationType"), accessFlags := 16409, slot := 4, constantValue := 0 }, { name := "MESSAGE_PUBLISH", type := (.object "dev/stint/policy/IntegrationType"), accessFlags := 16409, slot := 5, constantValue := 0 }, { name := "MESSAGE_CONSUME", type := (.object "dev/stint/policy/IntegrationType"), accessFlags := 16409, slot := 6, constantValue := 0 }, { name := "CACHE", type := (.object "dev/stint/policy/IntegrationType"), accessFlags := 16409, slot := 7, constantValue := 0 }, { name := "OBJECT_STORAGE", type := (.object "dev/stint/policy/IntegrationType"), accessFlags := 16409, slot := 8, constantValue := 0 }, { name := "SMTP", type := (.object "dev/stint/policy/IntegrationType"), accessFlags := 16409, slot := 9, constantValue := 0 }, { name := "DNS", type := (.object "dev/stint/policy/IntegrationType"), accessFlags := 16409, slot := 10, constantValue := 0 }, { name := "MCP_TOOL", type := (.object "dev/stint/policy/IntegrationType"), accessFlags := 16409, slot := 11, constantValue := 0 }, { name := "WEBHOOK", type := (.object "dev/stint/policy/IntegrationType"), accessFlags := 16409, slot := 12, constantValue := 0 }, { name := "$VALUES", type := (.array (.object "dev/stint/policy/IntegrationType")), accessFlags := 4122, slot := 13, constantValue := 0 }]
  methods := #[k6m0]
  instanceTypes := #[(.object "java/lang/String"), .int, .int]
  staticTypes := #[(.object "dev/stint/policy/IntegrationType"), (.object "dev/stint/policy/IntegrationType"), (.object "dev/stint/policy/IntegrationType"), (.object "dev/stint/policy/IntegrationType"), (.object "dev/stint/policy/IntegrationType"), (.object "dev/stint/policy/IntegrationType"), (.object "dev/stint/policy/IntegrationType"), (.object "dev/stint/policy/IntegrationType"), (.object "dev/stint/policy/IntegrationType"), (.object "dev/stint/policy/IntegrationType"), (.object "dev/stint/policy/IntegrationType"), (.object "dev/stint/policy/IntegrationType"), (.object "dev/stint/policy/IntegrationType"), (.array (.object "dev/stint/policy/IntegrationType"))]
  resolved := Array.replicate 168 none
  statics := some 0 }

def pool7 : Array CpInfo := pool [(1, u "java/lang/Cloneable"), (0, .class_ 1), (0, u "java/lang/Object"), (0, .class_ 3)] 3

/-- java/lang/Cloneable -/
def k7 : Class := { plain "java/lang/Cloneable" (some 0) with
  accessFlags := 1537
  interfaces := #[]
  cf := some (fileOf pool7 2 #[] #[] 1537 4 #[] #[])
  fields := #[]
  methods := #[]
  instanceTypes := #[]
  staticTypes := #[]
  resolved := Array.replicate 8 none
  statics := none }

/-- the primitive byte -/
def k8 : Class := { plain "byte" none with kind := .primitive 'B', accessFlags := 0x411 }
/-- [B -/
def k9 : Class := { plain "[B" (some 0) with kind := .array 8 .byte, interfaces := #[7, 4], accessFlags := 1041 }

/-- the primitive int -/
def k10 : Class := { plain "int" none with kind := .primitive 'I', accessFlags := 0x411 }
/-- [I -/
def k11 : Class := { plain "[I" (some 0) with kind := .array 10 .int, interfaces := #[7, 4], accessFlags := 1041 }

def heap : Heap := #[{ cls := 6, slots := #[.ref 1, .ref 2, .ref 3, .ref 4, .ref 5, .ref 6, .ref 7, .ref 8, .ref 9, .ref 10, .ref 11, .ref 12, .ref 13, .null], vm := .statics 6 },
  { cls := 6, slots := #[.null, .int 0, .int 0], vm := .none },
  { cls := 6, slots := #[.null, .int 1, .int 0], vm := .none },
  { cls := 6, slots := #[.null, .int 2, .int 0], vm := .none },
  { cls := 6, slots := #[.null, .int 3, .int 0], vm := .none },
  { cls := 6, slots := #[.null, .int 4, .int 0], vm := .none },
  { cls := 6, slots := #[.null, .int 5, .int 0], vm := .none },
  { cls := 6, slots := #[.null, .int 6, .int 0], vm := .none },
  { cls := 6, slots := #[.null, .int 7, .int 0], vm := .none },
  { cls := 6, slots := #[.null, .int 8, .int 0], vm := .none },
  { cls := 6, slots := #[.null, .int 9, .int 0], vm := .none },
  { cls := 6, slots := #[.null, .int 10, .int 0], vm := .none },
  { cls := 6, slots := #[.null, .int 11, .int 0], vm := .none },
  { cls := 6, slots := #[.null, .int 12, .int 0], vm := .none }]
def classes : Array Class := #[k0, k1, k2, k3, k4, k5, k6, k7, k8, k9, k10, k11]
def interned : List (Array UInt16 × Addr) := []
def slotsUsed : Nat := 53
def theMethod : MethodId := ⟨1, 2⟩
def args0 : Array Value := #[.int 5]
def aboutOver (below : List Frame) : State where
  vm := { classes := classes, interned := interned.toArray }
  heap := heap
  slotsUsed := slotsUsed
  threads := #[{ frames := .invoking theMethod args0 :: below }]
def below0 : List Frame := [.native { method := ⟨0, 0⟩, args := #[] }]
def about1 : State := aboutOver below0
def p0 : Program := .bare "" "" ""
def e0 : Env := launch0.env 0 0 0
theorem w_frames : about1.frames = Frame.invoking theMethod args0 :: below0 := rfl
set_option maxRecDepth 65536 in
theorem w_args : argsFit about1.vm theMethod args0 = true := by decide +kernel
set_option maxRecDepth 65536 in
theorem w_heap : heapFits about1 = true := by decide +kernel
set_option maxRecDepth 65536 in
theorem w_runnable : about1.curStatus? = some .runnable := by decide +kernel
set_option maxRecDepth 65536 in
theorem w_alone : about1.alone = true := by decide +kernel
set_option maxRecDepth 65536 in
theorem w_named : about1.methodNamed? x = some theMethod := by decide +kernel
set_option maxRecDepth 65536 in
theorem w_hears : about1.hears theMethod below0 = true := by decide +kernel
set_option maxRecDepth 65536 in
theorem w_ripe : about1.ripe theMethod args0 below0 = true := by decide +kernel
theorem w_running : about1.status = .running := rfl
set_option maxRecDepth 65536 in
theorem w_room : about1.hasRoom e0.platform room_1 = true :=
  launch0.hasRoom_least _ room_1 (by decide +kernel) (by decide +kernel) (by decide +kernel) (by decide +kernel) (by decide +kernel) (by decide +kernel)
theorem allAtoms_all (ts : List Jvm.Cond) (a : Array Jvm.Value) (st : Jvm.State) : (allAtoms ts).before a st = ts.all (fun c => c.before a st) := by
  induction ts with
  | nil => rfl
  | cons c t ih =>
    show (Jvm.Cond.and c (allAtoms t)).before a st = _
    rw [Jvm.Cond.before_and, ih, List.all_cons]
def words1 : List Jvm.Cond := Jvm.Cond.code x code maxLocals ret :: tables_1
/-- a 'code' word, met by the world's own term for the bytes: nothing is compared byte by byte -/
theorem code_word {y : MethodName} {bytes : ByteArray} {mx : Nat} {rt : Option FieldType} {a : Array Value} {s : State} {m : MethodId} {meth : Method} {c : Code} (h1 : s.methodNamed? y = some m) (h2 : s.vm.method? m = some meth) (h3 : meth.code = some c) (h4 : c.code = bytes)
    (h5 : (c.maxLocals == mx && c.exceptionTable.isEmpty && decide (c.maxStack ≤ mostOperands) && decide (meth.sig.returnType = rt) && !meth.locks && decide (parseMethodDescriptor y.desc = some meth.sig)) = true) : (Jvm.Cond.code y bytes mx rt).before a s = true := by
  simp only [Bool.and_eq_true, beq_iff_eq, Bool.not_eq_true', decide_eq_true_eq] at h5
  obtain ⟨⟨⟨⟨⟨g1, g2⟩, g3⟩, g4⟩, g5⟩, g6⟩ := h5
  simp [Cond.before, Cond.holds, Cond.value, h1, h2, h3, h4, g1, g2, g3, g4, g5, g6]
def isCode : Jvm.Cond → Bool
  | .code _ _ _ _ => true
  | _ => false
theorem all_split {L : List Jvm.Cond} {P : Jvm.Cond → Bool} (h1 : L.all (fun c => isCode c || P c) = true) (h2 : ∀ c ∈ L.filter isCode, P c = true) : L.all P = true := by
  refine List.all_eq_true.mpr fun c hc => ?_
  have h := List.all_eq_true.mp h1 c hc
  rcases Bool.eq_false_or_eq_true (isCode c) with hi | hi
  · exact h2 c (List.mem_filter.mpr ⟨hc, hi⟩)
  · simpa [hi] using h
set_option maxRecDepth 65536 in
theorem w_c0 : (Jvm.Cond.code x code maxLocals ret).before args0 about1 = true := code_word (m := ⟨1, 2⟩) (meth := k1m2) (c := k1c2) (by decide +kernel) rfl rfl rfl (by decide +kernel)
set_option maxRecDepth 65536 in
theorem w_c1 : (Jvm.Cond.code ({ cls := "dev/stint/policy/IntegrationTypeIsHttpPinLaw", name := "pick", desc := "(I)Ldev/stint/policy/IntegrationType;" } : Jvm.MethodName) method_2_code (1 : Nat) (Option.some (Jvm.ClassFile.FieldType.object "dev/stint/policy/IntegrationType"))).before args0 about1 = true := code_word (m := ⟨1, 1⟩) (meth := k1m1) (c := k1c1) (by decide +kernel) rfl rfl rfl (by decide +kernel)
set_option maxRecDepth 65536 in
theorem w_c2 : (Jvm.Cond.code ({ cls := "dev/stint/policy/IntegrationType", name := "isHttp", desc := "()Z" } : Jvm.MethodName) prog_57_method_5_code (1 : Nat) (Option.some Jvm.ClassFile.FieldType.boolean)).before args0 about1 = true := code_word (m := ⟨6, 0⟩) (meth := k6m0) (c := k6c0) (by decide +kernel) rfl rfl rfl (by decide +kernel)
def codes1 : List Jvm.Cond := [Jvm.Cond.code x code maxLocals ret, Jvm.Cond.code ({ cls := "dev/stint/policy/IntegrationTypeIsHttpPinLaw", name := "pick", desc := "(I)Ldev/stint/policy/IntegrationType;" } : Jvm.MethodName) method_2_code (1 : Nat) (Option.some (Jvm.ClassFile.FieldType.object "dev/stint/policy/IntegrationType")), Jvm.Cond.code ({ cls := "dev/stint/policy/IntegrationType", name := "isHttp", desc := "()Z" } : Jvm.MethodName) prog_57_method_5_code (1 : Nat) (Option.some Jvm.ClassFile.FieldType.boolean)]
set_option maxRecDepth 65536 in
theorem codes_eq : words1.filter isCode = codes1 := rfl
theorem w_codes : ∀ c ∈ words1.filter isCode, c.before args0 about1 = true := by
  rw [codes_eq]
  intro c hc
  simp only [codes1, List.mem_cons, List.not_mem_nil, or_false] at hc
  rcases hc with rfl | rfl | rfl
  · exact w_c0
  · exact w_c1
  · exact w_c2
set_option maxRecDepth 65536 in
theorem w_t1 : (words1.take 24).all (fun c => isCode c || c.before args0 about1) = true := by decide +kernel
set_option maxRecDepth 65536 in
theorem w_t2 : (words1.drop 24).all (fun c => isCode c || c.before args0 about1) = true := by decide +kernel
theorem w_tables : (allAtoms (Jvm.Cond.code x code maxLocals ret :: tables_1)).before args0 about1 = true := by
  rw [allAtoms_all]
  show words1.all (fun c => c.before args0 about1) = true
  refine all_split ?_ w_codes
  rw [← List.take_append_drop 24 words1, List.all_append, w_t1, w_t2]
  rfl
set_option maxRecDepth 65536 in
theorem w_case : (Jvm.Cond.and given_1 narrow_1).before args0 about1 = true := by decide +kernel
theorem w_applies : (headSpec (Jvm.Cond.code x code maxLocals ret :: tables_1) room_1).applies x e0.platform about1 = true :=
  (Spec.applies_iff w_frames).mpr ⟨w_running, w_runnable, w_alone, w_named, w_hears, w_ripe, w_room, w_tables⟩
theorem atStart : AtStart classFile x code maxLocals ret World_1 tables_1 room_1 Calls_1 rest_1 Pre_1 launch0 p0 e0 about1 theMethod args0 below0 :=
  ⟨lists_1, trivial, launch0.admits_env _ _ _, launch0.least_env, fairChoices_fair.cas, fairChoices_fair.clock, w_frames, w_args, w_heap, w_applies, trivial, trivial, w_case⟩
end start1
theorem witness_1 : WitnessClaimed_1 := ⟨start1.p0, start1.e0, start1.about1, start1.theMethod, start1.args0, start1.below0, start1.atStart⟩
end Jvm.Pilot.@@N@@
