import JvmDerived
import JvmDerived.Pilot.@@N@@Statement
import JvmDerived.Pilot.@@N@@Code
set_option linter.unusedVariables false
set_option linter.unusedSimpArgs false
namespace Jvm.Pilot.@@N@@
open Jvm Jvm.ClassFile Sem Op Lib Jvm.Free Jvm.Stand Jvm.LawKit Jvm.RoadKit Bundle Jvm.Pilot.@@N@@.Jvm.D
section Own0
theorem own_fld_to {Z : State} {h : Heap} {a : Addr} {C n d : String} {v v' : Value} (F : Fld Z h a C n d v) (q : v = v') : Fld Z h a C n d v' := q ▸ F
theorem own_sta_keep {Z : State} {h h' : Heap} {C n d : String} {v : Value} {ws : List Addr} (F : Sta Z h C n d v) (K : Keep h h' ws) (q : ∀ x ∈ ws, ∀ c : Cell, h[x]? = some c → c.vm.isStatics = false) : Sta Z h' C n d v := by
  obtain ⟨cf, i, k, f, st, cell, h1, h2, h3, h4, h5, h6, h7⟩ := F
  exact ⟨cf, i, k, f, st, cell, h1, h2, h3, h4, K.2.1 st cell h5 (fun y => by rw [q st y cell h5] at h6; cases h6), h6, h7⟩
theorem own_ins_keep {Z : State} {h h' : Heap} {a : Addr} {C : String} {bo : Bool} {ws : List Addr} (F : Ins Z h a C bo) (K : Keep h h' ws) : Ins Z h' a C bo := by
  obtain ⟨cell, cT, h1, h2, h3⟩ := F
  obtain ⟨c', e1, e2, e3, -⟩ := K.2.2 a cell h1
  exact ⟨c', cT, e1, h2, by rw [e2, e3]; exact h3⟩
theorem notsta_exa {Z : State} {h : Heap} {a : Addr} {C : String} (F : Exa Z h a C) : ∀ c : Cell, h[a]? = some c → c.vm.isStatics = false := fun c hc => by
  obtain ⟨cell, _, h1, -, -, h4, -⟩ := F
  cases hc.symm.trans h1; exact h4
theorem eqi_v {args : Array Value} {first s : State} {o : Option Outcome} {idx : List Nat} {a : Term} {k : Int32} (h : (Cond.eq a (.int k)).value args first o s idx = some true) : a.eval args first o idx s = some (.int k) := by
  obtain ⟨x, y, e1, e2, k1, k2⟩ := cmp_v (Or.inl h)
  have e3 : (Term.int k).eval args first o idx s = some (.int k) := rfl
  cases e3.symm.trans e2
  cases x <;> simp [Cond.value, e1, e3] at h
  rw [e1, h]
end Own0
section Own
variable {p : Program} {l : Launch} {e : Env} {R : Room} {s : State} {m : MethodId} {args : Array Value} {below : List Frame} {meth : Method} {c : Code} {T T' : State} {locs : List Loc} {cells slots : Nat} {Z : State} {h h' : Heap} {Q : Option Value → Heap → List Loc → Prop} {kc ks : Nat} {a b : Addr}
/-- from T the method comes to its end, and Q holds of what it returns, of the heap and of the written places -/
def Goes (p : Program) (e : Env) (below : List Frame) (s : State) (Q : Option Value → Heap → List Loc → Prop) (kc ks : Nat) (T : State) : Prop :=
  ∃ s₂ o, Steps p.tables e below T s₂ ∧ s₂.status = .running ∧ Ended s₂ below o ∧ ∃ v L, o = .returned v ∧ Q v s₂.heap L ∧ FrameEnd s o s₂ L kc ks
theorem Goes.step (st : ∀ t, Steps p.tables e below T' t → Steps p.tables e below T t) (k : Goes p e below s Q kc ks T') : Goes p e below s Q kc ks T := by
  obtain ⟨s₂, o, h1, h2⟩ := k; exact ⟨s₂, o, st _ h1, h2⟩
theorem Goes.ret (X : Stand p l e R s m args below meth c T locs cells slots) {v : Option Value} (hv : meth.sig.returnType = none → v = none) (hlocks : meth.locks = false) {T₀ : State}
    (st : ∀ fs, (∀ (f : JFrame) (acts : List Action), f.method = m → f.locked = none → f.entered = [] → (doReturn e (T.setTop f) acts v).1 = T.setFrames fs) → Steps p.tables e below T₀ (T.setFrames fs))
    (hq : Q v T.heap locs) (hc : cells ≤ kc) (hs : slots ≤ ks) : Goes p e below s Q kc ks T₀ := by
  obtain ⟨fs, hr, hrun, hended, hW, hsame⟩ := X.leave (v := v) hv hlocks
  exact ⟨_, _, st fs hr, hrun, hended, _, _, rfl, hq, ⟨_, rfl⟩, hW, hsame.mono hc hs⟩
theorem Goes.retZ (X : Stand p l e R s m args below meth c T locs cells slots) (hx : p.tables.exec = Jvm.exec) (hlocks : meth.locks = false) {pc : Nat} {Ls : Array Slot} {z r : Int32} {t : FieldType} {rest : List Value} (hret : meth.sig.returnType = some t) (ht : t = .boolean ∨ t = .byte ∨ t = .char ∨ t = .short)
    (hd : decode c.code pc = .ok (.ireturn, 1)) (hz : nar t z = r) (hq : Q (some (.int r)) T.heap locs) (hc : cells ≤ kc) (hs : slots ≤ ks) : Goes p e below s Q kc ks (T.setTop (mkF m pc Ls (.int z :: rest))) := by
  subst hz
  exact Goes.ret X (fun h => by rw [hret] at h; cases h) hlocks (fun fs hr => retN X hx hret ht hd hr) hq hc hs
theorem Goes.retI (X : Stand p l e R s m args below meth c T locs cells slots) (hx : p.tables.exec = Jvm.exec) (hlocks : meth.locks = false) {pc : Nat} {Ls : Array Slot} {z r : Int32} {rest : List Value} (hret : meth.sig.returnType = some .int)
    (hd : decode c.code pc = .ok (.ireturn, 1)) (hz : z = r) (hq : Q (some (.int r)) T.heap locs) (hc : cells ≤ kc) (hs : slots ≤ ks) : Goes p e below s Q kc ks (T.setTop (mkF m pc Ls (.int z :: rest))) := by
  subst hz
  exact Goes.ret X (fun h => by rw [hret] at h; cases h) hlocks (fun fs hr => retOut X hx hret rfl (Or.inl ⟨rfl, Or.inl rfl, z, rfl⟩) hd hr) hq hc hs
theorem Goes.retJ (X : Stand p l e R s m args below meth c T locs cells slots) (hx : p.tables.exec = Jvm.exec) (hlocks : meth.locks = false) {pc : Nat} {Ls : Array Slot} {z r : Int64} {rest : List Value} (hret : meth.sig.returnType = some .long)
    (hd : decode c.code pc = .ok (.lreturn, 1)) (hz : z = r) (hq : Q (some (.long r)) T.heap locs) (hc : cells ≤ kc) (hs : slots ≤ ks) : Goes p e below s Q kc ks (T.setTop (mkF m pc Ls (.long z :: rest))) := by
  subst hz
  exact Goes.ret X (fun h => by rw [hret] at h; cases h) hlocks (fun fs hr => retOut X hx hret rfl (Or.inr (Or.inl ⟨rfl, rfl, z, rfl⟩)) hd hr) hq hc hs
theorem Goes.retR (X : Stand p l e R s m args below meth c T locs cells slots) (hx : p.tables.exec = Jvm.exec) (hlocks : meth.locks = false) {pc : Nat} {Ls : Array Slot} {z r : Value} {t : FieldType} {rest : List Value} (hret : meth.sig.returnType = some t) (ht : t.isReference = true) (hn : narrow t z = z) (hw : z.isRef = true)
    (hd : decode c.code pc = .ok (.areturn, 1)) (hz : z = r) (hq : Q (some r) T.heap locs) (hc : cells ≤ kc) (hs : slots ≤ ks) : Goes p e below s Q kc ks (T.setTop (mkF m pc Ls (z :: rest))) := by
  subst hz
  exact Goes.ret X (fun h => by rw [hret] at h; cases h) hlocks (fun fs hr => retOut X hx hret hn (Or.inr (Or.inr (Or.inr (Or.inr ⟨rfl, ht, hw⟩)))) hd hr) hq hc hs
theorem Goes.retV (X : Stand p l e R s m args below meth c T locs cells slots) (hx : p.tables.exec = Jvm.exec) (hlocks : meth.locks = false) {pc : Nat} {Ls : Array Slot} (hret : meth.sig.returnType = none)
    (hd : decode c.code pc = .ok (.return_, 1)) (hq : Q none T.heap locs) (hc : cells ≤ kc) (hs : slots ≤ ks) : Goes p e below s Q kc ks (T.setTop (mkF m pc Ls [])) :=
  Goes.ret X (fun _ => rfl) hlocks (fun fs hr => X.returnOut hx hret hd hr) hq hc hs
/-- the array at a holds vs -/
def Ara (Z : State) (h : Heap) (a : Addr) (ty : FieldType) (vs : List Value) : Prop := ∃ cl : Cell, Arr Z h a cl ty ∧ cl.slots.toList = vs ∧ vs.length < 2 ^ 31 ∧ (∀ v ∈ vs, fits ty v = true) ∧ ∀ C, ty = .object C → Ovr Z cl.cls C
variable {ty : FieldType} {vs : List Value} {sl : Nat} {v : Value} {ws : List Addr}
theorem Ara.lt (F : Ara Z h a ty vs) : a < h.size := by obtain ⟨c, A, -⟩ := F; exact A.lt
theorem Ara.ext (F : Ara Z h a ty vs) (E : Ext h h') : Ara Z h' a ty vs := by obtain ⟨c, A, r⟩ := F; exact ⟨c, A.ext E, r⟩
theorem Ara.other (F : Ara Z h b ty vs) (W : Wr h h' a sl v) (q : b ≠ a) : Ara Z h' b ty vs := by obtain ⟨c, A, r⟩ := F; exact ⟨c, A.other W q, r⟩
theorem Ara.keep (F : Ara Z h a ty vs) (K : Keep h h' ws) (q : a ∉ ws) : Ara Z h' a ty vs := by obtain ⟨c, A, r⟩ := F; exact ⟨c, ⟨K.2.1 a c A.1 q, A.2⟩, r⟩
theorem fits_dflt (ty : FieldType) : fits ty (defaultValue ty) = true := by cases ty <;> rfl
theorem Ara.new {k : ClassId} {z : Int32} (A : Arr Z h a (newA k ty z) ty) (q : ¬ z < 0) (e : List.replicate z.toNatClampNeg (defaultValue ty) = vs) (O : ∀ C, ty = .object C → Ovr Z k C) : Ara Z h a ty vs := by
  subst e
  refine ⟨_, A, by simp [newA], by simpa using (back32 q).2, fun v hv => ?_, O⟩
  rw [(List.mem_replicate.mp hv).2]; exact fits_dflt ty
theorem Ara.same {j : Int32} {cl : Cell} (A : Arr Z h a cl ty) (e : cl.slots.toList = vs) (hl : vs.length < 2 ^ 31) (hf : ∀ v ∈ vs, fits ty v = true) (O : ∀ C, ty = .object C → Ovr Z cl.cls C) (hv : fits ty v = true) (W : Wr h h' a j.toNatClampNeg v) : Ara Z h' a ty (vs.set j.toNatClampNeg v) := by
  refine ⟨_, A.same W, by simp [Cell.setSlot, ← e], by simpa using hl, fun u hu => ?_, O⟩
  rcases List.mem_or_eq_of_mem_set hu with q | q
  · exact hf u q
  · rw [q]; exact hv
theorem inb {j : Int32} {cl : Cell} (e : cl.slots.toList = vs) (h0 : ¬ j < 0) (hj : j.toNatClampNeg < vs.length) : ¬ (j < 0 ∨ cl.slots.size ≤ j.toNatClampNeg) := by
  rintro (q | q)
  · exact h0 q
  · rw [← e] at hj; simp at hj; omega
theorem getb {j : Int32} {cl : Cell} (e : cl.slots.toList = vs) (hv : vs[j.toNatClampNeg]? = some v) : cl.slots[j.toNatClampNeg]? = some v := by rw [← e] at hv; simpa using hv
theorem ltb {n : Nat} (hv : vs[n]? = some v) : n < vs.length := (List.getElem?_eq_some_iff.mp hv).1
theorem lenb {cl : Cell} (e : cl.slots.toList = vs) : cl.slots.size = vs.length := by rw [← e]; simp
theorem notsta_ara (F : Ara Z h a ty vs) : ∀ c : Cell, h[a]? = some c → c.vm.isStatics = false := fun c hc => by
  obtain ⟨cl, A, -⟩ := F
  cases hc.symm.trans A.1; exact A.plain
theorem Ara.to {vs' : List Value} (F : Ara Z h a ty vs) (q : vs = vs') : Ara Z h a ty vs' := q ▸ F
end Own
theorem own_pn0 : plainName "java/lang/Record" = true := by first | (simp [plainName, overriddenIn]; done) | decide +kernel
theorem own_pd0 : parseMethodDescriptor "()V" = some ⟨[], none⟩ := by decide +kernel
theorem own_pn1 : plainName "com/example/replica_scaler/replicascaler/outside/ResponseHead" = true := by first | (simp [plainName, overriddenIn]; done) | decide +kernel
theorem own_pd1 : parseMethodDescriptor "(IJZZ)V" = some ⟨[.int, .long, .boolean, .boolean], none⟩ := by decide +kernel
theorem own_pd2 : parseMethodDescriptor "()Z" = some ⟨[], some .boolean⟩ := by decide +kernel
theorem own_pn2 : plainName "com/example/replica_scaler/replicascaler/outside/ResponseHeadInterimPinLaw" = true := by first | (simp [plainName, overriddenIn]; done) | decide +kernel
theorem own_d2_0 : decode jdk_30_method_1_code 0 = .ok (.aload_n 0, 1) := by decide +kernel
theorem own_d2_1 : decode jdk_30_method_1_code 1 = .ok (.invokespecial 1, 3) := by decide +kernel
theorem own_d2_4 : decode jdk_30_method_1_code 4 = .ok (.return_, 1) := by decide +kernel
theorem own_ef2 (m : MethodId) (a0 : Addr) : entryFrame m #[(.ref a0)] 1 = mkF m 0 #[.val (.ref a0)] [] := by first | (simp [entryFrame, mkF, argsToLocals, Value.category, maxLocals]; done) | rfl
abbrev RM2 : Room := ({ frames := 1, cells := 0, slots := 0, locals := 12 } : Room)
abbrev kC2 : Nat := 0
abbrev kS2 : Nat := 0
def Q2 (Z : State) (a0 : Addr) (h0 : Heap) (v : Option Value) (h : Heap) (L : List Loc) : Prop := v = none ∧ L = [] ∧ h = h0
set_option maxRecDepth 65536 in
set_option maxHeartbeats 40000000 in
theorem rm2 (l : Launch) (Z : State) (tA : Array Value) (hw : ∀ d ∈ tables_1, d.before tA Z = true) (ws : List Jvm.Cond) (a0 : Addr) (h0 : Heap)  :
    MetFree l (⟨"java/lang/Record", "<init>", "()V"⟩ : MethodName) (head1 (Jvm.Cond.code (⟨"java/lang/Record", "<init>", "()V"⟩ : MethodName) jdk_30_method_1_code 1 none :: ws) RM2) (fun a U => a = #[(.ref a0)] ∧ Z.Warmed39 U.vm ∧ U.heap = h0) (fun _ _ _ _ _ => True) (fun _ U o U' => ∃ v L, o = .returned v ∧ Q2 Z a0 h0 v U'.heap L ∧ FrameEnd U o U' L RM2.cells RM2.slots) := by
  refine MetFree.of_bodySF (plainFor_of_name own_pn0) hisR ?_
  intro p e s m args below meth c s₁ Bd hml0 hP hK
  obtain ⟨rfl, hZ, hh⟩ := hP
  have hx := Bd.exec
  have hby := Bd.bytes
  have hml : c.maxLocals = 1 := hml0
  have hown : s.vm.findClass "java/lang/Record" = some m.cls := findClass_of_methodNamed Bd.named
  have hnm := (name_of_methodNamed Bd.named Bd.method).1
  have X0 : Stand p l e RM2 s m #[(.ref a0)] below meth c s₁ [] 0 0 := Stand.of_body Bd
  have e0 : s₁.heap = h0 := by rw [← hh, Bd.state]; rfl
  show Goes p e below s (Q2 Z a0 h0) kC2 kS2 (s₁.setTop (entryFrame m #[(.ref a0)] 1))
  refine Goes.step (fun t k => castTop (own_ef2 m a0) k) ?_
  show Goes _ _ _ _ _ _ _ (s₁.setTop (mkF m 0 #[.val (.ref a0)] []))
  refine Goes.step (fun t k => XS.aloadN X0.here hx rfl (hb hby own_d2_0) rfl rfl k) ?_
  show Goes _ _ _ _ _ _ _ (s₁.setTop (mkF m 1 #[.val (.ref a0)] [(.ref a0)]))
  obtain ⟨T1, X1, e1, st1⟩ := initO X0 hx hZ hown (hw _ (List.mem_of_getElem? (i := 11) rfl)) (hw _ (List.mem_of_getElem? (i := 12) rfl)) (hw _ (List.mem_of_getElem? (i := 13) rfl)) e0 (g := (mkF m 1 #[.val (.ref a0)] [(.ref a0)])) rfl (by rw [hml]; rfl) rfl (hb hby own_d2_1) (by decide) (W := 0) (by show 2 * 0 + _ ≤ _; exact Nat.le_of_eq rfl) (by decide)
  refine Goes.step (fun t k => st1 t k) ?_
  show Goes _ _ _ _ _ _ _ (T1.setTop (mkF m 4 #[.val (.ref a0)] []))
  exact Goes.retV X1 hx Bd.notSynchronized Bd.returns (hb hby own_d2_4) ⟨rfl, rfl, e1⟩ (by decide) (by decide)
theorem own_d1_0 : decode prog_26_method_1_code 0 = .ok (.aload_n 0, 1) := by decide +kernel
theorem own_d1_1 : decode prog_26_method_1_code 1 = .ok (.invokespecial 1, 3) := by decide +kernel
theorem own_d1_4 : decode prog_26_method_1_code 4 = .ok (.aload_n 0, 1) := by decide +kernel
theorem own_d1_5 : decode prog_26_method_1_code 5 = .ok (.iload_n 1, 1) := by decide +kernel
theorem own_d1_6 : decode prog_26_method_1_code 6 = .ok (.putfield 7, 3) := by decide +kernel
theorem own_d1_9 : decode prog_26_method_1_code 9 = .ok (.aload_n 0, 1) := by decide +kernel
theorem own_d1_10 : decode prog_26_method_1_code 10 = .ok (.lload_n 2, 1) := by decide +kernel
theorem own_d1_11 : decode prog_26_method_1_code 11 = .ok (.putfield 13, 3) := by decide +kernel
theorem own_d1_14 : decode prog_26_method_1_code 14 = .ok (.aload_n 0, 1) := by decide +kernel
theorem own_d1_15 : decode prog_26_method_1_code 15 = .ok (.iload 4, 2) := by decide +kernel
theorem own_d1_17 : decode prog_26_method_1_code 17 = .ok (.putfield 17, 3) := by decide +kernel
theorem own_d1_20 : decode prog_26_method_1_code 20 = .ok (.aload_n 0, 1) := by decide +kernel
theorem own_d1_21 : decode prog_26_method_1_code 21 = .ok (.iload 5, 2) := by decide +kernel
theorem own_d1_23 : decode prog_26_method_1_code 23 = .ok (.putfield 21, 3) := by decide +kernel
theorem own_d1_26 : decode prog_26_method_1_code 26 = .ok (.return_, 1) := by decide +kernel
theorem own_ef1 (m : MethodId) (a0 : Addr) (p1 : Int32) (q2 : Int64) (p3 : Int32) (p4 : Int32) : entryFrame m #[(.ref a0), (.int p1), (.long q2), (.int p3), (.int p4)] 6 = mkF m 0 #[.val (.ref a0), .val (.int p1), .val (.long q2), .second, .val (.int p3), .val (.int p4)] [] := by first | (simp [entryFrame, mkF, argsToLocals, Value.category, maxLocals]; done) | rfl
abbrev RM1 : Room := ({ frames := 2, cells := 0, slots := 0, locals := 24 } : Room)
abbrev kC1 : Nat := 0
abbrev kS1 : Nat := 0
def Q1 (Z : State) (a0 : Addr) (p1 : Int32) (q2 : Int64) (p3 : Int32) (p4 : Int32) (h0 : Heap) (n0 : Nat) (v : Option Value) (h : Heap) (L : List Loc) : Prop := v = none ∧ Fr n0 L ∧ Keep h0 h [a0] ∧ Exa Z h a0 "com/example/replica_scaler/replicascaler/outside/ResponseHead" ∧ Fld Z h a0 "com/example/replica_scaler/replicascaler/outside/ResponseHead" "status" "I" (.int p1)
set_option maxRecDepth 65536 in
set_option maxHeartbeats 40000000 in
theorem rm1 (l : Launch) (Z : State) (tA : Array Value) (hw : ∀ d ∈ tables_1, d.before tA Z = true) (ws : List Jvm.Cond) (a0 : Addr) (p1 : Int32) (q2 : Int64) (p3 : Int32) (p4 : Int32) (h0 : Heap) (n0 : Nat) (Z0 : n0 ≤ h0.size) (E_a0 : Exa Z h0 a0 "com/example/replica_scaler/replicascaler/outside/ResponseHead") (F_status : Fld Z h0 a0 "com/example/replica_scaler/replicascaler/outside/ResponseHead" "status" "I" (.int (0 : Int32))) (F_length : Fld Z h0 a0 "com/example/replica_scaler/replicascaler/outside/ResponseHead" "length" "J" (.long (0 : Int64))) (F_chunked : Fld Z h0 a0 "com/example/replica_scaler/replicascaler/outside/ResponseHead" "chunked" "Z" (.int (0 : Int32))) (F_persistent : Fld Z h0 a0 "com/example/replica_scaler/replicascaler/outside/ResponseHead" "persistent" "Z" (.int (0 : Int32))) (g_a0 : n0 ≤ a0) :
    MetFree l (⟨"com/example/replica_scaler/replicascaler/outside/ResponseHead", "<init>", "(IJZZ)V"⟩ : MethodName) (head1 (Jvm.Cond.code (⟨"com/example/replica_scaler/replicascaler/outside/ResponseHead", "<init>", "(IJZZ)V"⟩ : MethodName) prog_26_method_1_code 6 none :: ws) RM1) (fun a U => a = #[(.ref a0), (.int p1), (.long q2), (.int p3), (.int p4)] ∧ Z.Warmed39 U.vm ∧ U.heap = h0) (fun _ _ _ _ _ => True) (fun _ U o U' => ∃ v L, o = .returned v ∧ Q1 Z a0 p1 q2 p3 p4 h0 n0 v U'.heap L ∧ FrameEnd U o U' L RM1.cells RM1.slots) := by
  refine MetFree.of_bodySF (plainFor_of_name own_pn1) hisR ?_
  intro p e s m args below meth c s₁ Bd hml0 hP hK
  obtain ⟨rfl, hZ, hh⟩ := hP
  have hx := Bd.exec
  have hby := Bd.bytes
  have hml : c.maxLocals = 6 := hml0
  have hown : s.vm.findClass "com/example/replica_scaler/replicascaler/outside/ResponseHead" = some m.cls := findClass_of_methodNamed Bd.named
  have hnm := (name_of_methodNamed Bd.named Bd.method).1
  have X0 : Stand p l e RM1 s m #[(.ref a0), (.int p1), (.long q2), (.int p3), (.int p4)] below meth c s₁ [] 0 0 := Stand.of_body Bd
  have e0 : s₁.heap = h0 := by rw [← hh, Bd.state]; rfl
  have N0 := Fr.nil n0
  show Goes p e below s (Q1 Z a0 p1 q2 p3 p4 h0 n0) kC1 kS1 (s₁.setTop (entryFrame m #[(.ref a0), (.int p1), (.long q2), (.int p3), (.int p4)] 6))
  refine Goes.step (fun t k => castTop (own_ef1 m a0 p1 q2 p3 p4) k) ?_
  show Goes _ _ _ _ _ _ _ (s₁.setTop (mkF m 0 #[.val (.ref a0), .val (.int p1), .val (.long q2), .second, .val (.int p3), .val (.int p4)] []))
  refine Goes.step (fun t k => XS.aloadN X0.here hx rfl (hb hby own_d1_0) rfl rfl k) ?_
  show Goes _ _ _ _ _ _ _ (s₁.setTop (mkF m 1 #[.val (.ref a0), .val (.int p1), .val (.long q2), .second, .val (.int p3), .val (.int p4)] [(.ref a0)]))
  obtain ⟨_, _, ⟨T1, L1, k1, n1⟩, -, X1, ⟨Lc1, hQ1, l1, y1, z1⟩, st1⟩ := X0.specialBack hx (y := (⟨"java/lang/Record", "<init>", "()V"⟩ : MethodName)) rfl hown (mvT hZ (hw _ (List.mem_of_getElem? (i := 6) rfl))) (mvT hZ (hw _ (List.mem_of_getElem? (i := 7) rfl))) (mvT hZ (hw _ (List.mem_of_getElem? (i := 10) rfl))) (by decide) (backOf (W := 0) (rm2 l Z tA hw [] a0 h0) hZ (hw _ (List.mem_of_getElem? (i := 10) rfl)) (hw _ (List.mem_of_getElem? (i := 9) rfl)) (by decide) (by decide)) (g := (mkF m 1 #[.val (.ref a0), .val (.int p1), .val (.long q2), .second, .val (.int p3), .val (.int p4)] [(.ref a0)])) rfl (by rw [hml]; rfl) (Steps.refl _) (a := a0) (argsL := []) (rest := []) (lenOf own_pd0 rfl) rfl (by show 2 * 0 + _ ≤ _; exact Nat.le_of_eq rfl) (hb hby own_d1_1) (fun _ _ => ⟨rfl, e0, (by decide : 0 + 0 ≤ _), (by decide : 0 + 0 ≤ _)⟩)
  dsimp only [Pt.U, Pt.locs, Pt.cells, Pt.slots] at X1 l1 y1 z1 st1 hQ1
  subst l1 y1 z1
  obtain ⟨rfl, rfl, e1⟩ := hQ1
  try rw [List.append_nil] at X1
  change Stand _ _ _ _ _ _ _ _ _ _ _ _ 0 0 at X1
  refine Goes.step (fun t k => st1.trans k) ?_
  show Goes _ _ _ _ _ _ _ (T1.setTop (mkF m 4 #[.val (.ref a0), .val (.int p1), .val (.long q2), .second, .val (.int p3), .val (.int p4)] []))
  refine Goes.step (fun t k => XS.aloadN X1.here hx rfl (hb hby own_d1_4) rfl rfl k) ?_
  show Goes _ _ _ _ _ _ _ (T1.setTop (mkF m 5 #[.val (.ref a0), .val (.int p1), .val (.long q2), .second, .val (.int p3), .val (.int p4)] [(.ref a0)]))
  refine Goes.step (fun t k => XS.iloadN X1.here hx rfl (hb hby own_d1_5) rfl k) ?_
  show Goes _ _ _ _ _ _ _ (T1.setTop (mkF m 6 #[.val (.ref a0), .val (.int p1), .val (.long q2), .second, .val (.int p3), .val (.int p4)] [(.int p1), (.ref a0)]))
  obtain ⟨T2, h2, X2, e2, W2, st2⟩ := putF X1 hx hZ hown (host := "") (Or.inl (hw _ (List.mem_of_getElem? (i := 14) rfl))) Via.refl e1 F_status E_a0 (Or.inr ⟨(hw _ (List.mem_of_getElem? (i := 15) rfl)), rfl, hnm⟩) (hw _ (List.mem_of_getElem? (i := 1) rfl)) (ty := .int) (by decide) rfl rfl (g := (mkF m 6 #[.val (.ref a0), .val (.int p1), .val (.long q2), .second, .val (.int p3), .val (.int p4)] [(.int p1), (.ref a0)])) rfl rfl (hb hby own_d1_6)
  have Fw2 := F_status.same W2
  have F3 := E_a0.wr W2
  have F4 := F_length.other W2 (Or.inr (slot_ne (Or.inr (hw _ (List.mem_of_getElem? (i := 17) rfl))) (Or.inr (hw _ (List.mem_of_getElem? (i := 15) rfl))) (by decide) (t := .long) (t' := .int) (by decide) (by decide)))
  have F5 := F_chunked.other W2 (Or.inr (slot_ne (Or.inr (hw _ (List.mem_of_getElem? (i := 19) rfl))) (Or.inr (hw _ (List.mem_of_getElem? (i := 15) rfl))) (by decide) (t := .boolean) (t' := .int) (by decide) (by decide)))
  have F6 := F_persistent.other W2 (Or.inr (slot_ne (Or.inr (hw _ (List.mem_of_getElem? (i := 21) rfl))) (Or.inr (hw _ (List.mem_of_getElem? (i := 15) rfl))) (by decide) (t := .boolean) (t' := .int) (by decide) (by decide)))
  have K2 := (Keep.refl h0 [a0]).wr W2 (Or.inl (List.mem_of_getElem? (i := 0) rfl))
  have N2 := Fr.snoc X2 N0 g_a0
  have Z2 := Nat.le_trans Z0 (Nat.le_of_eq W2.size.symm)
  refine Goes.step (fun t k => st2 t k) ?_
  show Goes _ _ _ _ _ _ _ (T2.setTop (mkF m 9 #[.val (.ref a0), .val (.int p1), .val (.long q2), .second, .val (.int p3), .val (.int p4)] []))
  refine Goes.step (fun t k => XS.aloadN X2.here hx rfl (hb hby own_d1_9) rfl rfl k) ?_
  show Goes _ _ _ _ _ _ _ (T2.setTop (mkF m 10 #[.val (.ref a0), .val (.int p1), .val (.long q2), .second, .val (.int p3), .val (.int p4)] [(.ref a0)]))
  refine Goes.step (fun t k => XS.lloadN X2.here hx rfl (hb hby own_d1_10) rfl k) ?_
  show Goes _ _ _ _ _ _ _ (T2.setTop (mkF m 11 #[.val (.ref a0), .val (.int p1), .val (.long q2), .second, .val (.int p3), .val (.int p4)] [(.long q2), (.ref a0)]))
  obtain ⟨T7, h7, X7, e7, W7, st7⟩ := putF X2 hx hZ hown (host := "") (Or.inl (hw _ (List.mem_of_getElem? (i := 16) rfl))) Via.refl e2 F4 F3 (Or.inr ⟨(hw _ (List.mem_of_getElem? (i := 17) rfl)), rfl, hnm⟩) (hw _ (List.mem_of_getElem? (i := 1) rfl)) (ty := .long) (by decide) rfl rfl (g := (mkF m 11 #[.val (.ref a0), .val (.int p1), .val (.long q2), .second, .val (.int p3), .val (.int p4)] [(.long q2), (.ref a0)])) rfl rfl (hb hby own_d1_11)
  have Fw7 := F4.same W7
  have F8 := F3.wr W7
  have F9 := F5.other W7 (Or.inr (slot_ne (Or.inr (hw _ (List.mem_of_getElem? (i := 19) rfl))) (Or.inr (hw _ (List.mem_of_getElem? (i := 17) rfl))) (by decide) (t := .boolean) (t' := .long) (by decide) (by decide)))
  have F10 := F6.other W7 (Or.inr (slot_ne (Or.inr (hw _ (List.mem_of_getElem? (i := 21) rfl))) (Or.inr (hw _ (List.mem_of_getElem? (i := 17) rfl))) (by decide) (t := .boolean) (t' := .long) (by decide) (by decide)))
  have F11 := Fw2.other W7 (Or.inr (slot_ne (Or.inr (hw _ (List.mem_of_getElem? (i := 15) rfl))) (Or.inr (hw _ (List.mem_of_getElem? (i := 17) rfl))) (by decide) (t := .int) (t' := .long) (by decide) (by decide)))
  have K7 := K2.wr W7 (Or.inl (List.mem_of_getElem? (i := 0) rfl))
  have N7 := Fr.snoc X7 N2 g_a0
  have Z7 := Nat.le_trans Z2 (Nat.le_of_eq W7.size.symm)
  refine Goes.step (fun t k => st7 t k) ?_
  show Goes _ _ _ _ _ _ _ (T7.setTop (mkF m 14 #[.val (.ref a0), .val (.int p1), .val (.long q2), .second, .val (.int p3), .val (.int p4)] []))
  refine Goes.step (fun t k => XS.aloadN X7.here hx rfl (hb hby own_d1_14) rfl rfl k) ?_
  show Goes _ _ _ _ _ _ _ (T7.setTop (mkF m 15 #[.val (.ref a0), .val (.int p1), .val (.long q2), .second, .val (.int p3), .val (.int p4)] [(.ref a0)]))
  refine Goes.step (fun t k => XS.iload X7.here hx rfl (hb hby own_d1_15) rfl k) ?_
  show Goes _ _ _ _ _ _ _ (T7.setTop (mkF m 17 #[.val (.ref a0), .val (.int p1), .val (.long q2), .second, .val (.int p3), .val (.int p4)] [(.int p3), (.ref a0)]))
  obtain ⟨T12, h12, X12, e12, W12, st12⟩ := putFN X7 hx hZ hown (hw _ (List.mem_of_getElem? (i := 18) rfl)) Via.refl e7 F9 F8 (Or.inr ⟨(hw _ (List.mem_of_getElem? (i := 19) rfl)), rfl, hnm⟩) (hw _ (List.mem_of_getElem? (i := 1) rfl)) (ty := .boolean) (v' := (.int (nar .boolean p3))) (by decide) rfl (fits_nar_bool _) (g := (mkF m 17 #[.val (.ref a0), .val (.int p1), .val (.long q2), .second, .val (.int p3), .val (.int p4)] [(.int p3), (.ref a0)])) rfl rfl (hb hby own_d1_17)
  have Fw12 := F9.same W12
  have F13 := F8.wr W12
  have F14 := F10.other W12 (Or.inr (slot_ne (Or.inr (hw _ (List.mem_of_getElem? (i := 21) rfl))) (Or.inr (hw _ (List.mem_of_getElem? (i := 19) rfl))) (by decide) (t := .boolean) (t' := .boolean) (by decide) (by decide)))
  have F15 := F11.other W12 (Or.inr (slot_ne (Or.inr (hw _ (List.mem_of_getElem? (i := 15) rfl))) (Or.inr (hw _ (List.mem_of_getElem? (i := 19) rfl))) (by decide) (t := .int) (t' := .boolean) (by decide) (by decide)))
  have F16 := Fw7.other W12 (Or.inr (slot_ne (Or.inr (hw _ (List.mem_of_getElem? (i := 17) rfl))) (Or.inr (hw _ (List.mem_of_getElem? (i := 19) rfl))) (by decide) (t := .long) (t' := .boolean) (by decide) (by decide)))
  have K12 := K7.wr W12 (Or.inl (List.mem_of_getElem? (i := 0) rfl))
  have N12 := Fr.snoc X12 N7 g_a0
  have Z12 := Nat.le_trans Z7 (Nat.le_of_eq W12.size.symm)
  refine Goes.step (fun t k => st12 t k) ?_
  show Goes _ _ _ _ _ _ _ (T12.setTop (mkF m 20 #[.val (.ref a0), .val (.int p1), .val (.long q2), .second, .val (.int p3), .val (.int p4)] []))
  refine Goes.step (fun t k => XS.aloadN X12.here hx rfl (hb hby own_d1_20) rfl rfl k) ?_
  show Goes _ _ _ _ _ _ _ (T12.setTop (mkF m 21 #[.val (.ref a0), .val (.int p1), .val (.long q2), .second, .val (.int p3), .val (.int p4)] [(.ref a0)]))
  refine Goes.step (fun t k => XS.iload X12.here hx rfl (hb hby own_d1_21) rfl k) ?_
  show Goes _ _ _ _ _ _ _ (T12.setTop (mkF m 23 #[.val (.ref a0), .val (.int p1), .val (.long q2), .second, .val (.int p3), .val (.int p4)] [(.int p4), (.ref a0)]))
  obtain ⟨T17, h17, X17, e17, W17, st17⟩ := putFN X12 hx hZ hown (hw _ (List.mem_of_getElem? (i := 20) rfl)) Via.refl e12 F14 F13 (Or.inr ⟨(hw _ (List.mem_of_getElem? (i := 21) rfl)), rfl, hnm⟩) (hw _ (List.mem_of_getElem? (i := 1) rfl)) (ty := .boolean) (v' := (.int (nar .boolean p4))) (by decide) rfl (fits_nar_bool _) (g := (mkF m 23 #[.val (.ref a0), .val (.int p1), .val (.long q2), .second, .val (.int p3), .val (.int p4)] [(.int p4), (.ref a0)])) rfl rfl (hb hby own_d1_23)
  have Fw17 := F14.same W17
  have F18 := F13.wr W17
  have F19 := F15.other W17 (Or.inr (slot_ne (Or.inr (hw _ (List.mem_of_getElem? (i := 15) rfl))) (Or.inr (hw _ (List.mem_of_getElem? (i := 21) rfl))) (by decide) (t := .int) (t' := .boolean) (by decide) (by decide)))
  have F20 := F16.other W17 (Or.inr (slot_ne (Or.inr (hw _ (List.mem_of_getElem? (i := 17) rfl))) (Or.inr (hw _ (List.mem_of_getElem? (i := 21) rfl))) (by decide) (t := .long) (t' := .boolean) (by decide) (by decide)))
  have F21 := Fw12.other W17 (Or.inr (slot_ne (Or.inr (hw _ (List.mem_of_getElem? (i := 19) rfl))) (Or.inr (hw _ (List.mem_of_getElem? (i := 21) rfl))) (by decide) (t := .boolean) (t' := .boolean) (by decide) (by decide)))
  have K17 := K12.wr W17 (Or.inl (List.mem_of_getElem? (i := 0) rfl))
  have N17 := Fr.snoc X17 N12 g_a0
  have Z17 := Nat.le_trans Z12 (Nat.le_of_eq W17.size.symm)
  refine Goes.step (fun t k => st17 t k) ?_
  show Goes _ _ _ _ _ _ _ (T17.setTop (mkF m 26 #[.val (.ref a0), .val (.int p1), .val (.long q2), .second, .val (.int p3), .val (.int p4)] []))
  exact Goes.retV X17 hx Bd.notSynchronized Bd.returns (hb hby own_d1_26) (by rw [e17]; exact ⟨rfl, N17, K17, F18, F19⟩) (by decide) (by decide)
def f4 (w1 : Int32) : Int32 := (nar .boolean (if w1 < (100 : Int32) then (0 : Int32) else (if w1 < (200 : Int32) then (if w1 = (101 : Int32) then (0 : Int32) else (1 : Int32)) else (0 : Int32))))
theorem own_d4_0 : decode prog_26_method_2_code 0 = .ok (.aload_n 0, 1) := by decide +kernel
theorem own_d4_1 : decode prog_26_method_2_code 1 = .ok (.getfield 7, 3) := by decide +kernel
theorem own_d4_4 : decode prog_26_method_2_code 4 = .ok (.bipush 100, 2) := by decide +kernel
theorem own_d4_6 : decode prog_26_method_2_code 6 = .ok (.if_icmp .lt 26, 3) := by decide +kernel
theorem own_d4_9 : decode prog_26_method_2_code 9 = .ok (.aload_n 0, 1) := by decide +kernel
theorem own_d4_10 : decode prog_26_method_2_code 10 = .ok (.getfield 7, 3) := by decide +kernel
theorem own_d4_13 : decode prog_26_method_2_code 13 = .ok (.sipush 200, 3) := by decide +kernel
theorem own_d4_16 : decode prog_26_method_2_code 16 = .ok (.if_icmp .ge 16, 3) := by decide +kernel
theorem own_d4_19 : decode prog_26_method_2_code 19 = .ok (.aload_n 0, 1) := by decide +kernel
theorem own_d4_20 : decode prog_26_method_2_code 20 = .ok (.getfield 7, 3) := by decide +kernel
theorem own_d4_23 : decode prog_26_method_2_code 23 = .ok (.bipush 101, 2) := by decide +kernel
theorem own_d4_25 : decode prog_26_method_2_code 25 = .ok (.if_icmp .eq 7, 3) := by decide +kernel
theorem own_d4_28 : decode prog_26_method_2_code 28 = .ok (.iconst 1, 1) := by decide +kernel
theorem own_d4_29 : decode prog_26_method_2_code 29 = .ok (.goto 4, 3) := by decide +kernel
theorem own_d4_32 : decode prog_26_method_2_code 32 = .ok (.iconst 0, 1) := by decide +kernel
theorem own_d4_33 : decode prog_26_method_2_code 33 = .ok (.ireturn, 1) := by decide +kernel
theorem own_ef4 (m : MethodId) (a0 : Addr) : entryFrame m #[(.ref a0)] 1 = mkF m 0 #[.val (.ref a0)] [] := by first | (simp [entryFrame, mkF, argsToLocals, Value.category, maxLocals]; done) | rfl
abbrev RM4 : Room := ({ frames := 0, cells := 0, slots := 0, locals := 0 } : Room)
abbrev kC4 : Nat := 0
abbrev kS4 : Nat := 0
def Q4 (Z : State) (a0 : Addr) (w1 : Int32) (h0 : Heap) (v : Option Value) (h : Heap) (L : List Loc) : Prop := v = some (.int (f4 w1)) ∧ L = [] ∧ h = h0
set_option maxRecDepth 65536 in
set_option maxHeartbeats 40000000 in
theorem rm4 (l : Launch) (Z : State) (tA : Array Value) (hw : ∀ d ∈ tables_1, d.before tA Z = true) (ws : List Jvm.Cond) (a0 : Addr) (w1 : Int32) (h0 : Heap) (F_status : Fld Z h0 a0 "com/example/replica_scaler/replicascaler/outside/ResponseHead" "status" "I" (.int w1)) :
    MetFree l (⟨"com/example/replica_scaler/replicascaler/outside/ResponseHead", "interim", "()Z"⟩ : MethodName) (head1 (Jvm.Cond.code (⟨"com/example/replica_scaler/replicascaler/outside/ResponseHead", "interim", "()Z"⟩ : MethodName) prog_26_method_2_code 1 (some .boolean) :: ws) RM4) (fun a U => a = #[(.ref a0)] ∧ Z.Warmed39 U.vm ∧ U.heap = h0) (fun _ _ _ _ _ => True) (fun _ U o U' => ∃ v L, o = .returned v ∧ Q4 Z a0 w1 h0 v U'.heap L ∧ FrameEnd U o U' L RM4.cells RM4.slots) := by
  refine MetFree.of_bodySF (plainFor_of_name own_pn1) hisR ?_
  intro p e s m args below meth c s₁ Bd hml0 hP hK
  obtain ⟨rfl, hZ, hh⟩ := hP
  have hx := Bd.exec
  have hby := Bd.bytes
  have hml : c.maxLocals = 1 := hml0
  have hown : s.vm.findClass "com/example/replica_scaler/replicascaler/outside/ResponseHead" = some m.cls := findClass_of_methodNamed Bd.named
  have hnm := (name_of_methodNamed Bd.named Bd.method).1
  have X0 : Stand p l e RM4 s m #[(.ref a0)] below meth c s₁ [] 0 0 := Stand.of_body Bd
  have e0 : s₁.heap = h0 := by rw [← hh, Bd.state]; rfl
  show Goes p e below s (Q4 Z a0 w1 h0) kC4 kS4 (s₁.setTop (entryFrame m #[(.ref a0)] 1))
  refine Goes.step (fun t k => castTop (own_ef4 m a0) k) ?_
  show Goes _ _ _ _ _ _ _ (s₁.setTop (mkF m 0 #[.val (.ref a0)] []))
  refine Goes.step (fun t k => XS.aloadN X0.here hx rfl (hb hby own_d4_0) rfl rfl k) ?_
  show Goes _ _ _ _ _ _ _ (s₁.setTop (mkF m 1 #[.val (.ref a0)] [(.ref a0)]))
  obtain ⟨T1, X1, e1, st1⟩ := getF X0 hx hZ hown (host := "") (Or.inl (hw _ (List.mem_of_getElem? (i := 14) rfl))) Via.refl e0 F_status (g := (mkF m 1 #[.val (.ref a0)] [(.ref a0)])) rfl rfl (hb hby own_d4_1)
  refine Goes.step (fun t k => st1 t k) ?_
  show Goes _ _ _ _ _ _ _ (T1.setTop (mkF m 4 #[.val (.ref a0)] [(.int w1)]))
  refine Goes.step (fun t k => XS.bipush X1.here hx rfl (hb hby own_d4_4) k) ?_
  show Goes _ _ _ _ _ _ _ (T1.setTop (mkF m 6 #[.val (.ref a0)] [(.int (100 : Int32)), (.int w1)]))
  suffices k7 : ∀ (T7 : State) (x7_0 : Int32), Stand p l e RM4 s m #[(.ref a0)] below meth c T7 [] 0 0 → T7.heap = h0 → x7_0 = (if w1 < (100 : Int32) then (0 : Int32) else (if w1 < (200 : Int32) then (if w1 = (101 : Int32) then (0 : Int32) else (1 : Int32)) else (0 : Int32))) → Goes p e below s (Q4 Z a0 w1 h0) kC4 kS4 (T7.setTop (mkF m 33 #[.val (.ref a0)] [(.int x7_0)])) by
    by_cases hc6_2 : w1 < (100 : Int32)
    · refine Goes.step (fun t k => XS.icmpYes X1.here hx rfl (pc0 := 6) (pc' := 32) rfl (hb hby own_d4_6) rfl (tlt hc6_2).1 (by decide) (by decide) k) ?_
      show Goes _ _ _ _ _ _ _ (T1.setTop (mkF m 32 #[.val (.ref a0)] []))
      refine Goes.step (fun t k => XS.iconst X1.here hx rfl (hb hby own_d4_32) k) ?_
      show Goes _ _ _ _ _ _ _ (T1.setTop (mkF m 33 #[.val (.ref a0)] [(.int (0 : Int32))]))
      exact k7 _ _ X1 e1 (if_pos hc6_2).symm
    · refine Goes.step (fun t k => XS.icmpNo X1.here hx rfl (hb hby own_d4_6) rfl (flt hc6_2).1 k) ?_
      show Goes _ _ _ _ _ _ _ (T1.setTop (mkF m 9 #[.val (.ref a0)] []))
      refine Goes.step (fun t k => XS.aloadN X1.here hx rfl (hb hby own_d4_9) rfl rfl k) ?_
      show Goes _ _ _ _ _ _ _ (T1.setTop (mkF m 10 #[.val (.ref a0)] [(.ref a0)]))
      obtain ⟨T3, X3, e3, st3⟩ := getF X1 hx hZ hown (host := "") (Or.inl (hw _ (List.mem_of_getElem? (i := 14) rfl))) Via.refl e1 F_status (g := (mkF m 10 #[.val (.ref a0)] [(.ref a0)])) rfl rfl (hb hby own_d4_10)
      refine Goes.step (fun t k => st3 t k) ?_
      show Goes _ _ _ _ _ _ _ (T3.setTop (mkF m 13 #[.val (.ref a0)] [(.int w1)]))
      refine Goes.step (fun t k => XS.sipush X3.here hx rfl (hb hby own_d4_13) k) ?_
      show Goes _ _ _ _ _ _ _ (T3.setTop (mkF m 16 #[.val (.ref a0)] [(.int (200 : Int32)), (.int w1)]))
      by_cases hc16_4 : w1 < (200 : Int32)
      · refine Goes.step (fun t k => XS.icmpNo X3.here hx rfl (hb hby own_d4_16) rfl (tlt hc16_4).2.1 k) ?_
        show Goes _ _ _ _ _ _ _ (T3.setTop (mkF m 19 #[.val (.ref a0)] []))
        refine Goes.step (fun t k => XS.aloadN X3.here hx rfl (hb hby own_d4_19) rfl rfl k) ?_
        show Goes _ _ _ _ _ _ _ (T3.setTop (mkF m 20 #[.val (.ref a0)] [(.ref a0)]))
        obtain ⟨T5, X5, e5, st5⟩ := getF X3 hx hZ hown (host := "") (Or.inl (hw _ (List.mem_of_getElem? (i := 14) rfl))) Via.refl e3 F_status (g := (mkF m 20 #[.val (.ref a0)] [(.ref a0)])) rfl rfl (hb hby own_d4_20)
        refine Goes.step (fun t k => st5 t k) ?_
        show Goes _ _ _ _ _ _ _ (T5.setTop (mkF m 23 #[.val (.ref a0)] [(.int w1)]))
        refine Goes.step (fun t k => XS.bipush X5.here hx rfl (hb hby own_d4_23) k) ?_
        show Goes _ _ _ _ _ _ _ (T5.setTop (mkF m 25 #[.val (.ref a0)] [(.int (101 : Int32)), (.int w1)]))
        by_cases hc25_6 : w1 = (101 : Int32)
        · refine Goes.step (fun t k => XS.icmpYes X5.here hx rfl (pc0 := 25) (pc' := 32) rfl (hb hby own_d4_25) rfl (teq hc25_6).1 (by decide) (by decide) k) ?_
          show Goes _ _ _ _ _ _ _ (T5.setTop (mkF m 32 #[.val (.ref a0)] []))
          refine Goes.step (fun t k => XS.iconst X5.here hx rfl (hb hby own_d4_32) k) ?_
          show Goes _ _ _ _ _ _ _ (T5.setTop (mkF m 33 #[.val (.ref a0)] [(.int (0 : Int32))]))
          exact k7 _ _ X5 e5 ((if_neg hc6_2).trans ((if_pos hc16_4).trans (if_pos hc25_6))).symm
        · refine Goes.step (fun t k => XS.icmpNo X5.here hx rfl (hb hby own_d4_25) rfl (feq hc25_6).1 k) ?_
          show Goes _ _ _ _ _ _ _ (T5.setTop (mkF m 28 #[.val (.ref a0)] []))
          refine Goes.step (fun t k => XS.iconst X5.here hx rfl (hb hby own_d4_28) k) ?_
          show Goes _ _ _ _ _ _ _ (T5.setTop (mkF m 29 #[.val (.ref a0)] [(.int (1 : Int32))]))
          refine Goes.step (fun t k => XS.goto X5.here hx rfl (pc0 := 29) (pc' := 33) rfl (hb hby own_d4_29) (by decide) (by decide) k) ?_
          show Goes _ _ _ _ _ _ _ (T5.setTop (mkF m 33 #[.val (.ref a0)] [(.int (1 : Int32))]))
          exact k7 _ _ X5 e5 ((if_neg hc6_2).trans ((if_pos hc16_4).trans (if_neg hc25_6))).symm
      · refine Goes.step (fun t k => XS.icmpYes X3.here hx rfl (pc0 := 16) (pc' := 32) rfl (hb hby own_d4_16) rfl (flt hc16_4).2.1 (by decide) (by decide) k) ?_
        show Goes _ _ _ _ _ _ _ (T3.setTop (mkF m 32 #[.val (.ref a0)] []))
        refine Goes.step (fun t k => XS.iconst X3.here hx rfl (hb hby own_d4_32) k) ?_
        show Goes _ _ _ _ _ _ _ (T3.setTop (mkF m 33 #[.val (.ref a0)] [(.int (0 : Int32))]))
        exact k7 _ _ X3 e3 ((if_neg hc6_2).trans (if_neg hc16_4)).symm
  intro T7 x7_0 X7 e7 hx7_0
  subst hx7_0
  exact Goes.retZ X7 hx Bd.notSynchronized (r := (f4 w1)) Bd.returns (by simp) (hb hby own_d4_33) rfl ⟨rfl, rfl, e7⟩ (by decide) (by decide)
def f0 (p0 : Int32) (q1 : Int64) (p2 : Int32) : Int32 := (nar .boolean (if (f4 p0) = (if (if (p0 / (100 : Int32)) = (1 : Int32) then (1 : Int32) else (0 : Int32)) = (0 : Int32) then (0 : Int32) else (if (if (p0 % (100 : Int32)) = (1 : Int32) then (1 : Int32) else (0 : Int32)) = (0 : Int32) then (1 : Int32) else (0 : Int32))) then (1 : Int32) else (0 : Int32)))
theorem own_ef0 (m : MethodId) (p0 : Int32) (q1 : Int64) (p2 : Int32) : entryFrame m #[(.int p0), (.long q1), (.int p2)] maxLocals = mkF m 0 #[.val (.int p0), .val (.long q1), .second, .val (.int p2), .unset, .unset, .unset, .unset, .unset, .unset] [] := by first | (simp [entryFrame, mkF, argsToLocals, Value.category, maxLocals]; done) | rfl
abbrev kC0 : Nat := 1
abbrev kS0 : Nat := 4
def Q0 (Z : State) (p0 : Int32) (q1 : Int64) (p2 : Int32) (h0 : Heap) (n0 : Nat) (v : Option Value) (h : Heap) (L : List Loc) : Prop := v = some (.int (f0 p0 q1 p2)) ∧ Fr n0 L
set_option maxRecDepth 65536 in
set_option maxHeartbeats 40000000 in
theorem rm0 (l : Launch) (Z : State) (tA : Array Value) (hw : ∀ d ∈ tables_1, d.before tA Z = true) (ws : List Jvm.Cond) (p0 : Int32) (q1 : Int64) (p2 : Int32) (h0 : Heap) (n0 : Nat) (Z0 : n0 ≤ h0.size)  :
    MetFree l x (head1 (Jvm.Cond.code x code maxLocals ret :: ws) room_1) (fun a U => a = #[(.int p0), (.long q1), (.int p2)] ∧ Z.Warmed39 U.vm ∧ U.heap = h0) (fun _ _ _ _ _ => True) (fun _ U o U' => ∃ v L, o = .returned v ∧ Q0 Z p0 q1 p2 h0 n0 v U'.heap L ∧ FrameEnd U o U' L kC0 kS0) := by
  refine MetFree.of_bodySF (plainFor_of_name own_pn2) hisR ?_
  intro p e s m args below meth c s₁ Bd hml0 hP hK
  obtain ⟨rfl, hZ, hh⟩ := hP
  have hx := Bd.exec
  have hby := Bd.bytes
  have hml : c.maxLocals = 10 := hml0
  have hown : s.vm.findClass "com/example/replica_scaler/replicascaler/outside/ResponseHeadInterimPinLaw" = some m.cls := findClass_of_methodNamed Bd.named
  have hnm := (name_of_methodNamed Bd.named Bd.method).1
  have X0 : Stand p l e room_1 s m #[(.int p0), (.long q1), (.int p2)] below meth c s₁ [] 0 0 := Stand.of_body Bd
  have e0 : s₁.heap = h0 := by rw [← hh, Bd.state]; rfl
  have N0 := Fr.nil n0
  show Goes p e below s (Q0 Z p0 q1 p2 h0 n0) kC0 kS0 (s₁.setTop (entryFrame m #[(.int p0), (.long q1), (.int p2)] maxLocals))
  refine Goes.step (fun t k => castTop (own_ef0 m p0 q1 p2) k) ?_
  show Goes _ _ _ _ _ _ _ (s₁.setTop (mkF m 0 #[.val (.int p0), .val (.long q1), .second, .val (.int p2), .unset, .unset, .unset, .unset, .unset, .unset] []))
  refine Goes.step (fun t k => XS.iloadN X0.here hx rfl (hb hby at_0) rfl k) ?_
  show Goes _ _ _ _ _ _ _ (s₁.setTop (mkF m 1 #[.val (.int p0), .val (.long q1), .second, .val (.int p2), .unset, .unset, .unset, .unset, .unset, .unset] [(.int p2)]))
  refine Goes.step (fun t k => XS.iconst X0.here hx rfl (hb hby at_1) k) ?_
  show Goes _ _ _ _ _ _ _ (s₁.setTop (mkF m 2 #[.val (.int p0), .val (.long q1), .second, .val (.int p2), .unset, .unset, .unset, .unset, .unset, .unset] [(.int (1 : Int32)), (.int p2)]))
  refine Goes.step (fun t k => XS.iand X0.here hx rfl (hb hby at_2) rfl k) ?_
  show Goes _ _ _ _ _ _ _ (s₁.setTop (mkF m 3 #[.val (.int p0), .val (.long q1), .second, .val (.int p2), .unset, .unset, .unset, .unset, .unset, .unset] [(.int (p2 &&& (1 : Int32)))]))
  suffices k2 : ∀ (x2_0 : Int32), x2_0 = (if (p2 &&& (1 : Int32)) = (0 : Int32) then (0 : Int32) else (1 : Int32)) → Goes p e below s (Q0 Z p0 q1 p2 h0 n0) kC0 kS0 (s₁.setTop (mkF m 11 #[.val (.int p0), .val (.long q1), .second, .val (.int p2), .unset, .unset, .unset, .unset, .unset, .unset] [(.int x2_0)])) by
    by_cases hc3_1 : (p2 &&& (1 : Int32)) = (0 : Int32)
    · refine Goes.step (fun t k => XS.ifYes X0.here hx rfl (pc0 := 3) (pc' := 10) rfl (hb hby at_3) rfl ((if0 _ _).trans (teq hc3_1).1) (by decide) (by decide) k) ?_
      show Goes _ _ _ _ _ _ _ (s₁.setTop (mkF m 10 #[.val (.int p0), .val (.long q1), .second, .val (.int p2), .unset, .unset, .unset, .unset, .unset, .unset] []))
      refine Goes.step (fun t k => XS.iconst X0.here hx rfl (hb hby at_10) k) ?_
      show Goes _ _ _ _ _ _ _ (s₁.setTop (mkF m 11 #[.val (.int p0), .val (.long q1), .second, .val (.int p2), .unset, .unset, .unset, .unset, .unset, .unset] [(.int (0 : Int32))]))
      exact k2 _ (if_pos hc3_1).symm
    · refine Goes.step (fun t k => XS.ifNo X0.here hx rfl (hb hby at_3) rfl ((if0 _ _).trans (feq hc3_1).1) k) ?_
      show Goes _ _ _ _ _ _ _ (s₁.setTop (mkF m 6 #[.val (.int p0), .val (.long q1), .second, .val (.int p2), .unset, .unset, .unset, .unset, .unset, .unset] []))
      refine Goes.step (fun t k => XS.iconst X0.here hx rfl (hb hby at_6) k) ?_
      show Goes _ _ _ _ _ _ _ (s₁.setTop (mkF m 7 #[.val (.int p0), .val (.long q1), .second, .val (.int p2), .unset, .unset, .unset, .unset, .unset, .unset] [(.int (1 : Int32))]))
      refine Goes.step (fun t k => XS.goto X0.here hx rfl (pc0 := 7) (pc' := 11) rfl (hb hby at_7) (by decide) (by decide) k) ?_
      show Goes _ _ _ _ _ _ _ (s₁.setTop (mkF m 11 #[.val (.int p0), .val (.long q1), .second, .val (.int p2), .unset, .unset, .unset, .unset, .unset, .unset] [(.int (1 : Int32))]))
      exact k2 _ (if_neg hc3_1).symm
  intro x2_0 hx2_0
  refine Goes.step (fun t k => XS.istore X0.here hx rfl (hb hby at_11) rfl (l' := #[.val (.int p0), .val (.long q1), .second, .val (.int p2), .val (.int x2_0), .unset, .unset, .unset, .unset, .unset]) rfl k) ?_
  show Goes _ _ _ _ _ _ _ (s₁.setTop (mkF m 13 #[.val (.int p0), .val (.long q1), .second, .val (.int p2), .val (.int x2_0), .unset, .unset, .unset, .unset, .unset] []))
  refine Goes.step (fun t k => XS.iloadN X0.here hx rfl (hb hby at_13) rfl k) ?_
  show Goes _ _ _ _ _ _ _ (s₁.setTop (mkF m 14 #[.val (.int p0), .val (.long q1), .second, .val (.int p2), .val (.int x2_0), .unset, .unset, .unset, .unset, .unset] [(.int p2)]))
  refine Goes.step (fun t k => XS.iconst X0.here hx rfl (hb hby at_14) k) ?_
  show Goes _ _ _ _ _ _ _ (s₁.setTop (mkF m 15 #[.val (.int p0), .val (.long q1), .second, .val (.int p2), .val (.int x2_0), .unset, .unset, .unset, .unset, .unset] [(.int (2 : Int32)), (.int p2)]))
  refine Goes.step (fun t k => XS.iand X0.here hx rfl (hb hby at_15) rfl k) ?_
  show Goes _ _ _ _ _ _ _ (s₁.setTop (mkF m 16 #[.val (.int p0), .val (.long q1), .second, .val (.int p2), .val (.int x2_0), .unset, .unset, .unset, .unset, .unset] [(.int (p2 &&& (2 : Int32)))]))
  suffices k4 : ∀ (x4_0 : Int32), x4_0 = (if (p2 &&& (2 : Int32)) = (0 : Int32) then (0 : Int32) else (1 : Int32)) → Goes p e below s (Q0 Z p0 q1 p2 h0 n0) kC0 kS0 (s₁.setTop (mkF m 24 #[.val (.int p0), .val (.long q1), .second, .val (.int p2), .val (.int x2_0), .unset, .unset, .unset, .unset, .unset] [(.int x4_0)])) by
    by_cases hc16_3 : (p2 &&& (2 : Int32)) = (0 : Int32)
    · refine Goes.step (fun t k => XS.ifYes X0.here hx rfl (pc0 := 16) (pc' := 23) rfl (hb hby at_16) rfl ((if0 _ _).trans (teq hc16_3).1) (by decide) (by decide) k) ?_
      show Goes _ _ _ _ _ _ _ (s₁.setTop (mkF m 23 #[.val (.int p0), .val (.long q1), .second, .val (.int p2), .val (.int x2_0), .unset, .unset, .unset, .unset, .unset] []))
      refine Goes.step (fun t k => XS.iconst X0.here hx rfl (hb hby at_23) k) ?_
      show Goes _ _ _ _ _ _ _ (s₁.setTop (mkF m 24 #[.val (.int p0), .val (.long q1), .second, .val (.int p2), .val (.int x2_0), .unset, .unset, .unset, .unset, .unset] [(.int (0 : Int32))]))
      exact k4 _ (if_pos hc16_3).symm
    · refine Goes.step (fun t k => XS.ifNo X0.here hx rfl (hb hby at_16) rfl ((if0 _ _).trans (feq hc16_3).1) k) ?_
      show Goes _ _ _ _ _ _ _ (s₁.setTop (mkF m 19 #[.val (.int p0), .val (.long q1), .second, .val (.int p2), .val (.int x2_0), .unset, .unset, .unset, .unset, .unset] []))
      refine Goes.step (fun t k => XS.iconst X0.here hx rfl (hb hby at_19) k) ?_
      show Goes _ _ _ _ _ _ _ (s₁.setTop (mkF m 20 #[.val (.int p0), .val (.long q1), .second, .val (.int p2), .val (.int x2_0), .unset, .unset, .unset, .unset, .unset] [(.int (1 : Int32))]))
      refine Goes.step (fun t k => XS.goto X0.here hx rfl (pc0 := 20) (pc' := 24) rfl (hb hby at_20) (by decide) (by decide) k) ?_
      show Goes _ _ _ _ _ _ _ (s₁.setTop (mkF m 24 #[.val (.int p0), .val (.long q1), .second, .val (.int p2), .val (.int x2_0), .unset, .unset, .unset, .unset, .unset] [(.int (1 : Int32))]))
      exact k4 _ (if_neg hc16_3).symm
  intro x4_0 hx4_0
  refine Goes.step (fun t k => XS.istore X0.here hx rfl (hb hby at_24) rfl (l' := #[.val (.int p0), .val (.long q1), .second, .val (.int p2), .val (.int x2_0), .val (.int x4_0), .unset, .unset, .unset, .unset]) rfl k) ?_
  show Goes _ _ _ _ _ _ _ (s₁.setTop (mkF m 26 #[.val (.int p0), .val (.long q1), .second, .val (.int p2), .val (.int x2_0), .val (.int x4_0), .unset, .unset, .unset, .unset] []))
  obtain ⟨T5, h5, X5, e5, E5, A5, D5, -, st5⟩ := newO X0 hx hZ hown (hw _ (List.mem_of_getElem? (i := 0) rfl)) (hw _ (List.mem_of_getElem? (i := 1) rfl)) (hw _ (List.mem_of_getElem? (i := 2) rfl)) e0 (g := (mkF m 26 #[.val (.int p0), .val (.long q1), .second, .val (.int p2), .val (.int x2_0), .val (.int x4_0), .unset, .unset, .unset, .unset] [])) rfl (hb hby at_26) (by decide) (by decide)
  obtain ⟨b5, g5⟩ : ∃ z, z = h0.size := ⟨_, rfl⟩
  rw [← g5] at A5 D5 st5
  have Zs5 : n0 ≤ b5 := Nat.le_trans Z0 (Nat.le_of_eq g5.symm)
  have Zh5 : h0.size ≤ b5 := Nat.le_trans (Keep.refl h0 []).1 (Nat.le_of_eq g5.symm)
  have K5 := (Keep.refl h0 []).ext E5
  have Z5 := Nat.le_trans Z0 E5.1
  have F6 : Fld Z h5 b5 "com/example/replica_scaler/replicascaler/outside/ResponseHead" "status" "I" (.int (0 : Int32)) := D5 (Or.inr (hw _ (List.mem_of_getElem? (i := 15) rfl))) (ty := .int) (by decide)
  have F7 : Fld Z h5 b5 "com/example/replica_scaler/replicascaler/outside/ResponseHead" "length" "J" (.long (0 : Int64)) := D5 (Or.inr (hw _ (List.mem_of_getElem? (i := 17) rfl))) (ty := .long) (by decide)
  have F8 : Fld Z h5 b5 "com/example/replica_scaler/replicascaler/outside/ResponseHead" "chunked" "Z" (.int (0 : Int32)) := D5 (Or.inr (hw _ (List.mem_of_getElem? (i := 19) rfl))) (ty := .boolean) (by decide)
  have F9 : Fld Z h5 b5 "com/example/replica_scaler/replicascaler/outside/ResponseHead" "persistent" "Z" (.int (0 : Int32)) := D5 (Or.inr (hw _ (List.mem_of_getElem? (i := 21) rfl))) (ty := .boolean) (by decide)
  refine Goes.step (fun t k => st5 t k) ?_
  show Goes _ _ _ _ _ _ _ (T5.setTop (mkF m 29 #[.val (.int p0), .val (.long q1), .second, .val (.int p2), .val (.int x2_0), .val (.int x4_0), .unset, .unset, .unset, .unset] [(.ref b5)]))
  refine Goes.step (fun t k => XS.dup X5.here hx rfl (hb hby at_29) rfl rfl k) ?_
  show Goes _ _ _ _ _ _ _ (T5.setTop (mkF m 30 #[.val (.int p0), .val (.long q1), .second, .val (.int p2), .val (.int x2_0), .val (.int x4_0), .unset, .unset, .unset, .unset] [(.ref b5), (.ref b5)]))
  refine Goes.step (fun t k => XS.iloadN X5.here hx rfl (hb hby at_30) rfl k) ?_
  show Goes _ _ _ _ _ _ _ (T5.setTop (mkF m 31 #[.val (.int p0), .val (.long q1), .second, .val (.int p2), .val (.int x2_0), .val (.int x4_0), .unset, .unset, .unset, .unset] [(.int p0), (.ref b5), (.ref b5)]))
  refine Goes.step (fun t k => XS.lloadN X5.here hx rfl (hb hby at_31) rfl k) ?_
  show Goes _ _ _ _ _ _ _ (T5.setTop (mkF m 32 #[.val (.int p0), .val (.long q1), .second, .val (.int p2), .val (.int x2_0), .val (.int x4_0), .unset, .unset, .unset, .unset] [(.long q1), (.int p0), (.ref b5), (.ref b5)]))
  refine Goes.step (fun t k => XS.iload X5.here hx rfl (hb hby at_32) rfl k) ?_
  show Goes _ _ _ _ _ _ _ (T5.setTop (mkF m 34 #[.val (.int p0), .val (.long q1), .second, .val (.int p2), .val (.int x2_0), .val (.int x4_0), .unset, .unset, .unset, .unset] [(.int x2_0), (.long q1), (.int p0), (.ref b5), (.ref b5)]))
  refine Goes.step (fun t k => XS.iload X5.here hx rfl (hb hby at_34) rfl k) ?_
  show Goes _ _ _ _ _ _ _ (T5.setTop (mkF m 36 #[.val (.int p0), .val (.long q1), .second, .val (.int p2), .val (.int x2_0), .val (.int x4_0), .unset, .unset, .unset, .unset] [(.int x4_0), (.int x2_0), (.long q1), (.int p0), (.ref b5), (.ref b5)]))
  obtain ⟨_, _, ⟨T10, L10, k10, n10⟩, -, X10, ⟨Lc10, hQ10, l10, y10, z10⟩, st10⟩ := X5.specialBack hx (y := (⟨"com/example/replica_scaler/replicascaler/outside/ResponseHead", "<init>", "(IJZZ)V"⟩ : MethodName)) rfl hown (mvT hZ (hw _ (List.mem_of_getElem? (i := 3) rfl))) (mvT hZ (hw _ (List.mem_of_getElem? (i := 4) rfl))) (mvT hZ (hw _ (List.mem_of_getElem? (i := 5) rfl))) (by decide) (backOf (W := 1) (rm1 l Z tA hw [] b5 p0 q1 x2_0 x4_0 h5 n0 Z5 A5 F6 F7 F8 F9 Zs5) hZ (hw _ (List.mem_of_getElem? (i := 5) rfl)) (hw _ (List.mem_of_getElem? (i := 2) rfl)) (by decide) (by decide)) (g := (mkF m 36 #[.val (.int p0), .val (.long q1), .second, .val (.int p2), .val (.int x2_0), .val (.int x4_0), .unset, .unset, .unset, .unset] [(.int x4_0), (.int x2_0), (.long q1), (.int p0), (.ref b5), (.ref b5)])) rfl (by rw [hml]; rfl) (Steps.refl _) (a := b5) (argsL := [(.int p0), (.long q1), (.int x2_0), (.int x4_0)]) (rest := [(.ref b5)]) (lenOf own_pd1 rfl) rfl (by show 2 * 0 + _ ≤ _; exact Nat.le_of_eq rfl) (hb hby at_36) (fun _ _ => ⟨rfl, e5, (by decide : 1 + 0 ≤ _), (by decide : 4 + 0 ≤ _)⟩)
  dsimp only [Pt.U, Pt.locs, Pt.cells, Pt.slots] at X10 l10 y10 z10 st10 hQ10
  subst l10 y10 z10
  generalize e10 : T10.heap = h10 at hQ10
  obtain ⟨rfl, Nq10, Kq10, G10_0, G10_1⟩ := hQ10
  have N10 := Fr.app N0 Nq10
  have K10 := K5.trans Kq10 (allS (Or.inr Zh5) all0)
  have Z10 := Nat.le_trans Z5 Kq10.1
  change Stand _ _ _ _ _ _ _ _ _ _ _ _ 1 4 at X10
  refine Goes.step (fun t k => st10.trans k) ?_
  show Goes _ _ _ _ _ _ _ (T10.setTop (mkF m 39 #[.val (.int p0), .val (.long q1), .second, .val (.int p2), .val (.int x2_0), .val (.int x4_0), .unset, .unset, .unset, .unset] [(.ref b5)]))
  refine Goes.step (fun t k => XS.astore X10.here hx rfl (hb hby at_39) rfl rfl (l' := #[.val (.int p0), .val (.long q1), .second, .val (.int p2), .val (.int x2_0), .val (.int x4_0), .val (.ref b5), .unset, .unset, .unset]) rfl k) ?_
  show Goes _ _ _ _ _ _ _ (T10.setTop (mkF m 41 #[.val (.int p0), .val (.long q1), .second, .val (.int p2), .val (.int x2_0), .val (.int x4_0), .val (.ref b5), .unset, .unset, .unset] []))
  refine Goes.step (fun t k => XS.iloadN X10.here hx rfl (hb hby at_41) rfl k) ?_
  show Goes _ _ _ _ _ _ _ (T10.setTop (mkF m 42 #[.val (.int p0), .val (.long q1), .second, .val (.int p2), .val (.int x2_0), .val (.int x4_0), .val (.ref b5), .unset, .unset, .unset] [(.int p0)]))
  refine Goes.step (fun t k => XS.bipush X10.here hx rfl (hb hby at_42) k) ?_
  show Goes _ _ _ _ _ _ _ (T10.setTop (mkF m 44 #[.val (.int p0), .val (.long q1), .second, .val (.int p2), .val (.int x2_0), .val (.int x4_0), .val (.ref b5), .unset, .unset, .unset] [(.int (100 : Int32)), (.int p0)]))
  have hnz11 : ¬ ((100 : Int32) = (0 : Int32)) := by decide
  refine Goes.step (fun t k => XS.idiv X10.here hx rfl (hb hby at_44) rfl hnz11 k) ?_
  show Goes _ _ _ _ _ _ _ (T10.setTop (mkF m 45 #[.val (.int p0), .val (.long q1), .second, .val (.int p2), .val (.int x2_0), .val (.int x4_0), .val (.ref b5), .unset, .unset, .unset] [(.int (p0 / (100 : Int32)))]))
  refine Goes.step (fun t k => XS.iconst X10.here hx rfl (hb hby at_45) k) ?_
  show Goes _ _ _ _ _ _ _ (T10.setTop (mkF m 46 #[.val (.int p0), .val (.long q1), .second, .val (.int p2), .val (.int x2_0), .val (.int x4_0), .val (.ref b5), .unset, .unset, .unset] [(.int (1 : Int32)), (.int (p0 / (100 : Int32)))]))
  suffices k13 : ∀ (x13_0 : Int32), x13_0 = (if (p0 / (100 : Int32)) = (1 : Int32) then (1 : Int32) else (0 : Int32)) → Goes p e below s (Q0 Z p0 q1 p2 h0 n0) kC0 kS0 (T10.setTop (mkF m 54 #[.val (.int p0), .val (.long q1), .second, .val (.int p2), .val (.int x2_0), .val (.int x4_0), .val (.ref b5), .unset, .unset, .unset] [(.int x13_0)])) by
    by_cases hc46_12 : (p0 / (100 : Int32)) = (1 : Int32)
    · refine Goes.step (fun t k => XS.icmpNo X10.here hx rfl (hb hby at_46) rfl (teq hc46_12).2 k) ?_
      show Goes _ _ _ _ _ _ _ (T10.setTop (mkF m 49 #[.val (.int p0), .val (.long q1), .second, .val (.int p2), .val (.int x2_0), .val (.int x4_0), .val (.ref b5), .unset, .unset, .unset] []))
      refine Goes.step (fun t k => XS.iconst X10.here hx rfl (hb hby at_49) k) ?_
      show Goes _ _ _ _ _ _ _ (T10.setTop (mkF m 50 #[.val (.int p0), .val (.long q1), .second, .val (.int p2), .val (.int x2_0), .val (.int x4_0), .val (.ref b5), .unset, .unset, .unset] [(.int (1 : Int32))]))
      refine Goes.step (fun t k => XS.goto X10.here hx rfl (pc0 := 50) (pc' := 54) rfl (hb hby at_50) (by decide) (by decide) k) ?_
      show Goes _ _ _ _ _ _ _ (T10.setTop (mkF m 54 #[.val (.int p0), .val (.long q1), .second, .val (.int p2), .val (.int x2_0), .val (.int x4_0), .val (.ref b5), .unset, .unset, .unset] [(.int (1 : Int32))]))
      exact k13 _ (if_pos hc46_12).symm
    · refine Goes.step (fun t k => XS.icmpYes X10.here hx rfl (pc0 := 46) (pc' := 53) rfl (hb hby at_46) rfl (feq hc46_12).2 (by decide) (by decide) k) ?_
      show Goes _ _ _ _ _ _ _ (T10.setTop (mkF m 53 #[.val (.int p0), .val (.long q1), .second, .val (.int p2), .val (.int x2_0), .val (.int x4_0), .val (.ref b5), .unset, .unset, .unset] []))
      refine Goes.step (fun t k => XS.iconst X10.here hx rfl (hb hby at_53) k) ?_
      show Goes _ _ _ _ _ _ _ (T10.setTop (mkF m 54 #[.val (.int p0), .val (.long q1), .second, .val (.int p2), .val (.int x2_0), .val (.int x4_0), .val (.ref b5), .unset, .unset, .unset] [(.int (0 : Int32))]))
      exact k13 _ (if_neg hc46_12).symm
  intro x13_0 hx13_0
  refine Goes.step (fun t k => XS.istore X10.here hx rfl (hb hby at_54) rfl (l' := #[.val (.int p0), .val (.long q1), .second, .val (.int p2), .val (.int x2_0), .val (.int x4_0), .val (.ref b5), .val (.int x13_0), .unset, .unset]) rfl k) ?_
  show Goes _ _ _ _ _ _ _ (T10.setTop (mkF m 56 #[.val (.int p0), .val (.long q1), .second, .val (.int p2), .val (.int x2_0), .val (.int x4_0), .val (.ref b5), .val (.int x13_0), .unset, .unset] []))
  refine Goes.step (fun t k => XS.iloadN X10.here hx rfl (hb hby at_56) rfl k) ?_
  show Goes _ _ _ _ _ _ _ (T10.setTop (mkF m 57 #[.val (.int p0), .val (.long q1), .second, .val (.int p2), .val (.int x2_0), .val (.int x4_0), .val (.ref b5), .val (.int x13_0), .unset, .unset] [(.int p0)]))
  refine Goes.step (fun t k => XS.bipush X10.here hx rfl (hb hby at_57) k) ?_
  show Goes _ _ _ _ _ _ _ (T10.setTop (mkF m 59 #[.val (.int p0), .val (.long q1), .second, .val (.int p2), .val (.int x2_0), .val (.int x4_0), .val (.ref b5), .val (.int x13_0), .unset, .unset] [(.int (100 : Int32)), (.int p0)]))
  have hnz14 : ¬ ((100 : Int32) = (0 : Int32)) := by decide
  refine Goes.step (fun t k => iremM X10 hx rfl (hb hby at_59) rfl hnz14 k) ?_
  show Goes _ _ _ _ _ _ _ (T10.setTop (mkF m 60 #[.val (.int p0), .val (.long q1), .second, .val (.int p2), .val (.int x2_0), .val (.int x4_0), .val (.ref b5), .val (.int x13_0), .unset, .unset] [(.int (p0 % (100 : Int32)))]))
  refine Goes.step (fun t k => XS.iconst X10.here hx rfl (hb hby at_60) k) ?_
  show Goes _ _ _ _ _ _ _ (T10.setTop (mkF m 61 #[.val (.int p0), .val (.long q1), .second, .val (.int p2), .val (.int x2_0), .val (.int x4_0), .val (.ref b5), .val (.int x13_0), .unset, .unset] [(.int (1 : Int32)), (.int (p0 % (100 : Int32)))]))
  suffices k16 : ∀ (x16_0 : Int32), x16_0 = (if (p0 % (100 : Int32)) = (1 : Int32) then (1 : Int32) else (0 : Int32)) → Goes p e below s (Q0 Z p0 q1 p2 h0 n0) kC0 kS0 (T10.setTop (mkF m 69 #[.val (.int p0), .val (.long q1), .second, .val (.int p2), .val (.int x2_0), .val (.int x4_0), .val (.ref b5), .val (.int x13_0), .unset, .unset] [(.int x16_0)])) by
    by_cases hc61_15 : (p0 % (100 : Int32)) = (1 : Int32)
    · refine Goes.step (fun t k => XS.icmpNo X10.here hx rfl (hb hby at_61) rfl (teq hc61_15).2 k) ?_
      show Goes _ _ _ _ _ _ _ (T10.setTop (mkF m 64 #[.val (.int p0), .val (.long q1), .second, .val (.int p2), .val (.int x2_0), .val (.int x4_0), .val (.ref b5), .val (.int x13_0), .unset, .unset] []))
      refine Goes.step (fun t k => XS.iconst X10.here hx rfl (hb hby at_64) k) ?_
      show Goes _ _ _ _ _ _ _ (T10.setTop (mkF m 65 #[.val (.int p0), .val (.long q1), .second, .val (.int p2), .val (.int x2_0), .val (.int x4_0), .val (.ref b5), .val (.int x13_0), .unset, .unset] [(.int (1 : Int32))]))
      refine Goes.step (fun t k => XS.goto X10.here hx rfl (pc0 := 65) (pc' := 69) rfl (hb hby at_65) (by decide) (by decide) k) ?_
      show Goes _ _ _ _ _ _ _ (T10.setTop (mkF m 69 #[.val (.int p0), .val (.long q1), .second, .val (.int p2), .val (.int x2_0), .val (.int x4_0), .val (.ref b5), .val (.int x13_0), .unset, .unset] [(.int (1 : Int32))]))
      exact k16 _ (if_pos hc61_15).symm
    · refine Goes.step (fun t k => XS.icmpYes X10.here hx rfl (pc0 := 61) (pc' := 68) rfl (hb hby at_61) rfl (feq hc61_15).2 (by decide) (by decide) k) ?_
      show Goes _ _ _ _ _ _ _ (T10.setTop (mkF m 68 #[.val (.int p0), .val (.long q1), .second, .val (.int p2), .val (.int x2_0), .val (.int x4_0), .val (.ref b5), .val (.int x13_0), .unset, .unset] []))
      refine Goes.step (fun t k => XS.iconst X10.here hx rfl (hb hby at_68) k) ?_
      show Goes _ _ _ _ _ _ _ (T10.setTop (mkF m 69 #[.val (.int p0), .val (.long q1), .second, .val (.int p2), .val (.int x2_0), .val (.int x4_0), .val (.ref b5), .val (.int x13_0), .unset, .unset] [(.int (0 : Int32))]))
      exact k16 _ (if_neg hc61_15).symm
  intro x16_0 hx16_0
  refine Goes.step (fun t k => XS.istore X10.here hx rfl (hb hby at_69) rfl (l' := #[.val (.int p0), .val (.long q1), .second, .val (.int p2), .val (.int x2_0), .val (.int x4_0), .val (.ref b5), .val (.int x13_0), .val (.int x16_0), .unset]) rfl k) ?_
  show Goes _ _ _ _ _ _ _ (T10.setTop (mkF m 71 #[.val (.int p0), .val (.long q1), .second, .val (.int p2), .val (.int x2_0), .val (.int x4_0), .val (.ref b5), .val (.int x13_0), .val (.int x16_0), .unset] []))
  refine Goes.step (fun t k => XS.iload X10.here hx rfl (hb hby at_71) rfl k) ?_
  show Goes _ _ _ _ _ _ _ (T10.setTop (mkF m 73 #[.val (.int p0), .val (.long q1), .second, .val (.int p2), .val (.int x2_0), .val (.int x4_0), .val (.ref b5), .val (.int x13_0), .val (.int x16_0), .unset] [(.int x13_0)]))
  suffices k19 : ∀ (x19_0 : Int32), x19_0 = (if x13_0 = (0 : Int32) then (0 : Int32) else (if x16_0 = (0 : Int32) then (1 : Int32) else (0 : Int32))) → Goes p e below s (Q0 Z p0 q1 p2 h0 n0) kC0 kS0 (T10.setTop (mkF m 86 #[.val (.int p0), .val (.long q1), .second, .val (.int p2), .val (.int x2_0), .val (.int x4_0), .val (.ref b5), .val (.int x13_0), .val (.int x16_0), .unset] [(.int x19_0)])) by
    by_cases hc73_17 : x13_0 = (0 : Int32)
    · refine Goes.step (fun t k => XS.ifYes X10.here hx rfl (pc0 := 73) (pc' := 85) rfl (hb hby at_73) rfl ((if0 _ _).trans (teq hc73_17).1) (by decide) (by decide) k) ?_
      show Goes _ _ _ _ _ _ _ (T10.setTop (mkF m 85 #[.val (.int p0), .val (.long q1), .second, .val (.int p2), .val (.int x2_0), .val (.int x4_0), .val (.ref b5), .val (.int x13_0), .val (.int x16_0), .unset] []))
      refine Goes.step (fun t k => XS.iconst X10.here hx rfl (hb hby at_85) k) ?_
      show Goes _ _ _ _ _ _ _ (T10.setTop (mkF m 86 #[.val (.int p0), .val (.long q1), .second, .val (.int p2), .val (.int x2_0), .val (.int x4_0), .val (.ref b5), .val (.int x13_0), .val (.int x16_0), .unset] [(.int (0 : Int32))]))
      exact k19 _ (if_pos hc73_17).symm
    · refine Goes.step (fun t k => XS.ifNo X10.here hx rfl (hb hby at_73) rfl ((if0 _ _).trans (feq hc73_17).1) k) ?_
      show Goes _ _ _ _ _ _ _ (T10.setTop (mkF m 76 #[.val (.int p0), .val (.long q1), .second, .val (.int p2), .val (.int x2_0), .val (.int x4_0), .val (.ref b5), .val (.int x13_0), .val (.int x16_0), .unset] []))
      refine Goes.step (fun t k => XS.iload X10.here hx rfl (hb hby at_76) rfl k) ?_
      show Goes _ _ _ _ _ _ _ (T10.setTop (mkF m 78 #[.val (.int p0), .val (.long q1), .second, .val (.int p2), .val (.int x2_0), .val (.int x4_0), .val (.ref b5), .val (.int x13_0), .val (.int x16_0), .unset] [(.int x16_0)]))
      by_cases hc78_18 : x16_0 = (0 : Int32)
      · refine Goes.step (fun t k => XS.ifNo X10.here hx rfl (hb hby at_78) rfl ((if0 _ _).trans (teq hc78_18).2) k) ?_
        show Goes _ _ _ _ _ _ _ (T10.setTop (mkF m 81 #[.val (.int p0), .val (.long q1), .second, .val (.int p2), .val (.int x2_0), .val (.int x4_0), .val (.ref b5), .val (.int x13_0), .val (.int x16_0), .unset] []))
        refine Goes.step (fun t k => XS.iconst X10.here hx rfl (hb hby at_81) k) ?_
        show Goes _ _ _ _ _ _ _ (T10.setTop (mkF m 82 #[.val (.int p0), .val (.long q1), .second, .val (.int p2), .val (.int x2_0), .val (.int x4_0), .val (.ref b5), .val (.int x13_0), .val (.int x16_0), .unset] [(.int (1 : Int32))]))
        refine Goes.step (fun t k => XS.goto X10.here hx rfl (pc0 := 82) (pc' := 86) rfl (hb hby at_82) (by decide) (by decide) k) ?_
        show Goes _ _ _ _ _ _ _ (T10.setTop (mkF m 86 #[.val (.int p0), .val (.long q1), .second, .val (.int p2), .val (.int x2_0), .val (.int x4_0), .val (.ref b5), .val (.int x13_0), .val (.int x16_0), .unset] [(.int (1 : Int32))]))
        exact k19 _ ((if_neg hc73_17).trans (if_pos hc78_18)).symm
      · refine Goes.step (fun t k => XS.ifYes X10.here hx rfl (pc0 := 78) (pc' := 85) rfl (hb hby at_78) rfl ((if0 _ _).trans (feq hc78_18).2) (by decide) (by decide) k) ?_
        show Goes _ _ _ _ _ _ _ (T10.setTop (mkF m 85 #[.val (.int p0), .val (.long q1), .second, .val (.int p2), .val (.int x2_0), .val (.int x4_0), .val (.ref b5), .val (.int x13_0), .val (.int x16_0), .unset] []))
        refine Goes.step (fun t k => XS.iconst X10.here hx rfl (hb hby at_85) k) ?_
        show Goes _ _ _ _ _ _ _ (T10.setTop (mkF m 86 #[.val (.int p0), .val (.long q1), .second, .val (.int p2), .val (.int x2_0), .val (.int x4_0), .val (.ref b5), .val (.int x13_0), .val (.int x16_0), .unset] [(.int (0 : Int32))]))
        exact k19 _ ((if_neg hc73_17).trans (if_neg hc78_18)).symm
  intro x19_0 hx19_0
  refine Goes.step (fun t k => XS.istore X10.here hx rfl (hb hby at_86) rfl (l' := #[.val (.int p0), .val (.long q1), .second, .val (.int p2), .val (.int x2_0), .val (.int x4_0), .val (.ref b5), .val (.int x13_0), .val (.int x16_0), .val (.int x19_0)]) rfl k) ?_
  show Goes _ _ _ _ _ _ _ (T10.setTop (mkF m 88 #[.val (.int p0), .val (.long q1), .second, .val (.int p2), .val (.int x2_0), .val (.int x4_0), .val (.ref b5), .val (.int x13_0), .val (.int x16_0), .val (.int x19_0)] []))
  refine Goes.step (fun t k => XS.aload X10.here hx rfl (hb hby at_88) rfl rfl k) ?_
  show Goes _ _ _ _ _ _ _ (T10.setTop (mkF m 90 #[.val (.int p0), .val (.long q1), .second, .val (.int p2), .val (.int x2_0), .val (.int x4_0), .val (.ref b5), .val (.int x13_0), .val (.int x16_0), .val (.int x19_0)] [(.ref b5)]))
  obtain ⟨cq20, kq20, q20a, q20b, q20c⟩ := isOf hZ e10 G10_0
  obtain ⟨_, _, ⟨T20, L20, k20, n20⟩, -, X20, ⟨Lc20, hQ20, l20, y20, z20⟩, st20⟩ := X10.virtualBack hx (y := (⟨"com/example/replica_scaler/replicascaler/outside/ResponseHead", "interim", "()Z"⟩ : MethodName)) (z := (⟨"com/example/replica_scaler/replicascaler/outside/ResponseHead", "interim", "()Z"⟩ : MethodName)) hown (mvT hZ (hw _ (List.mem_of_getElem? (i := 22) rfl))) (mvT hZ (hw _ (List.mem_of_getElem? (i := 23) rfl))) (notFace_of_selects (args := #[]) (mvT hZ (hw _ (List.mem_of_getElem? (i := 25) rfl)))) (mvT hZ (hw _ (List.mem_of_getElem? (i := 25) rfl))) (mvT hZ (hw _ (List.mem_of_getElem? (i := 24) rfl))) (by decide) (backOf (W := 0) (rm4 l Z tA hw [] b5 p0 h10 G10_1) hZ (hw _ (List.mem_of_getElem? (i := 26) rfl)) (hw _ (List.mem_of_getElem? (i := 2) rfl)) (by decide) (by decide)) q20a q20c (g := (mkF m 90 #[.val (.int p0), .val (.long q1), .second, .val (.int p2), .val (.int x2_0), .val (.int x4_0), .val (.ref b5), .val (.int x13_0), .val (.int x16_0), .val (.int x19_0)] [(.ref b5)])) rfl (by rw [hml]; rfl) (Steps.refl _) (argsL := []) (rest := []) (lenOf own_pd2 rfl) rfl (by show 2 * 0 + _ ≤ _; exact Nat.le_of_eq rfl) (hb hby at_90) (fun _ _ => ⟨rfl, e10, (by decide : 1 + 0 ≤ _), (by decide : 4 + 0 ≤ _)⟩)
  dsimp only [Pt.U, Pt.locs, Pt.cells, Pt.slots] at X20 l20 y20 z20 st20 hQ20
  subst l20 y20 z20
  obtain ⟨rfl, rfl, e20⟩ := hQ20
  try rw [List.append_nil] at X20
  change Stand _ _ _ _ _ _ _ _ _ _ _ _ 1 4 at X20
  refine Goes.step (fun t k => st20.trans k) ?_
  show Goes _ _ _ _ _ _ _ (T20.setTop (mkF m 93 #[.val (.int p0), .val (.long q1), .second, .val (.int p2), .val (.int x2_0), .val (.int x4_0), .val (.ref b5), .val (.int x13_0), .val (.int x16_0), .val (.int x19_0)] [(.int (f4 p0))]))
  refine Goes.step (fun t k => XS.iload X20.here hx rfl (hb hby at_93) rfl k) ?_
  show Goes _ _ _ _ _ _ _ (T20.setTop (mkF m 95 #[.val (.int p0), .val (.long q1), .second, .val (.int p2), .val (.int x2_0), .val (.int x4_0), .val (.ref b5), .val (.int x13_0), .val (.int x16_0), .val (.int x19_0)] [(.int x19_0), (.int (f4 p0))]))
  suffices k22 : ∀ (x22_0 : Int32), x22_0 = (if (f4 p0) = x19_0 then (1 : Int32) else (0 : Int32)) → Goes p e below s (Q0 Z p0 q1 p2 h0 n0) kC0 kS0 (T20.setTop (mkF m 103 #[.val (.int p0), .val (.long q1), .second, .val (.int p2), .val (.int x2_0), .val (.int x4_0), .val (.ref b5), .val (.int x13_0), .val (.int x16_0), .val (.int x19_0)] [(.int x22_0)])) by
    by_cases hc95_21 : (f4 p0) = x19_0
    · refine Goes.step (fun t k => XS.icmpNo X20.here hx rfl (hb hby at_95) rfl (teq hc95_21).2 k) ?_
      show Goes _ _ _ _ _ _ _ (T20.setTop (mkF m 98 #[.val (.int p0), .val (.long q1), .second, .val (.int p2), .val (.int x2_0), .val (.int x4_0), .val (.ref b5), .val (.int x13_0), .val (.int x16_0), .val (.int x19_0)] []))
      refine Goes.step (fun t k => XS.iconst X20.here hx rfl (hb hby at_98) k) ?_
      show Goes _ _ _ _ _ _ _ (T20.setTop (mkF m 99 #[.val (.int p0), .val (.long q1), .second, .val (.int p2), .val (.int x2_0), .val (.int x4_0), .val (.ref b5), .val (.int x13_0), .val (.int x16_0), .val (.int x19_0)] [(.int (1 : Int32))]))
      refine Goes.step (fun t k => XS.goto X20.here hx rfl (pc0 := 99) (pc' := 103) rfl (hb hby at_99) (by decide) (by decide) k) ?_
      show Goes _ _ _ _ _ _ _ (T20.setTop (mkF m 103 #[.val (.int p0), .val (.long q1), .second, .val (.int p2), .val (.int x2_0), .val (.int x4_0), .val (.ref b5), .val (.int x13_0), .val (.int x16_0), .val (.int x19_0)] [(.int (1 : Int32))]))
      exact k22 _ (if_pos hc95_21).symm
    · refine Goes.step (fun t k => XS.icmpYes X20.here hx rfl (pc0 := 95) (pc' := 102) rfl (hb hby at_95) rfl (feq hc95_21).2 (by decide) (by decide) k) ?_
      show Goes _ _ _ _ _ _ _ (T20.setTop (mkF m 102 #[.val (.int p0), .val (.long q1), .second, .val (.int p2), .val (.int x2_0), .val (.int x4_0), .val (.ref b5), .val (.int x13_0), .val (.int x16_0), .val (.int x19_0)] []))
      refine Goes.step (fun t k => XS.iconst X20.here hx rfl (hb hby at_102) k) ?_
      show Goes _ _ _ _ _ _ _ (T20.setTop (mkF m 103 #[.val (.int p0), .val (.long q1), .second, .val (.int p2), .val (.int x2_0), .val (.int x4_0), .val (.ref b5), .val (.int x13_0), .val (.int x16_0), .val (.int x19_0)] [(.int (0 : Int32))]))
      exact k22 _ (if_neg hc95_21).symm
  intro x22_0 hx22_0
  subst hx22_0
  subst hx19_0
  subst hx16_0
  subst hx13_0
  subst hx4_0
  subst hx2_0
  exact Goes.retZ X20 hx Bd.notSynchronized (r := (f0 p0 q1 p2)) Bd.returns (by simp) (hb hby at_103) rfl ⟨rfl, N10⟩ (by decide) (by decide)
theorem own_div (p : Int32) : p / 100 = 1 ↔ 100 ≤ p.toInt ∧ p.toInt < 200 := by
  have h := c_idiv p 100 100 (by decide) (by decide)
  rw [← Int32.toInt_inj, (by decide : (1 : Int32).toInt = 1)]
  by_cases q : 0 ≤ p.toInt
  · rw [h.1 q]; omega
  · rw [h.2 (by omega)]; omega
theorem own_rem (p : Int32) (h : 100 ≤ p.toInt ∧ p.toInt < 200) : p % 100 = 1 ↔ p.toInt = 101 := by
  have q := (c_irem p 100 100 (by decide)).1 (by omega)
  rw [← Int32.toInt_inj, (by decide : (1 : Int32).toInt = 1), q]; omega
theorem own_plain (p0 : Int32) (q1 : Int64) (p2 : Int32) : f0 p0 q1 p2 = 1 := by
  have a1 := own_div p0
  have a2 : p0 = 101 ↔ p0.toInt = 101 := by rw [← Int32.toInt_inj]; exact Iff.rfl
  have a3 : p0 < 100 ↔ p0.toInt < 100 := by rw [Int32.lt_iff_toInt_lt]; exact Iff.rfl
  have a4 : p0 < 200 ↔ p0.toInt < 200 := by rw [Int32.lt_iff_toInt_lt]; exact Iff.rfl
  unfold f0 f4
  by_cases a : p0 / 100 = 1
  · have r := own_rem p0 (a1.mp a)
    by_cases b : p0 = 101 <;> by_cases c : p0 % 100 = 1 <;> by_cases d : p0 < 100 <;> by_cases e : p0 < 200 <;>
      first | (exfalso; rw [a1] at a; rw [a2] at b; rw [r] at c; rw [a3] at d; rw [a4] at e; omega) | (simp only [a, b, c, d, e, if_true, if_false, not_false_eq_true]; decide)
  · by_cases b : p0 = 101 <;> by_cases d : p0 < 100 <;> by_cases e : p0 < 200 <;>
      first | (exfalso; rw [a1] at a; rw [a2] at b; rw [a3] at d; rw [a4] at e; omega) | (simp only [a, b, d, e, if_true, if_false, not_false_eq_true]; decide)
set_option maxRecDepth 65536 in
set_option maxHeartbeats 40000000 in
theorem comes_1 {Post : Tables → Env → Array Value → State → Outcome → State → Prop} (hpost : ∀ tb e args s v u, (limb_1_1.after args s (.returned v) u = true ∧ limb_1_2.after args s (.returned v) u = true ∧ True) → FrameEnd s (.returned v) u (Jvm.fieldLocs frame_1_writes args s ++ Jvm.arrayLocs frame_1_arrays args s ++ Jvm.staticLocs frame_1_statics s) 16 128 → Post tb e args s (.returned v) u) :
    ArmFor flags0 classFile x code maxLocals ret World_1 tables_1 room_1 Calls_1 rest_1 Pre_1 Post := by
  intro l hfl _ _ p e ha hc hk s m args below hf hA hF happ hP
  obtain ⟨hcalls, hrest, hpre⟩ := hP
  obtain ⟨-, -, -, hnamed, -, -, -, hat⟩ := (Spec.applies_iff hf).mp happ
  obtain ⟨hg, hn⟩ := and_e (Cond.before_iff.mp (show (Jvm.Cond.and given_1 narrow_1).before args s = true from hpre))
  obtain ⟨g0, gr0⟩ := and_e hg
  obtain ⟨ga0, gr1⟩ := and_e gr0
  obtain ⟨ga1, gr2⟩ := and_e gr1
  have ga2 := gr2
  obtain ⟨w0, w1, w2, rfl⟩ : ∃ w0 w1 w2 : Value, args = #[w0, w1, w2] := by
    have hs : args.size = 3 := by simpa [Cond.value, given_1] using g0
    obtain ⟨L⟩ := args
    match L, hs with
    | [w0, w1, w2], _ => exact ⟨w0, w1, w2, rfl⟩
  have hw := fun d (hd : d ∈ tables_1) => atoms_spec (ws := Jvm.Cond.code x code maxLocals ret :: tables_1) hat d (List.mem_cons_of_mem _ hd)
  have hfit : Fit s := fun {y c} hc i hi => by
    obtain ⟨ha, rfl⟩ := Array.getElem?_eq_some_iff.mp hc
    have q := List.all_eq_true.mp ((Array.all_eq_true_iff_forall_mem.mp hF) _ (Array.getElem_mem ha)) i (List.mem_range.mpr hi)
    simpa [Array.getElem?_eq_getElem hi] using q
  obtain ⟨i0, ei0⟩ := is_v ga0
  obtain rfl : w0 = (.int i0) := Option.some.inj ei0
  obtain ⟨i1, ei1⟩ := isL_v ga1
  obtain rfl : w1 = (.long i1) := Option.some.inj ei1
  obtain ⟨i2, ei2⟩ := is_v ga2
  obtain rfl : w2 = (.int i2) := Option.some.inj ei2
  obtain ⟨n, o, h1, h2, h3, _, L, rfl, ⟨rfl, N⟩, hq⟩ := rm0 l s _ hw tables_1 i0 i1 i2  s.heap s.heap.size (Nat.le_refl _)  p e ha hc hk s m _ below hf ((Spec.applies_iff_loose hf).mp happ).1 ⟨rfl, State.Warmed39.refl s, rfl⟩ trivial
  rw [own_plain i0 i1 i2] at *
  refine ⟨n, _, h1, h2, h3, hpost _ _ _ _ _ _ ⟨Cond.after_iff.mpr rfl, Cond.after_iff.mpr (eq_i res_at (Term.int_eval (1)) rfl), trivial⟩ ⟨hq.1, hq.2.1, (hq.2.2.sift fun y hy => Or.inr (N y hy)).mono (by decide) (by decide)⟩⟩
theorem main_1_1 : Claimed_1_1 := comes_1 fun _ _ _ _ _ _ h hF => ⟨h.1, hF⟩
theorem main_1_2 : Claimed_1_2 := comes_1 fun _ _ _ _ _ _ h hF => ⟨h.2.1, hF⟩
end Jvm.Pilot.@@N@@
namespace Jvm.Pilot.@@N@@
open Jvm Jvm.ClassFile Sem Op Lib Jvm.Free Jvm.Stand Jvm.Pilot.@@N@@.Jvm.D
/-! MADE BY PROGRAM (witnessworld.py) out of the Statement's table words and the real class files: 10 classes; the members and pool entries that the words name. The judged class is class 1, her method 1. -/
namespace start1
open Jvm.ClassFile
def u (s : String) : CpInfo := .utf8 (stringToUtf16 s)
/-- a pool by its gaps: so many unusable entries, then the entry; so many at the end -/
def gap : Nat → List CpInfo → List CpInfo
  | 0, r => r
  | n + 1, r => .unusable :: gap n r
def poolList (es : List (Nat × CpInfo)) (last : Nat) : List CpInfo := es.foldr (fun e r => gap e.1 (e.2 :: r)) (gap last [])
def pool (es : List (Nat × CpInfo)) (last : Nat) : Array CpInfo := ⟨poolList es last⟩
def fileOf (pool : Array CpInfo) (this : Nat) (attrs : Array Attribute := #[]) (ms : Array MethodInfo := #[]) (fl : Nat := 33) (sup : Nat := 0) (ifs : Array Nat := #[]) (fds : Array FieldInfo := #[]) : ClassFile where
  minorVersion := 0
  majorVersion := 65
  constantPool := pool
  accessFlags := fl
  thisClass := this
  superClass := sup
  interfaces := ifs
  fields := fds
  methods := ms
  attributes := attrs
def plain (name : String) (sup : Option ClassId) : Class where
  name := name
  kind := .ordinary
  loader := none
  accessFlags := 33
  super := sup
  interfaces := #[]
  cf := none
  fields := #[]
  methods := #[]
  instanceTypes := #[]
  staticTypes := #[]
  resolved := #[]
  callSites := []
  init := .initialized
  statics := none
  mirror := none

def pool0 : Array CpInfo := pool [(5, u "<init>"), (0, u "()V"), (1, .class_ 10), (1, u "java/lang/Object")] 113

def k0c0 : Code := { maxStack := 0, maxLocals := 1, code := object_method_1_code, exceptionTable := #[], attributes := #[] }
def k0m0 : Method := { name := "<init>", desc := "()V", sig := { parameters := [], returnType := none }, accessFlags := 1, code := some k0c0 }
/-- java/lang/Object -/
def k0 : Class := { plain "java/lang/Object" none with
  accessFlags := 33
  interfaces := #[]
  cf := some (fileOf pool0 8 #[] #[{ accessFlags := 1, nameIndex := 5, descriptorIndex := 6, attributes := #[] }] 33 0 #[] #[])
  fields := #[]
  methods := #[k0m0]
  instanceTypes := #[]
  staticTypes := #[]
  resolved := Array.replicate 124 none
  statics := none }

def pool1 : Array CpInfo := pool [(2, .class_ 4), (1, u "java/lang/Object"), (0, u "<init>"), (0, u "()V"), (0, .class_ 8), (0, u "com/example/replica_scaler/replicascaler/outside/ResponseHead"), (0, .methodref 7 10), (0, .nameAndType 5 11), (0, u "(IJZZ)V"), (0, .methodref 7 13), (0, .nameAndType 14 15), (0, u "interim"), (0, u "()Z"), (0, .class_ 17), (0, u "com/example/replica_scaler/replicascaler/outside/ResponseHeadInterimPinLaw"), (2, u "law"), (0, u "(IJI)Z")] 3

def k1m0 : Method := { name := "<init>", desc := "()V", sig := { parameters := [], returnType := none }, accessFlags := 2, code := none }
def k1c1 : Code := { maxStack := 7, maxLocals := 10, code := code, exceptionTable := #[], attributes := #[] }
def k1m1 : Method := { name := "law", desc := "(IJI)Z", sig := { parameters := [.int, .long, .int], returnType := some .boolean }, accessFlags := 9, code := some k1c1 }
/-- com/example/replica_scaler/replicascaler/outside/ResponseHeadInterimPinLaw -/
def k1 : Class := { plain "com/example/replica_scaler/replicascaler/outside/ResponseHeadInterimPinLaw" (some 0) with
  accessFlags := 49
  interfaces := #[]
  cf := some (fileOf pool1 16 #[] #[{ accessFlags := 2, nameIndex := 5, descriptorIndex := 6, attributes := #[] }, { accessFlags := 9, nameIndex := 20, descriptorIndex := 21, attributes := #[] }] 49 2 #[] #[])
  fields := #[]
  methods := #[k1m0, k1m1]
  instanceTypes := #[]
  staticTypes := #[]
  resolved := Array.replicate 25 none
  statics := none }

def pool2 : Array CpInfo := pool [(1, .methodref 2 3), (0, .class_ 4), (0, .nameAndType 5 6), (0, u "java/lang/Object"), (0, u "<init>"), (0, u "()V"), (0, .class_ 8), (0, u "java/lang/Record")] 13

def k2c0 : Code := { maxStack := 1, maxLocals := 1, code := jdk_30_method_1_code, exceptionTable := #[], attributes := #[] }
def k2m0 : Method := { name := "<init>", desc := "()V", sig := { parameters := [], returnType := none }, accessFlags := 4, code := some k2c0 }
/-- java/lang/Record -/
def k2 : Class := { plain "java/lang/Record" (some 0) with
  accessFlags := 1057
  interfaces := #[]
  cf := some (fileOf pool2 7 #[] #[{ accessFlags := 4, nameIndex := 5, descriptorIndex := 6, attributes := #[] }] 1057 2 #[] #[])
  fields := #[]
  methods := #[k2m0]
  instanceTypes := #[]
  staticTypes := #[]
  resolved := Array.replicate 22 none
  statics := none }

def pool3 : Array CpInfo := pool [(1, .methodref 2 3), (0, .class_ 4), (0, .nameAndType 5 6), (0, u "java/lang/Record"), (0, u "<init>"), (0, u "()V"), (0, .fieldref 8 9), (0, .class_ 10), (0, .nameAndType 11 12), (0, u "com/example/replica_scaler/replicascaler/outside/ResponseHead"), (0, u "status"), (0, u "I"), (0, .fieldref 8 14), (0, .nameAndType 15 16), (0, u "length"), (0, u "J"), (0, .fieldref 8 18), (0, .nameAndType 19 20), (0, u "chunked"), (0, u "Z"), (0, .fieldref 8 22), (0, .nameAndType 23 20), (0, u "persistent"), (10, u "STATUS_LINE"), (0, u "Ljava/util/regex/Pattern;"), (11, u "()Z"), (48, u "(IJZZ)V"), (51, u "interim")] 44

def k3c0 : Code := { maxStack := 3, maxLocals := 6, code := prog_26_method_1_code, exceptionTable := #[], attributes := #[] }
def k3m0 : Method := { name := "<init>", desc := "(IJZZ)V", sig := { parameters := [.int, .long, .boolean, .boolean], returnType := none }, accessFlags := 0, code := some k3c0 }
def k3c1 : Code := { maxStack := 2, maxLocals := 1, code := prog_26_method_2_code, exceptionTable := #[], attributes := #[] }
def k3m1 : Method := { name := "interim", desc := "()Z", sig := { parameters := [], returnType := some .boolean }, accessFlags := 0, code := some k3c1 }
/-- com/example/replica_scaler/replicascaler/outside/ResponseHead -/
def k3 : Class := { plain "com/example/replica_scaler/replicascaler/outside/ResponseHead" (some 2) with
  accessFlags := 48
  interfaces := #[]
  cf := some (fileOf pool3 8 #[] #[{ accessFlags := 0, nameIndex := 5, descriptorIndex := 96, attributes := #[] }, { accessFlags := 0, nameIndex := 148, descriptorIndex := 47, attributes := #[] }] 48 2 #[] #[{ accessFlags := 18, nameIndex := 11, descriptorIndex := 12, attributes := #[] }, { accessFlags := 18, nameIndex := 15, descriptorIndex := 16, attributes := #[] }, { accessFlags := 18, nameIndex := 19, descriptorIndex := 20, attributes := #[] }, { accessFlags := 18, nameIndex := 23, descriptorIndex := 20, attributes := #[] }, { accessFlags := 26, nameIndex := 34, descriptorIndex := 35, attributes := #[] }])
  fields := #[{ name := "status", type := .int, accessFlags := 18, slot := 0, constantValue := 0 }, { name := "length", type := .long, accessFlags := 18, slot := 1, constantValue := 0 }, { name := "chunked", type := .boolean, accessFlags := 18, slot := 2, constantValue := 0 }, { name := "persistent", type := .boolean, accessFlags := 18, slot := 3, constantValue := 0 }, { name := "STATUS_LINE", type := (.object "java/util/regex/Pattern"), accessFlags := 26, slot := 0, constantValue := 0 }]
  methods := #[k3m0, k3m1]
  instanceTypes := #[.int, .long, .boolean, .boolean]
  staticTypes := #[(.object "java/util/regex/Pattern")]
  resolved := Array.replicate 193 none
  statics := none }

def pool4 : Array CpInfo := pool [(1, u "java/lang/Cloneable"), (0, .class_ 1), (0, u "java/lang/Object"), (0, .class_ 3)] 3

/-- java/lang/Cloneable -/
def k4 : Class := { plain "java/lang/Cloneable" (some 0) with
  accessFlags := 1537
  interfaces := #[]
  cf := some (fileOf pool4 2 #[] #[] 1537 4 #[] #[])
  fields := #[]
  methods := #[]
  instanceTypes := #[]
  staticTypes := #[]
  resolved := Array.replicate 8 none
  statics := none }

def pool5 : Array CpInfo := pool [(1, u "java/io/Serializable"), (0, .class_ 1), (0, u "java/lang/Object"), (0, .class_ 3)] 3

/-- java/io/Serializable -/
def k5 : Class := { plain "java/io/Serializable" (some 0) with
  accessFlags := 1537
  interfaces := #[]
  cf := some (fileOf pool5 2 #[] #[] 1537 4 #[] #[])
  fields := #[]
  methods := #[]
  instanceTypes := #[]
  staticTypes := #[]
  resolved := Array.replicate 8 none
  statics := none }

/-- the primitive byte -/
def k6 : Class := { plain "byte" none with kind := .primitive 'B', accessFlags := 0x411 }
/-- [B -/
def k7 : Class := { plain "[B" (some 0) with kind := .array 6 .byte, interfaces := #[4, 5], accessFlags := 1041 }

/-- the primitive int -/
def k8 : Class := { plain "int" none with kind := .primitive 'I', accessFlags := 0x411 }
/-- [I -/
def k9 : Class := { plain "[I" (some 0) with kind := .array 8 .int, interfaces := #[4, 5], accessFlags := 1041 }

def heap : Heap := #[]
def classes : Array Class := #[k0, k1, k2, k3, k4, k5, k6, k7, k8, k9]
def interned : List (Array UInt16 × Addr) := []
def slotsUsed : Nat := 0
def theMethod : MethodId := ⟨1, 1⟩
def args0 : Array Value := #[.int 5, .long 7, .int 3]
def aboutOver (below : List Frame) : State where
  vm := { classes := classes, interned := interned.toArray }
  heap := heap
  slotsUsed := slotsUsed
  threads := #[{ frames := .invoking theMethod args0 :: below }]
def below0 : List Frame := [.native { method := ⟨0, 0⟩, args := #[] }]
def about1 : State := aboutOver below0
def p0 : Program := .bare "" "" ""
def e0 : Env := launch0.env 0 0 0
theorem w_frames : about1.frames = Frame.invoking theMethod args0 :: below0 := rfl
set_option maxRecDepth 65536 in
theorem w_args : argsFit about1.vm theMethod args0 = true := by decide +kernel
set_option maxRecDepth 65536 in
theorem w_heap : heapFits about1 = true := by decide +kernel
set_option maxRecDepth 65536 in
theorem w_runnable : about1.curStatus? = some .runnable := by decide +kernel
set_option maxRecDepth 65536 in
theorem w_alone : about1.alone = true := by decide +kernel
set_option maxRecDepth 65536 in
theorem w_named : about1.methodNamed? x = some theMethod := by decide +kernel
set_option maxRecDepth 65536 in
theorem w_hears : about1.hears theMethod below0 = true := by decide +kernel
set_option maxRecDepth 65536 in
theorem w_ripe : about1.ripe theMethod args0 below0 = true := by decide +kernel
theorem w_running : about1.status = .running := rfl
set_option maxRecDepth 65536 in
theorem w_room : about1.hasRoom e0.platform room_1 = true :=
  launch0.hasRoom_least _ room_1 (by decide +kernel) (by decide +kernel) (by decide +kernel) (by decide +kernel) (by decide +kernel) (by decide +kernel)
theorem allAtoms_all (ts : List Jvm.Cond) (a : Array Jvm.Value) (st : Jvm.State) : (allAtoms ts).before a st = ts.all (fun c => c.before a st) := by
  induction ts with
  | nil => rfl
  | cons c t ih =>
    show (Jvm.Cond.and c (allAtoms t)).before a st = _
    rw [Jvm.Cond.before_and, ih, List.all_cons]
def words1 : List Jvm.Cond := Jvm.Cond.code x code maxLocals ret :: tables_1
/-- a 'code' word, met by the world's own term for the bytes: nothing is compared byte by byte -/
theorem code_word {y : MethodName} {bytes : ByteArray} {mx : Nat} {rt : Option FieldType} {a : Array Value} {s : State} {m : MethodId} {meth : Method} {c : Code} (h1 : s.methodNamed? y = some m) (h2 : s.vm.method? m = some meth) (h3 : meth.code = some c) (h4 : c.code = bytes)
    (h5 : (c.maxLocals == mx && c.exceptionTable.isEmpty && decide (c.maxStack ≤ mostOperands) && decide (meth.sig.returnType = rt) && !meth.locks && decide (parseMethodDescriptor y.desc = some meth.sig)) = true) : (Jvm.Cond.code y bytes mx rt).before a s = true := by
  simp only [Bool.and_eq_true, beq_iff_eq, Bool.not_eq_true', decide_eq_true_eq] at h5
  obtain ⟨⟨⟨⟨⟨g1, g2⟩, g3⟩, g4⟩, g5⟩, g6⟩ := h5
  simp [Cond.before, Cond.holds, Cond.value, h1, h2, h3, h4, g1, g2, g3, g4, g5, g6]
def isCode : Jvm.Cond → Bool
  | .code _ _ _ _ => true
  | _ => false
theorem all_split {L : List Jvm.Cond} {P : Jvm.Cond → Bool} (h1 : L.all (fun c => isCode c || P c) = true) (h2 : ∀ c ∈ L.filter isCode, P c = true) : L.all P = true := by
  refine List.all_eq_true.mpr fun c hc => ?_
  have h := List.all_eq_true.mp h1 c hc
  rcases Bool.eq_false_or_eq_true (isCode c) with hi | hi
  · exact h2 c (List.mem_filter.mpr ⟨hc, hi⟩)
  · simpa [hi] using h
set_option maxRecDepth 65536 in
theorem w_c0 : (Jvm.Cond.code x code maxLocals ret).before args0 about1 = true := code_word (m := ⟨1, 1⟩) (meth := k1m1) (c := k1c1) (by decide +kernel) rfl rfl rfl (by decide +kernel)
set_option maxRecDepth 65536 in
theorem w_c1 : (Jvm.Cond.code ({ cls := "com/example/replica_scaler/replicascaler/outside/ResponseHead", name := "<init>", desc := "(IJZZ)V" } : Jvm.MethodName) prog_26_method_1_code (6 : Nat) (Option.none : Option Jvm.ClassFile.FieldType)).before args0 about1 = true := code_word (m := ⟨3, 0⟩) (meth := k3m0) (c := k3c0) (by decide +kernel) rfl rfl rfl (by decide +kernel)
set_option maxRecDepth 65536 in
theorem w_c2 : (Jvm.Cond.code ({ cls := "java/lang/Record", name := "<init>", desc := "()V" } : Jvm.MethodName) jdk_30_method_1_code (1 : Nat) (Option.none : Option Jvm.ClassFile.FieldType)).before args0 about1 = true := code_word (m := ⟨2, 0⟩) (meth := k2m0) (c := k2c0) (by decide +kernel) rfl rfl rfl (by decide +kernel)
set_option maxRecDepth 65536 in
theorem w_c3 : (Jvm.Cond.code ({ cls := "java/lang/Object", name := "<init>", desc := "()V" } : Jvm.MethodName) object_method_1_code (1 : Nat) (Option.none : Option Jvm.ClassFile.FieldType)).before args0 about1 = true := code_word (m := ⟨0, 0⟩) (meth := k0m0) (c := k0c0) (by decide +kernel) rfl rfl rfl (by decide +kernel)
set_option maxRecDepth 65536 in
theorem w_c4 : (Jvm.Cond.code ({ cls := "com/example/replica_scaler/replicascaler/outside/ResponseHead", name := "interim", desc := "()Z" } : Jvm.MethodName) prog_26_method_2_code (1 : Nat) (Option.some Jvm.ClassFile.FieldType.boolean)).before args0 about1 = true := code_word (m := ⟨3, 1⟩) (meth := k3m1) (c := k3c1) (by decide +kernel) rfl rfl rfl (by decide +kernel)
def codes1 : List Jvm.Cond := [Jvm.Cond.code x code maxLocals ret, Jvm.Cond.code ({ cls := "com/example/replica_scaler/replicascaler/outside/ResponseHead", name := "<init>", desc := "(IJZZ)V" } : Jvm.MethodName) prog_26_method_1_code (6 : Nat) (Option.none : Option Jvm.ClassFile.FieldType), Jvm.Cond.code ({ cls := "java/lang/Record", name := "<init>", desc := "()V" } : Jvm.MethodName) jdk_30_method_1_code (1 : Nat) (Option.none : Option Jvm.ClassFile.FieldType), Jvm.Cond.code ({ cls := "java/lang/Object", name := "<init>", desc := "()V" } : Jvm.MethodName) object_method_1_code (1 : Nat) (Option.none : Option Jvm.ClassFile.FieldType), Jvm.Cond.code ({ cls := "com/example/replica_scaler/replicascaler/outside/ResponseHead", name := "interim", desc := "()Z" } : Jvm.MethodName) prog_26_method_2_code (1 : Nat) (Option.some Jvm.ClassFile.FieldType.boolean)]
set_option maxRecDepth 65536 in
theorem codes_eq : words1.filter isCode = codes1 := rfl
theorem w_codes : ∀ c ∈ words1.filter isCode, c.before args0 about1 = true := by
  rw [codes_eq]
  intro c hc
  simp only [codes1, List.mem_cons, List.not_mem_nil, or_false] at hc
  rcases hc with rfl | rfl | rfl | rfl | rfl
  · exact w_c0
  · exact w_c1
  · exact w_c2
  · exact w_c3
  · exact w_c4
set_option maxRecDepth 65536 in
theorem w_t1 : (words1.take 24).all (fun c => isCode c || c.before args0 about1) = true := by decide +kernel
set_option maxRecDepth 65536 in
theorem w_t2 : (words1.drop 24).all (fun c => isCode c || c.before args0 about1) = true := by decide +kernel
theorem w_tables : (allAtoms (Jvm.Cond.code x code maxLocals ret :: tables_1)).before args0 about1 = true := by
  rw [allAtoms_all]
  show words1.all (fun c => c.before args0 about1) = true
  refine all_split ?_ w_codes
  rw [← List.take_append_drop 24 words1, List.all_append, w_t1, w_t2]
  rfl
set_option maxRecDepth 65536 in
theorem w_case : (Jvm.Cond.and given_1 narrow_1).before args0 about1 = true := by decide +kernel
theorem w_applies : (headSpec (Jvm.Cond.code x code maxLocals ret :: tables_1) room_1).applies x e0.platform about1 = true :=
  (Spec.applies_iff w_frames).mpr ⟨w_running, w_runnable, w_alone, w_named, w_hears, w_ripe, w_room, w_tables⟩
theorem atStart : AtStart classFile x code maxLocals ret World_1 tables_1 room_1 Calls_1 rest_1 Pre_1 launch0 p0 e0 about1 theMethod args0 below0 :=
  ⟨lists_1, trivial, launch0.admits_env _ _ _, launch0.least_env, fairChoices_fair.cas, fairChoices_fair.clock, w_frames, w_args, w_heap, w_applies, trivial, trivial, w_case⟩
end start1
theorem witness_1 : WitnessClaimed_1 := ⟨start1.p0, start1.e0, start1.about1, start1.theMethod, start1.args0, start1.below0, start1.atStart⟩
end Jvm.Pilot.@@N@@
