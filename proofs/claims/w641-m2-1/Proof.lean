import JvmDerived
import JvmDerived.Pilot.@@N@@Statement
import JvmDerived.Pilot.@@N@@Code
set_option linter.unusedVariables false
set_option linter.unusedSimpArgs false
namespace Jvm.Pilot.@@N@@
open Jvm Jvm.ClassFile Sem Op Lib Jvm.Free Jvm.Stand Jvm.LawKit Jvm.RoadKit Bundle Jvm.Pilot.@@N@@.Jvm.D
section Own0
theorem own_fld_to {Z : State} {h : Heap} {a : Addr} {C n d : String} {v v' : Value} (F : Fld Z h a C n d v) (q : v = v') : Fld Z h a C n d v' := q ▸ F
theorem own_sta_keep {Z : State} {h h' : Heap} {C n d : String} {v : Value} {ws : List Addr} (F : Sta Z h C n d v) (K : Keep h h' ws) (q : ∀ x ∈ ws, ∀ c : Cell, h[x]? = some c → c.vm.isStatics = false) : Sta Z h' C n d v := by
  obtain ⟨cf, i, k, f, st, cell, h1, h2, h3, h4, h5, h6, h7⟩ := F
  exact ⟨cf, i, k, f, st, cell, h1, h2, h3, h4, K.2.1 st cell h5 (fun y => by rw [q st y cell h5] at h6; cases h6), h6, h7⟩
theorem own_ins_keep {Z : State} {h h' : Heap} {a : Addr} {C : String} {bo : Bool} {ws : List Addr} (F : Ins Z h a C bo) (K : Keep h h' ws) : Ins Z h' a C bo := by
  obtain ⟨cell, cT, h1, h2, h3⟩ := F
  obtain ⟨c', e1, e2, e3, -⟩ := K.2.2 a cell h1
  exact ⟨c', cT, e1, h2, by rw [e2, e3]; exact h3⟩
theorem notsta_exa {Z : State} {h : Heap} {a : Addr} {C : String} (F : Exa Z h a C) : ∀ c : Cell, h[a]? = some c → c.vm.isStatics = false := fun c hc => by
  obtain ⟨cell, _, h1, -, -, h4, -⟩ := F
  cases hc.symm.trans h1; exact h4
theorem eqi_v {args : Array Value} {first s : State} {o : Option Outcome} {idx : List Nat} {a : Term} {k : Int32} (h : (Cond.eq a (.int k)).value args first o s idx = some true) : a.eval args first o idx s = some (.int k) := by
  obtain ⟨x, y, e1, e2, k1, k2⟩ := cmp_v (Or.inl h)
  have e3 : (Term.int k).eval args first o idx s = some (.int k) := rfl
  cases e3.symm.trans e2
  cases x <;> simp [Cond.value, e1, e3] at h
  rw [e1, h]
end Own0
section Own
variable {p : Program} {l : Launch} {e : Env} {R : Room} {s : State} {m : MethodId} {args : Array Value} {below : List Frame} {meth : Method} {c : Code} {T T' : State} {locs : List Loc} {cells slots : Nat} {Z : State} {h h' : Heap} {Q : Option Value → Heap → List Loc → Prop} {kc ks : Nat} {a b : Addr}
/-- from T the method comes to its end, and Q holds of what it returns, of the heap and of the written places -/
def Goes (p : Program) (e : Env) (below : List Frame) (s : State) (Q : Option Value → Heap → List Loc → Prop) (kc ks : Nat) (T : State) : Prop :=
  ∃ s₂ o, Steps p.tables e below T s₂ ∧ s₂.status = .running ∧ Ended s₂ below o ∧ ∃ v L, o = .returned v ∧ Q v s₂.heap L ∧ FrameEnd s o s₂ L kc ks
theorem Goes.step (st : ∀ t, Steps p.tables e below T' t → Steps p.tables e below T t) (k : Goes p e below s Q kc ks T') : Goes p e below s Q kc ks T := by
  obtain ⟨s₂, o, h1, h2⟩ := k; exact ⟨s₂, o, st _ h1, h2⟩
theorem Goes.ret (X : Stand p l e R s m args below meth c T locs cells slots) {v : Option Value} (hv : meth.sig.returnType = none → v = none) (hlocks : meth.locks = false) {T₀ : State}
    (st : ∀ fs, (∀ (f : JFrame) (acts : List Action), f.method = m → f.locked = none → f.entered = [] → (doReturn e (T.setTop f) acts v).1 = T.setFrames fs) → Steps p.tables e below T₀ (T.setFrames fs))
    (hq : Q v T.heap locs) (hc : cells ≤ kc) (hs : slots ≤ ks) : Goes p e below s Q kc ks T₀ := by
  obtain ⟨fs, hr, hrun, hended, hW, hsame⟩ := X.leave (v := v) hv hlocks
  exact ⟨_, _, st fs hr, hrun, hended, _, _, rfl, hq, ⟨_, rfl⟩, hW, hsame.mono hc hs⟩
theorem Goes.retZ (X : Stand p l e R s m args below meth c T locs cells slots) (hx : p.tables.exec = Jvm.exec) (hlocks : meth.locks = false) {pc : Nat} {Ls : Array Slot} {z r : Int32} {t : FieldType} {rest : List Value} (hret : meth.sig.returnType = some t) (ht : t = .boolean ∨ t = .byte ∨ t = .char ∨ t = .short)
    (hd : decode c.code pc = .ok (.ireturn, 1)) (hz : nar t z = r) (hq : Q (some (.int r)) T.heap locs) (hc : cells ≤ kc) (hs : slots ≤ ks) : Goes p e below s Q kc ks (T.setTop (mkF m pc Ls (.int z :: rest))) := by
  subst hz
  exact Goes.ret X (fun h => by rw [hret] at h; cases h) hlocks (fun fs hr => retN X hx hret ht hd hr) hq hc hs
theorem Goes.retI (X : Stand p l e R s m args below meth c T locs cells slots) (hx : p.tables.exec = Jvm.exec) (hlocks : meth.locks = false) {pc : Nat} {Ls : Array Slot} {z r : Int32} {rest : List Value} (hret : meth.sig.returnType = some .int)
    (hd : decode c.code pc = .ok (.ireturn, 1)) (hz : z = r) (hq : Q (some (.int r)) T.heap locs) (hc : cells ≤ kc) (hs : slots ≤ ks) : Goes p e below s Q kc ks (T.setTop (mkF m pc Ls (.int z :: rest))) := by
  subst hz
  exact Goes.ret X (fun h => by rw [hret] at h; cases h) hlocks (fun fs hr => retOut X hx hret rfl (Or.inl ⟨rfl, Or.inl rfl, z, rfl⟩) hd hr) hq hc hs
theorem Goes.retJ (X : Stand p l e R s m args below meth c T locs cells slots) (hx : p.tables.exec = Jvm.exec) (hlocks : meth.locks = false) {pc : Nat} {Ls : Array Slot} {z r : Int64} {rest : List Value} (hret : meth.sig.returnType = some .long)
    (hd : decode c.code pc = .ok (.lreturn, 1)) (hz : z = r) (hq : Q (some (.long r)) T.heap locs) (hc : cells ≤ kc) (hs : slots ≤ ks) : Goes p e below s Q kc ks (T.setTop (mkF m pc Ls (.long z :: rest))) := by
  subst hz
  exact Goes.ret X (fun h => by rw [hret] at h; cases h) hlocks (fun fs hr => retOut X hx hret rfl (Or.inr (Or.inl ⟨rfl, rfl, z, rfl⟩)) hd hr) hq hc hs
theorem Goes.retR (X : Stand p l e R s m args below meth c T locs cells slots) (hx : p.tables.exec = Jvm.exec) (hlocks : meth.locks = false) {pc : Nat} {Ls : Array Slot} {z r : Value} {t : FieldType} {rest : List Value} (hret : meth.sig.returnType = some t) (ht : t.isReference = true) (hn : narrow t z = z) (hw : z.isRef = true)
    (hd : decode c.code pc = .ok (.areturn, 1)) (hz : z = r) (hq : Q (some r) T.heap locs) (hc : cells ≤ kc) (hs : slots ≤ ks) : Goes p e below s Q kc ks (T.setTop (mkF m pc Ls (z :: rest))) := by
  subst hz
  exact Goes.ret X (fun h => by rw [hret] at h; cases h) hlocks (fun fs hr => retOut X hx hret hn (Or.inr (Or.inr (Or.inr (Or.inr ⟨rfl, ht, hw⟩)))) hd hr) hq hc hs
theorem Goes.retV (X : Stand p l e R s m args below meth c T locs cells slots) (hx : p.tables.exec = Jvm.exec) (hlocks : meth.locks = false) {pc : Nat} {Ls : Array Slot} (hret : meth.sig.returnType = none)
    (hd : decode c.code pc = .ok (.return_, 1)) (hq : Q none T.heap locs) (hc : cells ≤ kc) (hs : slots ≤ ks) : Goes p e below s Q kc ks (T.setTop (mkF m pc Ls [])) :=
  Goes.ret X (fun _ => rfl) hlocks (fun fs hr => X.returnOut hx hret hd hr) hq hc hs
/-- the array at a holds vs -/
def Ara (Z : State) (h : Heap) (a : Addr) (ty : FieldType) (vs : List Value) : Prop := ∃ cl : Cell, Arr Z h a cl ty ∧ cl.slots.toList = vs ∧ vs.length < 2 ^ 31 ∧ (∀ v ∈ vs, fits ty v = true) ∧ ∀ C, ty = .object C → Ovr Z cl.cls C
variable {ty : FieldType} {vs : List Value} {sl : Nat} {v : Value} {ws : List Addr}
theorem Ara.lt (F : Ara Z h a ty vs) : a < h.size := by obtain ⟨c, A, -⟩ := F; exact A.lt
theorem Ara.ext (F : Ara Z h a ty vs) (E : Ext h h') : Ara Z h' a ty vs := by obtain ⟨c, A, r⟩ := F; exact ⟨c, A.ext E, r⟩
theorem Ara.other (F : Ara Z h b ty vs) (W : Wr h h' a sl v) (q : b ≠ a) : Ara Z h' b ty vs := by obtain ⟨c, A, r⟩ := F; exact ⟨c, A.other W q, r⟩
theorem Ara.keep (F : Ara Z h a ty vs) (K : Keep h h' ws) (q : a ∉ ws) : Ara Z h' a ty vs := by obtain ⟨c, A, r⟩ := F; exact ⟨c, ⟨K.2.1 a c A.1 q, A.2⟩, r⟩
theorem fits_dflt (ty : FieldType) : fits ty (defaultValue ty) = true := by cases ty <;> rfl
theorem Ara.new {k : ClassId} {z : Int32} (A : Arr Z h a (newA k ty z) ty) (q : ¬ z < 0) (e : List.replicate z.toNatClampNeg (defaultValue ty) = vs) (O : ∀ C, ty = .object C → Ovr Z k C) : Ara Z h a ty vs := by
  subst e
  refine ⟨_, A, by simp [newA], by simpa using (back32 q).2, fun v hv => ?_, O⟩
  rw [(List.mem_replicate.mp hv).2]; exact fits_dflt ty
theorem Ara.same {j : Int32} {cl : Cell} (A : Arr Z h a cl ty) (e : cl.slots.toList = vs) (hl : vs.length < 2 ^ 31) (hf : ∀ v ∈ vs, fits ty v = true) (O : ∀ C, ty = .object C → Ovr Z cl.cls C) (hv : fits ty v = true) (W : Wr h h' a j.toNatClampNeg v) : Ara Z h' a ty (vs.set j.toNatClampNeg v) := by
  refine ⟨_, A.same W, by simp [Cell.setSlot, ← e], by simpa using hl, fun u hu => ?_, O⟩
  rcases List.mem_or_eq_of_mem_set hu with q | q
  · exact hf u q
  · rw [q]; exact hv
theorem inb {j : Int32} {cl : Cell} (e : cl.slots.toList = vs) (h0 : ¬ j < 0) (hj : j.toNatClampNeg < vs.length) : ¬ (j < 0 ∨ cl.slots.size ≤ j.toNatClampNeg) := by
  rintro (q | q)
  · exact h0 q
  · rw [← e] at hj; simp at hj; omega
theorem getb {j : Int32} {cl : Cell} (e : cl.slots.toList = vs) (hv : vs[j.toNatClampNeg]? = some v) : cl.slots[j.toNatClampNeg]? = some v := by rw [← e] at hv; simpa using hv
theorem ltb {n : Nat} (hv : vs[n]? = some v) : n < vs.length := (List.getElem?_eq_some_iff.mp hv).1
theorem lenb {cl : Cell} (e : cl.slots.toList = vs) : cl.slots.size = vs.length := by rw [← e]; simp
theorem notsta_ara (F : Ara Z h a ty vs) : ∀ c : Cell, h[a]? = some c → c.vm.isStatics = false := fun c hc => by
  obtain ⟨cl, A, -⟩ := F
  cases hc.symm.trans A.1; exact A.plain
theorem Ara.to {vs' : List Value} (F : Ara Z h a ty vs) (q : vs = vs') : Ara Z h a ty vs' := q ▸ F
end Own

theorem own_sh (z : Int32) (h : 0 ≤ z.toInt ∧ z.toInt < 16) : (z.toUInt32 >>> ((13 : Int32) &&& 31).toUInt32).toInt32 = 0 := by
  have q := c_iushr z 13 13 (by decide) (by decide)
  rw [← Int32.toInt_inj, q, (by decide : (0 : Int32).toInt = 0)]; omega
theorem own_an (z : Int32) (h : 0 ≤ z.toInt ∧ z.toInt < 16) : z &&& 8191 = z := by
  have q := c_mask z 8191 13 (by decide) (by decide)
  rw [← Int32.toInt_inj, q]; omega
theorem own_ne16 (z : Int32) (h : 0 ≤ z.toInt ∧ z.toInt < 16) : ¬ z = 16 := fun q => by
  rw [q] at h; revert h; decide
theorem own_neM (z : Int32) (h : 0 ≤ z.toInt ∧ z.toInt < 16) : ¬ z = 2147483647 := fun q => by
  rw [q] at h; revert h; decide
theorem own_nn (z : Int32) (h : 0 ≤ z.toInt ∧ z.toInt < 16) : ¬ z < 0 := by
  rw [Int32.lt_iff_toInt_lt, (by decide : (0 : Int32).toInt = 0)]; omega
theorem own_lt (z : Int32) (h : 0 ≤ z.toInt ∧ z.toInt < 16) : z.toNatClampNeg < 16 := by
  have := nat_of (own_nn z h); omega
theorem own_four (p : Int32) : (p &&& 3) + 1 = 1 ∨ (p &&& 3) + 1 = 2 ∨ (p &&& 3) + 1 = 3 ∨ (p &&& 3) + 1 = 4 := by
  have h1 := c_mask p 3 2 (by decide) (by decide)
  have h2 := c_iadd (p &&& 3) 1
  have h3 := rng32 ((p &&& 3) + 1)
  rw [(by decide : (1 : Int32).toInt = 1)] at h2
  have h4 : ((p &&& 3) + 1).toInt = 1 ∨ ((p &&& 3) + 1).toInt = 2 ∨ ((p &&& 3) + 1).toInt = 3 ∨ ((p &&& 3) + 1).toInt = 4 := by omega
  simp only [← Int32.toInt_inj]; exact h4
theorem own_pn0 : plainName "com/example/twag/twag/parity/IntSequence" = true := by first | (simp [plainName, overriddenIn]; done) | decide +kernel
theorem own_pd0 : parseMethodDescriptor "()V" = some ⟨[], none⟩ := by decide +kernel
theorem own_pd1 : parseMethodDescriptor "(I)V" = some ⟨[.int], none⟩ := by decide +kernel
theorem own_pd2 : parseMethodDescriptor "()I" = some ⟨[], some .int⟩ := by decide +kernel
theorem own_pd3 : parseMethodDescriptor "(I)I" = some ⟨[.int], some .int⟩ := by decide +kernel
theorem own_pn1 : plainName "com/example/twag/twag/parity/IntSequenceGetPinLaw" = true := by first | (simp [plainName, overriddenIn]; done) | decide +kernel
theorem own_d1_0 : decode prog_12_method_1_code 0 = .ok (.aload_n 0, 1) := by decide +kernel
theorem own_d1_1 : decode prog_12_method_1_code 1 = .ok (.invokespecial 3, 3) := by decide +kernel
theorem own_d1_4 : decode prog_12_method_1_code 4 = .ok (.aload_n 0, 1) := by decide +kernel
theorem own_d1_5 : decode prog_12_method_1_code 5 = .ok (.iconst 1, 1) := by decide +kernel
theorem own_d1_6 : decode prog_12_method_1_code 6 = .ok (.anewarray 9, 3) := by decide +kernel
theorem own_d1_9 : decode prog_12_method_1_code 9 = .ok (.dup, 1) := by decide +kernel
theorem own_d1_10 : decode prog_12_method_1_code 10 = .ok (.iconst 0, 1) := by decide +kernel
theorem own_d1_11 : decode prog_12_method_1_code 11 = .ok (.bipush 16, 2) := by decide +kernel
theorem own_d1_13 : decode prog_12_method_1_code 13 = .ok (.newarray .int, 2) := by decide +kernel
theorem own_d1_15 : decode prog_12_method_1_code 15 = .ok (.aastore, 1) := by decide +kernel
theorem own_d1_16 : decode prog_12_method_1_code 16 = .ok (.putfield 11, 3) := by decide +kernel
theorem own_d1_19 : decode prog_12_method_1_code 19 = .ok (.return_, 1) := by decide +kernel
theorem own_ef1 (m : MethodId) (a0 : Addr) : entryFrame m #[(.ref a0)] 1 = mkF m 0 #[.val (.ref a0)] [] := by first | (simp [entryFrame, mkF, argsToLocals, Value.category, maxLocals]; done) | rfl
abbrev RM1 : Room := ({ frames := 1, cells := 2, slots := 17, locals := 12 } : Room)
abbrev kC1 : Nat := 2
abbrev kS1 : Nat := 17
def Q1 (Z : State) (a0 : Addr) (h0 : Heap) (n0 : Nat) (v : Option Value) (h : Heap) (L : List Loc) : Prop := ∃ b2 : Addr, ∃ b6 : Addr, v = none ∧ Fr n0 L ∧ Keep h0 h [a0] ∧ h0.size ≤ b2 ∧ h0.size ≤ b6 ∧ b2 ≠ b6 ∧ Exa Z h a0 "com/example/twag/twag/parity/IntSequence" ∧ Fld Z h a0 "com/example/twag/twag/parity/IntSequence" "blocks" "[[I" (.ref b2) ∧ Fld Z h a0 "com/example/twag/twag/parity/IntSequence" "size" "I" (.int (0 : Int32)) ∧ Ara Z h b2 (.array .int) [(.ref b6)] ∧ Ara Z h b6 .int [(.int (0 : Int32)), (.int (0 : Int32)), (.int (0 : Int32)), (.int (0 : Int32)), (.int (0 : Int32)), (.int (0 : Int32)), (.int (0 : Int32)), (.int (0 : Int32)), (.int (0 : Int32)), (.int (0 : Int32)), (.int (0 : Int32)), (.int (0 : Int32)), (.int (0 : Int32)), (.int (0 : Int32)), (.int (0 : Int32)), (.int (0 : Int32))]
set_option maxRecDepth 65536 in
set_option maxHeartbeats 40000000 in
theorem rm1 (l : Launch) (Z : State) (tA : Array Value) (hw : ∀ d ∈ tables_1, d.before tA Z = true) (ws : List Jvm.Cond) (a0 : Addr) (h0 : Heap) (n0 : Nat) (Z0 : n0 ≤ h0.size) (H0 : Exa Z h0 a0 "com/example/twag/twag/parity/IntSequence") (H1 : Fld Z h0 a0 "com/example/twag/twag/parity/IntSequence" "blocks" "[[I" .null) (H2 : Fld Z h0 a0 "com/example/twag/twag/parity/IntSequence" "size" "I" (.int (0 : Int32))) (g_a0 : n0 ≤ a0) :
    MetFree l (⟨"com/example/twag/twag/parity/IntSequence", "<init>", "()V"⟩ : MethodName) (head1 (Jvm.Cond.code (⟨"com/example/twag/twag/parity/IntSequence", "<init>", "()V"⟩ : MethodName) prog_12_method_1_code 1 none :: ws) RM1) (fun a U => a = #[(.ref a0)] ∧ Z.Warmed39 U.vm ∧ U.heap = h0) (fun _ _ _ _ _ => True) (fun _ U o U' => ∃ v L, o = .returned v ∧ Q1 Z a0 h0 n0 v U'.heap L ∧ FrameEnd U o U' L RM1.cells RM1.slots) := by
  refine MetFree.of_bodySF (plainFor_of_name own_pn0) hisR ?_
  intro p e s m args below meth c s₁ Bd hml0 hP hK
  obtain ⟨rfl, hZ, hh⟩ := hP
  have hx := Bd.exec
  have hby := Bd.bytes
  have hml : c.maxLocals = 1 := hml0
  have hown : s.vm.findClass "com/example/twag/twag/parity/IntSequence" = some m.cls := findClass_of_methodNamed Bd.named
  have hnm := (name_of_methodNamed Bd.named Bd.method).1
  have X0 : Stand p l e RM1 s m #[(.ref a0)] below meth c s₁ [] 0 0 := Stand.of_body Bd
  have e0 : s₁.heap = h0 := by rw [← hh, Bd.state]; rfl
  have N0 := Fr.nil n0
  show Goes p e below s (Q1 Z a0 h0 n0) kC1 kS1 (s₁.setTop (entryFrame m #[(.ref a0)] 1))
  refine Goes.step (fun t k => castTop (own_ef1 m a0) k) ?_
  show Goes _ _ _ _ _ _ _ (s₁.setTop (mkF m 0 #[.val (.ref a0)] []))
  refine Goes.step (fun t k => XS.aloadN X0.here hx rfl (hb hby own_d1_0) rfl rfl k) ?_
  show Goes _ _ _ _ _ _ _ (s₁.setTop (mkF m 1 #[.val (.ref a0)] [(.ref a0)]))
  obtain ⟨T1, X1, e1, st1⟩ := initO X0 hx hZ hown (hw _ (List.mem_of_getElem? (i := 6) rfl)) (hw _ (List.mem_of_getElem? (i := 7) rfl)) (hw _ (List.mem_of_getElem? (i := 8) rfl)) e0 (g := (mkF m 1 #[.val (.ref a0)] [(.ref a0)])) rfl (by rw [hml]; rfl) rfl (hb hby own_d1_1) (by decide) (W := 0) (by show 2 * 0 + _ ≤ _; exact Nat.le_of_eq rfl) (by decide)
  refine Goes.step (fun t k => st1 t k) ?_
  show Goes _ _ _ _ _ _ _ (T1.setTop (mkF m 4 #[.val (.ref a0)] []))
  refine Goes.step (fun t k => XS.aloadN X1.here hx rfl (hb hby own_d1_4) rfl rfl k) ?_
  show Goes _ _ _ _ _ _ _ (T1.setTop (mkF m 5 #[.val (.ref a0)] [(.ref a0)]))
  refine Goes.step (fun t k => XS.iconst X1.here hx rfl (hb hby own_d1_5) k) ?_
  show Goes _ _ _ _ _ _ _ (T1.setTop (mkF m 6 #[.val (.ref a0)] [(.int (1 : Int32)), (.ref a0)]))
  obtain ⟨T2, h2, k2, X2, e2, E2, A2, Q2, O2, st2⟩ := newRA X1 hx hZ hown (ty := .int) (C := "[I") rfl (hw _ (List.mem_of_getElem? (i := 9) rfl)) (hw _ (List.mem_of_getElem? (i := 10) rfl)) e1 (g := (mkF m 6 #[.val (.ref a0)] [(.int (1 : Int32)), (.ref a0)])) rfl (hb hby own_d1_6) rfl (by decide) (cap := 1) (by decide) (by decide) (by decide) (by decide) (ad := "[[I") rfl
  obtain ⟨b2, g2⟩ : ∃ z, z = h0.size := ⟨_, rfl⟩
  rw [← g2] at A2 Q2 st2
  have ne_a0_b2 : a0 ≠ b2 := Nat.ne_of_lt (Nat.lt_of_lt_of_le H0.lt (Nat.le_of_eq g2.symm))
  have Zs2 : n0 ≤ b2 := Nat.le_trans Z0 (Nat.le_of_eq g2.symm)
  have Zh2 : h0.size ≤ b2 := Nat.le_trans (Keep.refl h0 [a0]).1 (Nat.le_of_eq g2.symm)
  have F3 := H0.ext E2
  have F4 := H1.ext E2
  have F5 := H2.ext E2
  have K2 := (Keep.refl h0 [a0]).ext E2
  have Z2 := Nat.le_trans Z0 E2.1
  have V2 : Ara Z h2 b2 (.array .int) [.null] := Ara.new A2 (by decide) rfl (fun _ q => nomatch q)
  refine Goes.step (fun t k => st2 t k) ?_
  show Goes _ _ _ _ _ _ _ (T2.setTop (mkF m 9 #[.val (.ref a0)] [(.ref b2), (.ref a0)]))
  refine Goes.step (fun t k => XS.dup X2.here hx rfl (hb hby own_d1_9) rfl rfl k) ?_
  show Goes _ _ _ _ _ _ _ (T2.setTop (mkF m 10 #[.val (.ref a0)] [(.ref b2), (.ref b2), (.ref a0)]))
  refine Goes.step (fun t k => XS.iconst X2.here hx rfl (hb hby own_d1_10) k) ?_
  show Goes _ _ _ _ _ _ _ (T2.setTop (mkF m 11 #[.val (.ref a0)] [(.int (0 : Int32)), (.ref b2), (.ref b2), (.ref a0)]))
  refine Goes.step (fun t k => XS.bipush X2.here hx rfl (hb hby own_d1_11) k) ?_
  show Goes _ _ _ _ _ _ _ (T2.setTop (mkF m 13 #[.val (.ref a0)] [(.int (16 : Int32)), (.int (0 : Int32)), (.ref b2), (.ref b2), (.ref a0)]))
  obtain ⟨T6, h6, k6, X6, e6, E6, A6, Q6, st6⟩ := newPE X2 hx hZ (hw _ (List.mem_of_getElem? (i := 11) rfl)) e2 (g := (mkF m 13 #[.val (.ref a0)] [(.int (16 : Int32)), (.int (0 : Int32)), (.ref b2), (.ref b2), (.ref a0)])) rfl (hb hby own_d1_13) rfl (by decide) (cap := 16) (by decide) (by decide) (by decide) (by decide) (ad := "[I") rfl
  obtain ⟨b6, g6⟩ : ∃ z, z = h2.size := ⟨_, rfl⟩
  rw [← g6] at A6 Q6 st6
  have ne_a0_b6 : a0 ≠ b6 := Nat.ne_of_lt (Nat.lt_of_lt_of_le F3.lt (Nat.le_of_eq g6.symm))
  have ne_b2_b6 : b2 ≠ b6 := Nat.ne_of_lt (Nat.lt_of_lt_of_le V2.lt (Nat.le_of_eq g6.symm))
  have Zs6 : n0 ≤ b6 := Nat.le_trans Z2 (Nat.le_of_eq g6.symm)
  have Zh6 : h0.size ≤ b6 := Nat.le_trans K2.1 (Nat.le_of_eq g6.symm)
  have F7 := F3.ext E6
  have F8 := F4.ext E6
  have F9 := F5.ext E6
  have F10 := V2.ext E6
  have F11 := A2.ext E6
  have K6 := K2.ext E6
  have Z6 := Nat.le_trans Z2 E6.1
  have V6 : Ara Z h6 b6 .int [(.int (0 : Int32)), (.int (0 : Int32)), (.int (0 : Int32)), (.int (0 : Int32)), (.int (0 : Int32)), (.int (0 : Int32)), (.int (0 : Int32)), (.int (0 : Int32)), (.int (0 : Int32)), (.int (0 : Int32)), (.int (0 : Int32)), (.int (0 : Int32)), (.int (0 : Int32)), (.int (0 : Int32)), (.int (0 : Int32)), (.int (0 : Int32))] := Ara.new A6 (by decide) rfl (fun _ q => nomatch q)
  refine Goes.step (fun t k => st6 t k) ?_
  show Goes _ _ _ _ _ _ _ (T6.setTop (mkF m 15 #[.val (.ref a0)] [(.ref b6), (.int (0 : Int32)), (.ref b2), (.ref b2), (.ref a0)]))
  obtain ⟨cl12, Ar12, q12, ll12, ff12, oo12⟩ := id F10
  have hn12 : ¬ (0 : Int32) < 0 := by decide
  have hl12 : ((0 : Int32)).toNatClampNeg < ([.null] : List Value).length := Nat.le_of_ble_eq_true rfl
  obtain ⟨T12, h12, X12, e12, W12, st12⟩ := stR X6 hx hZ e6 Ar12 (j := (0 : Int32)) (inb q12 hn12 hl12) rfl (Sto.ofVA F11 rfl O2 (Ins.self Q6)) (g := (mkF m 15 #[.val (.ref a0)] [(.ref b6), (.int (0 : Int32)), (.ref b2), (.ref b2), (.ref a0)])) rfl rfl (hb hby own_d1_15)
  have V12 : Ara Z h12 b2 (.array .int) [(.ref b6)] := Ara.same (j := (0 : Int32)) Ar12 q12 ll12 ff12 oo12 rfl W12
  have F13 := F7.wr W12
  have F14 := F8.other W12 (Or.inl ne_a0_b2)
  have F15 := F9.other W12 (Or.inl ne_a0_b2)
  have F16 := V6.other W12 (Ne.symm ne_b2_b6)
  have F17 := Q6.wr W12
  have K12 := K6.wr W12 (Or.inr Zh2)
  have N12 := Fr.snoc X12 N0 Zs2
  have Z12 := Nat.le_trans Z6 (Nat.le_of_eq W12.size.symm)
  refine Goes.step (fun t k => st12 t k) ?_
  show Goes _ _ _ _ _ _ _ (T12.setTop (mkF m 16 #[.val (.ref a0)] [(.ref b2), (.ref a0)]))
  obtain ⟨T18, h18, X18, e18, W18, st18⟩ := putF X12 hx hZ hown (host := "") (Or.inl (hw _ (List.mem_of_getElem? (i := 13) rfl))) Via.refl e12 F14 F13 (Or.inl (hw _ (List.mem_of_getElem? (i := 14) rfl))) (hw _ (List.mem_of_getElem? (i := 1) rfl)) (ty := (.array (.array .int))) (by decide) rfl rfl (g := (mkF m 16 #[.val (.ref a0)] [(.ref b2), (.ref a0)])) rfl rfl (hb hby own_d1_16)
  have Fw18 := F14.same W18
  have F19 := F13.wr W18
  have F20 := F15.other W18 (Or.inr (slot_ne (Or.inl (hw _ (List.mem_of_getElem? (i := 21) rfl))) (Or.inl (hw _ (List.mem_of_getElem? (i := 14) rfl))) (by decide) (t := .int) (t' := (.array (.array .int))) (by decide) (by decide)))
  have F21 := F16.other W18 (Ne.symm ne_a0_b6)
  have F22 := F17.wr W18
  have F23 := V12.other W18 (Ne.symm ne_a0_b2)
  have K18 := K12.wr W18 (Or.inl (List.mem_of_getElem? (i := 0) rfl))
  have N18 := Fr.snoc X18 N12 g_a0
  have Z18 := Nat.le_trans Z12 (Nat.le_of_eq W18.size.symm)
  refine Goes.step (fun t k => st18 t k) ?_
  show Goes _ _ _ _ _ _ _ (T18.setTop (mkF m 19 #[.val (.ref a0)] []))
  exact Goes.retV X18 hx Bd.notSynchronized Bd.returns (hb hby own_d1_19) (by rw [e18]; exact ⟨b2, b6, rfl, N18, K18, Zh2, Zh6, ne_b2_b6, F19, Fw18, F20, F23, F21⟩) (by decide) (by decide)
theorem own_d3_0 : decode prog_12_method_2_code 0 = .ok (.aload_n 0, 1) := by decide +kernel
theorem own_d3_1 : decode prog_12_method_2_code 1 = .ok (.getfield 15, 3) := by decide +kernel
theorem own_d3_4 : decode prog_12_method_2_code 4 = .ok (.ldc 21, 2) := by decide +kernel
theorem own_d3_6 : decode prog_12_method_2_code 6 = .ok (.if_icmp .ne 13, 3) := by decide +kernel
theorem own_d3_19 : decode prog_12_method_2_code 19 = .ok (.aload_n 0, 1) := by decide +kernel
theorem own_d3_20 : decode prog_12_method_2_code 20 = .ok (.getfield 15, 3) := by decide +kernel
theorem own_d3_23 : decode prog_12_method_2_code 23 = .ok (.bipush 13, 2) := by decide +kernel
theorem own_d3_25 : decode prog_12_method_2_code 25 = .ok (.iushr, 1) := by decide +kernel
theorem own_d3_26 : decode prog_12_method_2_code 26 = .ok (.istore_n 2, 1) := by decide +kernel
theorem own_d3_27 : decode prog_12_method_2_code 27 = .ok (.aload_n 0, 1) := by decide +kernel
theorem own_d3_28 : decode prog_12_method_2_code 28 = .ok (.getfield 15, 3) := by decide +kernel
theorem own_d3_31 : decode prog_12_method_2_code 31 = .ok (.sipush 8191, 3) := by decide +kernel
theorem own_d3_34 : decode prog_12_method_2_code 34 = .ok (.iand, 1) := by decide +kernel
theorem own_d3_35 : decode prog_12_method_2_code 35 = .ok (.istore_n 3, 1) := by decide +kernel
theorem own_d3_36 : decode prog_12_method_2_code 36 = .ok (.iload_n 2, 1) := by decide +kernel
theorem own_d3_37 : decode prog_12_method_2_code 37 = .ok (.ifCond .ne 35, 3) := by decide +kernel
theorem own_d3_40 : decode prog_12_method_2_code 40 = .ok (.iload_n 3, 1) := by decide +kernel
theorem own_d3_41 : decode prog_12_method_2_code 41 = .ok (.aload_n 0, 1) := by decide +kernel
theorem own_d3_42 : decode prog_12_method_2_code 42 = .ok (.getfield 11, 3) := by decide +kernel
theorem own_d3_45 : decode prog_12_method_2_code 45 = .ok (.iconst 0, 1) := by decide +kernel
theorem own_d3_46 : decode prog_12_method_2_code 46 = .ok (.aaload, 1) := by decide +kernel
theorem own_d3_47 : decode prog_12_method_2_code 47 = .ok (.arraylength, 1) := by decide +kernel
theorem own_d3_48 : decode prog_12_method_2_code 48 = .ok (.if_icmp .ne 24, 3) := by decide +kernel
theorem own_d3_72 : decode prog_12_method_2_code 72 = .ok (.iload_n 2, 1) := by decide +kernel
theorem own_d3_73 : decode prog_12_method_2_code 73 = .ok (.aload_n 0, 1) := by decide +kernel
theorem own_d3_74 : decode prog_12_method_2_code 74 = .ok (.getfield 11, 3) := by decide +kernel
theorem own_d3_77 : decode prog_12_method_2_code 77 = .ok (.arraylength, 1) := by decide +kernel
theorem own_d3_78 : decode prog_12_method_2_code 78 = .ok (.if_icmp .ne 24, 3) := by decide +kernel
theorem own_d3_102 : decode prog_12_method_2_code 102 = .ok (.aload_n 0, 1) := by decide +kernel
theorem own_d3_103 : decode prog_12_method_2_code 103 = .ok (.getfield 11, 3) := by decide +kernel
theorem own_d3_106 : decode prog_12_method_2_code 106 = .ok (.iload_n 2, 1) := by decide +kernel
theorem own_d3_107 : decode prog_12_method_2_code 107 = .ok (.aaload, 1) := by decide +kernel
theorem own_d3_108 : decode prog_12_method_2_code 108 = .ok (.ifnonnull 14, 3) := by decide +kernel
theorem own_d3_122 : decode prog_12_method_2_code 122 = .ok (.aload_n 0, 1) := by decide +kernel
theorem own_d3_123 : decode prog_12_method_2_code 123 = .ok (.getfield 11, 3) := by decide +kernel
theorem own_d3_126 : decode prog_12_method_2_code 126 = .ok (.iload_n 2, 1) := by decide +kernel
theorem own_d3_127 : decode prog_12_method_2_code 127 = .ok (.aaload, 1) := by decide +kernel
theorem own_d3_128 : decode prog_12_method_2_code 128 = .ok (.iload_n 3, 1) := by decide +kernel
theorem own_d3_129 : decode prog_12_method_2_code 129 = .ok (.iload_n 1, 1) := by decide +kernel
theorem own_d3_130 : decode prog_12_method_2_code 130 = .ok (.iastore, 1) := by decide +kernel
theorem own_d3_131 : decode prog_12_method_2_code 131 = .ok (.aload_n 0, 1) := by decide +kernel
theorem own_d3_132 : decode prog_12_method_2_code 132 = .ok (.dup, 1) := by decide +kernel
theorem own_d3_133 : decode prog_12_method_2_code 133 = .ok (.getfield 15, 3) := by decide +kernel
theorem own_d3_136 : decode prog_12_method_2_code 136 = .ok (.iconst 1, 1) := by decide +kernel
theorem own_d3_137 : decode prog_12_method_2_code 137 = .ok (.iadd, 1) := by decide +kernel
theorem own_d3_138 : decode prog_12_method_2_code 138 = .ok (.putfield 15, 3) := by decide +kernel
theorem own_d3_141 : decode prog_12_method_2_code 141 = .ok (.return_, 1) := by decide +kernel
theorem own_ef3 (m : MethodId) (a0 : Addr) (p1 : Int32) : entryFrame m #[(.ref a0), (.int p1)] 4 = mkF m 0 #[.val (.ref a0), .val (.int p1), .unset, .unset] [] := by first | (simp [entryFrame, mkF, argsToLocals, Value.category, maxLocals]; done) | rfl
abbrev RM3 : Room := ({ frames := 0, cells := 0, slots := 0, locals := 0 } : Room)
abbrev kC3 : Nat := 0
abbrev kS3 : Nat := 0
def Q3 (Z : State) (a0 : Addr) (p1 : Int32) (wB : Addr) (wA : Addr) (wS : Int32) (vs : List Value) (h0 : Heap) (n0 : Nat) (v : Option Value) (h : Heap) (L : List Loc) : Prop := v = none ∧ Fr n0 L ∧ Keep h0 h [a0, wA] ∧ Exa Z h a0 "com/example/twag/twag/parity/IntSequence" ∧ Fld Z h a0 "com/example/twag/twag/parity/IntSequence" "blocks" "[[I" (.ref wB) ∧ Fld Z h a0 "com/example/twag/twag/parity/IntSequence" "size" "I" (.int (wS + (1 : Int32))) ∧ Ara Z h wB (.array .int) [(.ref wA)] ∧ Ara Z h wA .int (vs.set (wS).toNatClampNeg (.int p1))
set_option maxRecDepth 65536 in
set_option maxHeartbeats 40000000 in
theorem rm3 (l : Launch) (Z : State) (tA : Array Value) (hw : ∀ d ∈ tables_1, d.before tA Z = true) (ws : List Jvm.Cond) (a0 : Addr) (p1 : Int32) (wB : Addr) (wA : Addr) (wS : Int32) (vs : List Value) (h0 : Heap) (n0 : Nat) (Z0 : n0 ≤ h0.size) (H0 : Exa Z h0 a0 "com/example/twag/twag/parity/IntSequence") (H1 : Fld Z h0 a0 "com/example/twag/twag/parity/IntSequence" "blocks" "[[I" (.ref wB)) (H2 : Fld Z h0 a0 "com/example/twag/twag/parity/IntSequence" "size" "I" (.int wS)) (H3 : Ara Z h0 wB (.array .int) [(.ref wA)]) (H4 : Ara Z h0 wA .int vs) (g_a0 : n0 ≤ a0) (g_wA : n0 ≤ wA) (n1 : a0 ≠ wB) (n2 : a0 ≠ wA) (n3 : wB ≠ wA) (hl : vs.length = 16) (hS : 0 ≤ wS.toInt ∧ wS.toInt < 16) :
    MetFree l (⟨"com/example/twag/twag/parity/IntSequence", "add", "(I)V"⟩ : MethodName) (head1 (Jvm.Cond.code (⟨"com/example/twag/twag/parity/IntSequence", "add", "(I)V"⟩ : MethodName) prog_12_method_2_code 4 none :: ws) RM3) (fun a U => a = #[(.ref a0), (.int p1)] ∧ Z.Warmed39 U.vm ∧ U.heap = h0) (fun _ _ _ _ _ => True) (fun _ U o U' => ∃ v L, o = .returned v ∧ Q3 Z a0 p1 wB wA wS vs h0 n0 v U'.heap L ∧ FrameEnd U o U' L RM3.cells RM3.slots) := by
  refine MetFree.of_bodySF (plainFor_of_name own_pn0) hisR ?_
  intro p e s m args below meth c s₁ Bd hml0 hP hK
  obtain ⟨rfl, hZ, hh⟩ := hP
  have hx := Bd.exec
  have hby := Bd.bytes
  have hml : c.maxLocals = 4 := hml0
  have hown : s.vm.findClass "com/example/twag/twag/parity/IntSequence" = some m.cls := findClass_of_methodNamed Bd.named
  have hnm := (name_of_methodNamed Bd.named Bd.method).1
  have X0 : Stand p l e RM3 s m #[(.ref a0), (.int p1)] below meth c s₁ [] 0 0 := Stand.of_body Bd
  have e0 : s₁.heap = h0 := by rw [← hh, Bd.state]; rfl
  have N0 := Fr.nil n0
  show Goes p e below s (Q3 Z a0 p1 wB wA wS vs h0 n0) kC3 kS3 (s₁.setTop (entryFrame m #[(.ref a0), (.int p1)] 4))
  refine Goes.step (fun t k => castTop (own_ef3 m a0 p1) k) ?_
  show Goes _ _ _ _ _ _ _ (s₁.setTop (mkF m 0 #[.val (.ref a0), .val (.int p1), .unset, .unset] []))
  refine Goes.step (fun t k => XS.aloadN X0.here hx rfl (hb hby own_d3_0) rfl rfl k) ?_
  show Goes _ _ _ _ _ _ _ (s₁.setTop (mkF m 1 #[.val (.ref a0), .val (.int p1), .unset, .unset] [(.ref a0)]))
  obtain ⟨T1, X1, e1, st1⟩ := getF X0 hx hZ hown (host := "") (Or.inl (hw _ (List.mem_of_getElem? (i := 20) rfl))) Via.refl e0 H2 (g := (mkF m 1 #[.val (.ref a0), .val (.int p1), .unset, .unset] [(.ref a0)])) rfl rfl (hb hby own_d3_1)
  refine Goes.step (fun t k => st1 t k) ?_
  show Goes _ _ _ _ _ _ _ (T1.setTop (mkF m 4 #[.val (.ref a0), .val (.int p1), .unset, .unset] [(.int wS)]))
  refine Goes.step (fun t k => X1.ldcInt hx hown (mvT hZ (hw _ (List.mem_of_getElem? (i := 22) rfl))) (g := (mkF m 4 #[.val (.ref a0), .val (.int p1), .unset, .unset] [(.int wS)])) rfl (hb hby own_d3_4) _ k) ?_
  show Goes _ _ _ _ _ _ _ (T1.setTop (mkF m 6 #[.val (.ref a0), .val (.int p1), .unset, .unset] [(.int (2147483647 : Int32)), (.int wS)]))
  have hc6_2 : ¬ (wS = (2147483647 : Int32)) := by exact own_neM _ hS
  refine Goes.step (fun t k => XS.icmpYes X1.here hx rfl (pc0 := 6) (pc' := 19) rfl (hb hby own_d3_6) rfl (feq hc6_2).2 (by decide) (by decide) k) ?_
  show Goes _ _ _ _ _ _ _ (T1.setTop (mkF m 19 #[.val (.ref a0), .val (.int p1), .unset, .unset] []))
  refine Goes.step (fun t k => XS.aloadN X1.here hx rfl (hb hby own_d3_19) rfl rfl k) ?_
  show Goes _ _ _ _ _ _ _ (T1.setTop (mkF m 20 #[.val (.ref a0), .val (.int p1), .unset, .unset] [(.ref a0)]))
  obtain ⟨T3, X3, e3, st3⟩ := getF X1 hx hZ hown (host := "") (Or.inl (hw _ (List.mem_of_getElem? (i := 20) rfl))) Via.refl e1 H2 (g := (mkF m 20 #[.val (.ref a0), .val (.int p1), .unset, .unset] [(.ref a0)])) rfl rfl (hb hby own_d3_20)
  refine Goes.step (fun t k => st3 t k) ?_
  show Goes _ _ _ _ _ _ _ (T3.setTop (mkF m 23 #[.val (.ref a0), .val (.int p1), .unset, .unset] [(.int wS)]))
  refine Goes.step (fun t k => XS.bipush X3.here hx rfl (hb hby own_d3_23) k) ?_
  show Goes _ _ _ _ _ _ _ (T3.setTop (mkF m 25 #[.val (.ref a0), .val (.int p1), .unset, .unset] [(.int (13 : Int32)), (.int wS)]))
  refine Goes.step (fun t k => XS.iushr X3.here hx rfl (hb hby own_d3_25) rfl k) ?_
  show Goes _ _ _ _ _ _ _ (T3.setTop (mkF m 26 #[.val (.ref a0), .val (.int p1), .unset, .unset] [(.int ((wS.toUInt32 >>> ((13 : Int32) &&& 31).toUInt32).toInt32))]))
  refine Goes.step (fun t k => XS.istoreN X3.here hx rfl (hb hby own_d3_26) rfl (l' := #[.val (.ref a0), .val (.int p1), .val (.int ((wS.toUInt32 >>> ((13 : Int32) &&& 31).toUInt32).toInt32)), .unset]) rfl k) ?_
  show Goes _ _ _ _ _ _ _ (T3.setTop (mkF m 27 #[.val (.ref a0), .val (.int p1), .val (.int ((wS.toUInt32 >>> ((13 : Int32) &&& 31).toUInt32).toInt32)), .unset] []))
  generalize hy4 : ((wS.toUInt32 >>> ((13 : Int32) &&& 31).toUInt32).toInt32) = y4
  have y4q : y4 = 0 := hy4.symm.trans (own_sh _ hS)
  rw [y4q]
  show Goes _ _ _ _ _ _ _ (T3.setTop (mkF m 27 #[.val (.ref a0), .val (.int p1), .val (.int (0 : Int32)), .unset] []))
  refine Goes.step (fun t k => XS.aloadN X3.here hx rfl (hb hby own_d3_27) rfl rfl k) ?_
  show Goes _ _ _ _ _ _ _ (T3.setTop (mkF m 28 #[.val (.ref a0), .val (.int p1), .val (.int (0 : Int32)), .unset] [(.ref a0)]))
  obtain ⟨T5, X5, e5, st5⟩ := getF X3 hx hZ hown (host := "") (Or.inl (hw _ (List.mem_of_getElem? (i := 20) rfl))) Via.refl e3 H2 (g := (mkF m 28 #[.val (.ref a0), .val (.int p1), .val (.int (0 : Int32)), .unset] [(.ref a0)])) rfl rfl (hb hby own_d3_28)
  refine Goes.step (fun t k => st5 t k) ?_
  show Goes _ _ _ _ _ _ _ (T5.setTop (mkF m 31 #[.val (.ref a0), .val (.int p1), .val (.int (0 : Int32)), .unset] [(.int wS)]))
  refine Goes.step (fun t k => XS.sipush X5.here hx rfl (hb hby own_d3_31) k) ?_
  show Goes _ _ _ _ _ _ _ (T5.setTop (mkF m 34 #[.val (.ref a0), .val (.int p1), .val (.int (0 : Int32)), .unset] [(.int (8191 : Int32)), (.int wS)]))
  refine Goes.step (fun t k => XS.iand X5.here hx rfl (hb hby own_d3_34) rfl k) ?_
  show Goes _ _ _ _ _ _ _ (T5.setTop (mkF m 35 #[.val (.ref a0), .val (.int p1), .val (.int (0 : Int32)), .unset] [(.int (wS &&& (8191 : Int32)))]))
  refine Goes.step (fun t k => XS.istoreN X5.here hx rfl (hb hby own_d3_35) rfl (l' := #[.val (.ref a0), .val (.int p1), .val (.int (0 : Int32)), .val (.int (wS &&& (8191 : Int32)))]) rfl k) ?_
  show Goes _ _ _ _ _ _ _ (T5.setTop (mkF m 36 #[.val (.ref a0), .val (.int p1), .val (.int (0 : Int32)), .val (.int (wS &&& (8191 : Int32)))] []))
  rw [own_an _ hS]
  show Goes _ _ _ _ _ _ _ (T5.setTop (mkF m 36 #[.val (.ref a0), .val (.int p1), .val (.int (0 : Int32)), .val (.int wS)] []))
  refine Goes.step (fun t k => XS.iloadN X5.here hx rfl (hb hby own_d3_36) rfl k) ?_
  show Goes _ _ _ _ _ _ _ (T5.setTop (mkF m 37 #[.val (.ref a0), .val (.int p1), .val (.int (0 : Int32)), .val (.int wS)] [(.int (0 : Int32))]))
  refine Goes.step (fun t k => XS.ifNo X5.here hx rfl (hb hby own_d3_37) rfl ((if0 _ _).trans (teq (by decide)).2) k) ?_
  show Goes _ _ _ _ _ _ _ (T5.setTop (mkF m 40 #[.val (.ref a0), .val (.int p1), .val (.int (0 : Int32)), .val (.int wS)] []))
  refine Goes.step (fun t k => XS.iloadN X5.here hx rfl (hb hby own_d3_40) rfl k) ?_
  show Goes _ _ _ _ _ _ _ (T5.setTop (mkF m 41 #[.val (.ref a0), .val (.int p1), .val (.int (0 : Int32)), .val (.int wS)] [(.int wS)]))
  refine Goes.step (fun t k => XS.aloadN X5.here hx rfl (hb hby own_d3_41) rfl rfl k) ?_
  show Goes _ _ _ _ _ _ _ (T5.setTop (mkF m 42 #[.val (.ref a0), .val (.int p1), .val (.int (0 : Int32)), .val (.int wS)] [(.ref a0), (.int wS)]))
  obtain ⟨T7, X7, e7, st7⟩ := getF X5 hx hZ hown (host := "") (Or.inl (hw _ (List.mem_of_getElem? (i := 13) rfl))) Via.refl e5 H1 (g := (mkF m 42 #[.val (.ref a0), .val (.int p1), .val (.int (0 : Int32)), .val (.int wS)] [(.ref a0), (.int wS)])) rfl rfl (hb hby own_d3_42)
  refine Goes.step (fun t k => st7 t k) ?_
  show Goes _ _ _ _ _ _ _ (T7.setTop (mkF m 45 #[.val (.ref a0), .val (.int p1), .val (.int (0 : Int32)), .val (.int wS)] [(.ref wB), (.int wS)]))
  refine Goes.step (fun t k => XS.iconst X7.here hx rfl (hb hby own_d3_45) k) ?_
  show Goes _ _ _ _ _ _ _ (T7.setTop (mkF m 46 #[.val (.ref a0), .val (.int p1), .val (.int (0 : Int32)), .val (.int wS)] [(.int (0 : Int32)), (.ref wB), (.int wS)]))
  obtain ⟨cl8, Ar8, q8, ll8, ff8, oo8⟩ := id H3
  have hn8 : ¬ (0 : Int32) < 0 := by decide
  have hv8 : ([(.ref wA)] : List Value)[((0 : Int32)).toNatClampNeg]? = some (.ref wA) := by rfl
  refine Goes.step (fun t k => X7.aaload hx (j := (0 : Int32)) (v := (.ref wA)) (by rw [e7]; exact Ar8.1) (State.isArrayOf_alike hZ.alike Ar8.2.1) rfl Ar8.2.2 (inb q8 hn8 (ltb hv8)) (getb q8 hv8) (g := (mkF m 46 #[.val (.ref a0), .val (.int p1), .val (.int (0 : Int32)), .val (.int wS)] [(.int (0 : Int32)), (.ref wB), (.int wS)])) rfl rfl (hb hby own_d3_46) t k) ?_
  show Goes _ _ _ _ _ _ _ (T7.setTop (mkF m 47 #[.val (.ref a0), .val (.int p1), .val (.int (0 : Int32)), .val (.int wS)] [(.ref wA), (.int wS)]))
  obtain ⟨cl9, Ar9, q9, ll9, ff9, oo9⟩ := id H4
  have hz9 : cl9.slots.size.toInt32 = (16 : Int32) := by rw [lenb q9]; rw [hl]; rfl
  refine Goes.step (fun t k => X7.arraylength hx (by rw [e7]; exact Ar9.1) (State.isArrayOf_alike hZ.alike Ar9.2.1) (g := (mkF m 47 #[.val (.ref a0), .val (.int p1), .val (.int (0 : Int32)), .val (.int wS)] [(.ref wA), (.int wS)])) rfl rfl (hb hby own_d3_47) t k) ?_
  show Goes _ _ _ _ _ _ _ (T7.setTop (mkF m 48 #[.val (.ref a0), .val (.int p1), .val (.int (0 : Int32)), .val (.int wS)] [(.int cl9.slots.size.toInt32), (.int wS)]))
  rw [hz9]
  show Goes _ _ _ _ _ _ _ (T7.setTop (mkF m 48 #[.val (.ref a0), .val (.int p1), .val (.int (0 : Int32)), .val (.int wS)] [(.int (16 : Int32)), (.int wS)]))
  have hc48_10 : ¬ (wS = (16 : Int32)) := by exact own_ne16 _ hS
  refine Goes.step (fun t k => XS.icmpYes X7.here hx rfl (pc0 := 48) (pc' := 72) rfl (hb hby own_d3_48) rfl (feq hc48_10).2 (by decide) (by decide) k) ?_
  show Goes _ _ _ _ _ _ _ (T7.setTop (mkF m 72 #[.val (.ref a0), .val (.int p1), .val (.int (0 : Int32)), .val (.int wS)] []))
  refine Goes.step (fun t k => XS.iloadN X7.here hx rfl (hb hby own_d3_72) rfl k) ?_
  show Goes _ _ _ _ _ _ _ (T7.setTop (mkF m 73 #[.val (.ref a0), .val (.int p1), .val (.int (0 : Int32)), .val (.int wS)] [(.int (0 : Int32))]))
  refine Goes.step (fun t k => XS.aloadN X7.here hx rfl (hb hby own_d3_73) rfl rfl k) ?_
  show Goes _ _ _ _ _ _ _ (T7.setTop (mkF m 74 #[.val (.ref a0), .val (.int p1), .val (.int (0 : Int32)), .val (.int wS)] [(.ref a0), (.int (0 : Int32))]))
  obtain ⟨T11, X11, e11, st11⟩ := getF X7 hx hZ hown (host := "") (Or.inl (hw _ (List.mem_of_getElem? (i := 13) rfl))) Via.refl e7 H1 (g := (mkF m 74 #[.val (.ref a0), .val (.int p1), .val (.int (0 : Int32)), .val (.int wS)] [(.ref a0), (.int (0 : Int32))])) rfl rfl (hb hby own_d3_74)
  refine Goes.step (fun t k => st11 t k) ?_
  show Goes _ _ _ _ _ _ _ (T11.setTop (mkF m 77 #[.val (.ref a0), .val (.int p1), .val (.int (0 : Int32)), .val (.int wS)] [(.ref wB), (.int (0 : Int32))]))
  obtain ⟨cl12, Ar12, q12, ll12, ff12, oo12⟩ := id H3
  have hz12 : cl12.slots.size.toInt32 = (1 : Int32) := by rw [lenb q12]; rfl
  refine Goes.step (fun t k => X11.arraylength hx (by rw [e11]; exact Ar12.1) (State.isArrayOf_alike hZ.alike Ar12.2.1) (g := (mkF m 77 #[.val (.ref a0), .val (.int p1), .val (.int (0 : Int32)), .val (.int wS)] [(.ref wB), (.int (0 : Int32))])) rfl rfl (hb hby own_d3_77) t k) ?_
  show Goes _ _ _ _ _ _ _ (T11.setTop (mkF m 78 #[.val (.ref a0), .val (.int p1), .val (.int (0 : Int32)), .val (.int wS)] [(.int cl12.slots.size.toInt32), (.int (0 : Int32))]))
  rw [hz12]
  show Goes _ _ _ _ _ _ _ (T11.setTop (mkF m 78 #[.val (.ref a0), .val (.int p1), .val (.int (0 : Int32)), .val (.int wS)] [(.int (1 : Int32)), (.int (0 : Int32))]))
  refine Goes.step (fun t k => XS.icmpYes X11.here hx rfl (pc0 := 78) (pc' := 102) rfl (hb hby own_d3_78) rfl (feq (by decide)).2 (by decide) (by decide) k) ?_
  show Goes _ _ _ _ _ _ _ (T11.setTop (mkF m 102 #[.val (.ref a0), .val (.int p1), .val (.int (0 : Int32)), .val (.int wS)] []))
  refine Goes.step (fun t k => XS.aloadN X11.here hx rfl (hb hby own_d3_102) rfl rfl k) ?_
  show Goes _ _ _ _ _ _ _ (T11.setTop (mkF m 103 #[.val (.ref a0), .val (.int p1), .val (.int (0 : Int32)), .val (.int wS)] [(.ref a0)]))
  obtain ⟨T14, X14, e14, st14⟩ := getF X11 hx hZ hown (host := "") (Or.inl (hw _ (List.mem_of_getElem? (i := 13) rfl))) Via.refl e11 H1 (g := (mkF m 103 #[.val (.ref a0), .val (.int p1), .val (.int (0 : Int32)), .val (.int wS)] [(.ref a0)])) rfl rfl (hb hby own_d3_103)
  refine Goes.step (fun t k => st14 t k) ?_
  show Goes _ _ _ _ _ _ _ (T14.setTop (mkF m 106 #[.val (.ref a0), .val (.int p1), .val (.int (0 : Int32)), .val (.int wS)] [(.ref wB)]))
  refine Goes.step (fun t k => XS.iloadN X14.here hx rfl (hb hby own_d3_106) rfl k) ?_
  show Goes _ _ _ _ _ _ _ (T14.setTop (mkF m 107 #[.val (.ref a0), .val (.int p1), .val (.int (0 : Int32)), .val (.int wS)] [(.int (0 : Int32)), (.ref wB)]))
  obtain ⟨cl15, Ar15, q15, ll15, ff15, oo15⟩ := id H3
  have hn15 : ¬ (0 : Int32) < 0 := by decide
  have hv15 : ([(.ref wA)] : List Value)[((0 : Int32)).toNatClampNeg]? = some (.ref wA) := by rfl
  refine Goes.step (fun t k => X14.aaload hx (j := (0 : Int32)) (v := (.ref wA)) (by rw [e14]; exact Ar15.1) (State.isArrayOf_alike hZ.alike Ar15.2.1) rfl Ar15.2.2 (inb q15 hn15 (ltb hv15)) (getb q15 hv15) (g := (mkF m 107 #[.val (.ref a0), .val (.int p1), .val (.int (0 : Int32)), .val (.int wS)] [(.int (0 : Int32)), (.ref wB)])) rfl rfl (hb hby own_d3_107) t k) ?_
  show Goes _ _ _ _ _ _ _ (T14.setTop (mkF m 108 #[.val (.ref a0), .val (.int p1), .val (.int (0 : Int32)), .val (.int wS)] [(.ref wA)]))
  refine Goes.step (fun t k => XS.ifnonnullYes X14.here hx rfl (pc0 := 108) (pc' := 122) rfl (hb hby own_d3_108) rfl (by decide) (by decide) k) ?_
  show Goes _ _ _ _ _ _ _ (T14.setTop (mkF m 122 #[.val (.ref a0), .val (.int p1), .val (.int (0 : Int32)), .val (.int wS)] []))
  refine Goes.step (fun t k => XS.aloadN X14.here hx rfl (hb hby own_d3_122) rfl rfl k) ?_
  show Goes _ _ _ _ _ _ _ (T14.setTop (mkF m 123 #[.val (.ref a0), .val (.int p1), .val (.int (0 : Int32)), .val (.int wS)] [(.ref a0)]))
  obtain ⟨T17, X17, e17, st17⟩ := getF X14 hx hZ hown (host := "") (Or.inl (hw _ (List.mem_of_getElem? (i := 13) rfl))) Via.refl e14 H1 (g := (mkF m 123 #[.val (.ref a0), .val (.int p1), .val (.int (0 : Int32)), .val (.int wS)] [(.ref a0)])) rfl rfl (hb hby own_d3_123)
  refine Goes.step (fun t k => st17 t k) ?_
  show Goes _ _ _ _ _ _ _ (T17.setTop (mkF m 126 #[.val (.ref a0), .val (.int p1), .val (.int (0 : Int32)), .val (.int wS)] [(.ref wB)]))
  refine Goes.step (fun t k => XS.iloadN X17.here hx rfl (hb hby own_d3_126) rfl k) ?_
  show Goes _ _ _ _ _ _ _ (T17.setTop (mkF m 127 #[.val (.ref a0), .val (.int p1), .val (.int (0 : Int32)), .val (.int wS)] [(.int (0 : Int32)), (.ref wB)]))
  obtain ⟨cl18, Ar18, q18, ll18, ff18, oo18⟩ := id H3
  have hn18 : ¬ (0 : Int32) < 0 := by decide
  have hv18 : ([(.ref wA)] : List Value)[((0 : Int32)).toNatClampNeg]? = some (.ref wA) := by rfl
  refine Goes.step (fun t k => X17.aaload hx (j := (0 : Int32)) (v := (.ref wA)) (by rw [e17]; exact Ar18.1) (State.isArrayOf_alike hZ.alike Ar18.2.1) rfl Ar18.2.2 (inb q18 hn18 (ltb hv18)) (getb q18 hv18) (g := (mkF m 127 #[.val (.ref a0), .val (.int p1), .val (.int (0 : Int32)), .val (.int wS)] [(.int (0 : Int32)), (.ref wB)])) rfl rfl (hb hby own_d3_127) t k) ?_
  show Goes _ _ _ _ _ _ _ (T17.setTop (mkF m 128 #[.val (.ref a0), .val (.int p1), .val (.int (0 : Int32)), .val (.int wS)] [(.ref wA)]))
  refine Goes.step (fun t k => XS.iloadN X17.here hx rfl (hb hby own_d3_128) rfl k) ?_
  show Goes _ _ _ _ _ _ _ (T17.setTop (mkF m 129 #[.val (.ref a0), .val (.int p1), .val (.int (0 : Int32)), .val (.int wS)] [(.int wS), (.ref wA)]))
  refine Goes.step (fun t k => XS.iloadN X17.here hx rfl (hb hby own_d3_129) rfl k) ?_
  show Goes _ _ _ _ _ _ _ (T17.setTop (mkF m 130 #[.val (.ref a0), .val (.int p1), .val (.int (0 : Int32)), .val (.int wS)] [(.int p1), (.int wS), (.ref wA)]))
  obtain ⟨cl19, Ar19, q19, ll19, ff19, oo19⟩ := id H4
  have hn19 : ¬ wS < 0 := by exact own_nn _ hS
  have hl19 : (wS).toNatClampNeg < (vs : List Value).length := by rw [hl]; exact own_lt _ hS
  obtain ⟨T19, h19, X19, e19, W19, st19⟩ := stI X17 hx hZ e17 Ar19 (j := wS) (inb q19 hn19 hl19) (g := (mkF m 130 #[.val (.ref a0), .val (.int p1), .val (.int (0 : Int32)), .val (.int wS)] [(.int p1), (.int wS), (.ref wA)])) rfl rfl (hb hby own_d3_130)
  have V19 : Ara Z h19 wA .int (vs.set (wS).toNatClampNeg (.int p1)) := Ara.same (j := wS) Ar19 q19 ll19 ff19 oo19 rfl W19
  have F20 := H0.wr W19
  have F21 := H1.other W19 (Or.inl n2)
  have F22 := H2.other W19 (Or.inl n2)
  have F23 := H3.other W19 n3
  have K19 := (Keep.refl h0 [a0, wA]).wr W19 (Or.inl (List.mem_of_getElem? (i := 1) rfl))
  have N19 := Fr.snoc X19 N0 g_wA
  have Z19 := Nat.le_trans Z0 (Nat.le_of_eq W19.size.symm)
  refine Goes.step (fun t k => st19 t k) ?_
  show Goes _ _ _ _ _ _ _ (T19.setTop (mkF m 131 #[.val (.ref a0), .val (.int p1), .val (.int (0 : Int32)), .val (.int wS)] []))
  refine Goes.step (fun t k => XS.aloadN X19.here hx rfl (hb hby own_d3_131) rfl rfl k) ?_
  show Goes _ _ _ _ _ _ _ (T19.setTop (mkF m 132 #[.val (.ref a0), .val (.int p1), .val (.int (0 : Int32)), .val (.int wS)] [(.ref a0)]))
  refine Goes.step (fun t k => XS.dup X19.here hx rfl (hb hby own_d3_132) rfl rfl k) ?_
  show Goes _ _ _ _ _ _ _ (T19.setTop (mkF m 133 #[.val (.ref a0), .val (.int p1), .val (.int (0 : Int32)), .val (.int wS)] [(.ref a0), (.ref a0)]))
  obtain ⟨T24, X24, e24, st24⟩ := getF X19 hx hZ hown (host := "") (Or.inl (hw _ (List.mem_of_getElem? (i := 20) rfl))) Via.refl e19 F22 (g := (mkF m 133 #[.val (.ref a0), .val (.int p1), .val (.int (0 : Int32)), .val (.int wS)] [(.ref a0), (.ref a0)])) rfl rfl (hb hby own_d3_133)
  refine Goes.step (fun t k => st24 t k) ?_
  show Goes _ _ _ _ _ _ _ (T24.setTop (mkF m 136 #[.val (.ref a0), .val (.int p1), .val (.int (0 : Int32)), .val (.int wS)] [(.int wS), (.ref a0)]))
  refine Goes.step (fun t k => XS.iconst X24.here hx rfl (hb hby own_d3_136) k) ?_
  show Goes _ _ _ _ _ _ _ (T24.setTop (mkF m 137 #[.val (.ref a0), .val (.int p1), .val (.int (0 : Int32)), .val (.int wS)] [(.int (1 : Int32)), (.int wS), (.ref a0)]))
  refine Goes.step (fun t k => XS.iadd X24.here hx rfl (hb hby own_d3_137) rfl k) ?_
  show Goes _ _ _ _ _ _ _ (T24.setTop (mkF m 138 #[.val (.ref a0), .val (.int p1), .val (.int (0 : Int32)), .val (.int wS)] [(.int (wS + (1 : Int32))), (.ref a0)]))
  obtain ⟨T25, h25, X25, e25, W25, st25⟩ := putF X24 hx hZ hown (host := "") (Or.inl (hw _ (List.mem_of_getElem? (i := 20) rfl))) Via.refl e24 F22 F20 (Or.inl (hw _ (List.mem_of_getElem? (i := 21) rfl))) (hw _ (List.mem_of_getElem? (i := 1) rfl)) (ty := .int) (by decide) rfl rfl (g := (mkF m 138 #[.val (.ref a0), .val (.int p1), .val (.int (0 : Int32)), .val (.int wS)] [(.int (wS + (1 : Int32))), (.ref a0)])) rfl rfl (hb hby own_d3_138)
  have Fw25 := F22.same W25
  have F26 := F20.wr W25
  have F27 := F21.other W25 (Or.inr (slot_ne (Or.inl (hw _ (List.mem_of_getElem? (i := 14) rfl))) (Or.inl (hw _ (List.mem_of_getElem? (i := 21) rfl))) (by decide) (t := (.array (.array .int))) (t' := .int) (by decide) (by decide)))
  have F28 := F23.other W25 (Ne.symm n1)
  have F29 := V19.other W25 (Ne.symm n2)
  have K25 := K19.wr W25 (Or.inl (List.mem_of_getElem? (i := 0) rfl))
  have N25 := Fr.snoc X25 N19 g_a0
  have Z25 := Nat.le_trans Z19 (Nat.le_of_eq W25.size.symm)
  refine Goes.step (fun t k => st25 t k) ?_
  show Goes _ _ _ _ _ _ _ (T25.setTop (mkF m 141 #[.val (.ref a0), .val (.int p1), .val (.int (0 : Int32)), .val (.int wS)] []))
  exact Goes.retV X25 hx Bd.notSynchronized Bd.returns (hb hby own_d3_141) (by rw [e25]; exact ⟨rfl, N25, K25, F26, F27, Fw25, F28, F29⟩) (by decide) (by decide)
def f4 (wS : Int32) : Int32 := wS
theorem own_d4_0 : decode prog_12_method_3_code 0 = .ok (.aload_n 0, 1) := by decide +kernel
theorem own_d4_1 : decode prog_12_method_3_code 1 = .ok (.getfield 15, 3) := by decide +kernel
theorem own_d4_4 : decode prog_12_method_3_code 4 = .ok (.ireturn, 1) := by decide +kernel
theorem own_ef4 (m : MethodId) (a0 : Addr) : entryFrame m #[(.ref a0)] 1 = mkF m 0 #[.val (.ref a0)] [] := by first | (simp [entryFrame, mkF, argsToLocals, Value.category, maxLocals]; done) | rfl
abbrev RM4 : Room := ({ frames := 0, cells := 0, slots := 0, locals := 0 } : Room)
abbrev kC4 : Nat := 0
abbrev kS4 : Nat := 0
def Q4 (Z : State) (a0 : Addr) (wS : Int32) (h0 : Heap) (v : Option Value) (h : Heap) (L : List Loc) : Prop := v = some (.int (f4 wS)) ∧ L = [] ∧ h = h0
set_option maxRecDepth 65536 in
set_option maxHeartbeats 40000000 in
theorem rm4 (l : Launch) (Z : State) (tA : Array Value) (hw : ∀ d ∈ tables_1, d.before tA Z = true) (ws : List Jvm.Cond) (a0 : Addr) (wS : Int32) (h0 : Heap) (H0 : Fld Z h0 a0 "com/example/twag/twag/parity/IntSequence" "size" "I" (.int wS)) :
    MetFree l (⟨"com/example/twag/twag/parity/IntSequence", "size", "()I"⟩ : MethodName) (head1 (Jvm.Cond.code (⟨"com/example/twag/twag/parity/IntSequence", "size", "()I"⟩ : MethodName) prog_12_method_3_code 1 (some .int) :: ws) RM4) (fun a U => a = #[(.ref a0)] ∧ Z.Warmed39 U.vm ∧ U.heap = h0) (fun _ _ _ _ _ => True) (fun _ U o U' => ∃ v L, o = .returned v ∧ Q4 Z a0 wS h0 v U'.heap L ∧ FrameEnd U o U' L RM4.cells RM4.slots) := by
  refine MetFree.of_bodySF (plainFor_of_name own_pn0) hisR ?_
  intro p e s m args below meth c s₁ Bd hml0 hP hK
  obtain ⟨rfl, hZ, hh⟩ := hP
  have hx := Bd.exec
  have hby := Bd.bytes
  have hml : c.maxLocals = 1 := hml0
  have hown : s.vm.findClass "com/example/twag/twag/parity/IntSequence" = some m.cls := findClass_of_methodNamed Bd.named
  have hnm := (name_of_methodNamed Bd.named Bd.method).1
  have X0 : Stand p l e RM4 s m #[(.ref a0)] below meth c s₁ [] 0 0 := Stand.of_body Bd
  have e0 : s₁.heap = h0 := by rw [← hh, Bd.state]; rfl
  show Goes p e below s (Q4 Z a0 wS h0) kC4 kS4 (s₁.setTop (entryFrame m #[(.ref a0)] 1))
  refine Goes.step (fun t k => castTop (own_ef4 m a0) k) ?_
  show Goes _ _ _ _ _ _ _ (s₁.setTop (mkF m 0 #[.val (.ref a0)] []))
  refine Goes.step (fun t k => XS.aloadN X0.here hx rfl (hb hby own_d4_0) rfl rfl k) ?_
  show Goes _ _ _ _ _ _ _ (s₁.setTop (mkF m 1 #[.val (.ref a0)] [(.ref a0)]))
  obtain ⟨T1, X1, e1, st1⟩ := getF X0 hx hZ hown (host := "") (Or.inl (hw _ (List.mem_of_getElem? (i := 20) rfl))) Via.refl e0 H0 (g := (mkF m 1 #[.val (.ref a0)] [(.ref a0)])) rfl rfl (hb hby own_d4_1)
  refine Goes.step (fun t k => st1 t k) ?_
  show Goes _ _ _ _ _ _ _ (T1.setTop (mkF m 4 #[.val (.ref a0)] [(.int wS)]))
  exact Goes.retI X1 hx Bd.notSynchronized (r := (f4 wS)) Bd.returns (hb hby own_d4_4) rfl ⟨rfl, rfl, e1⟩ (by decide) (by decide)
def f5 (u : Int32) : Int32 := u
theorem own_d5_0 : decode prog_12_method_4_code 0 = .ok (.aload_n 0, 1) := by decide +kernel
theorem own_d5_1 : decode prog_12_method_4_code 1 = .ok (.getfield 11, 3) := by decide +kernel
theorem own_d5_4 : decode prog_12_method_4_code 4 = .ok (.iload_n 1, 1) := by decide +kernel
theorem own_d5_5 : decode prog_12_method_4_code 5 = .ok (.bipush 13, 2) := by decide +kernel
theorem own_d5_7 : decode prog_12_method_4_code 7 = .ok (.iushr, 1) := by decide +kernel
theorem own_d5_8 : decode prog_12_method_4_code 8 = .ok (.aaload, 1) := by decide +kernel
theorem own_d5_9 : decode prog_12_method_4_code 9 = .ok (.iload_n 1, 1) := by decide +kernel
theorem own_d5_10 : decode prog_12_method_4_code 10 = .ok (.sipush 8191, 3) := by decide +kernel
theorem own_d5_13 : decode prog_12_method_4_code 13 = .ok (.iand, 1) := by decide +kernel
theorem own_d5_14 : decode prog_12_method_4_code 14 = .ok (.iaload, 1) := by decide +kernel
theorem own_d5_15 : decode prog_12_method_4_code 15 = .ok (.ireturn, 1) := by decide +kernel
theorem own_ef5 (m : MethodId) (a0 : Addr) (p1 : Int32) : entryFrame m #[(.ref a0), (.int p1)] 2 = mkF m 0 #[.val (.ref a0), .val (.int p1)] [] := by first | (simp [entryFrame, mkF, argsToLocals, Value.category, maxLocals]; done) | rfl
abbrev RM5 : Room := ({ frames := 0, cells := 0, slots := 0, locals := 0 } : Room)
abbrev kC5 : Nat := 0
abbrev kS5 : Nat := 0
def Q5 (Z : State) (a0 : Addr) (p1 : Int32) (wB : Addr) (wA : Addr) (vs : List Value) (u : Int32) (h0 : Heap) (v : Option Value) (h : Heap) (L : List Loc) : Prop := v = some (.int (f5 u)) ∧ L = [] ∧ h = h0
set_option maxRecDepth 65536 in
set_option maxHeartbeats 40000000 in
theorem rm5 (l : Launch) (Z : State) (tA : Array Value) (hw : ∀ d ∈ tables_1, d.before tA Z = true) (ws : List Jvm.Cond) (a0 : Addr) (p1 : Int32) (wB : Addr) (wA : Addr) (vs : List Value) (u : Int32) (h0 : Heap) (H0 : Fld Z h0 a0 "com/example/twag/twag/parity/IntSequence" "blocks" "[[I" (.ref wB)) (H1 : Ara Z h0 wB (.array .int) [(.ref wA)]) (H2 : Ara Z h0 wA .int vs) (hS : 0 ≤ p1.toInt ∧ p1.toInt < 16) (hu : vs[p1.toNatClampNeg]? = some (.int u)) :
    MetFree l (⟨"com/example/twag/twag/parity/IntSequence", "get", "(I)I"⟩ : MethodName) (head1 (Jvm.Cond.code (⟨"com/example/twag/twag/parity/IntSequence", "get", "(I)I"⟩ : MethodName) prog_12_method_4_code 2 (some .int) :: ws) RM5) (fun a U => a = #[(.ref a0), (.int p1)] ∧ Z.Warmed39 U.vm ∧ U.heap = h0) (fun _ _ _ _ _ => True) (fun _ U o U' => ∃ v L, o = .returned v ∧ Q5 Z a0 p1 wB wA vs u h0 v U'.heap L ∧ FrameEnd U o U' L RM5.cells RM5.slots) := by
  refine MetFree.of_bodySF (plainFor_of_name own_pn0) hisR ?_
  intro p e s m args below meth c s₁ Bd hml0 hP hK
  obtain ⟨rfl, hZ, hh⟩ := hP
  have hx := Bd.exec
  have hby := Bd.bytes
  have hml : c.maxLocals = 2 := hml0
  have hown : s.vm.findClass "com/example/twag/twag/parity/IntSequence" = some m.cls := findClass_of_methodNamed Bd.named
  have hnm := (name_of_methodNamed Bd.named Bd.method).1
  have X0 : Stand p l e RM5 s m #[(.ref a0), (.int p1)] below meth c s₁ [] 0 0 := Stand.of_body Bd
  have e0 : s₁.heap = h0 := by rw [← hh, Bd.state]; rfl
  show Goes p e below s (Q5 Z a0 p1 wB wA vs u h0) kC5 kS5 (s₁.setTop (entryFrame m #[(.ref a0), (.int p1)] 2))
  refine Goes.step (fun t k => castTop (own_ef5 m a0 p1) k) ?_
  show Goes _ _ _ _ _ _ _ (s₁.setTop (mkF m 0 #[.val (.ref a0), .val (.int p1)] []))
  refine Goes.step (fun t k => XS.aloadN X0.here hx rfl (hb hby own_d5_0) rfl rfl k) ?_
  show Goes _ _ _ _ _ _ _ (s₁.setTop (mkF m 1 #[.val (.ref a0), .val (.int p1)] [(.ref a0)]))
  obtain ⟨T1, X1, e1, st1⟩ := getF X0 hx hZ hown (host := "") (Or.inl (hw _ (List.mem_of_getElem? (i := 13) rfl))) Via.refl e0 H0 (g := (mkF m 1 #[.val (.ref a0), .val (.int p1)] [(.ref a0)])) rfl rfl (hb hby own_d5_1)
  refine Goes.step (fun t k => st1 t k) ?_
  show Goes _ _ _ _ _ _ _ (T1.setTop (mkF m 4 #[.val (.ref a0), .val (.int p1)] [(.ref wB)]))
  refine Goes.step (fun t k => XS.iloadN X1.here hx rfl (hb hby own_d5_4) rfl k) ?_
  show Goes _ _ _ _ _ _ _ (T1.setTop (mkF m 5 #[.val (.ref a0), .val (.int p1)] [(.int p1), (.ref wB)]))
  refine Goes.step (fun t k => XS.bipush X1.here hx rfl (hb hby own_d5_5) k) ?_
  show Goes _ _ _ _ _ _ _ (T1.setTop (mkF m 7 #[.val (.ref a0), .val (.int p1)] [(.int (13 : Int32)), (.int p1), (.ref wB)]))
  refine Goes.step (fun t k => XS.iushr X1.here hx rfl (hb hby own_d5_7) rfl k) ?_
  show Goes _ _ _ _ _ _ _ (T1.setTop (mkF m 8 #[.val (.ref a0), .val (.int p1)] [(.int ((p1.toUInt32 >>> ((13 : Int32) &&& 31).toUInt32).toInt32)), (.ref wB)]))
  obtain ⟨cl2, Ar2, q2, ll2, ff2, oo2⟩ := id H1
  have hn2 : ¬ ((p1.toUInt32 >>> ((13 : Int32) &&& 31).toUInt32).toInt32) < 0 := by rw [own_sh _ hS]; decide
  have hv2 : ([(.ref wA)] : List Value)[(((p1.toUInt32 >>> ((13 : Int32) &&& 31).toUInt32).toInt32)).toNatClampNeg]? = some (.ref wA) := by rw [own_sh _ hS]; rfl
  refine Goes.step (fun t k => X1.aaload hx (j := ((p1.toUInt32 >>> ((13 : Int32) &&& 31).toUInt32).toInt32)) (v := (.ref wA)) (by rw [e1]; exact Ar2.1) (State.isArrayOf_alike hZ.alike Ar2.2.1) rfl Ar2.2.2 (inb q2 hn2 (ltb hv2)) (getb q2 hv2) (g := (mkF m 8 #[.val (.ref a0), .val (.int p1)] [(.int ((p1.toUInt32 >>> ((13 : Int32) &&& 31).toUInt32).toInt32)), (.ref wB)])) rfl rfl (hb hby own_d5_8) t k) ?_
  show Goes _ _ _ _ _ _ _ (T1.setTop (mkF m 9 #[.val (.ref a0), .val (.int p1)] [(.ref wA)]))
  refine Goes.step (fun t k => XS.iloadN X1.here hx rfl (hb hby own_d5_9) rfl k) ?_
  show Goes _ _ _ _ _ _ _ (T1.setTop (mkF m 10 #[.val (.ref a0), .val (.int p1)] [(.int p1), (.ref wA)]))
  refine Goes.step (fun t k => XS.sipush X1.here hx rfl (hb hby own_d5_10) k) ?_
  show Goes _ _ _ _ _ _ _ (T1.setTop (mkF m 13 #[.val (.ref a0), .val (.int p1)] [(.int (8191 : Int32)), (.int p1), (.ref wA)]))
  refine Goes.step (fun t k => XS.iand X1.here hx rfl (hb hby own_d5_13) rfl k) ?_
  show Goes _ _ _ _ _ _ _ (T1.setTop (mkF m 14 #[.val (.ref a0), .val (.int p1)] [(.int (p1 &&& (8191 : Int32))), (.ref wA)]))
  obtain ⟨cl3, Ar3, q3, ll3, ff3, oo3⟩ := id H2
  have hn3 : ¬ (p1 &&& (8191 : Int32)) < 0 := by rw [own_an _ hS]; exact own_nn _ hS
  have hv3 : (vs : List Value)[((p1 &&& (8191 : Int32))).toNatClampNeg]? = some (.int u) := by rw [own_an _ hS]; exact hu
  refine Goes.step (fun t k => X1.iaload hx (j := (p1 &&& (8191 : Int32))) (v := (.int u)) (by rw [e1]; exact Ar3.1) (State.isArrayOf_alike hZ.alike Ar3.2.1) Ar3.2.2 (inb q3 hn3 (ltb hv3)) (getb q3 hv3) (g := (mkF m 14 #[.val (.ref a0), .val (.int p1)] [(.int (p1 &&& (8191 : Int32))), (.ref wA)])) rfl rfl (hb hby own_d5_14) t k) ?_
  show Goes _ _ _ _ _ _ _ (T1.setTop (mkF m 15 #[.val (.ref a0), .val (.int p1)] [(.int u)]))
  exact Goes.retI X1 hx Bd.notSynchronized (r := (f5 u)) Bd.returns (hb hby own_d5_15) rfl ⟨rfl, rfl, e1⟩ (by decide) (by decide)
set_option maxRecDepth 65536 in
set_option maxHeartbeats 4000000 in
theorem own_plain (p0 : Int32) (x12_0 : Int32) (x16_0 : Int32) (hx12_0 : x12_0 = (if (f4 ((0 : Int32) + (1 : Int32))) = (1 : Int32) then (1 : Int32) else (0 : Int32))) (hx16_0 : x16_0 = (if x12_0 = (0 : Int32) then (0 : Int32) else (if (f5 p0) = p0 then (1 : Int32) else (0 : Int32)))) : nar .boolean x16_0 = (1 : Int32) := by
  subst_vars; simp [f4, f5, nar]
set_option maxRecDepth 65536 in
set_option maxHeartbeats 4000000 in
theorem own_plain_2 (p0 : Int32) (p1 : Int32) (y30 : Int32) (x32_0 : Int32) (x36_0 : Int32) (x41_0 : Int32) (hy30 : (f4 (((0 : Int32) + (1 : Int32)) + (1 : Int32))) = y30) (hx32_0 : x32_0 = (if y30 = (2 : Int32) then (1 : Int32) else (0 : Int32))) (hx36_0 : x36_0 = (if x32_0 = (0 : Int32) then (0 : Int32) else (if (f5 p0) = p0 then (1 : Int32) else (0 : Int32)))) (hx41_0 : x41_0 = (if x36_0 = (0 : Int32) then (0 : Int32) else (if (f5 p1) = p1 then (1 : Int32) else (0 : Int32)))) : nar .boolean x41_0 = (1 : Int32) := by
  subst_vars; simp [f4, f5, nar]
set_option maxRecDepth 65536 in
set_option maxHeartbeats 4000000 in
theorem own_plain_3 (p0 : Int32) (p1 : Int32) (p2 : Int32) (y55 : Int32) (x57_0 : Int32) (x61_0 : Int32) (x66_0 : Int32) (x71_0 : Int32) (hy55 : (f4 ((((0 : Int32) + (1 : Int32)) + (1 : Int32)) + (1 : Int32))) = y55) (hx57_0 : x57_0 = (if y55 = (3 : Int32) then (1 : Int32) else (0 : Int32))) (hx61_0 : x61_0 = (if x57_0 = (0 : Int32) then (0 : Int32) else (if (f5 p0) = p0 then (1 : Int32) else (0 : Int32)))) (hx66_0 : x66_0 = (if x61_0 = (0 : Int32) then (0 : Int32) else (if (f5 p1) = p1 then (1 : Int32) else (0 : Int32)))) (hx71_0 : x71_0 = (if x66_0 = (0 : Int32) then (0 : Int32) else (if (f5 p2) = p2 then (1 : Int32) else (0 : Int32)))) : nar .boolean x71_0 = (1 : Int32) := by
  subst_vars; simp [f4, f5, nar]
set_option maxRecDepth 65536 in
set_option maxHeartbeats 4000000 in
theorem own_plain_4 (p0 : Int32) (p1 : Int32) (p2 : Int32) (p3 : Int32) (y85 : Int32) (x87_0 : Int32) (x91_0 : Int32) (x96_0 : Int32) (x101_0 : Int32) (x106_0 : Int32) (hy85 : (f4 (((((0 : Int32) + (1 : Int32)) + (1 : Int32)) + (1 : Int32)) + (1 : Int32))) = y85) (hx87_0 : x87_0 = (if y85 = (4 : Int32) then (1 : Int32) else (0 : Int32))) (hx91_0 : x91_0 = (if x87_0 = (0 : Int32) then (0 : Int32) else (if (f5 p0) = p0 then (1 : Int32) else (0 : Int32)))) (hx96_0 : x96_0 = (if x91_0 = (0 : Int32) then (0 : Int32) else (if (f5 p1) = p1 then (1 : Int32) else (0 : Int32)))) (hx101_0 : x101_0 = (if x96_0 = (0 : Int32) then (0 : Int32) else (if (f5 p2) = p2 then (1 : Int32) else (0 : Int32)))) (hx106_0 : x106_0 = (if x101_0 = (0 : Int32) then (0 : Int32) else (if (f5 p3) = p3 then (1 : Int32) else (0 : Int32)))) : nar .boolean x106_0 = (1 : Int32) := by
  subst_vars; simp [f4, f5, nar]
theorem own_ef0 (m : MethodId) (p0 : Int32) (p1 : Int32) (p2 : Int32) (p3 : Int32) (p4 : Int32) : entryFrame m #[(.int p0), (.int p1), (.int p2), (.int p3), (.int p4)] maxLocals = mkF m 0 #[.val (.int p0), .val (.int p1), .val (.int p2), .val (.int p3), .val (.int p4), .unset, .unset, .unset] [] := by first | (simp [entryFrame, mkF, argsToLocals, Value.category, maxLocals]; done) | rfl
abbrev kC0 : Nat := 3
abbrev kS0 : Nat := 19
def Q0 (Z : State) (p0 : Int32) (p1 : Int32) (p2 : Int32) (p3 : Int32) (p4 : Int32) (h0 : Heap) (n0 : Nat) (v : Option Value) (h : Heap) (L : List Loc) : Prop := v = some (.int 1) ∧ Fr n0 L
set_option maxRecDepth 65536 in
set_option maxHeartbeats 40000000 in
theorem rm0 (l : Launch) (Z : State) (tA : Array Value) (hw : ∀ d ∈ tables_1, d.before tA Z = true) (ws : List Jvm.Cond) (p0 : Int32) (p1 : Int32) (p2 : Int32) (p3 : Int32) (p4 : Int32) (h0 : Heap) (n0 : Nat) (Z0 : n0 ≤ h0.size)  :
    MetFree l x (head1 (Jvm.Cond.code x code maxLocals ret :: ws) room_1) (fun a U => a = #[(.int p0), (.int p1), (.int p2), (.int p3), (.int p4)] ∧ Z.Warmed39 U.vm ∧ U.heap = h0) (fun _ _ _ _ _ => True) (fun _ U o U' => ∃ v L, o = .returned v ∧ Q0 Z p0 p1 p2 p3 p4 h0 n0 v U'.heap L ∧ FrameEnd U o U' L kC0 kS0) := by
  refine MetFree.of_bodySF (plainFor_of_name own_pn1) hisR ?_
  intro p e s m args below meth c s₁ Bd hml0 hP hK
  obtain ⟨rfl, hZ, hh⟩ := hP
  have hx := Bd.exec
  have hby := Bd.bytes
  have hml : c.maxLocals = 8 := hml0
  have hown : s.vm.findClass "com/example/twag/twag/parity/IntSequenceGetPinLaw" = some m.cls := findClass_of_methodNamed Bd.named
  have hnm := (name_of_methodNamed Bd.named Bd.method).1
  have X0 : Stand p l e room_1 s m #[(.int p0), (.int p1), (.int p2), (.int p3), (.int p4)] below meth c s₁ [] 0 0 := Stand.of_body Bd
  have e0 : s₁.heap = h0 := by rw [← hh, Bd.state]; rfl
  have N0 := Fr.nil n0
  show Goes p e below s (Q0 Z p0 p1 p2 p3 p4 h0 n0) kC0 kS0 (s₁.setTop (entryFrame m #[(.int p0), (.int p1), (.int p2), (.int p3), (.int p4)] maxLocals))
  refine Goes.step (fun t k => castTop (own_ef0 m p0 p1 p2 p3 p4) k) ?_
  show Goes _ _ _ _ _ _ _ (s₁.setTop (mkF m 0 #[.val (.int p0), .val (.int p1), .val (.int p2), .val (.int p3), .val (.int p4), .unset, .unset, .unset] []))
  refine Goes.step (fun t k => XS.iload X0.here hx rfl (hb hby at_0) rfl k) ?_
  show Goes _ _ _ _ _ _ _ (s₁.setTop (mkF m 2 #[.val (.int p0), .val (.int p1), .val (.int p2), .val (.int p3), .val (.int p4), .unset, .unset, .unset] [(.int p4)]))
  refine Goes.step (fun t k => XS.iconst X0.here hx rfl (hb hby at_2) k) ?_
  show Goes _ _ _ _ _ _ _ (s₁.setTop (mkF m 3 #[.val (.int p0), .val (.int p1), .val (.int p2), .val (.int p3), .val (.int p4), .unset, .unset, .unset] [(.int (3 : Int32)), (.int p4)]))
  refine Goes.step (fun t k => XS.iand X0.here hx rfl (hb hby at_3) rfl k) ?_
  show Goes _ _ _ _ _ _ _ (s₁.setTop (mkF m 4 #[.val (.int p0), .val (.int p1), .val (.int p2), .val (.int p3), .val (.int p4), .unset, .unset, .unset] [(.int (p4 &&& (3 : Int32)))]))
  refine Goes.step (fun t k => XS.iconst X0.here hx rfl (hb hby at_4) k) ?_
  show Goes _ _ _ _ _ _ _ (s₁.setTop (mkF m 5 #[.val (.int p0), .val (.int p1), .val (.int p2), .val (.int p3), .val (.int p4), .unset, .unset, .unset] [(.int (1 : Int32)), (.int (p4 &&& (3 : Int32)))]))
  refine Goes.step (fun t k => XS.iadd X0.here hx rfl (hb hby at_5) rfl k) ?_
  show Goes _ _ _ _ _ _ _ (s₁.setTop (mkF m 6 #[.val (.int p0), .val (.int p1), .val (.int p2), .val (.int p3), .val (.int p4), .unset, .unset, .unset] [(.int ((p4 &&& (3 : Int32)) + (1 : Int32)))]))
  refine Goes.step (fun t k => XS.istore X0.here hx rfl (hb hby at_6) rfl (l' := #[.val (.int p0), .val (.int p1), .val (.int p2), .val (.int p3), .val (.int p4), .val (.int ((p4 &&& (3 : Int32)) + (1 : Int32))), .unset, .unset]) rfl k) ?_
  show Goes _ _ _ _ _ _ _ (s₁.setTop (mkF m 8 #[.val (.int p0), .val (.int p1), .val (.int p2), .val (.int p3), .val (.int p4), .val (.int ((p4 &&& (3 : Int32)) + (1 : Int32))), .unset, .unset] []))
  generalize hy1 : ((p4 &&& (3 : Int32)) + (1 : Int32)) = y1
  have h4 := own_four p4
  rw [hy1] at h4
  rcases h4 with rfl | rfl | rfl | rfl
  · show Goes _ _ _ _ _ _ _ (s₁.setTop (mkF m 8 #[.val (.int p0), .val (.int p1), .val (.int p2), .val (.int p3), .val (.int p4), .val (.int (1 : Int32)), .unset, .unset] []))
    obtain ⟨T2, h2, X2, e2, E2, A2, D2, -, st2⟩ := newO X0 hx hZ hown (hw _ (List.mem_of_getElem? (i := 0) rfl)) (hw _ (List.mem_of_getElem? (i := 1) rfl)) (hw _ (List.mem_of_getElem? (i := 2) rfl)) e0 (g := (mkF m 8 #[.val (.int p0), .val (.int p1), .val (.int p2), .val (.int p3), .val (.int p4), .val (.int (1 : Int32)), .unset, .unset] [])) rfl (hb hby at_8) (by decide) (by decide)
    obtain ⟨b2, g2⟩ : ∃ z, z = h0.size := ⟨_, rfl⟩
    rw [← g2] at A2 D2 st2
    have Zs2 : n0 ≤ b2 := Nat.le_trans Z0 (Nat.le_of_eq g2.symm)
    have Zh2 : h0.size ≤ b2 := Nat.le_trans (Keep.refl h0 []).1 (Nat.le_of_eq g2.symm)
    have K2 := (Keep.refl h0 []).ext E2
    have Z2 := Nat.le_trans Z0 E2.1
    have F3 : Fld Z h2 b2 "com/example/twag/twag/parity/IntSequence" "blocks" "[[I" .null := D2 (Or.inl (hw _ (List.mem_of_getElem? (i := 14) rfl))) (ty := (.array (.array .int))) (by decide)
    have F4 : Fld Z h2 b2 "com/example/twag/twag/parity/IntSequence" "size" "I" (.int (0 : Int32)) := D2 (Or.inl (hw _ (List.mem_of_getElem? (i := 21) rfl))) (ty := .int) (by decide)
    refine Goes.step (fun t k => st2 t k) ?_
    show Goes _ _ _ _ _ _ _ (T2.setTop (mkF m 11 #[.val (.int p0), .val (.int p1), .val (.int p2), .val (.int p3), .val (.int p4), .val (.int (1 : Int32)), .unset, .unset] [(.ref b2)]))
    refine Goes.step (fun t k => XS.dup X2.here hx rfl (hb hby at_11) rfl rfl k) ?_
    show Goes _ _ _ _ _ _ _ (T2.setTop (mkF m 12 #[.val (.int p0), .val (.int p1), .val (.int p2), .val (.int p3), .val (.int p4), .val (.int (1 : Int32)), .unset, .unset] [(.ref b2), (.ref b2)]))
    obtain ⟨_, _, ⟨T5, L5, k5, n5⟩, -, X5, ⟨Lc5, hQ5, l5, y5, z5⟩, st5⟩ := X2.specialBack hx (y := (⟨"com/example/twag/twag/parity/IntSequence", "<init>", "()V"⟩ : MethodName)) rfl hown (mvT hZ (hw _ (List.mem_of_getElem? (i := 3) rfl))) (mvT hZ (hw _ (List.mem_of_getElem? (i := 4) rfl))) (mvT hZ (hw _ (List.mem_of_getElem? (i := 5) rfl))) (by decide) (backOf (W := 1) (rm1 l Z tA hw [] b2 h2 n0 Z2 A2 F3 F4 Zs2) hZ (hw _ (List.mem_of_getElem? (i := 5) rfl)) (hw _ (List.mem_of_getElem? (i := 2) rfl)) (by decide) (by decide)) (g := (mkF m 12 #[.val (.int p0), .val (.int p1), .val (.int p2), .val (.int p3), .val (.int p4), .val (.int (1 : Int32)), .unset, .unset] [(.ref b2), (.ref b2)])) rfl (by rw [hml]; rfl) (Steps.refl _) (a := b2) (argsL := []) (rest := [(.ref b2)]) (lenOf own_pd0 rfl) rfl (by show 2 * 0 + _ ≤ _; exact Nat.le_of_eq rfl) (hb hby at_12) (fun _ _ => ⟨rfl, e2, (by decide : 1 + 2 ≤ _), (by decide : 2 + 17 ≤ _)⟩)
    dsimp only [Pt.U, Pt.locs, Pt.cells, Pt.slots] at X5 l5 y5 z5 st5 hQ5
    subst l5 y5 z5
    generalize e5 : T5.heap = h5 at hQ5
    obtain ⟨r5_0, r5_1, rfl, Nq5, Kq5, Zf5_r5_0, Zf5_r5_1, Nf5_0, G5_0, G5_1, G5_2, G5_3, G5_4⟩ := hQ5
    have ne_b2_r5_0 : b2 ≠ r5_0 := Nat.ne_of_lt (Nat.lt_of_lt_of_le A2.lt Zf5_r5_0)
    have Zs5_r5_0 := Nat.le_trans Z2 Zf5_r5_0
    have Zh5_r5_0 := Nat.le_trans K2.1 Zf5_r5_0
    have ne_b2_r5_1 : b2 ≠ r5_1 := Nat.ne_of_lt (Nat.lt_of_lt_of_le A2.lt Zf5_r5_1)
    have Zs5_r5_1 := Nat.le_trans Z2 Zf5_r5_1
    have Zh5_r5_1 := Nat.le_trans K2.1 Zf5_r5_1
    have N5 := Fr.app N0 Nq5
    have K5 := K2.trans Kq5 (allS (Or.inr Zh2) all0)
    have Z5 := Nat.le_trans Z2 Kq5.1
    change Stand _ _ _ _ _ _ _ _ _ _ _ _ 3 19 at X5
    refine Goes.step (fun t k => st5.trans k) ?_
    show Goes _ _ _ _ _ _ _ (T5.setTop (mkF m 15 #[.val (.int p0), .val (.int p1), .val (.int p2), .val (.int p3), .val (.int p4), .val (.int (1 : Int32)), .unset, .unset] [(.ref b2)]))
    refine Goes.step (fun t k => XS.astore X5.here hx rfl (hb hby at_15) rfl rfl (l' := #[.val (.int p0), .val (.int p1), .val (.int p2), .val (.int p3), .val (.int p4), .val (.int (1 : Int32)), .val (.ref b2), .unset]) rfl k) ?_
    show Goes _ _ _ _ _ _ _ (T5.setTop (mkF m 17 #[.val (.int p0), .val (.int p1), .val (.int p2), .val (.int p3), .val (.int p4), .val (.int (1 : Int32)), .val (.ref b2), .unset] []))
    refine Goes.step (fun t k => XS.aload X5.here hx rfl (hb hby at_17) rfl rfl k) ?_
    show Goes _ _ _ _ _ _ _ (T5.setTop (mkF m 19 #[.val (.int p0), .val (.int p1), .val (.int p2), .val (.int p3), .val (.int p4), .val (.int (1 : Int32)), .val (.ref b2), .unset] [(.ref b2)]))
    refine Goes.step (fun t k => XS.iloadN X5.here hx rfl (hb hby at_19) rfl k) ?_
    show Goes _ _ _ _ _ _ _ (T5.setTop (mkF m 20 #[.val (.int p0), .val (.int p1), .val (.int p2), .val (.int p3), .val (.int p4), .val (.int (1 : Int32)), .val (.ref b2), .unset] [(.int p0), (.ref b2)]))
    obtain ⟨cq6, kq6, q6a, q6b, q6c⟩ := isOf hZ e5 G5_0
    obtain ⟨_, _, ⟨T6, L6, k6, n6⟩, -, X6, ⟨Lc6, hQ6, l6, y6, z6⟩, st6⟩ := X5.virtualBack hx (y := (⟨"com/example/twag/twag/parity/IntSequence", "add", "(I)V"⟩ : MethodName)) (z := (⟨"com/example/twag/twag/parity/IntSequence", "add", "(I)V"⟩ : MethodName)) hown (mvT hZ (hw _ (List.mem_of_getElem? (i := 15) rfl))) (mvT hZ (hw _ (List.mem_of_getElem? (i := 16) rfl))) (notFace_of_selects (args := #[]) (mvT hZ (hw _ (List.mem_of_getElem? (i := 18) rfl)))) (mvT hZ (hw _ (List.mem_of_getElem? (i := 18) rfl))) (mvT hZ (hw _ (List.mem_of_getElem? (i := 17) rfl))) (by decide) (backOf (W := 0) (rm3 l Z tA hw [] b2 p0 r5_0 r5_1 (0 : Int32) [(.int (0 : Int32)), (.int (0 : Int32)), (.int (0 : Int32)), (.int (0 : Int32)), (.int (0 : Int32)), (.int (0 : Int32)), (.int (0 : Int32)), (.int (0 : Int32)), (.int (0 : Int32)), (.int (0 : Int32)), (.int (0 : Int32)), (.int (0 : Int32)), (.int (0 : Int32)), (.int (0 : Int32)), (.int (0 : Int32)), (.int (0 : Int32))] h5 n0 Z5 G5_0 G5_1 G5_2 G5_3 G5_4 Zs2 Zs5_r5_1 ne_b2_r5_0 ne_b2_r5_1 Nf5_0 (by simp) (by decide)) hZ (hw _ (List.mem_of_getElem? (i := 19) rfl)) (hw _ (List.mem_of_getElem? (i := 2) rfl)) (by decide) (by decide)) q6a q6c (g := (mkF m 20 #[.val (.int p0), .val (.int p1), .val (.int p2), .val (.int p3), .val (.int p4), .val (.int (1 : Int32)), .val (.ref b2), .unset] [(.int p0), (.ref b2)])) rfl (by rw [hml]; rfl) (Steps.refl _) (argsL := [(.int p0)]) (rest := []) (lenOf own_pd1 rfl) rfl (by show 2 * 0 + _ ≤ _; exact Nat.le_of_eq rfl) (hb hby at_20) (fun _ _ => ⟨rfl, e5, (by decide : 3 + 0 ≤ _), (by decide : 19 + 0 ≤ _)⟩)
    dsimp only [Pt.U, Pt.locs, Pt.cells, Pt.slots] at X6 l6 y6 z6 st6 hQ6
    subst l6 y6 z6
    generalize e6 : T6.heap = h6 at hQ6
    obtain ⟨rfl, Nq6, Kq6, G6_0, G6_1, G6_2, G6_3, G6_4⟩ := hQ6
    have N6 := Fr.app N5 Nq6
    have K6 := K5.trans Kq6 (allS (Or.inr Zh2) (allS (Or.inr Zh5_r5_1) all0))
    have Z6 := Nat.le_trans Z5 Kq6.1
    change Stand _ _ _ _ _ _ _ _ _ _ _ _ 3 19 at X6
    refine Goes.step (fun t k => st6.trans k) ?_
    show Goes _ _ _ _ _ _ _ (T6.setTop (mkF m 23 #[.val (.int p0), .val (.int p1), .val (.int p2), .val (.int p3), .val (.int p4), .val (.int (1 : Int32)), .val (.ref b2), .unset] []))
    refine Goes.step (fun t k => XS.iload X6.here hx rfl (hb hby at_23) rfl k) ?_
    show Goes _ _ _ _ _ _ _ (T6.setTop (mkF m 25 #[.val (.int p0), .val (.int p1), .val (.int p2), .val (.int p3), .val (.int p4), .val (.int (1 : Int32)), .val (.ref b2), .unset] [(.int (1 : Int32))]))
    refine Goes.step (fun t k => XS.iconst X6.here hx rfl (hb hby at_25) k) ?_
    show Goes _ _ _ _ _ _ _ (T6.setTop (mkF m 26 #[.val (.int p0), .val (.int p1), .val (.int p2), .val (.int p3), .val (.int p4), .val (.int (1 : Int32)), .val (.ref b2), .unset] [(.int (2 : Int32)), (.int (1 : Int32))]))
    refine Goes.step (fun t k => XS.icmpYes X6.here hx rfl (pc0 := 26) (pc' := 35) rfl (hb hby at_26) rfl (tlt (by decide)).1 (by decide) (by decide) k) ?_
    show Goes _ _ _ _ _ _ _ (T6.setTop (mkF m 35 #[.val (.int p0), .val (.int p1), .val (.int p2), .val (.int p3), .val (.int p4), .val (.int (1 : Int32)), .val (.ref b2), .unset] []))
    refine Goes.step (fun t k => XS.iload X6.here hx rfl (hb hby at_35) rfl k) ?_
    show Goes _ _ _ _ _ _ _ (T6.setTop (mkF m 37 #[.val (.int p0), .val (.int p1), .val (.int p2), .val (.int p3), .val (.int p4), .val (.int (1 : Int32)), .val (.ref b2), .unset] [(.int (1 : Int32))]))
    refine Goes.step (fun t k => XS.iconst X6.here hx rfl (hb hby at_37) k) ?_
    show Goes _ _ _ _ _ _ _ (T6.setTop (mkF m 38 #[.val (.int p0), .val (.int p1), .val (.int p2), .val (.int p3), .val (.int p4), .val (.int (1 : Int32)), .val (.ref b2), .unset] [(.int (3 : Int32)), (.int (1 : Int32))]))
    refine Goes.step (fun t k => XS.icmpYes X6.here hx rfl (pc0 := 38) (pc' := 47) rfl (hb hby at_38) rfl (tlt (by decide)).1 (by decide) (by decide) k) ?_
    show Goes _ _ _ _ _ _ _ (T6.setTop (mkF m 47 #[.val (.int p0), .val (.int p1), .val (.int p2), .val (.int p3), .val (.int p4), .val (.int (1 : Int32)), .val (.ref b2), .unset] []))
    refine Goes.step (fun t k => XS.iload X6.here hx rfl (hb hby at_47) rfl k) ?_
    show Goes _ _ _ _ _ _ _ (T6.setTop (mkF m 49 #[.val (.int p0), .val (.int p1), .val (.int p2), .val (.int p3), .val (.int p4), .val (.int (1 : Int32)), .val (.ref b2), .unset] [(.int (1 : Int32))]))
    refine Goes.step (fun t k => XS.iconst X6.here hx rfl (hb hby at_49) k) ?_
    show Goes _ _ _ _ _ _ _ (T6.setTop (mkF m 50 #[.val (.int p0), .val (.int p1), .val (.int p2), .val (.int p3), .val (.int p4), .val (.int (1 : Int32)), .val (.ref b2), .unset] [(.int (4 : Int32)), (.int (1 : Int32))]))
    refine Goes.step (fun t k => XS.icmpYes X6.here hx rfl (pc0 := 50) (pc' := 59) rfl (hb hby at_50) rfl (tlt (by decide)).1 (by decide) (by decide) k) ?_
    show Goes _ _ _ _ _ _ _ (T6.setTop (mkF m 59 #[.val (.int p0), .val (.int p1), .val (.int p2), .val (.int p3), .val (.int p4), .val (.int (1 : Int32)), .val (.ref b2), .unset] []))
    refine Goes.step (fun t k => XS.aload X6.here hx rfl (hb hby at_59) rfl rfl k) ?_
    show Goes _ _ _ _ _ _ _ (T6.setTop (mkF m 61 #[.val (.int p0), .val (.int p1), .val (.int p2), .val (.int p3), .val (.int p4), .val (.int (1 : Int32)), .val (.ref b2), .unset] [(.ref b2)]))
    obtain ⟨cq10, kq10, q10a, q10b, q10c⟩ := isOf hZ e6 G6_0
    obtain ⟨_, _, ⟨T10, L10, k10, n10⟩, -, X10, ⟨Lc10, hQ10, l10, y10, z10⟩, st10⟩ := X6.virtualBack hx (y := (⟨"com/example/twag/twag/parity/IntSequence", "size", "()I"⟩ : MethodName)) (z := (⟨"com/example/twag/twag/parity/IntSequence", "size", "()I"⟩ : MethodName)) hown (mvT hZ (hw _ (List.mem_of_getElem? (i := 23) rfl))) (mvT hZ (hw _ (List.mem_of_getElem? (i := 24) rfl))) (notFace_of_selects (args := #[]) (mvT hZ (hw _ (List.mem_of_getElem? (i := 26) rfl)))) (mvT hZ (hw _ (List.mem_of_getElem? (i := 26) rfl))) (mvT hZ (hw _ (List.mem_of_getElem? (i := 25) rfl))) (by decide) (backOf (W := 0) (rm4 l Z tA hw [] b2 ((0 : Int32) + (1 : Int32)) h6 G6_2) hZ (hw _ (List.mem_of_getElem? (i := 27) rfl)) (hw _ (List.mem_of_getElem? (i := 2) rfl)) (by decide) (by decide)) q10a q10c (g := (mkF m 61 #[.val (.int p0), .val (.int p1), .val (.int p2), .val (.int p3), .val (.int p4), .val (.int (1 : Int32)), .val (.ref b2), .unset] [(.ref b2)])) rfl (by rw [hml]; rfl) (Steps.refl _) (argsL := []) (rest := []) (lenOf own_pd2 rfl) rfl (by show 2 * 0 + _ ≤ _; exact Nat.le_of_eq rfl) (hb hby at_61) (fun _ _ => ⟨rfl, e6, (by decide : 3 + 0 ≤ _), (by decide : 19 + 0 ≤ _)⟩)
    dsimp only [Pt.U, Pt.locs, Pt.cells, Pt.slots] at X10 l10 y10 z10 st10 hQ10
    subst l10 y10 z10
    obtain ⟨rfl, rfl, e10⟩ := hQ10
    try rw [List.append_nil] at X10
    change Stand _ _ _ _ _ _ _ _ _ _ _ _ 3 19 at X10
    refine Goes.step (fun t k => st10.trans k) ?_
    show Goes _ _ _ _ _ _ _ (T10.setTop (mkF m 64 #[.val (.int p0), .val (.int p1), .val (.int p2), .val (.int p3), .val (.int p4), .val (.int (1 : Int32)), .val (.ref b2), .unset] [(.int (f4 ((0 : Int32) + (1 : Int32))))]))
    refine Goes.step (fun t k => XS.iload X10.here hx rfl (hb hby at_64) rfl k) ?_
    show Goes _ _ _ _ _ _ _ (T10.setTop (mkF m 66 #[.val (.int p0), .val (.int p1), .val (.int p2), .val (.int p3), .val (.int p4), .val (.int (1 : Int32)), .val (.ref b2), .unset] [(.int (1 : Int32)), (.int (f4 ((0 : Int32) + (1 : Int32))))]))
    suffices k12 : ∀ (x12_0 : Int32), x12_0 = (if (f4 ((0 : Int32) + (1 : Int32))) = (1 : Int32) then (1 : Int32) else (0 : Int32)) → Goes p e below s (Q0 Z p0 p1 p2 p3 p4 h0 n0) kC0 kS0 (T10.setTop (mkF m 74 #[.val (.int p0), .val (.int p1), .val (.int p2), .val (.int p3), .val (.int p4), .val (.int (1 : Int32)), .val (.ref b2), .unset] [(.int x12_0)])) by
      by_cases hc66_11 : (f4 ((0 : Int32) + (1 : Int32))) = (1 : Int32)
      · refine Goes.step (fun t k => XS.icmpNo X10.here hx rfl (hb hby at_66) rfl (teq hc66_11).2 k) ?_
        show Goes _ _ _ _ _ _ _ (T10.setTop (mkF m 69 #[.val (.int p0), .val (.int p1), .val (.int p2), .val (.int p3), .val (.int p4), .val (.int (1 : Int32)), .val (.ref b2), .unset] []))
        refine Goes.step (fun t k => XS.iconst X10.here hx rfl (hb hby at_69) k) ?_
        show Goes _ _ _ _ _ _ _ (T10.setTop (mkF m 70 #[.val (.int p0), .val (.int p1), .val (.int p2), .val (.int p3), .val (.int p4), .val (.int (1 : Int32)), .val (.ref b2), .unset] [(.int (1 : Int32))]))
        refine Goes.step (fun t k => XS.goto X10.here hx rfl (pc0 := 70) (pc' := 74) rfl (hb hby at_70) (by decide) (by decide) k) ?_
        show Goes _ _ _ _ _ _ _ (T10.setTop (mkF m 74 #[.val (.int p0), .val (.int p1), .val (.int p2), .val (.int p3), .val (.int p4), .val (.int (1 : Int32)), .val (.ref b2), .unset] [(.int (1 : Int32))]))
        exact k12 _ (if_pos hc66_11).symm
      · refine Goes.step (fun t k => XS.icmpYes X10.here hx rfl (pc0 := 66) (pc' := 73) rfl (hb hby at_66) rfl (feq hc66_11).2 (by decide) (by decide) k) ?_
        show Goes _ _ _ _ _ _ _ (T10.setTop (mkF m 73 #[.val (.int p0), .val (.int p1), .val (.int p2), .val (.int p3), .val (.int p4), .val (.int (1 : Int32)), .val (.ref b2), .unset] []))
        refine Goes.step (fun t k => XS.iconst X10.here hx rfl (hb hby at_73) k) ?_
        show Goes _ _ _ _ _ _ _ (T10.setTop (mkF m 74 #[.val (.int p0), .val (.int p1), .val (.int p2), .val (.int p3), .val (.int p4), .val (.int (1 : Int32)), .val (.ref b2), .unset] [(.int (0 : Int32))]))
        exact k12 _ (if_neg hc66_11).symm
    intro x12_0 hx12_0
    refine Goes.step (fun t k => XS.istore X10.here hx rfl (hb hby at_74) rfl (l' := #[.val (.int p0), .val (.int p1), .val (.int p2), .val (.int p3), .val (.int p4), .val (.int (1 : Int32)), .val (.ref b2), .val (.int x12_0)]) rfl k) ?_
    show Goes _ _ _ _ _ _ _ (T10.setTop (mkF m 76 #[.val (.int p0), .val (.int p1), .val (.int p2), .val (.int p3), .val (.int p4), .val (.int (1 : Int32)), .val (.ref b2), .val (.int x12_0)] []))
    refine Goes.step (fun t k => XS.iload X10.here hx rfl (hb hby at_76) rfl k) ?_
    show Goes _ _ _ _ _ _ _ (T10.setTop (mkF m 78 #[.val (.int p0), .val (.int p1), .val (.int p2), .val (.int p3), .val (.int p4), .val (.int (1 : Int32)), .val (.ref b2), .val (.int x12_0)] [(.int x12_0)]))
    suffices k16 : ∀ (T16 : State) (L16 : List Loc) (x16_0 : Int32), Stand p l e room_1 s m #[(.int p0), (.int p1), (.int p2), (.int p3), (.int p4)] below meth c T16 L16 3 19 → T16.heap = h6 → Fr n0 L16 → x16_0 = (if x12_0 = (0 : Int32) then (0 : Int32) else (if (f5 p0) = p0 then (1 : Int32) else (0 : Int32))) → Goes p e below s (Q0 Z p0 p1 p2 p3 p4 h0 n0) kC0 kS0 (T16.setTop (mkF m 96 #[.val (.int p0), .val (.int p1), .val (.int p2), .val (.int p3), .val (.int p4), .val (.int (1 : Int32)), .val (.ref b2), .val (.int x12_0)] [(.int x16_0)])) by
      by_cases hc78_13 : x12_0 = (0 : Int32)
      · refine Goes.step (fun t k => XS.ifYes X10.here hx rfl (pc0 := 78) (pc' := 95) rfl (hb hby at_78) rfl ((if0 _ _).trans (teq hc78_13).1) (by decide) (by decide) k) ?_
        show Goes _ _ _ _ _ _ _ (T10.setTop (mkF m 95 #[.val (.int p0), .val (.int p1), .val (.int p2), .val (.int p3), .val (.int p4), .val (.int (1 : Int32)), .val (.ref b2), .val (.int x12_0)] []))
        refine Goes.step (fun t k => XS.iconst X10.here hx rfl (hb hby at_95) k) ?_
        show Goes _ _ _ _ _ _ _ (T10.setTop (mkF m 96 #[.val (.int p0), .val (.int p1), .val (.int p2), .val (.int p3), .val (.int p4), .val (.int (1 : Int32)), .val (.ref b2), .val (.int x12_0)] [(.int (0 : Int32))]))
        exact k16 _ _ _ X10 e10 N6 (if_pos hc78_13).symm
      · refine Goes.step (fun t k => XS.ifNo X10.here hx rfl (hb hby at_78) rfl ((if0 _ _).trans (feq hc78_13).1) k) ?_
        show Goes _ _ _ _ _ _ _ (T10.setTop (mkF m 81 #[.val (.int p0), .val (.int p1), .val (.int p2), .val (.int p3), .val (.int p4), .val (.int (1 : Int32)), .val (.ref b2), .val (.int x12_0)] []))
        refine Goes.step (fun t k => XS.aload X10.here hx rfl (hb hby at_81) rfl rfl k) ?_
        show Goes _ _ _ _ _ _ _ (T10.setTop (mkF m 83 #[.val (.int p0), .val (.int p1), .val (.int p2), .val (.int p3), .val (.int p4), .val (.int (1 : Int32)), .val (.ref b2), .val (.int x12_0)] [(.ref b2)]))
        refine Goes.step (fun t k => XS.iconst X10.here hx rfl (hb hby at_83) k) ?_
        show Goes _ _ _ _ _ _ _ (T10.setTop (mkF m 84 #[.val (.int p0), .val (.int p1), .val (.int p2), .val (.int p3), .val (.int p4), .val (.int (1 : Int32)), .val (.ref b2), .val (.int x12_0)] [(.int (0 : Int32)), (.ref b2)]))
        obtain ⟨cq14, kq14, q14a, q14b, q14c⟩ := isOf hZ e10 G6_0
        obtain ⟨_, _, ⟨T14, L14, k14, n14⟩, -, X14, ⟨Lc14, hQ14, l14, y14, z14⟩, st14⟩ := X10.virtualBack hx (y := (⟨"com/example/twag/twag/parity/IntSequence", "get", "(I)I"⟩ : MethodName)) (z := (⟨"com/example/twag/twag/parity/IntSequence", "get", "(I)I"⟩ : MethodName)) hown (mvT hZ (hw _ (List.mem_of_getElem? (i := 28) rfl))) (mvT hZ (hw _ (List.mem_of_getElem? (i := 29) rfl))) (notFace_of_selects (args := #[]) (mvT hZ (hw _ (List.mem_of_getElem? (i := 31) rfl)))) (mvT hZ (hw _ (List.mem_of_getElem? (i := 31) rfl))) (mvT hZ (hw _ (List.mem_of_getElem? (i := 30) rfl))) (by decide) (backOf (W := 0) (rm5 l Z tA hw [] b2 (0 : Int32) r5_0 r5_1 ([(.int (0 : Int32)), (.int (0 : Int32)), (.int (0 : Int32)), (.int (0 : Int32)), (.int (0 : Int32)), (.int (0 : Int32)), (.int (0 : Int32)), (.int (0 : Int32)), (.int (0 : Int32)), (.int (0 : Int32)), (.int (0 : Int32)), (.int (0 : Int32)), (.int (0 : Int32)), (.int (0 : Int32)), (.int (0 : Int32)), (.int (0 : Int32))].set ((0 : Int32)).toNatClampNeg (.int p0)) p0 h6 G6_1 G6_3 G6_4 (by decide) rfl) hZ (hw _ (List.mem_of_getElem? (i := 32) rfl)) (hw _ (List.mem_of_getElem? (i := 2) rfl)) (by decide) (by decide)) q14a q14c (g := (mkF m 84 #[.val (.int p0), .val (.int p1), .val (.int p2), .val (.int p3), .val (.int p4), .val (.int (1 : Int32)), .val (.ref b2), .val (.int x12_0)] [(.int (0 : Int32)), (.ref b2)])) rfl (by rw [hml]; rfl) (Steps.refl _) (argsL := [(.int (0 : Int32))]) (rest := []) (lenOf own_pd3 rfl) rfl (by show 2 * 0 + _ ≤ _; exact Nat.le_of_eq rfl) (hb hby at_84) (fun _ _ => ⟨rfl, e10, (by decide : 3 + 0 ≤ _), (by decide : 19 + 0 ≤ _)⟩)
        dsimp only [Pt.U, Pt.locs, Pt.cells, Pt.slots] at X14 l14 y14 z14 st14 hQ14
        subst l14 y14 z14
        obtain ⟨rfl, rfl, e14⟩ := hQ14
        try rw [List.append_nil] at X14
        change Stand _ _ _ _ _ _ _ _ _ _ _ _ 3 19 at X14
        refine Goes.step (fun t k => st14.trans k) ?_
        show Goes _ _ _ _ _ _ _ (T14.setTop (mkF m 87 #[.val (.int p0), .val (.int p1), .val (.int p2), .val (.int p3), .val (.int p4), .val (.int (1 : Int32)), .val (.ref b2), .val (.int x12_0)] [(.int (f5 p0))]))
        refine Goes.step (fun t k => XS.iloadN X14.here hx rfl (hb hby at_87) rfl k) ?_
        show Goes _ _ _ _ _ _ _ (T14.setTop (mkF m 88 #[.val (.int p0), .val (.int p1), .val (.int p2), .val (.int p3), .val (.int p4), .val (.int (1 : Int32)), .val (.ref b2), .val (.int x12_0)] [(.int p0), (.int (f5 p0))]))
        by_cases hc88_15 : (f5 p0) = p0
        · refine Goes.step (fun t k => XS.icmpNo X14.here hx rfl (hb hby at_88) rfl (teq hc88_15).2 k) ?_
          show Goes _ _ _ _ _ _ _ (T14.setTop (mkF m 91 #[.val (.int p0), .val (.int p1), .val (.int p2), .val (.int p3), .val (.int p4), .val (.int (1 : Int32)), .val (.ref b2), .val (.int x12_0)] []))
          refine Goes.step (fun t k => XS.iconst X14.here hx rfl (hb hby at_91) k) ?_
          show Goes _ _ _ _ _ _ _ (T14.setTop (mkF m 92 #[.val (.int p0), .val (.int p1), .val (.int p2), .val (.int p3), .val (.int p4), .val (.int (1 : Int32)), .val (.ref b2), .val (.int x12_0)] [(.int (1 : Int32))]))
          refine Goes.step (fun t k => XS.goto X14.here hx rfl (pc0 := 92) (pc' := 96) rfl (hb hby at_92) (by decide) (by decide) k) ?_
          show Goes _ _ _ _ _ _ _ (T14.setTop (mkF m 96 #[.val (.int p0), .val (.int p1), .val (.int p2), .val (.int p3), .val (.int p4), .val (.int (1 : Int32)), .val (.ref b2), .val (.int x12_0)] [(.int (1 : Int32))]))
          exact k16 _ _ _ X14 e14 N6 ((if_neg hc78_13).trans (if_pos hc88_15)).symm
        · refine Goes.step (fun t k => XS.icmpYes X14.here hx rfl (pc0 := 88) (pc' := 95) rfl (hb hby at_88) rfl (feq hc88_15).2 (by decide) (by decide) k) ?_
          show Goes _ _ _ _ _ _ _ (T14.setTop (mkF m 95 #[.val (.int p0), .val (.int p1), .val (.int p2), .val (.int p3), .val (.int p4), .val (.int (1 : Int32)), .val (.ref b2), .val (.int x12_0)] []))
          refine Goes.step (fun t k => XS.iconst X14.here hx rfl (hb hby at_95) k) ?_
          show Goes _ _ _ _ _ _ _ (T14.setTop (mkF m 96 #[.val (.int p0), .val (.int p1), .val (.int p2), .val (.int p3), .val (.int p4), .val (.int (1 : Int32)), .val (.ref b2), .val (.int x12_0)] [(.int (0 : Int32))]))
          exact k16 _ _ _ X14 e14 N6 ((if_neg hc78_13).trans (if_neg hc88_15)).symm
    intro T16 L16 x16_0 X16 e16 N16 hx16_0
    refine Goes.step (fun t k => XS.istore X16.here hx rfl (hb hby at_96) rfl (l' := #[.val (.int p0), .val (.int p1), .val (.int p2), .val (.int p3), .val (.int p4), .val (.int (1 : Int32)), .val (.ref b2), .val (.int x16_0)]) rfl k) ?_
    show Goes _ _ _ _ _ _ _ (T16.setTop (mkF m 98 #[.val (.int p0), .val (.int p1), .val (.int p2), .val (.int p3), .val (.int p4), .val (.int (1 : Int32)), .val (.ref b2), .val (.int x16_0)] []))
    refine Goes.step (fun t k => XS.iload X16.here hx rfl (hb hby at_98) rfl k) ?_
    show Goes _ _ _ _ _ _ _ (T16.setTop (mkF m 100 #[.val (.int p0), .val (.int p1), .val (.int p2), .val (.int p3), .val (.int p4), .val (.int (1 : Int32)), .val (.ref b2), .val (.int x16_0)] [(.int (1 : Int32))]))
    refine Goes.step (fun t k => XS.iconst X16.here hx rfl (hb hby at_100) k) ?_
    show Goes _ _ _ _ _ _ _ (T16.setTop (mkF m 101 #[.val (.int p0), .val (.int p1), .val (.int p2), .val (.int p3), .val (.int p4), .val (.int (1 : Int32)), .val (.ref b2), .val (.int x16_0)] [(.int (2 : Int32)), (.int (1 : Int32))]))
    refine Goes.step (fun t k => XS.icmpYes X16.here hx rfl (pc0 := 101) (pc' := 126) rfl (hb hby at_101) rfl (tlt (by decide)).1 (by decide) (by decide) k) ?_
    show Goes _ _ _ _ _ _ _ (T16.setTop (mkF m 126 #[.val (.int p0), .val (.int p1), .val (.int p2), .val (.int p3), .val (.int p4), .val (.int (1 : Int32)), .val (.ref b2), .val (.int x16_0)] []))
    refine Goes.step (fun t k => XS.iload X16.here hx rfl (hb hby at_126) rfl k) ?_
    show Goes _ _ _ _ _ _ _ (T16.setTop (mkF m 128 #[.val (.int p0), .val (.int p1), .val (.int p2), .val (.int p3), .val (.int p4), .val (.int (1 : Int32)), .val (.ref b2), .val (.int x16_0)] [(.int (1 : Int32))]))
    refine Goes.step (fun t k => XS.iconst X16.here hx rfl (hb hby at_128) k) ?_
    show Goes _ _ _ _ _ _ _ (T16.setTop (mkF m 129 #[.val (.int p0), .val (.int p1), .val (.int p2), .val (.int p3), .val (.int p4), .val (.int (1 : Int32)), .val (.ref b2), .val (.int x16_0)] [(.int (3 : Int32)), (.int (1 : Int32))]))
    refine Goes.step (fun t k => XS.icmpYes X16.here hx rfl (pc0 := 129) (pc' := 154) rfl (hb hby at_129) rfl (tlt (by decide)).1 (by decide) (by decide) k) ?_
    show Goes _ _ _ _ _ _ _ (T16.setTop (mkF m 154 #[.val (.int p0), .val (.int p1), .val (.int p2), .val (.int p3), .val (.int p4), .val (.int (1 : Int32)), .val (.ref b2), .val (.int x16_0)] []))
    refine Goes.step (fun t k => XS.iload X16.here hx rfl (hb hby at_154) rfl k) ?_
    show Goes _ _ _ _ _ _ _ (T16.setTop (mkF m 156 #[.val (.int p0), .val (.int p1), .val (.int p2), .val (.int p3), .val (.int p4), .val (.int (1 : Int32)), .val (.ref b2), .val (.int x16_0)] [(.int (1 : Int32))]))
    refine Goes.step (fun t k => XS.iconst X16.here hx rfl (hb hby at_156) k) ?_
    show Goes _ _ _ _ _ _ _ (T16.setTop (mkF m 157 #[.val (.int p0), .val (.int p1), .val (.int p2), .val (.int p3), .val (.int p4), .val (.int (1 : Int32)), .val (.ref b2), .val (.int x16_0)] [(.int (4 : Int32)), (.int (1 : Int32))]))
    refine Goes.step (fun t k => XS.icmpYes X16.here hx rfl (pc0 := 157) (pc' := 182) rfl (hb hby at_157) rfl (tlt (by decide)).1 (by decide) (by decide) k) ?_
    show Goes _ _ _ _ _ _ _ (T16.setTop (mkF m 182 #[.val (.int p0), .val (.int p1), .val (.int p2), .val (.int p3), .val (.int p4), .val (.int (1 : Int32)), .val (.ref b2), .val (.int x16_0)] []))
    refine Goes.step (fun t k => XS.iload X16.here hx rfl (hb hby at_182) rfl k) ?_
    show Goes _ _ _ _ _ _ _ (T16.setTop (mkF m 184 #[.val (.int p0), .val (.int p1), .val (.int p2), .val (.int p3), .val (.int p4), .val (.int (1 : Int32)), .val (.ref b2), .val (.int x16_0)] [(.int x16_0)]))
    exact Goes.retZ X16 hx Bd.notSynchronized (r := (1 : Int32)) Bd.returns (by simp) (hb hby at_184) (own_plain p0 x12_0 x16_0 hx12_0 hx16_0) ⟨rfl, N16⟩ (by decide) (by decide)
  · show Goes _ _ _ _ _ _ _ (s₁.setTop (mkF m 8 #[.val (.int p0), .val (.int p1), .val (.int p2), .val (.int p3), .val (.int p4), .val (.int (2 : Int32)), .unset, .unset] []))
    obtain ⟨T20, h20, X20, e20, E20, A20, D20, -, st20⟩ := newO X0 hx hZ hown (hw _ (List.mem_of_getElem? (i := 0) rfl)) (hw _ (List.mem_of_getElem? (i := 1) rfl)) (hw _ (List.mem_of_getElem? (i := 2) rfl)) e0 (g := (mkF m 8 #[.val (.int p0), .val (.int p1), .val (.int p2), .val (.int p3), .val (.int p4), .val (.int (2 : Int32)), .unset, .unset] [])) rfl (hb hby at_8) (by decide) (by decide)
    obtain ⟨b20, g20⟩ : ∃ z, z = h0.size := ⟨_, rfl⟩
    rw [← g20] at A20 D20 st20
    have Zs20 : n0 ≤ b20 := Nat.le_trans Z0 (Nat.le_of_eq g20.symm)
    have Zh20 : h0.size ≤ b20 := Nat.le_trans (Keep.refl h0 []).1 (Nat.le_of_eq g20.symm)
    have K20 := (Keep.refl h0 []).ext E20
    have Z20 := Nat.le_trans Z0 E20.1
    have F21 : Fld Z h20 b20 "com/example/twag/twag/parity/IntSequence" "blocks" "[[I" .null := D20 (Or.inl (hw _ (List.mem_of_getElem? (i := 14) rfl))) (ty := (.array (.array .int))) (by decide)
    have F22 : Fld Z h20 b20 "com/example/twag/twag/parity/IntSequence" "size" "I" (.int (0 : Int32)) := D20 (Or.inl (hw _ (List.mem_of_getElem? (i := 21) rfl))) (ty := .int) (by decide)
    refine Goes.step (fun t k => st20 t k) ?_
    show Goes _ _ _ _ _ _ _ (T20.setTop (mkF m 11 #[.val (.int p0), .val (.int p1), .val (.int p2), .val (.int p3), .val (.int p4), .val (.int (2 : Int32)), .unset, .unset] [(.ref b20)]))
    refine Goes.step (fun t k => XS.dup X20.here hx rfl (hb hby at_11) rfl rfl k) ?_
    show Goes _ _ _ _ _ _ _ (T20.setTop (mkF m 12 #[.val (.int p0), .val (.int p1), .val (.int p2), .val (.int p3), .val (.int p4), .val (.int (2 : Int32)), .unset, .unset] [(.ref b20), (.ref b20)]))
    obtain ⟨_, _, ⟨T23, L23, k23, n23⟩, -, X23, ⟨Lc23, hQ23, l23, y23, z23⟩, st23⟩ := X20.specialBack hx (y := (⟨"com/example/twag/twag/parity/IntSequence", "<init>", "()V"⟩ : MethodName)) rfl hown (mvT hZ (hw _ (List.mem_of_getElem? (i := 3) rfl))) (mvT hZ (hw _ (List.mem_of_getElem? (i := 4) rfl))) (mvT hZ (hw _ (List.mem_of_getElem? (i := 5) rfl))) (by decide) (backOf (W := 1) (rm1 l Z tA hw [] b20 h20 n0 Z20 A20 F21 F22 Zs20) hZ (hw _ (List.mem_of_getElem? (i := 5) rfl)) (hw _ (List.mem_of_getElem? (i := 2) rfl)) (by decide) (by decide)) (g := (mkF m 12 #[.val (.int p0), .val (.int p1), .val (.int p2), .val (.int p3), .val (.int p4), .val (.int (2 : Int32)), .unset, .unset] [(.ref b20), (.ref b20)])) rfl (by rw [hml]; rfl) (Steps.refl _) (a := b20) (argsL := []) (rest := [(.ref b20)]) (lenOf own_pd0 rfl) rfl (by show 2 * 0 + _ ≤ _; exact Nat.le_of_eq rfl) (hb hby at_12) (fun _ _ => ⟨rfl, e20, (by decide : 1 + 2 ≤ _), (by decide : 2 + 17 ≤ _)⟩)
    dsimp only [Pt.U, Pt.locs, Pt.cells, Pt.slots] at X23 l23 y23 z23 st23 hQ23
    subst l23 y23 z23
    generalize e23 : T23.heap = h23 at hQ23
    obtain ⟨r23_0, r23_1, rfl, Nq23, Kq23, Zf23_r23_0, Zf23_r23_1, Nf23_0, G23_0, G23_1, G23_2, G23_3, G23_4⟩ := hQ23
    have ne_b20_r23_0 : b20 ≠ r23_0 := Nat.ne_of_lt (Nat.lt_of_lt_of_le A20.lt Zf23_r23_0)
    have Zs23_r23_0 := Nat.le_trans Z20 Zf23_r23_0
    have Zh23_r23_0 := Nat.le_trans K20.1 Zf23_r23_0
    have ne_b20_r23_1 : b20 ≠ r23_1 := Nat.ne_of_lt (Nat.lt_of_lt_of_le A20.lt Zf23_r23_1)
    have Zs23_r23_1 := Nat.le_trans Z20 Zf23_r23_1
    have Zh23_r23_1 := Nat.le_trans K20.1 Zf23_r23_1
    have N23 := Fr.app N0 Nq23
    have K23 := K20.trans Kq23 (allS (Or.inr Zh20) all0)
    have Z23 := Nat.le_trans Z20 Kq23.1
    change Stand _ _ _ _ _ _ _ _ _ _ _ _ 3 19 at X23
    refine Goes.step (fun t k => st23.trans k) ?_
    show Goes _ _ _ _ _ _ _ (T23.setTop (mkF m 15 #[.val (.int p0), .val (.int p1), .val (.int p2), .val (.int p3), .val (.int p4), .val (.int (2 : Int32)), .unset, .unset] [(.ref b20)]))
    refine Goes.step (fun t k => XS.astore X23.here hx rfl (hb hby at_15) rfl rfl (l' := #[.val (.int p0), .val (.int p1), .val (.int p2), .val (.int p3), .val (.int p4), .val (.int (2 : Int32)), .val (.ref b20), .unset]) rfl k) ?_
    show Goes _ _ _ _ _ _ _ (T23.setTop (mkF m 17 #[.val (.int p0), .val (.int p1), .val (.int p2), .val (.int p3), .val (.int p4), .val (.int (2 : Int32)), .val (.ref b20), .unset] []))
    refine Goes.step (fun t k => XS.aload X23.here hx rfl (hb hby at_17) rfl rfl k) ?_
    show Goes _ _ _ _ _ _ _ (T23.setTop (mkF m 19 #[.val (.int p0), .val (.int p1), .val (.int p2), .val (.int p3), .val (.int p4), .val (.int (2 : Int32)), .val (.ref b20), .unset] [(.ref b20)]))
    refine Goes.step (fun t k => XS.iloadN X23.here hx rfl (hb hby at_19) rfl k) ?_
    show Goes _ _ _ _ _ _ _ (T23.setTop (mkF m 20 #[.val (.int p0), .val (.int p1), .val (.int p2), .val (.int p3), .val (.int p4), .val (.int (2 : Int32)), .val (.ref b20), .unset] [(.int p0), (.ref b20)]))
    obtain ⟨cq24, kq24, q24a, q24b, q24c⟩ := isOf hZ e23 G23_0
    obtain ⟨_, _, ⟨T24, L24, k24, n24⟩, -, X24, ⟨Lc24, hQ24, l24, y24, z24⟩, st24⟩ := X23.virtualBack hx (y := (⟨"com/example/twag/twag/parity/IntSequence", "add", "(I)V"⟩ : MethodName)) (z := (⟨"com/example/twag/twag/parity/IntSequence", "add", "(I)V"⟩ : MethodName)) hown (mvT hZ (hw _ (List.mem_of_getElem? (i := 15) rfl))) (mvT hZ (hw _ (List.mem_of_getElem? (i := 16) rfl))) (notFace_of_selects (args := #[]) (mvT hZ (hw _ (List.mem_of_getElem? (i := 18) rfl)))) (mvT hZ (hw _ (List.mem_of_getElem? (i := 18) rfl))) (mvT hZ (hw _ (List.mem_of_getElem? (i := 17) rfl))) (by decide) (backOf (W := 0) (rm3 l Z tA hw [] b20 p0 r23_0 r23_1 (0 : Int32) [(.int (0 : Int32)), (.int (0 : Int32)), (.int (0 : Int32)), (.int (0 : Int32)), (.int (0 : Int32)), (.int (0 : Int32)), (.int (0 : Int32)), (.int (0 : Int32)), (.int (0 : Int32)), (.int (0 : Int32)), (.int (0 : Int32)), (.int (0 : Int32)), (.int (0 : Int32)), (.int (0 : Int32)), (.int (0 : Int32)), (.int (0 : Int32))] h23 n0 Z23 G23_0 G23_1 G23_2 G23_3 G23_4 Zs20 Zs23_r23_1 ne_b20_r23_0 ne_b20_r23_1 Nf23_0 (by simp) (by decide)) hZ (hw _ (List.mem_of_getElem? (i := 19) rfl)) (hw _ (List.mem_of_getElem? (i := 2) rfl)) (by decide) (by decide)) q24a q24c (g := (mkF m 20 #[.val (.int p0), .val (.int p1), .val (.int p2), .val (.int p3), .val (.int p4), .val (.int (2 : Int32)), .val (.ref b20), .unset] [(.int p0), (.ref b20)])) rfl (by rw [hml]; rfl) (Steps.refl _) (argsL := [(.int p0)]) (rest := []) (lenOf own_pd1 rfl) rfl (by show 2 * 0 + _ ≤ _; exact Nat.le_of_eq rfl) (hb hby at_20) (fun _ _ => ⟨rfl, e23, (by decide : 3 + 0 ≤ _), (by decide : 19 + 0 ≤ _)⟩)
    dsimp only [Pt.U, Pt.locs, Pt.cells, Pt.slots] at X24 l24 y24 z24 st24 hQ24
    subst l24 y24 z24
    generalize e24 : T24.heap = h24 at hQ24
    obtain ⟨rfl, Nq24, Kq24, G24_0, G24_1, G24_2, G24_3, G24_4⟩ := hQ24
    have N24 := Fr.app N23 Nq24
    have K24 := K23.trans Kq24 (allS (Or.inr Zh20) (allS (Or.inr Zh23_r23_1) all0))
    have Z24 := Nat.le_trans Z23 Kq24.1
    change Stand _ _ _ _ _ _ _ _ _ _ _ _ 3 19 at X24
    refine Goes.step (fun t k => st24.trans k) ?_
    show Goes _ _ _ _ _ _ _ (T24.setTop (mkF m 23 #[.val (.int p0), .val (.int p1), .val (.int p2), .val (.int p3), .val (.int p4), .val (.int (2 : Int32)), .val (.ref b20), .unset] []))
    refine Goes.step (fun t k => XS.iload X24.here hx rfl (hb hby at_23) rfl k) ?_
    show Goes _ _ _ _ _ _ _ (T24.setTop (mkF m 25 #[.val (.int p0), .val (.int p1), .val (.int p2), .val (.int p3), .val (.int p4), .val (.int (2 : Int32)), .val (.ref b20), .unset] [(.int (2 : Int32))]))
    refine Goes.step (fun t k => XS.iconst X24.here hx rfl (hb hby at_25) k) ?_
    show Goes _ _ _ _ _ _ _ (T24.setTop (mkF m 26 #[.val (.int p0), .val (.int p1), .val (.int p2), .val (.int p3), .val (.int p4), .val (.int (2 : Int32)), .val (.ref b20), .unset] [(.int (2 : Int32)), (.int (2 : Int32))]))
    refine Goes.step (fun t k => XS.icmpNo X24.here hx rfl (hb hby at_26) rfl (flt (by decide)).1 k) ?_
    show Goes _ _ _ _ _ _ _ (T24.setTop (mkF m 29 #[.val (.int p0), .val (.int p1), .val (.int p2), .val (.int p3), .val (.int p4), .val (.int (2 : Int32)), .val (.ref b20), .unset] []))
    refine Goes.step (fun t k => XS.aload X24.here hx rfl (hb hby at_29) rfl rfl k) ?_
    show Goes _ _ _ _ _ _ _ (T24.setTop (mkF m 31 #[.val (.int p0), .val (.int p1), .val (.int p2), .val (.int p3), .val (.int p4), .val (.int (2 : Int32)), .val (.ref b20), .unset] [(.ref b20)]))
    refine Goes.step (fun t k => XS.iloadN X24.here hx rfl (hb hby at_31) rfl k) ?_
    show Goes _ _ _ _ _ _ _ (T24.setTop (mkF m 32 #[.val (.int p0), .val (.int p1), .val (.int p2), .val (.int p3), .val (.int p4), .val (.int (2 : Int32)), .val (.ref b20), .unset] [(.int p1), (.ref b20)]))
    obtain ⟨cq26, kq26, q26a, q26b, q26c⟩ := isOf hZ e24 G24_0
    obtain ⟨_, _, ⟨T26, L26, k26, n26⟩, -, X26, ⟨Lc26, hQ26, l26, y26, z26⟩, st26⟩ := X24.virtualBack hx (y := (⟨"com/example/twag/twag/parity/IntSequence", "add", "(I)V"⟩ : MethodName)) (z := (⟨"com/example/twag/twag/parity/IntSequence", "add", "(I)V"⟩ : MethodName)) hown (mvT hZ (hw _ (List.mem_of_getElem? (i := 15) rfl))) (mvT hZ (hw _ (List.mem_of_getElem? (i := 16) rfl))) (notFace_of_selects (args := #[]) (mvT hZ (hw _ (List.mem_of_getElem? (i := 18) rfl)))) (mvT hZ (hw _ (List.mem_of_getElem? (i := 18) rfl))) (mvT hZ (hw _ (List.mem_of_getElem? (i := 17) rfl))) (by decide) (backOf (W := 0) (rm3 l Z tA hw [] b20 p1 r23_0 r23_1 ((0 : Int32) + (1 : Int32)) ([(.int (0 : Int32)), (.int (0 : Int32)), (.int (0 : Int32)), (.int (0 : Int32)), (.int (0 : Int32)), (.int (0 : Int32)), (.int (0 : Int32)), (.int (0 : Int32)), (.int (0 : Int32)), (.int (0 : Int32)), (.int (0 : Int32)), (.int (0 : Int32)), (.int (0 : Int32)), (.int (0 : Int32)), (.int (0 : Int32)), (.int (0 : Int32))].set ((0 : Int32)).toNatClampNeg (.int p0)) h24 n0 Z24 G24_0 G24_1 G24_2 G24_3 G24_4 Zs20 Zs23_r23_1 ne_b20_r23_0 ne_b20_r23_1 Nf23_0 (by simp) (by decide)) hZ (hw _ (List.mem_of_getElem? (i := 19) rfl)) (hw _ (List.mem_of_getElem? (i := 2) rfl)) (by decide) (by decide)) q26a q26c (g := (mkF m 32 #[.val (.int p0), .val (.int p1), .val (.int p2), .val (.int p3), .val (.int p4), .val (.int (2 : Int32)), .val (.ref b20), .unset] [(.int p1), (.ref b20)])) rfl (by rw [hml]; rfl) (Steps.refl _) (argsL := [(.int p1)]) (rest := []) (lenOf own_pd1 rfl) rfl (by show 2 * 0 + _ ≤ _; exact Nat.le_of_eq rfl) (hb hby at_32) (fun _ _ => ⟨rfl, e24, (by decide : 3 + 0 ≤ _), (by decide : 19 + 0 ≤ _)⟩)
    dsimp only [Pt.U, Pt.locs, Pt.cells, Pt.slots] at X26 l26 y26 z26 st26 hQ26
    subst l26 y26 z26
    generalize e26 : T26.heap = h26 at hQ26
    obtain ⟨rfl, Nq26, Kq26, G26_0, G26_1, G26_2, G26_3, G26_4⟩ := hQ26
    have N26 := Fr.app N24 Nq26
    have K26 := K24.trans Kq26 (allS (Or.inr Zh20) (allS (Or.inr Zh23_r23_1) all0))
    have Z26 := Nat.le_trans Z24 Kq26.1
    change Stand _ _ _ _ _ _ _ _ _ _ _ _ 3 19 at X26
    refine Goes.step (fun t k => st26.trans k) ?_
    show Goes _ _ _ _ _ _ _ (T26.setTop (mkF m 35 #[.val (.int p0), .val (.int p1), .val (.int p2), .val (.int p3), .val (.int p4), .val (.int (2 : Int32)), .val (.ref b20), .unset] []))
    refine Goes.step (fun t k => XS.iload X26.here hx rfl (hb hby at_35) rfl k) ?_
    show Goes _ _ _ _ _ _ _ (T26.setTop (mkF m 37 #[.val (.int p0), .val (.int p1), .val (.int p2), .val (.int p3), .val (.int p4), .val (.int (2 : Int32)), .val (.ref b20), .unset] [(.int (2 : Int32))]))
    refine Goes.step (fun t k => XS.iconst X26.here hx rfl (hb hby at_37) k) ?_
    show Goes _ _ _ _ _ _ _ (T26.setTop (mkF m 38 #[.val (.int p0), .val (.int p1), .val (.int p2), .val (.int p3), .val (.int p4), .val (.int (2 : Int32)), .val (.ref b20), .unset] [(.int (3 : Int32)), (.int (2 : Int32))]))
    refine Goes.step (fun t k => XS.icmpYes X26.here hx rfl (pc0 := 38) (pc' := 47) rfl (hb hby at_38) rfl (tlt (by decide)).1 (by decide) (by decide) k) ?_
    show Goes _ _ _ _ _ _ _ (T26.setTop (mkF m 47 #[.val (.int p0), .val (.int p1), .val (.int p2), .val (.int p3), .val (.int p4), .val (.int (2 : Int32)), .val (.ref b20), .unset] []))
    refine Goes.step (fun t k => XS.iload X26.here hx rfl (hb hby at_47) rfl k) ?_
    show Goes _ _ _ _ _ _ _ (T26.setTop (mkF m 49 #[.val (.int p0), .val (.int p1), .val (.int p2), .val (.int p3), .val (.int p4), .val (.int (2 : Int32)), .val (.ref b20), .unset] [(.int (2 : Int32))]))
    refine Goes.step (fun t k => XS.iconst X26.here hx rfl (hb hby at_49) k) ?_
    show Goes _ _ _ _ _ _ _ (T26.setTop (mkF m 50 #[.val (.int p0), .val (.int p1), .val (.int p2), .val (.int p3), .val (.int p4), .val (.int (2 : Int32)), .val (.ref b20), .unset] [(.int (4 : Int32)), (.int (2 : Int32))]))
    refine Goes.step (fun t k => XS.icmpYes X26.here hx rfl (pc0 := 50) (pc' := 59) rfl (hb hby at_50) rfl (tlt (by decide)).1 (by decide) (by decide) k) ?_
    show Goes _ _ _ _ _ _ _ (T26.setTop (mkF m 59 #[.val (.int p0), .val (.int p1), .val (.int p2), .val (.int p3), .val (.int p4), .val (.int (2 : Int32)), .val (.ref b20), .unset] []))
    refine Goes.step (fun t k => XS.aload X26.here hx rfl (hb hby at_59) rfl rfl k) ?_
    show Goes _ _ _ _ _ _ _ (T26.setTop (mkF m 61 #[.val (.int p0), .val (.int p1), .val (.int p2), .val (.int p3), .val (.int p4), .val (.int (2 : Int32)), .val (.ref b20), .unset] [(.ref b20)]))
    obtain ⟨cq29, kq29, q29a, q29b, q29c⟩ := isOf hZ e26 G26_0
    obtain ⟨_, _, ⟨T29, L29, k29, n29⟩, -, X29, ⟨Lc29, hQ29, l29, y29, z29⟩, st29⟩ := X26.virtualBack hx (y := (⟨"com/example/twag/twag/parity/IntSequence", "size", "()I"⟩ : MethodName)) (z := (⟨"com/example/twag/twag/parity/IntSequence", "size", "()I"⟩ : MethodName)) hown (mvT hZ (hw _ (List.mem_of_getElem? (i := 23) rfl))) (mvT hZ (hw _ (List.mem_of_getElem? (i := 24) rfl))) (notFace_of_selects (args := #[]) (mvT hZ (hw _ (List.mem_of_getElem? (i := 26) rfl)))) (mvT hZ (hw _ (List.mem_of_getElem? (i := 26) rfl))) (mvT hZ (hw _ (List.mem_of_getElem? (i := 25) rfl))) (by decide) (backOf (W := 0) (rm4 l Z tA hw [] b20 (((0 : Int32) + (1 : Int32)) + (1 : Int32)) h26 G26_2) hZ (hw _ (List.mem_of_getElem? (i := 27) rfl)) (hw _ (List.mem_of_getElem? (i := 2) rfl)) (by decide) (by decide)) q29a q29c (g := (mkF m 61 #[.val (.int p0), .val (.int p1), .val (.int p2), .val (.int p3), .val (.int p4), .val (.int (2 : Int32)), .val (.ref b20), .unset] [(.ref b20)])) rfl (by rw [hml]; rfl) (Steps.refl _) (argsL := []) (rest := []) (lenOf own_pd2 rfl) rfl (by show 2 * 0 + _ ≤ _; exact Nat.le_of_eq rfl) (hb hby at_61) (fun _ _ => ⟨rfl, e26, (by decide : 3 + 0 ≤ _), (by decide : 19 + 0 ≤ _)⟩)
    dsimp only [Pt.U, Pt.locs, Pt.cells, Pt.slots] at X29 l29 y29 z29 st29 hQ29
    subst l29 y29 z29
    obtain ⟨rfl, rfl, e29⟩ := hQ29
    try rw [List.append_nil] at X29
    change Stand _ _ _ _ _ _ _ _ _ _ _ _ 3 19 at X29
    refine Goes.step (fun t k => st29.trans k) ?_
    show Goes _ _ _ _ _ _ _ (T29.setTop (mkF m 64 #[.val (.int p0), .val (.int p1), .val (.int p2), .val (.int p3), .val (.int p4), .val (.int (2 : Int32)), .val (.ref b20), .unset] [(.int (f4 (((0 : Int32) + (1 : Int32)) + (1 : Int32))))]))
    generalize hy30 : (f4 (((0 : Int32) + (1 : Int32)) + (1 : Int32))) = y30
    refine Goes.step (fun t k => XS.iload X29.here hx rfl (hb hby at_64) rfl k) ?_
    show Goes _ _ _ _ _ _ _ (T29.setTop (mkF m 66 #[.val (.int p0), .val (.int p1), .val (.int p2), .val (.int p3), .val (.int p4), .val (.int (2 : Int32)), .val (.ref b20), .unset] [(.int (2 : Int32)), (.int y30)]))
    suffices k32 : ∀ (x32_0 : Int32), x32_0 = (if y30 = (2 : Int32) then (1 : Int32) else (0 : Int32)) → Goes p e below s (Q0 Z p0 p1 p2 p3 p4 h0 n0) kC0 kS0 (T29.setTop (mkF m 74 #[.val (.int p0), .val (.int p1), .val (.int p2), .val (.int p3), .val (.int p4), .val (.int (2 : Int32)), .val (.ref b20), .unset] [(.int x32_0)])) by
      by_cases hc66_31 : y30 = (2 : Int32)
      · refine Goes.step (fun t k => XS.icmpNo X29.here hx rfl (hb hby at_66) rfl (teq hc66_31).2 k) ?_
        show Goes _ _ _ _ _ _ _ (T29.setTop (mkF m 69 #[.val (.int p0), .val (.int p1), .val (.int p2), .val (.int p3), .val (.int p4), .val (.int (2 : Int32)), .val (.ref b20), .unset] []))
        refine Goes.step (fun t k => XS.iconst X29.here hx rfl (hb hby at_69) k) ?_
        show Goes _ _ _ _ _ _ _ (T29.setTop (mkF m 70 #[.val (.int p0), .val (.int p1), .val (.int p2), .val (.int p3), .val (.int p4), .val (.int (2 : Int32)), .val (.ref b20), .unset] [(.int (1 : Int32))]))
        refine Goes.step (fun t k => XS.goto X29.here hx rfl (pc0 := 70) (pc' := 74) rfl (hb hby at_70) (by decide) (by decide) k) ?_
        show Goes _ _ _ _ _ _ _ (T29.setTop (mkF m 74 #[.val (.int p0), .val (.int p1), .val (.int p2), .val (.int p3), .val (.int p4), .val (.int (2 : Int32)), .val (.ref b20), .unset] [(.int (1 : Int32))]))
        exact k32 _ (if_pos hc66_31).symm
      · refine Goes.step (fun t k => XS.icmpYes X29.here hx rfl (pc0 := 66) (pc' := 73) rfl (hb hby at_66) rfl (feq hc66_31).2 (by decide) (by decide) k) ?_
        show Goes _ _ _ _ _ _ _ (T29.setTop (mkF m 73 #[.val (.int p0), .val (.int p1), .val (.int p2), .val (.int p3), .val (.int p4), .val (.int (2 : Int32)), .val (.ref b20), .unset] []))
        refine Goes.step (fun t k => XS.iconst X29.here hx rfl (hb hby at_73) k) ?_
        show Goes _ _ _ _ _ _ _ (T29.setTop (mkF m 74 #[.val (.int p0), .val (.int p1), .val (.int p2), .val (.int p3), .val (.int p4), .val (.int (2 : Int32)), .val (.ref b20), .unset] [(.int (0 : Int32))]))
        exact k32 _ (if_neg hc66_31).symm
    intro x32_0 hx32_0
    refine Goes.step (fun t k => XS.istore X29.here hx rfl (hb hby at_74) rfl (l' := #[.val (.int p0), .val (.int p1), .val (.int p2), .val (.int p3), .val (.int p4), .val (.int (2 : Int32)), .val (.ref b20), .val (.int x32_0)]) rfl k) ?_
    show Goes _ _ _ _ _ _ _ (T29.setTop (mkF m 76 #[.val (.int p0), .val (.int p1), .val (.int p2), .val (.int p3), .val (.int p4), .val (.int (2 : Int32)), .val (.ref b20), .val (.int x32_0)] []))
    refine Goes.step (fun t k => XS.iload X29.here hx rfl (hb hby at_76) rfl k) ?_
    show Goes _ _ _ _ _ _ _ (T29.setTop (mkF m 78 #[.val (.int p0), .val (.int p1), .val (.int p2), .val (.int p3), .val (.int p4), .val (.int (2 : Int32)), .val (.ref b20), .val (.int x32_0)] [(.int x32_0)]))
    suffices k36 : ∀ (T36 : State) (L36 : List Loc) (x36_0 : Int32), Stand p l e room_1 s m #[(.int p0), (.int p1), (.int p2), (.int p3), (.int p4)] below meth c T36 L36 3 19 → T36.heap = h26 → Fr n0 L36 → x36_0 = (if x32_0 = (0 : Int32) then (0 : Int32) else (if (f5 p0) = p0 then (1 : Int32) else (0 : Int32))) → Goes p e below s (Q0 Z p0 p1 p2 p3 p4 h0 n0) kC0 kS0 (T36.setTop (mkF m 96 #[.val (.int p0), .val (.int p1), .val (.int p2), .val (.int p3), .val (.int p4), .val (.int (2 : Int32)), .val (.ref b20), .val (.int x32_0)] [(.int x36_0)])) by
      by_cases hc78_33 : x32_0 = (0 : Int32)
      · refine Goes.step (fun t k => XS.ifYes X29.here hx rfl (pc0 := 78) (pc' := 95) rfl (hb hby at_78) rfl ((if0 _ _).trans (teq hc78_33).1) (by decide) (by decide) k) ?_
        show Goes _ _ _ _ _ _ _ (T29.setTop (mkF m 95 #[.val (.int p0), .val (.int p1), .val (.int p2), .val (.int p3), .val (.int p4), .val (.int (2 : Int32)), .val (.ref b20), .val (.int x32_0)] []))
        refine Goes.step (fun t k => XS.iconst X29.here hx rfl (hb hby at_95) k) ?_
        show Goes _ _ _ _ _ _ _ (T29.setTop (mkF m 96 #[.val (.int p0), .val (.int p1), .val (.int p2), .val (.int p3), .val (.int p4), .val (.int (2 : Int32)), .val (.ref b20), .val (.int x32_0)] [(.int (0 : Int32))]))
        exact k36 _ _ _ X29 e29 N26 (if_pos hc78_33).symm
      · refine Goes.step (fun t k => XS.ifNo X29.here hx rfl (hb hby at_78) rfl ((if0 _ _).trans (feq hc78_33).1) k) ?_
        show Goes _ _ _ _ _ _ _ (T29.setTop (mkF m 81 #[.val (.int p0), .val (.int p1), .val (.int p2), .val (.int p3), .val (.int p4), .val (.int (2 : Int32)), .val (.ref b20), .val (.int x32_0)] []))
        refine Goes.step (fun t k => XS.aload X29.here hx rfl (hb hby at_81) rfl rfl k) ?_
        show Goes _ _ _ _ _ _ _ (T29.setTop (mkF m 83 #[.val (.int p0), .val (.int p1), .val (.int p2), .val (.int p3), .val (.int p4), .val (.int (2 : Int32)), .val (.ref b20), .val (.int x32_0)] [(.ref b20)]))
        refine Goes.step (fun t k => XS.iconst X29.here hx rfl (hb hby at_83) k) ?_
        show Goes _ _ _ _ _ _ _ (T29.setTop (mkF m 84 #[.val (.int p0), .val (.int p1), .val (.int p2), .val (.int p3), .val (.int p4), .val (.int (2 : Int32)), .val (.ref b20), .val (.int x32_0)] [(.int (0 : Int32)), (.ref b20)]))
        obtain ⟨cq34, kq34, q34a, q34b, q34c⟩ := isOf hZ e29 G26_0
        obtain ⟨_, _, ⟨T34, L34, k34, n34⟩, -, X34, ⟨Lc34, hQ34, l34, y34, z34⟩, st34⟩ := X29.virtualBack hx (y := (⟨"com/example/twag/twag/parity/IntSequence", "get", "(I)I"⟩ : MethodName)) (z := (⟨"com/example/twag/twag/parity/IntSequence", "get", "(I)I"⟩ : MethodName)) hown (mvT hZ (hw _ (List.mem_of_getElem? (i := 28) rfl))) (mvT hZ (hw _ (List.mem_of_getElem? (i := 29) rfl))) (notFace_of_selects (args := #[]) (mvT hZ (hw _ (List.mem_of_getElem? (i := 31) rfl)))) (mvT hZ (hw _ (List.mem_of_getElem? (i := 31) rfl))) (mvT hZ (hw _ (List.mem_of_getElem? (i := 30) rfl))) (by decide) (backOf (W := 0) (rm5 l Z tA hw [] b20 (0 : Int32) r23_0 r23_1 (([(.int (0 : Int32)), (.int (0 : Int32)), (.int (0 : Int32)), (.int (0 : Int32)), (.int (0 : Int32)), (.int (0 : Int32)), (.int (0 : Int32)), (.int (0 : Int32)), (.int (0 : Int32)), (.int (0 : Int32)), (.int (0 : Int32)), (.int (0 : Int32)), (.int (0 : Int32)), (.int (0 : Int32)), (.int (0 : Int32)), (.int (0 : Int32))].set ((0 : Int32)).toNatClampNeg (.int p0)).set (((0 : Int32) + (1 : Int32))).toNatClampNeg (.int p1)) p0 h26 G26_1 G26_3 G26_4 (by decide) rfl) hZ (hw _ (List.mem_of_getElem? (i := 32) rfl)) (hw _ (List.mem_of_getElem? (i := 2) rfl)) (by decide) (by decide)) q34a q34c (g := (mkF m 84 #[.val (.int p0), .val (.int p1), .val (.int p2), .val (.int p3), .val (.int p4), .val (.int (2 : Int32)), .val (.ref b20), .val (.int x32_0)] [(.int (0 : Int32)), (.ref b20)])) rfl (by rw [hml]; rfl) (Steps.refl _) (argsL := [(.int (0 : Int32))]) (rest := []) (lenOf own_pd3 rfl) rfl (by show 2 * 0 + _ ≤ _; exact Nat.le_of_eq rfl) (hb hby at_84) (fun _ _ => ⟨rfl, e29, (by decide : 3 + 0 ≤ _), (by decide : 19 + 0 ≤ _)⟩)
        dsimp only [Pt.U, Pt.locs, Pt.cells, Pt.slots] at X34 l34 y34 z34 st34 hQ34
        subst l34 y34 z34
        obtain ⟨rfl, rfl, e34⟩ := hQ34
        try rw [List.append_nil] at X34
        change Stand _ _ _ _ _ _ _ _ _ _ _ _ 3 19 at X34
        refine Goes.step (fun t k => st34.trans k) ?_
        show Goes _ _ _ _ _ _ _ (T34.setTop (mkF m 87 #[.val (.int p0), .val (.int p1), .val (.int p2), .val (.int p3), .val (.int p4), .val (.int (2 : Int32)), .val (.ref b20), .val (.int x32_0)] [(.int (f5 p0))]))
        refine Goes.step (fun t k => XS.iloadN X34.here hx rfl (hb hby at_87) rfl k) ?_
        show Goes _ _ _ _ _ _ _ (T34.setTop (mkF m 88 #[.val (.int p0), .val (.int p1), .val (.int p2), .val (.int p3), .val (.int p4), .val (.int (2 : Int32)), .val (.ref b20), .val (.int x32_0)] [(.int p0), (.int (f5 p0))]))
        by_cases hc88_35 : (f5 p0) = p0
        · refine Goes.step (fun t k => XS.icmpNo X34.here hx rfl (hb hby at_88) rfl (teq hc88_35).2 k) ?_
          show Goes _ _ _ _ _ _ _ (T34.setTop (mkF m 91 #[.val (.int p0), .val (.int p1), .val (.int p2), .val (.int p3), .val (.int p4), .val (.int (2 : Int32)), .val (.ref b20), .val (.int x32_0)] []))
          refine Goes.step (fun t k => XS.iconst X34.here hx rfl (hb hby at_91) k) ?_
          show Goes _ _ _ _ _ _ _ (T34.setTop (mkF m 92 #[.val (.int p0), .val (.int p1), .val (.int p2), .val (.int p3), .val (.int p4), .val (.int (2 : Int32)), .val (.ref b20), .val (.int x32_0)] [(.int (1 : Int32))]))
          refine Goes.step (fun t k => XS.goto X34.here hx rfl (pc0 := 92) (pc' := 96) rfl (hb hby at_92) (by decide) (by decide) k) ?_
          show Goes _ _ _ _ _ _ _ (T34.setTop (mkF m 96 #[.val (.int p0), .val (.int p1), .val (.int p2), .val (.int p3), .val (.int p4), .val (.int (2 : Int32)), .val (.ref b20), .val (.int x32_0)] [(.int (1 : Int32))]))
          exact k36 _ _ _ X34 e34 N26 ((if_neg hc78_33).trans (if_pos hc88_35)).symm
        · refine Goes.step (fun t k => XS.icmpYes X34.here hx rfl (pc0 := 88) (pc' := 95) rfl (hb hby at_88) rfl (feq hc88_35).2 (by decide) (by decide) k) ?_
          show Goes _ _ _ _ _ _ _ (T34.setTop (mkF m 95 #[.val (.int p0), .val (.int p1), .val (.int p2), .val (.int p3), .val (.int p4), .val (.int (2 : Int32)), .val (.ref b20), .val (.int x32_0)] []))
          refine Goes.step (fun t k => XS.iconst X34.here hx rfl (hb hby at_95) k) ?_
          show Goes _ _ _ _ _ _ _ (T34.setTop (mkF m 96 #[.val (.int p0), .val (.int p1), .val (.int p2), .val (.int p3), .val (.int p4), .val (.int (2 : Int32)), .val (.ref b20), .val (.int x32_0)] [(.int (0 : Int32))]))
          exact k36 _ _ _ X34 e34 N26 ((if_neg hc78_33).trans (if_neg hc88_35)).symm
    intro T36 L36 x36_0 X36 e36 N36 hx36_0
    refine Goes.step (fun t k => XS.istore X36.here hx rfl (hb hby at_96) rfl (l' := #[.val (.int p0), .val (.int p1), .val (.int p2), .val (.int p3), .val (.int p4), .val (.int (2 : Int32)), .val (.ref b20), .val (.int x36_0)]) rfl k) ?_
    show Goes _ _ _ _ _ _ _ (T36.setTop (mkF m 98 #[.val (.int p0), .val (.int p1), .val (.int p2), .val (.int p3), .val (.int p4), .val (.int (2 : Int32)), .val (.ref b20), .val (.int x36_0)] []))
    refine Goes.step (fun t k => XS.iload X36.here hx rfl (hb hby at_98) rfl k) ?_
    show Goes _ _ _ _ _ _ _ (T36.setTop (mkF m 100 #[.val (.int p0), .val (.int p1), .val (.int p2), .val (.int p3), .val (.int p4), .val (.int (2 : Int32)), .val (.ref b20), .val (.int x36_0)] [(.int (2 : Int32))]))
    refine Goes.step (fun t k => XS.iconst X36.here hx rfl (hb hby at_100) k) ?_
    show Goes _ _ _ _ _ _ _ (T36.setTop (mkF m 101 #[.val (.int p0), .val (.int p1), .val (.int p2), .val (.int p3), .val (.int p4), .val (.int (2 : Int32)), .val (.ref b20), .val (.int x36_0)] [(.int (2 : Int32)), (.int (2 : Int32))]))
    refine Goes.step (fun t k => XS.icmpNo X36.here hx rfl (hb hby at_101) rfl (flt (by decide)).1 k) ?_
    show Goes _ _ _ _ _ _ _ (T36.setTop (mkF m 104 #[.val (.int p0), .val (.int p1), .val (.int p2), .val (.int p3), .val (.int p4), .val (.int (2 : Int32)), .val (.ref b20), .val (.int x36_0)] []))
    refine Goes.step (fun t k => XS.iload X36.here hx rfl (hb hby at_104) rfl k) ?_
    show Goes _ _ _ _ _ _ _ (T36.setTop (mkF m 106 #[.val (.int p0), .val (.int p1), .val (.int p2), .val (.int p3), .val (.int p4), .val (.int (2 : Int32)), .val (.ref b20), .val (.int x36_0)] [(.int x36_0)]))
    suffices k41 : ∀ (T41 : State) (L41 : List Loc) (x41_0 : Int32), Stand p l e room_1 s m #[(.int p0), (.int p1), (.int p2), (.int p3), (.int p4)] below meth c T41 L41 3 19 → T41.heap = h26 → Fr n0 L41 → x41_0 = (if x36_0 = (0 : Int32) then (0 : Int32) else (if (f5 p1) = p1 then (1 : Int32) else (0 : Int32))) → Goes p e below s (Q0 Z p0 p1 p2 p3 p4 h0 n0) kC0 kS0 (T41.setTop (mkF m 124 #[.val (.int p0), .val (.int p1), .val (.int p2), .val (.int p3), .val (.int p4), .val (.int (2 : Int32)), .val (.ref b20), .val (.int x36_0)] [(.int x41_0)])) by
      by_cases hc106_38 : x36_0 = (0 : Int32)
      · refine Goes.step (fun t k => XS.ifYes X36.here hx rfl (pc0 := 106) (pc' := 123) rfl (hb hby at_106) rfl ((if0 _ _).trans (teq hc106_38).1) (by decide) (by decide) k) ?_
        show Goes _ _ _ _ _ _ _ (T36.setTop (mkF m 123 #[.val (.int p0), .val (.int p1), .val (.int p2), .val (.int p3), .val (.int p4), .val (.int (2 : Int32)), .val (.ref b20), .val (.int x36_0)] []))
        refine Goes.step (fun t k => XS.iconst X36.here hx rfl (hb hby at_123) k) ?_
        show Goes _ _ _ _ _ _ _ (T36.setTop (mkF m 124 #[.val (.int p0), .val (.int p1), .val (.int p2), .val (.int p3), .val (.int p4), .val (.int (2 : Int32)), .val (.ref b20), .val (.int x36_0)] [(.int (0 : Int32))]))
        exact k41 _ _ _ X36 e36 N36 (if_pos hc106_38).symm
      · refine Goes.step (fun t k => XS.ifNo X36.here hx rfl (hb hby at_106) rfl ((if0 _ _).trans (feq hc106_38).1) k) ?_
        show Goes _ _ _ _ _ _ _ (T36.setTop (mkF m 109 #[.val (.int p0), .val (.int p1), .val (.int p2), .val (.int p3), .val (.int p4), .val (.int (2 : Int32)), .val (.ref b20), .val (.int x36_0)] []))
        refine Goes.step (fun t k => XS.aload X36.here hx rfl (hb hby at_109) rfl rfl k) ?_
        show Goes _ _ _ _ _ _ _ (T36.setTop (mkF m 111 #[.val (.int p0), .val (.int p1), .val (.int p2), .val (.int p3), .val (.int p4), .val (.int (2 : Int32)), .val (.ref b20), .val (.int x36_0)] [(.ref b20)]))
        refine Goes.step (fun t k => XS.iconst X36.here hx rfl (hb hby at_111) k) ?_
        show Goes _ _ _ _ _ _ _ (T36.setTop (mkF m 112 #[.val (.int p0), .val (.int p1), .val (.int p2), .val (.int p3), .val (.int p4), .val (.int (2 : Int32)), .val (.ref b20), .val (.int x36_0)] [(.int (1 : Int32)), (.ref b20)]))
        obtain ⟨cq39, kq39, q39a, q39b, q39c⟩ := isOf hZ e36 G26_0
        obtain ⟨_, _, ⟨T39, L39, k39, n39⟩, -, X39, ⟨Lc39, hQ39, l39, y39, z39⟩, st39⟩ := X36.virtualBack hx (y := (⟨"com/example/twag/twag/parity/IntSequence", "get", "(I)I"⟩ : MethodName)) (z := (⟨"com/example/twag/twag/parity/IntSequence", "get", "(I)I"⟩ : MethodName)) hown (mvT hZ (hw _ (List.mem_of_getElem? (i := 28) rfl))) (mvT hZ (hw _ (List.mem_of_getElem? (i := 29) rfl))) (notFace_of_selects (args := #[]) (mvT hZ (hw _ (List.mem_of_getElem? (i := 31) rfl)))) (mvT hZ (hw _ (List.mem_of_getElem? (i := 31) rfl))) (mvT hZ (hw _ (List.mem_of_getElem? (i := 30) rfl))) (by decide) (backOf (W := 0) (rm5 l Z tA hw [] b20 (1 : Int32) r23_0 r23_1 (([(.int (0 : Int32)), (.int (0 : Int32)), (.int (0 : Int32)), (.int (0 : Int32)), (.int (0 : Int32)), (.int (0 : Int32)), (.int (0 : Int32)), (.int (0 : Int32)), (.int (0 : Int32)), (.int (0 : Int32)), (.int (0 : Int32)), (.int (0 : Int32)), (.int (0 : Int32)), (.int (0 : Int32)), (.int (0 : Int32)), (.int (0 : Int32))].set ((0 : Int32)).toNatClampNeg (.int p0)).set (((0 : Int32) + (1 : Int32))).toNatClampNeg (.int p1)) p1 h26 G26_1 G26_3 G26_4 (by decide) rfl) hZ (hw _ (List.mem_of_getElem? (i := 32) rfl)) (hw _ (List.mem_of_getElem? (i := 2) rfl)) (by decide) (by decide)) q39a q39c (g := (mkF m 112 #[.val (.int p0), .val (.int p1), .val (.int p2), .val (.int p3), .val (.int p4), .val (.int (2 : Int32)), .val (.ref b20), .val (.int x36_0)] [(.int (1 : Int32)), (.ref b20)])) rfl (by rw [hml]; rfl) (Steps.refl _) (argsL := [(.int (1 : Int32))]) (rest := []) (lenOf own_pd3 rfl) rfl (by show 2 * 0 + _ ≤ _; exact Nat.le_of_eq rfl) (hb hby at_112) (fun _ _ => ⟨rfl, e36, (by decide : 3 + 0 ≤ _), (by decide : 19 + 0 ≤ _)⟩)
        dsimp only [Pt.U, Pt.locs, Pt.cells, Pt.slots] at X39 l39 y39 z39 st39 hQ39
        subst l39 y39 z39
        obtain ⟨rfl, rfl, e39⟩ := hQ39
        try rw [List.append_nil] at X39
        change Stand _ _ _ _ _ _ _ _ _ _ _ _ 3 19 at X39
        refine Goes.step (fun t k => st39.trans k) ?_
        show Goes _ _ _ _ _ _ _ (T39.setTop (mkF m 115 #[.val (.int p0), .val (.int p1), .val (.int p2), .val (.int p3), .val (.int p4), .val (.int (2 : Int32)), .val (.ref b20), .val (.int x36_0)] [(.int (f5 p1))]))
        refine Goes.step (fun t k => XS.iloadN X39.here hx rfl (hb hby at_115) rfl k) ?_
        show Goes _ _ _ _ _ _ _ (T39.setTop (mkF m 116 #[.val (.int p0), .val (.int p1), .val (.int p2), .val (.int p3), .val (.int p4), .val (.int (2 : Int32)), .val (.ref b20), .val (.int x36_0)] [(.int p1), (.int (f5 p1))]))
        by_cases hc116_40 : (f5 p1) = p1
        · refine Goes.step (fun t k => XS.icmpNo X39.here hx rfl (hb hby at_116) rfl (teq hc116_40).2 k) ?_
          show Goes _ _ _ _ _ _ _ (T39.setTop (mkF m 119 #[.val (.int p0), .val (.int p1), .val (.int p2), .val (.int p3), .val (.int p4), .val (.int (2 : Int32)), .val (.ref b20), .val (.int x36_0)] []))
          refine Goes.step (fun t k => XS.iconst X39.here hx rfl (hb hby at_119) k) ?_
          show Goes _ _ _ _ _ _ _ (T39.setTop (mkF m 120 #[.val (.int p0), .val (.int p1), .val (.int p2), .val (.int p3), .val (.int p4), .val (.int (2 : Int32)), .val (.ref b20), .val (.int x36_0)] [(.int (1 : Int32))]))
          refine Goes.step (fun t k => XS.goto X39.here hx rfl (pc0 := 120) (pc' := 124) rfl (hb hby at_120) (by decide) (by decide) k) ?_
          show Goes _ _ _ _ _ _ _ (T39.setTop (mkF m 124 #[.val (.int p0), .val (.int p1), .val (.int p2), .val (.int p3), .val (.int p4), .val (.int (2 : Int32)), .val (.ref b20), .val (.int x36_0)] [(.int (1 : Int32))]))
          exact k41 _ _ _ X39 e39 N36 ((if_neg hc106_38).trans (if_pos hc116_40)).symm
        · refine Goes.step (fun t k => XS.icmpYes X39.here hx rfl (pc0 := 116) (pc' := 123) rfl (hb hby at_116) rfl (feq hc116_40).2 (by decide) (by decide) k) ?_
          show Goes _ _ _ _ _ _ _ (T39.setTop (mkF m 123 #[.val (.int p0), .val (.int p1), .val (.int p2), .val (.int p3), .val (.int p4), .val (.int (2 : Int32)), .val (.ref b20), .val (.int x36_0)] []))
          refine Goes.step (fun t k => XS.iconst X39.here hx rfl (hb hby at_123) k) ?_
          show Goes _ _ _ _ _ _ _ (T39.setTop (mkF m 124 #[.val (.int p0), .val (.int p1), .val (.int p2), .val (.int p3), .val (.int p4), .val (.int (2 : Int32)), .val (.ref b20), .val (.int x36_0)] [(.int (0 : Int32))]))
          exact k41 _ _ _ X39 e39 N36 ((if_neg hc106_38).trans (if_neg hc116_40)).symm
    intro T41 L41 x41_0 X41 e41 N41 hx41_0
    refine Goes.step (fun t k => XS.istore X41.here hx rfl (hb hby at_124) rfl (l' := #[.val (.int p0), .val (.int p1), .val (.int p2), .val (.int p3), .val (.int p4), .val (.int (2 : Int32)), .val (.ref b20), .val (.int x41_0)]) rfl k) ?_
    show Goes _ _ _ _ _ _ _ (T41.setTop (mkF m 126 #[.val (.int p0), .val (.int p1), .val (.int p2), .val (.int p3), .val (.int p4), .val (.int (2 : Int32)), .val (.ref b20), .val (.int x41_0)] []))
    refine Goes.step (fun t k => XS.iload X41.here hx rfl (hb hby at_126) rfl k) ?_
    show Goes _ _ _ _ _ _ _ (T41.setTop (mkF m 128 #[.val (.int p0), .val (.int p1), .val (.int p2), .val (.int p3), .val (.int p4), .val (.int (2 : Int32)), .val (.ref b20), .val (.int x41_0)] [(.int (2 : Int32))]))
    refine Goes.step (fun t k => XS.iconst X41.here hx rfl (hb hby at_128) k) ?_
    show Goes _ _ _ _ _ _ _ (T41.setTop (mkF m 129 #[.val (.int p0), .val (.int p1), .val (.int p2), .val (.int p3), .val (.int p4), .val (.int (2 : Int32)), .val (.ref b20), .val (.int x41_0)] [(.int (3 : Int32)), (.int (2 : Int32))]))
    refine Goes.step (fun t k => XS.icmpYes X41.here hx rfl (pc0 := 129) (pc' := 154) rfl (hb hby at_129) rfl (tlt (by decide)).1 (by decide) (by decide) k) ?_
    show Goes _ _ _ _ _ _ _ (T41.setTop (mkF m 154 #[.val (.int p0), .val (.int p1), .val (.int p2), .val (.int p3), .val (.int p4), .val (.int (2 : Int32)), .val (.ref b20), .val (.int x41_0)] []))
    refine Goes.step (fun t k => XS.iload X41.here hx rfl (hb hby at_154) rfl k) ?_
    show Goes _ _ _ _ _ _ _ (T41.setTop (mkF m 156 #[.val (.int p0), .val (.int p1), .val (.int p2), .val (.int p3), .val (.int p4), .val (.int (2 : Int32)), .val (.ref b20), .val (.int x41_0)] [(.int (2 : Int32))]))
    refine Goes.step (fun t k => XS.iconst X41.here hx rfl (hb hby at_156) k) ?_
    show Goes _ _ _ _ _ _ _ (T41.setTop (mkF m 157 #[.val (.int p0), .val (.int p1), .val (.int p2), .val (.int p3), .val (.int p4), .val (.int (2 : Int32)), .val (.ref b20), .val (.int x41_0)] [(.int (4 : Int32)), (.int (2 : Int32))]))
    refine Goes.step (fun t k => XS.icmpYes X41.here hx rfl (pc0 := 157) (pc' := 182) rfl (hb hby at_157) rfl (tlt (by decide)).1 (by decide) (by decide) k) ?_
    show Goes _ _ _ _ _ _ _ (T41.setTop (mkF m 182 #[.val (.int p0), .val (.int p1), .val (.int p2), .val (.int p3), .val (.int p4), .val (.int (2 : Int32)), .val (.ref b20), .val (.int x41_0)] []))
    refine Goes.step (fun t k => XS.iload X41.here hx rfl (hb hby at_182) rfl k) ?_
    show Goes _ _ _ _ _ _ _ (T41.setTop (mkF m 184 #[.val (.int p0), .val (.int p1), .val (.int p2), .val (.int p3), .val (.int p4), .val (.int (2 : Int32)), .val (.ref b20), .val (.int x41_0)] [(.int x41_0)]))
    exact Goes.retZ X41 hx Bd.notSynchronized (r := (1 : Int32)) Bd.returns (by simp) (hb hby at_184) (own_plain_2 p0 p1 y30 x32_0 x36_0 x41_0 hy30 hx32_0 hx36_0 hx41_0) ⟨rfl, N41⟩ (by decide) (by decide)
  · show Goes _ _ _ _ _ _ _ (s₁.setTop (mkF m 8 #[.val (.int p0), .val (.int p1), .val (.int p2), .val (.int p3), .val (.int p4), .val (.int (3 : Int32)), .unset, .unset] []))
    obtain ⟨T44, h44, X44, e44, E44, A44, D44, -, st44⟩ := newO X0 hx hZ hown (hw _ (List.mem_of_getElem? (i := 0) rfl)) (hw _ (List.mem_of_getElem? (i := 1) rfl)) (hw _ (List.mem_of_getElem? (i := 2) rfl)) e0 (g := (mkF m 8 #[.val (.int p0), .val (.int p1), .val (.int p2), .val (.int p3), .val (.int p4), .val (.int (3 : Int32)), .unset, .unset] [])) rfl (hb hby at_8) (by decide) (by decide)
    obtain ⟨b44, g44⟩ : ∃ z, z = h0.size := ⟨_, rfl⟩
    rw [← g44] at A44 D44 st44
    have Zs44 : n0 ≤ b44 := Nat.le_trans Z0 (Nat.le_of_eq g44.symm)
    have Zh44 : h0.size ≤ b44 := Nat.le_trans (Keep.refl h0 []).1 (Nat.le_of_eq g44.symm)
    have K44 := (Keep.refl h0 []).ext E44
    have Z44 := Nat.le_trans Z0 E44.1
    have F45 : Fld Z h44 b44 "com/example/twag/twag/parity/IntSequence" "blocks" "[[I" .null := D44 (Or.inl (hw _ (List.mem_of_getElem? (i := 14) rfl))) (ty := (.array (.array .int))) (by decide)
    have F46 : Fld Z h44 b44 "com/example/twag/twag/parity/IntSequence" "size" "I" (.int (0 : Int32)) := D44 (Or.inl (hw _ (List.mem_of_getElem? (i := 21) rfl))) (ty := .int) (by decide)
    refine Goes.step (fun t k => st44 t k) ?_
    show Goes _ _ _ _ _ _ _ (T44.setTop (mkF m 11 #[.val (.int p0), .val (.int p1), .val (.int p2), .val (.int p3), .val (.int p4), .val (.int (3 : Int32)), .unset, .unset] [(.ref b44)]))
    refine Goes.step (fun t k => XS.dup X44.here hx rfl (hb hby at_11) rfl rfl k) ?_
    show Goes _ _ _ _ _ _ _ (T44.setTop (mkF m 12 #[.val (.int p0), .val (.int p1), .val (.int p2), .val (.int p3), .val (.int p4), .val (.int (3 : Int32)), .unset, .unset] [(.ref b44), (.ref b44)]))
    obtain ⟨_, _, ⟨T47, L47, k47, n47⟩, -, X47, ⟨Lc47, hQ47, l47, y47, z47⟩, st47⟩ := X44.specialBack hx (y := (⟨"com/example/twag/twag/parity/IntSequence", "<init>", "()V"⟩ : MethodName)) rfl hown (mvT hZ (hw _ (List.mem_of_getElem? (i := 3) rfl))) (mvT hZ (hw _ (List.mem_of_getElem? (i := 4) rfl))) (mvT hZ (hw _ (List.mem_of_getElem? (i := 5) rfl))) (by decide) (backOf (W := 1) (rm1 l Z tA hw [] b44 h44 n0 Z44 A44 F45 F46 Zs44) hZ (hw _ (List.mem_of_getElem? (i := 5) rfl)) (hw _ (List.mem_of_getElem? (i := 2) rfl)) (by decide) (by decide)) (g := (mkF m 12 #[.val (.int p0), .val (.int p1), .val (.int p2), .val (.int p3), .val (.int p4), .val (.int (3 : Int32)), .unset, .unset] [(.ref b44), (.ref b44)])) rfl (by rw [hml]; rfl) (Steps.refl _) (a := b44) (argsL := []) (rest := [(.ref b44)]) (lenOf own_pd0 rfl) rfl (by show 2 * 0 + _ ≤ _; exact Nat.le_of_eq rfl) (hb hby at_12) (fun _ _ => ⟨rfl, e44, (by decide : 1 + 2 ≤ _), (by decide : 2 + 17 ≤ _)⟩)
    dsimp only [Pt.U, Pt.locs, Pt.cells, Pt.slots] at X47 l47 y47 z47 st47 hQ47
    subst l47 y47 z47
    generalize e47 : T47.heap = h47 at hQ47
    obtain ⟨r47_0, r47_1, rfl, Nq47, Kq47, Zf47_r47_0, Zf47_r47_1, Nf47_0, G47_0, G47_1, G47_2, G47_3, G47_4⟩ := hQ47
    have ne_b44_r47_0 : b44 ≠ r47_0 := Nat.ne_of_lt (Nat.lt_of_lt_of_le A44.lt Zf47_r47_0)
    have Zs47_r47_0 := Nat.le_trans Z44 Zf47_r47_0
    have Zh47_r47_0 := Nat.le_trans K44.1 Zf47_r47_0
    have ne_b44_r47_1 : b44 ≠ r47_1 := Nat.ne_of_lt (Nat.lt_of_lt_of_le A44.lt Zf47_r47_1)
    have Zs47_r47_1 := Nat.le_trans Z44 Zf47_r47_1
    have Zh47_r47_1 := Nat.le_trans K44.1 Zf47_r47_1
    have N47 := Fr.app N0 Nq47
    have K47 := K44.trans Kq47 (allS (Or.inr Zh44) all0)
    have Z47 := Nat.le_trans Z44 Kq47.1
    change Stand _ _ _ _ _ _ _ _ _ _ _ _ 3 19 at X47
    refine Goes.step (fun t k => st47.trans k) ?_
    show Goes _ _ _ _ _ _ _ (T47.setTop (mkF m 15 #[.val (.int p0), .val (.int p1), .val (.int p2), .val (.int p3), .val (.int p4), .val (.int (3 : Int32)), .unset, .unset] [(.ref b44)]))
    refine Goes.step (fun t k => XS.astore X47.here hx rfl (hb hby at_15) rfl rfl (l' := #[.val (.int p0), .val (.int p1), .val (.int p2), .val (.int p3), .val (.int p4), .val (.int (3 : Int32)), .val (.ref b44), .unset]) rfl k) ?_
    show Goes _ _ _ _ _ _ _ (T47.setTop (mkF m 17 #[.val (.int p0), .val (.int p1), .val (.int p2), .val (.int p3), .val (.int p4), .val (.int (3 : Int32)), .val (.ref b44), .unset] []))
    refine Goes.step (fun t k => XS.aload X47.here hx rfl (hb hby at_17) rfl rfl k) ?_
    show Goes _ _ _ _ _ _ _ (T47.setTop (mkF m 19 #[.val (.int p0), .val (.int p1), .val (.int p2), .val (.int p3), .val (.int p4), .val (.int (3 : Int32)), .val (.ref b44), .unset] [(.ref b44)]))
    refine Goes.step (fun t k => XS.iloadN X47.here hx rfl (hb hby at_19) rfl k) ?_
    show Goes _ _ _ _ _ _ _ (T47.setTop (mkF m 20 #[.val (.int p0), .val (.int p1), .val (.int p2), .val (.int p3), .val (.int p4), .val (.int (3 : Int32)), .val (.ref b44), .unset] [(.int p0), (.ref b44)]))
    obtain ⟨cq48, kq48, q48a, q48b, q48c⟩ := isOf hZ e47 G47_0
    obtain ⟨_, _, ⟨T48, L48, k48, n48⟩, -, X48, ⟨Lc48, hQ48, l48, y48, z48⟩, st48⟩ := X47.virtualBack hx (y := (⟨"com/example/twag/twag/parity/IntSequence", "add", "(I)V"⟩ : MethodName)) (z := (⟨"com/example/twag/twag/parity/IntSequence", "add", "(I)V"⟩ : MethodName)) hown (mvT hZ (hw _ (List.mem_of_getElem? (i := 15) rfl))) (mvT hZ (hw _ (List.mem_of_getElem? (i := 16) rfl))) (notFace_of_selects (args := #[]) (mvT hZ (hw _ (List.mem_of_getElem? (i := 18) rfl)))) (mvT hZ (hw _ (List.mem_of_getElem? (i := 18) rfl))) (mvT hZ (hw _ (List.mem_of_getElem? (i := 17) rfl))) (by decide) (backOf (W := 0) (rm3 l Z tA hw [] b44 p0 r47_0 r47_1 (0 : Int32) [(.int (0 : Int32)), (.int (0 : Int32)), (.int (0 : Int32)), (.int (0 : Int32)), (.int (0 : Int32)), (.int (0 : Int32)), (.int (0 : Int32)), (.int (0 : Int32)), (.int (0 : Int32)), (.int (0 : Int32)), (.int (0 : Int32)), (.int (0 : Int32)), (.int (0 : Int32)), (.int (0 : Int32)), (.int (0 : Int32)), (.int (0 : Int32))] h47 n0 Z47 G47_0 G47_1 G47_2 G47_3 G47_4 Zs44 Zs47_r47_1 ne_b44_r47_0 ne_b44_r47_1 Nf47_0 (by simp) (by decide)) hZ (hw _ (List.mem_of_getElem? (i := 19) rfl)) (hw _ (List.mem_of_getElem? (i := 2) rfl)) (by decide) (by decide)) q48a q48c (g := (mkF m 20 #[.val (.int p0), .val (.int p1), .val (.int p2), .val (.int p3), .val (.int p4), .val (.int (3 : Int32)), .val (.ref b44), .unset] [(.int p0), (.ref b44)])) rfl (by rw [hml]; rfl) (Steps.refl _) (argsL := [(.int p0)]) (rest := []) (lenOf own_pd1 rfl) rfl (by show 2 * 0 + _ ≤ _; exact Nat.le_of_eq rfl) (hb hby at_20) (fun _ _ => ⟨rfl, e47, (by decide : 3 + 0 ≤ _), (by decide : 19 + 0 ≤ _)⟩)
    dsimp only [Pt.U, Pt.locs, Pt.cells, Pt.slots] at X48 l48 y48 z48 st48 hQ48
    subst l48 y48 z48
    generalize e48 : T48.heap = h48 at hQ48
    obtain ⟨rfl, Nq48, Kq48, G48_0, G48_1, G48_2, G48_3, G48_4⟩ := hQ48
    have N48 := Fr.app N47 Nq48
    have K48 := K47.trans Kq48 (allS (Or.inr Zh44) (allS (Or.inr Zh47_r47_1) all0))
    have Z48 := Nat.le_trans Z47 Kq48.1
    change Stand _ _ _ _ _ _ _ _ _ _ _ _ 3 19 at X48
    refine Goes.step (fun t k => st48.trans k) ?_
    show Goes _ _ _ _ _ _ _ (T48.setTop (mkF m 23 #[.val (.int p0), .val (.int p1), .val (.int p2), .val (.int p3), .val (.int p4), .val (.int (3 : Int32)), .val (.ref b44), .unset] []))
    refine Goes.step (fun t k => XS.iload X48.here hx rfl (hb hby at_23) rfl k) ?_
    show Goes _ _ _ _ _ _ _ (T48.setTop (mkF m 25 #[.val (.int p0), .val (.int p1), .val (.int p2), .val (.int p3), .val (.int p4), .val (.int (3 : Int32)), .val (.ref b44), .unset] [(.int (3 : Int32))]))
    refine Goes.step (fun t k => XS.iconst X48.here hx rfl (hb hby at_25) k) ?_
    show Goes _ _ _ _ _ _ _ (T48.setTop (mkF m 26 #[.val (.int p0), .val (.int p1), .val (.int p2), .val (.int p3), .val (.int p4), .val (.int (3 : Int32)), .val (.ref b44), .unset] [(.int (2 : Int32)), (.int (3 : Int32))]))
    refine Goes.step (fun t k => XS.icmpNo X48.here hx rfl (hb hby at_26) rfl (flt (by decide)).1 k) ?_
    show Goes _ _ _ _ _ _ _ (T48.setTop (mkF m 29 #[.val (.int p0), .val (.int p1), .val (.int p2), .val (.int p3), .val (.int p4), .val (.int (3 : Int32)), .val (.ref b44), .unset] []))
    refine Goes.step (fun t k => XS.aload X48.here hx rfl (hb hby at_29) rfl rfl k) ?_
    show Goes _ _ _ _ _ _ _ (T48.setTop (mkF m 31 #[.val (.int p0), .val (.int p1), .val (.int p2), .val (.int p3), .val (.int p4), .val (.int (3 : Int32)), .val (.ref b44), .unset] [(.ref b44)]))
    refine Goes.step (fun t k => XS.iloadN X48.here hx rfl (hb hby at_31) rfl k) ?_
    show Goes _ _ _ _ _ _ _ (T48.setTop (mkF m 32 #[.val (.int p0), .val (.int p1), .val (.int p2), .val (.int p3), .val (.int p4), .val (.int (3 : Int32)), .val (.ref b44), .unset] [(.int p1), (.ref b44)]))
    obtain ⟨cq50, kq50, q50a, q50b, q50c⟩ := isOf hZ e48 G48_0
    obtain ⟨_, _, ⟨T50, L50, k50, n50⟩, -, X50, ⟨Lc50, hQ50, l50, y50, z50⟩, st50⟩ := X48.virtualBack hx (y := (⟨"com/example/twag/twag/parity/IntSequence", "add", "(I)V"⟩ : MethodName)) (z := (⟨"com/example/twag/twag/parity/IntSequence", "add", "(I)V"⟩ : MethodName)) hown (mvT hZ (hw _ (List.mem_of_getElem? (i := 15) rfl))) (mvT hZ (hw _ (List.mem_of_getElem? (i := 16) rfl))) (notFace_of_selects (args := #[]) (mvT hZ (hw _ (List.mem_of_getElem? (i := 18) rfl)))) (mvT hZ (hw _ (List.mem_of_getElem? (i := 18) rfl))) (mvT hZ (hw _ (List.mem_of_getElem? (i := 17) rfl))) (by decide) (backOf (W := 0) (rm3 l Z tA hw [] b44 p1 r47_0 r47_1 ((0 : Int32) + (1 : Int32)) ([(.int (0 : Int32)), (.int (0 : Int32)), (.int (0 : Int32)), (.int (0 : Int32)), (.int (0 : Int32)), (.int (0 : Int32)), (.int (0 : Int32)), (.int (0 : Int32)), (.int (0 : Int32)), (.int (0 : Int32)), (.int (0 : Int32)), (.int (0 : Int32)), (.int (0 : Int32)), (.int (0 : Int32)), (.int (0 : Int32)), (.int (0 : Int32))].set ((0 : Int32)).toNatClampNeg (.int p0)) h48 n0 Z48 G48_0 G48_1 G48_2 G48_3 G48_4 Zs44 Zs47_r47_1 ne_b44_r47_0 ne_b44_r47_1 Nf47_0 (by simp) (by decide)) hZ (hw _ (List.mem_of_getElem? (i := 19) rfl)) (hw _ (List.mem_of_getElem? (i := 2) rfl)) (by decide) (by decide)) q50a q50c (g := (mkF m 32 #[.val (.int p0), .val (.int p1), .val (.int p2), .val (.int p3), .val (.int p4), .val (.int (3 : Int32)), .val (.ref b44), .unset] [(.int p1), (.ref b44)])) rfl (by rw [hml]; rfl) (Steps.refl _) (argsL := [(.int p1)]) (rest := []) (lenOf own_pd1 rfl) rfl (by show 2 * 0 + _ ≤ _; exact Nat.le_of_eq rfl) (hb hby at_32) (fun _ _ => ⟨rfl, e48, (by decide : 3 + 0 ≤ _), (by decide : 19 + 0 ≤ _)⟩)
    dsimp only [Pt.U, Pt.locs, Pt.cells, Pt.slots] at X50 l50 y50 z50 st50 hQ50
    subst l50 y50 z50
    generalize e50 : T50.heap = h50 at hQ50
    obtain ⟨rfl, Nq50, Kq50, G50_0, G50_1, G50_2, G50_3, G50_4⟩ := hQ50
    have N50 := Fr.app N48 Nq50
    have K50 := K48.trans Kq50 (allS (Or.inr Zh44) (allS (Or.inr Zh47_r47_1) all0))
    have Z50 := Nat.le_trans Z48 Kq50.1
    change Stand _ _ _ _ _ _ _ _ _ _ _ _ 3 19 at X50
    refine Goes.step (fun t k => st50.trans k) ?_
    show Goes _ _ _ _ _ _ _ (T50.setTop (mkF m 35 #[.val (.int p0), .val (.int p1), .val (.int p2), .val (.int p3), .val (.int p4), .val (.int (3 : Int32)), .val (.ref b44), .unset] []))
    refine Goes.step (fun t k => XS.iload X50.here hx rfl (hb hby at_35) rfl k) ?_
    show Goes _ _ _ _ _ _ _ (T50.setTop (mkF m 37 #[.val (.int p0), .val (.int p1), .val (.int p2), .val (.int p3), .val (.int p4), .val (.int (3 : Int32)), .val (.ref b44), .unset] [(.int (3 : Int32))]))
    refine Goes.step (fun t k => XS.iconst X50.here hx rfl (hb hby at_37) k) ?_
    show Goes _ _ _ _ _ _ _ (T50.setTop (mkF m 38 #[.val (.int p0), .val (.int p1), .val (.int p2), .val (.int p3), .val (.int p4), .val (.int (3 : Int32)), .val (.ref b44), .unset] [(.int (3 : Int32)), (.int (3 : Int32))]))
    refine Goes.step (fun t k => XS.icmpNo X50.here hx rfl (hb hby at_38) rfl (flt (by decide)).1 k) ?_
    show Goes _ _ _ _ _ _ _ (T50.setTop (mkF m 41 #[.val (.int p0), .val (.int p1), .val (.int p2), .val (.int p3), .val (.int p4), .val (.int (3 : Int32)), .val (.ref b44), .unset] []))
    refine Goes.step (fun t k => XS.aload X50.here hx rfl (hb hby at_41) rfl rfl k) ?_
    show Goes _ _ _ _ _ _ _ (T50.setTop (mkF m 43 #[.val (.int p0), .val (.int p1), .val (.int p2), .val (.int p3), .val (.int p4), .val (.int (3 : Int32)), .val (.ref b44), .unset] [(.ref b44)]))
    refine Goes.step (fun t k => XS.iloadN X50.here hx rfl (hb hby at_43) rfl k) ?_
    show Goes _ _ _ _ _ _ _ (T50.setTop (mkF m 44 #[.val (.int p0), .val (.int p1), .val (.int p2), .val (.int p3), .val (.int p4), .val (.int (3 : Int32)), .val (.ref b44), .unset] [(.int p2), (.ref b44)]))
    obtain ⟨cq52, kq52, q52a, q52b, q52c⟩ := isOf hZ e50 G50_0
    obtain ⟨_, _, ⟨T52, L52, k52, n52⟩, -, X52, ⟨Lc52, hQ52, l52, y52, z52⟩, st52⟩ := X50.virtualBack hx (y := (⟨"com/example/twag/twag/parity/IntSequence", "add", "(I)V"⟩ : MethodName)) (z := (⟨"com/example/twag/twag/parity/IntSequence", "add", "(I)V"⟩ : MethodName)) hown (mvT hZ (hw _ (List.mem_of_getElem? (i := 15) rfl))) (mvT hZ (hw _ (List.mem_of_getElem? (i := 16) rfl))) (notFace_of_selects (args := #[]) (mvT hZ (hw _ (List.mem_of_getElem? (i := 18) rfl)))) (mvT hZ (hw _ (List.mem_of_getElem? (i := 18) rfl))) (mvT hZ (hw _ (List.mem_of_getElem? (i := 17) rfl))) (by decide) (backOf (W := 0) (rm3 l Z tA hw [] b44 p2 r47_0 r47_1 (((0 : Int32) + (1 : Int32)) + (1 : Int32)) (([(.int (0 : Int32)), (.int (0 : Int32)), (.int (0 : Int32)), (.int (0 : Int32)), (.int (0 : Int32)), (.int (0 : Int32)), (.int (0 : Int32)), (.int (0 : Int32)), (.int (0 : Int32)), (.int (0 : Int32)), (.int (0 : Int32)), (.int (0 : Int32)), (.int (0 : Int32)), (.int (0 : Int32)), (.int (0 : Int32)), (.int (0 : Int32))].set ((0 : Int32)).toNatClampNeg (.int p0)).set (((0 : Int32) + (1 : Int32))).toNatClampNeg (.int p1)) h50 n0 Z50 G50_0 G50_1 G50_2 G50_3 G50_4 Zs44 Zs47_r47_1 ne_b44_r47_0 ne_b44_r47_1 Nf47_0 (by simp) (by decide)) hZ (hw _ (List.mem_of_getElem? (i := 19) rfl)) (hw _ (List.mem_of_getElem? (i := 2) rfl)) (by decide) (by decide)) q52a q52c (g := (mkF m 44 #[.val (.int p0), .val (.int p1), .val (.int p2), .val (.int p3), .val (.int p4), .val (.int (3 : Int32)), .val (.ref b44), .unset] [(.int p2), (.ref b44)])) rfl (by rw [hml]; rfl) (Steps.refl _) (argsL := [(.int p2)]) (rest := []) (lenOf own_pd1 rfl) rfl (by show 2 * 0 + _ ≤ _; exact Nat.le_of_eq rfl) (hb hby at_44) (fun _ _ => ⟨rfl, e50, (by decide : 3 + 0 ≤ _), (by decide : 19 + 0 ≤ _)⟩)
    dsimp only [Pt.U, Pt.locs, Pt.cells, Pt.slots] at X52 l52 y52 z52 st52 hQ52
    subst l52 y52 z52
    generalize e52 : T52.heap = h52 at hQ52
    obtain ⟨rfl, Nq52, Kq52, G52_0, G52_1, G52_2, G52_3, G52_4⟩ := hQ52
    have N52 := Fr.app N50 Nq52
    have K52 := K50.trans Kq52 (allS (Or.inr Zh44) (allS (Or.inr Zh47_r47_1) all0))
    have Z52 := Nat.le_trans Z50 Kq52.1
    change Stand _ _ _ _ _ _ _ _ _ _ _ _ 3 19 at X52
    refine Goes.step (fun t k => st52.trans k) ?_
    show Goes _ _ _ _ _ _ _ (T52.setTop (mkF m 47 #[.val (.int p0), .val (.int p1), .val (.int p2), .val (.int p3), .val (.int p4), .val (.int (3 : Int32)), .val (.ref b44), .unset] []))
    refine Goes.step (fun t k => XS.iload X52.here hx rfl (hb hby at_47) rfl k) ?_
    show Goes _ _ _ _ _ _ _ (T52.setTop (mkF m 49 #[.val (.int p0), .val (.int p1), .val (.int p2), .val (.int p3), .val (.int p4), .val (.int (3 : Int32)), .val (.ref b44), .unset] [(.int (3 : Int32))]))
    refine Goes.step (fun t k => XS.iconst X52.here hx rfl (hb hby at_49) k) ?_
    show Goes _ _ _ _ _ _ _ (T52.setTop (mkF m 50 #[.val (.int p0), .val (.int p1), .val (.int p2), .val (.int p3), .val (.int p4), .val (.int (3 : Int32)), .val (.ref b44), .unset] [(.int (4 : Int32)), (.int (3 : Int32))]))
    refine Goes.step (fun t k => XS.icmpYes X52.here hx rfl (pc0 := 50) (pc' := 59) rfl (hb hby at_50) rfl (tlt (by decide)).1 (by decide) (by decide) k) ?_
    show Goes _ _ _ _ _ _ _ (T52.setTop (mkF m 59 #[.val (.int p0), .val (.int p1), .val (.int p2), .val (.int p3), .val (.int p4), .val (.int (3 : Int32)), .val (.ref b44), .unset] []))
    refine Goes.step (fun t k => XS.aload X52.here hx rfl (hb hby at_59) rfl rfl k) ?_
    show Goes _ _ _ _ _ _ _ (T52.setTop (mkF m 61 #[.val (.int p0), .val (.int p1), .val (.int p2), .val (.int p3), .val (.int p4), .val (.int (3 : Int32)), .val (.ref b44), .unset] [(.ref b44)]))
    obtain ⟨cq54, kq54, q54a, q54b, q54c⟩ := isOf hZ e52 G52_0
    obtain ⟨_, _, ⟨T54, L54, k54, n54⟩, -, X54, ⟨Lc54, hQ54, l54, y54, z54⟩, st54⟩ := X52.virtualBack hx (y := (⟨"com/example/twag/twag/parity/IntSequence", "size", "()I"⟩ : MethodName)) (z := (⟨"com/example/twag/twag/parity/IntSequence", "size", "()I"⟩ : MethodName)) hown (mvT hZ (hw _ (List.mem_of_getElem? (i := 23) rfl))) (mvT hZ (hw _ (List.mem_of_getElem? (i := 24) rfl))) (notFace_of_selects (args := #[]) (mvT hZ (hw _ (List.mem_of_getElem? (i := 26) rfl)))) (mvT hZ (hw _ (List.mem_of_getElem? (i := 26) rfl))) (mvT hZ (hw _ (List.mem_of_getElem? (i := 25) rfl))) (by decide) (backOf (W := 0) (rm4 l Z tA hw [] b44 ((((0 : Int32) + (1 : Int32)) + (1 : Int32)) + (1 : Int32)) h52 G52_2) hZ (hw _ (List.mem_of_getElem? (i := 27) rfl)) (hw _ (List.mem_of_getElem? (i := 2) rfl)) (by decide) (by decide)) q54a q54c (g := (mkF m 61 #[.val (.int p0), .val (.int p1), .val (.int p2), .val (.int p3), .val (.int p4), .val (.int (3 : Int32)), .val (.ref b44), .unset] [(.ref b44)])) rfl (by rw [hml]; rfl) (Steps.refl _) (argsL := []) (rest := []) (lenOf own_pd2 rfl) rfl (by show 2 * 0 + _ ≤ _; exact Nat.le_of_eq rfl) (hb hby at_61) (fun _ _ => ⟨rfl, e52, (by decide : 3 + 0 ≤ _), (by decide : 19 + 0 ≤ _)⟩)
    dsimp only [Pt.U, Pt.locs, Pt.cells, Pt.slots] at X54 l54 y54 z54 st54 hQ54
    subst l54 y54 z54
    obtain ⟨rfl, rfl, e54⟩ := hQ54
    try rw [List.append_nil] at X54
    change Stand _ _ _ _ _ _ _ _ _ _ _ _ 3 19 at X54
    refine Goes.step (fun t k => st54.trans k) ?_
    show Goes _ _ _ _ _ _ _ (T54.setTop (mkF m 64 #[.val (.int p0), .val (.int p1), .val (.int p2), .val (.int p3), .val (.int p4), .val (.int (3 : Int32)), .val (.ref b44), .unset] [(.int (f4 ((((0 : Int32) + (1 : Int32)) + (1 : Int32)) + (1 : Int32))))]))
    generalize hy55 : (f4 ((((0 : Int32) + (1 : Int32)) + (1 : Int32)) + (1 : Int32))) = y55
    refine Goes.step (fun t k => XS.iload X54.here hx rfl (hb hby at_64) rfl k) ?_
    show Goes _ _ _ _ _ _ _ (T54.setTop (mkF m 66 #[.val (.int p0), .val (.int p1), .val (.int p2), .val (.int p3), .val (.int p4), .val (.int (3 : Int32)), .val (.ref b44), .unset] [(.int (3 : Int32)), (.int y55)]))
    suffices k57 : ∀ (x57_0 : Int32), x57_0 = (if y55 = (3 : Int32) then (1 : Int32) else (0 : Int32)) → Goes p e below s (Q0 Z p0 p1 p2 p3 p4 h0 n0) kC0 kS0 (T54.setTop (mkF m 74 #[.val (.int p0), .val (.int p1), .val (.int p2), .val (.int p3), .val (.int p4), .val (.int (3 : Int32)), .val (.ref b44), .unset] [(.int x57_0)])) by
      by_cases hc66_56 : y55 = (3 : Int32)
      · refine Goes.step (fun t k => XS.icmpNo X54.here hx rfl (hb hby at_66) rfl (teq hc66_56).2 k) ?_
        show Goes _ _ _ _ _ _ _ (T54.setTop (mkF m 69 #[.val (.int p0), .val (.int p1), .val (.int p2), .val (.int p3), .val (.int p4), .val (.int (3 : Int32)), .val (.ref b44), .unset] []))
        refine Goes.step (fun t k => XS.iconst X54.here hx rfl (hb hby at_69) k) ?_
        show Goes _ _ _ _ _ _ _ (T54.setTop (mkF m 70 #[.val (.int p0), .val (.int p1), .val (.int p2), .val (.int p3), .val (.int p4), .val (.int (3 : Int32)), .val (.ref b44), .unset] [(.int (1 : Int32))]))
        refine Goes.step (fun t k => XS.goto X54.here hx rfl (pc0 := 70) (pc' := 74) rfl (hb hby at_70) (by decide) (by decide) k) ?_
        show Goes _ _ _ _ _ _ _ (T54.setTop (mkF m 74 #[.val (.int p0), .val (.int p1), .val (.int p2), .val (.int p3), .val (.int p4), .val (.int (3 : Int32)), .val (.ref b44), .unset] [(.int (1 : Int32))]))
        exact k57 _ (if_pos hc66_56).symm
      · refine Goes.step (fun t k => XS.icmpYes X54.here hx rfl (pc0 := 66) (pc' := 73) rfl (hb hby at_66) rfl (feq hc66_56).2 (by decide) (by decide) k) ?_
        show Goes _ _ _ _ _ _ _ (T54.setTop (mkF m 73 #[.val (.int p0), .val (.int p1), .val (.int p2), .val (.int p3), .val (.int p4), .val (.int (3 : Int32)), .val (.ref b44), .unset] []))
        refine Goes.step (fun t k => XS.iconst X54.here hx rfl (hb hby at_73) k) ?_
        show Goes _ _ _ _ _ _ _ (T54.setTop (mkF m 74 #[.val (.int p0), .val (.int p1), .val (.int p2), .val (.int p3), .val (.int p4), .val (.int (3 : Int32)), .val (.ref b44), .unset] [(.int (0 : Int32))]))
        exact k57 _ (if_neg hc66_56).symm
    intro x57_0 hx57_0
    refine Goes.step (fun t k => XS.istore X54.here hx rfl (hb hby at_74) rfl (l' := #[.val (.int p0), .val (.int p1), .val (.int p2), .val (.int p3), .val (.int p4), .val (.int (3 : Int32)), .val (.ref b44), .val (.int x57_0)]) rfl k) ?_
    show Goes _ _ _ _ _ _ _ (T54.setTop (mkF m 76 #[.val (.int p0), .val (.int p1), .val (.int p2), .val (.int p3), .val (.int p4), .val (.int (3 : Int32)), .val (.ref b44), .val (.int x57_0)] []))
    refine Goes.step (fun t k => XS.iload X54.here hx rfl (hb hby at_76) rfl k) ?_
    show Goes _ _ _ _ _ _ _ (T54.setTop (mkF m 78 #[.val (.int p0), .val (.int p1), .val (.int p2), .val (.int p3), .val (.int p4), .val (.int (3 : Int32)), .val (.ref b44), .val (.int x57_0)] [(.int x57_0)]))
    suffices k61 : ∀ (T61 : State) (L61 : List Loc) (x61_0 : Int32), Stand p l e room_1 s m #[(.int p0), (.int p1), (.int p2), (.int p3), (.int p4)] below meth c T61 L61 3 19 → T61.heap = h52 → Fr n0 L61 → x61_0 = (if x57_0 = (0 : Int32) then (0 : Int32) else (if (f5 p0) = p0 then (1 : Int32) else (0 : Int32))) → Goes p e below s (Q0 Z p0 p1 p2 p3 p4 h0 n0) kC0 kS0 (T61.setTop (mkF m 96 #[.val (.int p0), .val (.int p1), .val (.int p2), .val (.int p3), .val (.int p4), .val (.int (3 : Int32)), .val (.ref b44), .val (.int x57_0)] [(.int x61_0)])) by
      by_cases hc78_58 : x57_0 = (0 : Int32)
      · refine Goes.step (fun t k => XS.ifYes X54.here hx rfl (pc0 := 78) (pc' := 95) rfl (hb hby at_78) rfl ((if0 _ _).trans (teq hc78_58).1) (by decide) (by decide) k) ?_
        show Goes _ _ _ _ _ _ _ (T54.setTop (mkF m 95 #[.val (.int p0), .val (.int p1), .val (.int p2), .val (.int p3), .val (.int p4), .val (.int (3 : Int32)), .val (.ref b44), .val (.int x57_0)] []))
        refine Goes.step (fun t k => XS.iconst X54.here hx rfl (hb hby at_95) k) ?_
        show Goes _ _ _ _ _ _ _ (T54.setTop (mkF m 96 #[.val (.int p0), .val (.int p1), .val (.int p2), .val (.int p3), .val (.int p4), .val (.int (3 : Int32)), .val (.ref b44), .val (.int x57_0)] [(.int (0 : Int32))]))
        exact k61 _ _ _ X54 e54 N52 (if_pos hc78_58).symm
      · refine Goes.step (fun t k => XS.ifNo X54.here hx rfl (hb hby at_78) rfl ((if0 _ _).trans (feq hc78_58).1) k) ?_
        show Goes _ _ _ _ _ _ _ (T54.setTop (mkF m 81 #[.val (.int p0), .val (.int p1), .val (.int p2), .val (.int p3), .val (.int p4), .val (.int (3 : Int32)), .val (.ref b44), .val (.int x57_0)] []))
        refine Goes.step (fun t k => XS.aload X54.here hx rfl (hb hby at_81) rfl rfl k) ?_
        show Goes _ _ _ _ _ _ _ (T54.setTop (mkF m 83 #[.val (.int p0), .val (.int p1), .val (.int p2), .val (.int p3), .val (.int p4), .val (.int (3 : Int32)), .val (.ref b44), .val (.int x57_0)] [(.ref b44)]))
        refine Goes.step (fun t k => XS.iconst X54.here hx rfl (hb hby at_83) k) ?_
        show Goes _ _ _ _ _ _ _ (T54.setTop (mkF m 84 #[.val (.int p0), .val (.int p1), .val (.int p2), .val (.int p3), .val (.int p4), .val (.int (3 : Int32)), .val (.ref b44), .val (.int x57_0)] [(.int (0 : Int32)), (.ref b44)]))
        obtain ⟨cq59, kq59, q59a, q59b, q59c⟩ := isOf hZ e54 G52_0
        obtain ⟨_, _, ⟨T59, L59, k59, n59⟩, -, X59, ⟨Lc59, hQ59, l59, y59, z59⟩, st59⟩ := X54.virtualBack hx (y := (⟨"com/example/twag/twag/parity/IntSequence", "get", "(I)I"⟩ : MethodName)) (z := (⟨"com/example/twag/twag/parity/IntSequence", "get", "(I)I"⟩ : MethodName)) hown (mvT hZ (hw _ (List.mem_of_getElem? (i := 28) rfl))) (mvT hZ (hw _ (List.mem_of_getElem? (i := 29) rfl))) (notFace_of_selects (args := #[]) (mvT hZ (hw _ (List.mem_of_getElem? (i := 31) rfl)))) (mvT hZ (hw _ (List.mem_of_getElem? (i := 31) rfl))) (mvT hZ (hw _ (List.mem_of_getElem? (i := 30) rfl))) (by decide) (backOf (W := 0) (rm5 l Z tA hw [] b44 (0 : Int32) r47_0 r47_1 ((([(.int (0 : Int32)), (.int (0 : Int32)), (.int (0 : Int32)), (.int (0 : Int32)), (.int (0 : Int32)), (.int (0 : Int32)), (.int (0 : Int32)), (.int (0 : Int32)), (.int (0 : Int32)), (.int (0 : Int32)), (.int (0 : Int32)), (.int (0 : Int32)), (.int (0 : Int32)), (.int (0 : Int32)), (.int (0 : Int32)), (.int (0 : Int32))].set ((0 : Int32)).toNatClampNeg (.int p0)).set (((0 : Int32) + (1 : Int32))).toNatClampNeg (.int p1)).set ((((0 : Int32) + (1 : Int32)) + (1 : Int32))).toNatClampNeg (.int p2)) p0 h52 G52_1 G52_3 G52_4 (by decide) rfl) hZ (hw _ (List.mem_of_getElem? (i := 32) rfl)) (hw _ (List.mem_of_getElem? (i := 2) rfl)) (by decide) (by decide)) q59a q59c (g := (mkF m 84 #[.val (.int p0), .val (.int p1), .val (.int p2), .val (.int p3), .val (.int p4), .val (.int (3 : Int32)), .val (.ref b44), .val (.int x57_0)] [(.int (0 : Int32)), (.ref b44)])) rfl (by rw [hml]; rfl) (Steps.refl _) (argsL := [(.int (0 : Int32))]) (rest := []) (lenOf own_pd3 rfl) rfl (by show 2 * 0 + _ ≤ _; exact Nat.le_of_eq rfl) (hb hby at_84) (fun _ _ => ⟨rfl, e54, (by decide : 3 + 0 ≤ _), (by decide : 19 + 0 ≤ _)⟩)
        dsimp only [Pt.U, Pt.locs, Pt.cells, Pt.slots] at X59 l59 y59 z59 st59 hQ59
        subst l59 y59 z59
        obtain ⟨rfl, rfl, e59⟩ := hQ59
        try rw [List.append_nil] at X59
        change Stand _ _ _ _ _ _ _ _ _ _ _ _ 3 19 at X59
        refine Goes.step (fun t k => st59.trans k) ?_
        show Goes _ _ _ _ _ _ _ (T59.setTop (mkF m 87 #[.val (.int p0), .val (.int p1), .val (.int p2), .val (.int p3), .val (.int p4), .val (.int (3 : Int32)), .val (.ref b44), .val (.int x57_0)] [(.int (f5 p0))]))
        refine Goes.step (fun t k => XS.iloadN X59.here hx rfl (hb hby at_87) rfl k) ?_
        show Goes _ _ _ _ _ _ _ (T59.setTop (mkF m 88 #[.val (.int p0), .val (.int p1), .val (.int p2), .val (.int p3), .val (.int p4), .val (.int (3 : Int32)), .val (.ref b44), .val (.int x57_0)] [(.int p0), (.int (f5 p0))]))
        by_cases hc88_60 : (f5 p0) = p0
        · refine Goes.step (fun t k => XS.icmpNo X59.here hx rfl (hb hby at_88) rfl (teq hc88_60).2 k) ?_
          show Goes _ _ _ _ _ _ _ (T59.setTop (mkF m 91 #[.val (.int p0), .val (.int p1), .val (.int p2), .val (.int p3), .val (.int p4), .val (.int (3 : Int32)), .val (.ref b44), .val (.int x57_0)] []))
          refine Goes.step (fun t k => XS.iconst X59.here hx rfl (hb hby at_91) k) ?_
          show Goes _ _ _ _ _ _ _ (T59.setTop (mkF m 92 #[.val (.int p0), .val (.int p1), .val (.int p2), .val (.int p3), .val (.int p4), .val (.int (3 : Int32)), .val (.ref b44), .val (.int x57_0)] [(.int (1 : Int32))]))
          refine Goes.step (fun t k => XS.goto X59.here hx rfl (pc0 := 92) (pc' := 96) rfl (hb hby at_92) (by decide) (by decide) k) ?_
          show Goes _ _ _ _ _ _ _ (T59.setTop (mkF m 96 #[.val (.int p0), .val (.int p1), .val (.int p2), .val (.int p3), .val (.int p4), .val (.int (3 : Int32)), .val (.ref b44), .val (.int x57_0)] [(.int (1 : Int32))]))
          exact k61 _ _ _ X59 e59 N52 ((if_neg hc78_58).trans (if_pos hc88_60)).symm
        · refine Goes.step (fun t k => XS.icmpYes X59.here hx rfl (pc0 := 88) (pc' := 95) rfl (hb hby at_88) rfl (feq hc88_60).2 (by decide) (by decide) k) ?_
          show Goes _ _ _ _ _ _ _ (T59.setTop (mkF m 95 #[.val (.int p0), .val (.int p1), .val (.int p2), .val (.int p3), .val (.int p4), .val (.int (3 : Int32)), .val (.ref b44), .val (.int x57_0)] []))
          refine Goes.step (fun t k => XS.iconst X59.here hx rfl (hb hby at_95) k) ?_
          show Goes _ _ _ _ _ _ _ (T59.setTop (mkF m 96 #[.val (.int p0), .val (.int p1), .val (.int p2), .val (.int p3), .val (.int p4), .val (.int (3 : Int32)), .val (.ref b44), .val (.int x57_0)] [(.int (0 : Int32))]))
          exact k61 _ _ _ X59 e59 N52 ((if_neg hc78_58).trans (if_neg hc88_60)).symm
    intro T61 L61 x61_0 X61 e61 N61 hx61_0
    refine Goes.step (fun t k => XS.istore X61.here hx rfl (hb hby at_96) rfl (l' := #[.val (.int p0), .val (.int p1), .val (.int p2), .val (.int p3), .val (.int p4), .val (.int (3 : Int32)), .val (.ref b44), .val (.int x61_0)]) rfl k) ?_
    show Goes _ _ _ _ _ _ _ (T61.setTop (mkF m 98 #[.val (.int p0), .val (.int p1), .val (.int p2), .val (.int p3), .val (.int p4), .val (.int (3 : Int32)), .val (.ref b44), .val (.int x61_0)] []))
    refine Goes.step (fun t k => XS.iload X61.here hx rfl (hb hby at_98) rfl k) ?_
    show Goes _ _ _ _ _ _ _ (T61.setTop (mkF m 100 #[.val (.int p0), .val (.int p1), .val (.int p2), .val (.int p3), .val (.int p4), .val (.int (3 : Int32)), .val (.ref b44), .val (.int x61_0)] [(.int (3 : Int32))]))
    refine Goes.step (fun t k => XS.iconst X61.here hx rfl (hb hby at_100) k) ?_
    show Goes _ _ _ _ _ _ _ (T61.setTop (mkF m 101 #[.val (.int p0), .val (.int p1), .val (.int p2), .val (.int p3), .val (.int p4), .val (.int (3 : Int32)), .val (.ref b44), .val (.int x61_0)] [(.int (2 : Int32)), (.int (3 : Int32))]))
    refine Goes.step (fun t k => XS.icmpNo X61.here hx rfl (hb hby at_101) rfl (flt (by decide)).1 k) ?_
    show Goes _ _ _ _ _ _ _ (T61.setTop (mkF m 104 #[.val (.int p0), .val (.int p1), .val (.int p2), .val (.int p3), .val (.int p4), .val (.int (3 : Int32)), .val (.ref b44), .val (.int x61_0)] []))
    refine Goes.step (fun t k => XS.iload X61.here hx rfl (hb hby at_104) rfl k) ?_
    show Goes _ _ _ _ _ _ _ (T61.setTop (mkF m 106 #[.val (.int p0), .val (.int p1), .val (.int p2), .val (.int p3), .val (.int p4), .val (.int (3 : Int32)), .val (.ref b44), .val (.int x61_0)] [(.int x61_0)]))
    suffices k66 : ∀ (T66 : State) (L66 : List Loc) (x66_0 : Int32), Stand p l e room_1 s m #[(.int p0), (.int p1), (.int p2), (.int p3), (.int p4)] below meth c T66 L66 3 19 → T66.heap = h52 → Fr n0 L66 → x66_0 = (if x61_0 = (0 : Int32) then (0 : Int32) else (if (f5 p1) = p1 then (1 : Int32) else (0 : Int32))) → Goes p e below s (Q0 Z p0 p1 p2 p3 p4 h0 n0) kC0 kS0 (T66.setTop (mkF m 124 #[.val (.int p0), .val (.int p1), .val (.int p2), .val (.int p3), .val (.int p4), .val (.int (3 : Int32)), .val (.ref b44), .val (.int x61_0)] [(.int x66_0)])) by
      by_cases hc106_63 : x61_0 = (0 : Int32)
      · refine Goes.step (fun t k => XS.ifYes X61.here hx rfl (pc0 := 106) (pc' := 123) rfl (hb hby at_106) rfl ((if0 _ _).trans (teq hc106_63).1) (by decide) (by decide) k) ?_
        show Goes _ _ _ _ _ _ _ (T61.setTop (mkF m 123 #[.val (.int p0), .val (.int p1), .val (.int p2), .val (.int p3), .val (.int p4), .val (.int (3 : Int32)), .val (.ref b44), .val (.int x61_0)] []))
        refine Goes.step (fun t k => XS.iconst X61.here hx rfl (hb hby at_123) k) ?_
        show Goes _ _ _ _ _ _ _ (T61.setTop (mkF m 124 #[.val (.int p0), .val (.int p1), .val (.int p2), .val (.int p3), .val (.int p4), .val (.int (3 : Int32)), .val (.ref b44), .val (.int x61_0)] [(.int (0 : Int32))]))
        exact k66 _ _ _ X61 e61 N61 (if_pos hc106_63).symm
      · refine Goes.step (fun t k => XS.ifNo X61.here hx rfl (hb hby at_106) rfl ((if0 _ _).trans (feq hc106_63).1) k) ?_
        show Goes _ _ _ _ _ _ _ (T61.setTop (mkF m 109 #[.val (.int p0), .val (.int p1), .val (.int p2), .val (.int p3), .val (.int p4), .val (.int (3 : Int32)), .val (.ref b44), .val (.int x61_0)] []))
        refine Goes.step (fun t k => XS.aload X61.here hx rfl (hb hby at_109) rfl rfl k) ?_
        show Goes _ _ _ _ _ _ _ (T61.setTop (mkF m 111 #[.val (.int p0), .val (.int p1), .val (.int p2), .val (.int p3), .val (.int p4), .val (.int (3 : Int32)), .val (.ref b44), .val (.int x61_0)] [(.ref b44)]))
        refine Goes.step (fun t k => XS.iconst X61.here hx rfl (hb hby at_111) k) ?_
        show Goes _ _ _ _ _ _ _ (T61.setTop (mkF m 112 #[.val (.int p0), .val (.int p1), .val (.int p2), .val (.int p3), .val (.int p4), .val (.int (3 : Int32)), .val (.ref b44), .val (.int x61_0)] [(.int (1 : Int32)), (.ref b44)]))
        obtain ⟨cq64, kq64, q64a, q64b, q64c⟩ := isOf hZ e61 G52_0
        obtain ⟨_, _, ⟨T64, L64, k64, n64⟩, -, X64, ⟨Lc64, hQ64, l64, y64, z64⟩, st64⟩ := X61.virtualBack hx (y := (⟨"com/example/twag/twag/parity/IntSequence", "get", "(I)I"⟩ : MethodName)) (z := (⟨"com/example/twag/twag/parity/IntSequence", "get", "(I)I"⟩ : MethodName)) hown (mvT hZ (hw _ (List.mem_of_getElem? (i := 28) rfl))) (mvT hZ (hw _ (List.mem_of_getElem? (i := 29) rfl))) (notFace_of_selects (args := #[]) (mvT hZ (hw _ (List.mem_of_getElem? (i := 31) rfl)))) (mvT hZ (hw _ (List.mem_of_getElem? (i := 31) rfl))) (mvT hZ (hw _ (List.mem_of_getElem? (i := 30) rfl))) (by decide) (backOf (W := 0) (rm5 l Z tA hw [] b44 (1 : Int32) r47_0 r47_1 ((([(.int (0 : Int32)), (.int (0 : Int32)), (.int (0 : Int32)), (.int (0 : Int32)), (.int (0 : Int32)), (.int (0 : Int32)), (.int (0 : Int32)), (.int (0 : Int32)), (.int (0 : Int32)), (.int (0 : Int32)), (.int (0 : Int32)), (.int (0 : Int32)), (.int (0 : Int32)), (.int (0 : Int32)), (.int (0 : Int32)), (.int (0 : Int32))].set ((0 : Int32)).toNatClampNeg (.int p0)).set (((0 : Int32) + (1 : Int32))).toNatClampNeg (.int p1)).set ((((0 : Int32) + (1 : Int32)) + (1 : Int32))).toNatClampNeg (.int p2)) p1 h52 G52_1 G52_3 G52_4 (by decide) rfl) hZ (hw _ (List.mem_of_getElem? (i := 32) rfl)) (hw _ (List.mem_of_getElem? (i := 2) rfl)) (by decide) (by decide)) q64a q64c (g := (mkF m 112 #[.val (.int p0), .val (.int p1), .val (.int p2), .val (.int p3), .val (.int p4), .val (.int (3 : Int32)), .val (.ref b44), .val (.int x61_0)] [(.int (1 : Int32)), (.ref b44)])) rfl (by rw [hml]; rfl) (Steps.refl _) (argsL := [(.int (1 : Int32))]) (rest := []) (lenOf own_pd3 rfl) rfl (by show 2 * 0 + _ ≤ _; exact Nat.le_of_eq rfl) (hb hby at_112) (fun _ _ => ⟨rfl, e61, (by decide : 3 + 0 ≤ _), (by decide : 19 + 0 ≤ _)⟩)
        dsimp only [Pt.U, Pt.locs, Pt.cells, Pt.slots] at X64 l64 y64 z64 st64 hQ64
        subst l64 y64 z64
        obtain ⟨rfl, rfl, e64⟩ := hQ64
        try rw [List.append_nil] at X64
        change Stand _ _ _ _ _ _ _ _ _ _ _ _ 3 19 at X64
        refine Goes.step (fun t k => st64.trans k) ?_
        show Goes _ _ _ _ _ _ _ (T64.setTop (mkF m 115 #[.val (.int p0), .val (.int p1), .val (.int p2), .val (.int p3), .val (.int p4), .val (.int (3 : Int32)), .val (.ref b44), .val (.int x61_0)] [(.int (f5 p1))]))
        refine Goes.step (fun t k => XS.iloadN X64.here hx rfl (hb hby at_115) rfl k) ?_
        show Goes _ _ _ _ _ _ _ (T64.setTop (mkF m 116 #[.val (.int p0), .val (.int p1), .val (.int p2), .val (.int p3), .val (.int p4), .val (.int (3 : Int32)), .val (.ref b44), .val (.int x61_0)] [(.int p1), (.int (f5 p1))]))
        by_cases hc116_65 : (f5 p1) = p1
        · refine Goes.step (fun t k => XS.icmpNo X64.here hx rfl (hb hby at_116) rfl (teq hc116_65).2 k) ?_
          show Goes _ _ _ _ _ _ _ (T64.setTop (mkF m 119 #[.val (.int p0), .val (.int p1), .val (.int p2), .val (.int p3), .val (.int p4), .val (.int (3 : Int32)), .val (.ref b44), .val (.int x61_0)] []))
          refine Goes.step (fun t k => XS.iconst X64.here hx rfl (hb hby at_119) k) ?_
          show Goes _ _ _ _ _ _ _ (T64.setTop (mkF m 120 #[.val (.int p0), .val (.int p1), .val (.int p2), .val (.int p3), .val (.int p4), .val (.int (3 : Int32)), .val (.ref b44), .val (.int x61_0)] [(.int (1 : Int32))]))
          refine Goes.step (fun t k => XS.goto X64.here hx rfl (pc0 := 120) (pc' := 124) rfl (hb hby at_120) (by decide) (by decide) k) ?_
          show Goes _ _ _ _ _ _ _ (T64.setTop (mkF m 124 #[.val (.int p0), .val (.int p1), .val (.int p2), .val (.int p3), .val (.int p4), .val (.int (3 : Int32)), .val (.ref b44), .val (.int x61_0)] [(.int (1 : Int32))]))
          exact k66 _ _ _ X64 e64 N61 ((if_neg hc106_63).trans (if_pos hc116_65)).symm
        · refine Goes.step (fun t k => XS.icmpYes X64.here hx rfl (pc0 := 116) (pc' := 123) rfl (hb hby at_116) rfl (feq hc116_65).2 (by decide) (by decide) k) ?_
          show Goes _ _ _ _ _ _ _ (T64.setTop (mkF m 123 #[.val (.int p0), .val (.int p1), .val (.int p2), .val (.int p3), .val (.int p4), .val (.int (3 : Int32)), .val (.ref b44), .val (.int x61_0)] []))
          refine Goes.step (fun t k => XS.iconst X64.here hx rfl (hb hby at_123) k) ?_
          show Goes _ _ _ _ _ _ _ (T64.setTop (mkF m 124 #[.val (.int p0), .val (.int p1), .val (.int p2), .val (.int p3), .val (.int p4), .val (.int (3 : Int32)), .val (.ref b44), .val (.int x61_0)] [(.int (0 : Int32))]))
          exact k66 _ _ _ X64 e64 N61 ((if_neg hc106_63).trans (if_neg hc116_65)).symm
    intro T66 L66 x66_0 X66 e66 N66 hx66_0
    refine Goes.step (fun t k => XS.istore X66.here hx rfl (hb hby at_124) rfl (l' := #[.val (.int p0), .val (.int p1), .val (.int p2), .val (.int p3), .val (.int p4), .val (.int (3 : Int32)), .val (.ref b44), .val (.int x66_0)]) rfl k) ?_
    show Goes _ _ _ _ _ _ _ (T66.setTop (mkF m 126 #[.val (.int p0), .val (.int p1), .val (.int p2), .val (.int p3), .val (.int p4), .val (.int (3 : Int32)), .val (.ref b44), .val (.int x66_0)] []))
    refine Goes.step (fun t k => XS.iload X66.here hx rfl (hb hby at_126) rfl k) ?_
    show Goes _ _ _ _ _ _ _ (T66.setTop (mkF m 128 #[.val (.int p0), .val (.int p1), .val (.int p2), .val (.int p3), .val (.int p4), .val (.int (3 : Int32)), .val (.ref b44), .val (.int x66_0)] [(.int (3 : Int32))]))
    refine Goes.step (fun t k => XS.iconst X66.here hx rfl (hb hby at_128) k) ?_
    show Goes _ _ _ _ _ _ _ (T66.setTop (mkF m 129 #[.val (.int p0), .val (.int p1), .val (.int p2), .val (.int p3), .val (.int p4), .val (.int (3 : Int32)), .val (.ref b44), .val (.int x66_0)] [(.int (3 : Int32)), (.int (3 : Int32))]))
    refine Goes.step (fun t k => XS.icmpNo X66.here hx rfl (hb hby at_129) rfl (flt (by decide)).1 k) ?_
    show Goes _ _ _ _ _ _ _ (T66.setTop (mkF m 132 #[.val (.int p0), .val (.int p1), .val (.int p2), .val (.int p3), .val (.int p4), .val (.int (3 : Int32)), .val (.ref b44), .val (.int x66_0)] []))
    refine Goes.step (fun t k => XS.iload X66.here hx rfl (hb hby at_132) rfl k) ?_
    show Goes _ _ _ _ _ _ _ (T66.setTop (mkF m 134 #[.val (.int p0), .val (.int p1), .val (.int p2), .val (.int p3), .val (.int p4), .val (.int (3 : Int32)), .val (.ref b44), .val (.int x66_0)] [(.int x66_0)]))
    suffices k71 : ∀ (T71 : State) (L71 : List Loc) (x71_0 : Int32), Stand p l e room_1 s m #[(.int p0), (.int p1), (.int p2), (.int p3), (.int p4)] below meth c T71 L71 3 19 → T71.heap = h52 → Fr n0 L71 → x71_0 = (if x66_0 = (0 : Int32) then (0 : Int32) else (if (f5 p2) = p2 then (1 : Int32) else (0 : Int32))) → Goes p e below s (Q0 Z p0 p1 p2 p3 p4 h0 n0) kC0 kS0 (T71.setTop (mkF m 152 #[.val (.int p0), .val (.int p1), .val (.int p2), .val (.int p3), .val (.int p4), .val (.int (3 : Int32)), .val (.ref b44), .val (.int x66_0)] [(.int x71_0)])) by
      by_cases hc134_68 : x66_0 = (0 : Int32)
      · refine Goes.step (fun t k => XS.ifYes X66.here hx rfl (pc0 := 134) (pc' := 151) rfl (hb hby at_134) rfl ((if0 _ _).trans (teq hc134_68).1) (by decide) (by decide) k) ?_
        show Goes _ _ _ _ _ _ _ (T66.setTop (mkF m 151 #[.val (.int p0), .val (.int p1), .val (.int p2), .val (.int p3), .val (.int p4), .val (.int (3 : Int32)), .val (.ref b44), .val (.int x66_0)] []))
        refine Goes.step (fun t k => XS.iconst X66.here hx rfl (hb hby at_151) k) ?_
        show Goes _ _ _ _ _ _ _ (T66.setTop (mkF m 152 #[.val (.int p0), .val (.int p1), .val (.int p2), .val (.int p3), .val (.int p4), .val (.int (3 : Int32)), .val (.ref b44), .val (.int x66_0)] [(.int (0 : Int32))]))
        exact k71 _ _ _ X66 e66 N66 (if_pos hc134_68).symm
      · refine Goes.step (fun t k => XS.ifNo X66.here hx rfl (hb hby at_134) rfl ((if0 _ _).trans (feq hc134_68).1) k) ?_
        show Goes _ _ _ _ _ _ _ (T66.setTop (mkF m 137 #[.val (.int p0), .val (.int p1), .val (.int p2), .val (.int p3), .val (.int p4), .val (.int (3 : Int32)), .val (.ref b44), .val (.int x66_0)] []))
        refine Goes.step (fun t k => XS.aload X66.here hx rfl (hb hby at_137) rfl rfl k) ?_
        show Goes _ _ _ _ _ _ _ (T66.setTop (mkF m 139 #[.val (.int p0), .val (.int p1), .val (.int p2), .val (.int p3), .val (.int p4), .val (.int (3 : Int32)), .val (.ref b44), .val (.int x66_0)] [(.ref b44)]))
        refine Goes.step (fun t k => XS.iconst X66.here hx rfl (hb hby at_139) k) ?_
        show Goes _ _ _ _ _ _ _ (T66.setTop (mkF m 140 #[.val (.int p0), .val (.int p1), .val (.int p2), .val (.int p3), .val (.int p4), .val (.int (3 : Int32)), .val (.ref b44), .val (.int x66_0)] [(.int (2 : Int32)), (.ref b44)]))
        obtain ⟨cq69, kq69, q69a, q69b, q69c⟩ := isOf hZ e66 G52_0
        obtain ⟨_, _, ⟨T69, L69, k69, n69⟩, -, X69, ⟨Lc69, hQ69, l69, y69, z69⟩, st69⟩ := X66.virtualBack hx (y := (⟨"com/example/twag/twag/parity/IntSequence", "get", "(I)I"⟩ : MethodName)) (z := (⟨"com/example/twag/twag/parity/IntSequence", "get", "(I)I"⟩ : MethodName)) hown (mvT hZ (hw _ (List.mem_of_getElem? (i := 28) rfl))) (mvT hZ (hw _ (List.mem_of_getElem? (i := 29) rfl))) (notFace_of_selects (args := #[]) (mvT hZ (hw _ (List.mem_of_getElem? (i := 31) rfl)))) (mvT hZ (hw _ (List.mem_of_getElem? (i := 31) rfl))) (mvT hZ (hw _ (List.mem_of_getElem? (i := 30) rfl))) (by decide) (backOf (W := 0) (rm5 l Z tA hw [] b44 (2 : Int32) r47_0 r47_1 ((([(.int (0 : Int32)), (.int (0 : Int32)), (.int (0 : Int32)), (.int (0 : Int32)), (.int (0 : Int32)), (.int (0 : Int32)), (.int (0 : Int32)), (.int (0 : Int32)), (.int (0 : Int32)), (.int (0 : Int32)), (.int (0 : Int32)), (.int (0 : Int32)), (.int (0 : Int32)), (.int (0 : Int32)), (.int (0 : Int32)), (.int (0 : Int32))].set ((0 : Int32)).toNatClampNeg (.int p0)).set (((0 : Int32) + (1 : Int32))).toNatClampNeg (.int p1)).set ((((0 : Int32) + (1 : Int32)) + (1 : Int32))).toNatClampNeg (.int p2)) p2 h52 G52_1 G52_3 G52_4 (by decide) rfl) hZ (hw _ (List.mem_of_getElem? (i := 32) rfl)) (hw _ (List.mem_of_getElem? (i := 2) rfl)) (by decide) (by decide)) q69a q69c (g := (mkF m 140 #[.val (.int p0), .val (.int p1), .val (.int p2), .val (.int p3), .val (.int p4), .val (.int (3 : Int32)), .val (.ref b44), .val (.int x66_0)] [(.int (2 : Int32)), (.ref b44)])) rfl (by rw [hml]; rfl) (Steps.refl _) (argsL := [(.int (2 : Int32))]) (rest := []) (lenOf own_pd3 rfl) rfl (by show 2 * 0 + _ ≤ _; exact Nat.le_of_eq rfl) (hb hby at_140) (fun _ _ => ⟨rfl, e66, (by decide : 3 + 0 ≤ _), (by decide : 19 + 0 ≤ _)⟩)
        dsimp only [Pt.U, Pt.locs, Pt.cells, Pt.slots] at X69 l69 y69 z69 st69 hQ69
        subst l69 y69 z69
        obtain ⟨rfl, rfl, e69⟩ := hQ69
        try rw [List.append_nil] at X69
        change Stand _ _ _ _ _ _ _ _ _ _ _ _ 3 19 at X69
        refine Goes.step (fun t k => st69.trans k) ?_
        show Goes _ _ _ _ _ _ _ (T69.setTop (mkF m 143 #[.val (.int p0), .val (.int p1), .val (.int p2), .val (.int p3), .val (.int p4), .val (.int (3 : Int32)), .val (.ref b44), .val (.int x66_0)] [(.int (f5 p2))]))
        refine Goes.step (fun t k => XS.iloadN X69.here hx rfl (hb hby at_143) rfl k) ?_
        show Goes _ _ _ _ _ _ _ (T69.setTop (mkF m 144 #[.val (.int p0), .val (.int p1), .val (.int p2), .val (.int p3), .val (.int p4), .val (.int (3 : Int32)), .val (.ref b44), .val (.int x66_0)] [(.int p2), (.int (f5 p2))]))
        by_cases hc144_70 : (f5 p2) = p2
        · refine Goes.step (fun t k => XS.icmpNo X69.here hx rfl (hb hby at_144) rfl (teq hc144_70).2 k) ?_
          show Goes _ _ _ _ _ _ _ (T69.setTop (mkF m 147 #[.val (.int p0), .val (.int p1), .val (.int p2), .val (.int p3), .val (.int p4), .val (.int (3 : Int32)), .val (.ref b44), .val (.int x66_0)] []))
          refine Goes.step (fun t k => XS.iconst X69.here hx rfl (hb hby at_147) k) ?_
          show Goes _ _ _ _ _ _ _ (T69.setTop (mkF m 148 #[.val (.int p0), .val (.int p1), .val (.int p2), .val (.int p3), .val (.int p4), .val (.int (3 : Int32)), .val (.ref b44), .val (.int x66_0)] [(.int (1 : Int32))]))
          refine Goes.step (fun t k => XS.goto X69.here hx rfl (pc0 := 148) (pc' := 152) rfl (hb hby at_148) (by decide) (by decide) k) ?_
          show Goes _ _ _ _ _ _ _ (T69.setTop (mkF m 152 #[.val (.int p0), .val (.int p1), .val (.int p2), .val (.int p3), .val (.int p4), .val (.int (3 : Int32)), .val (.ref b44), .val (.int x66_0)] [(.int (1 : Int32))]))
          exact k71 _ _ _ X69 e69 N66 ((if_neg hc134_68).trans (if_pos hc144_70)).symm
        · refine Goes.step (fun t k => XS.icmpYes X69.here hx rfl (pc0 := 144) (pc' := 151) rfl (hb hby at_144) rfl (feq hc144_70).2 (by decide) (by decide) k) ?_
          show Goes _ _ _ _ _ _ _ (T69.setTop (mkF m 151 #[.val (.int p0), .val (.int p1), .val (.int p2), .val (.int p3), .val (.int p4), .val (.int (3 : Int32)), .val (.ref b44), .val (.int x66_0)] []))
          refine Goes.step (fun t k => XS.iconst X69.here hx rfl (hb hby at_151) k) ?_
          show Goes _ _ _ _ _ _ _ (T69.setTop (mkF m 152 #[.val (.int p0), .val (.int p1), .val (.int p2), .val (.int p3), .val (.int p4), .val (.int (3 : Int32)), .val (.ref b44), .val (.int x66_0)] [(.int (0 : Int32))]))
          exact k71 _ _ _ X69 e69 N66 ((if_neg hc134_68).trans (if_neg hc144_70)).symm
    intro T71 L71 x71_0 X71 e71 N71 hx71_0
    refine Goes.step (fun t k => XS.istore X71.here hx rfl (hb hby at_152) rfl (l' := #[.val (.int p0), .val (.int p1), .val (.int p2), .val (.int p3), .val (.int p4), .val (.int (3 : Int32)), .val (.ref b44), .val (.int x71_0)]) rfl k) ?_
    show Goes _ _ _ _ _ _ _ (T71.setTop (mkF m 154 #[.val (.int p0), .val (.int p1), .val (.int p2), .val (.int p3), .val (.int p4), .val (.int (3 : Int32)), .val (.ref b44), .val (.int x71_0)] []))
    refine Goes.step (fun t k => XS.iload X71.here hx rfl (hb hby at_154) rfl k) ?_
    show Goes _ _ _ _ _ _ _ (T71.setTop (mkF m 156 #[.val (.int p0), .val (.int p1), .val (.int p2), .val (.int p3), .val (.int p4), .val (.int (3 : Int32)), .val (.ref b44), .val (.int x71_0)] [(.int (3 : Int32))]))
    refine Goes.step (fun t k => XS.iconst X71.here hx rfl (hb hby at_156) k) ?_
    show Goes _ _ _ _ _ _ _ (T71.setTop (mkF m 157 #[.val (.int p0), .val (.int p1), .val (.int p2), .val (.int p3), .val (.int p4), .val (.int (3 : Int32)), .val (.ref b44), .val (.int x71_0)] [(.int (4 : Int32)), (.int (3 : Int32))]))
    refine Goes.step (fun t k => XS.icmpYes X71.here hx rfl (pc0 := 157) (pc' := 182) rfl (hb hby at_157) rfl (tlt (by decide)).1 (by decide) (by decide) k) ?_
    show Goes _ _ _ _ _ _ _ (T71.setTop (mkF m 182 #[.val (.int p0), .val (.int p1), .val (.int p2), .val (.int p3), .val (.int p4), .val (.int (3 : Int32)), .val (.ref b44), .val (.int x71_0)] []))
    refine Goes.step (fun t k => XS.iload X71.here hx rfl (hb hby at_182) rfl k) ?_
    show Goes _ _ _ _ _ _ _ (T71.setTop (mkF m 184 #[.val (.int p0), .val (.int p1), .val (.int p2), .val (.int p3), .val (.int p4), .val (.int (3 : Int32)), .val (.ref b44), .val (.int x71_0)] [(.int x71_0)]))
    exact Goes.retZ X71 hx Bd.notSynchronized (r := (1 : Int32)) Bd.returns (by simp) (hb hby at_184) (own_plain_3 p0 p1 p2 y55 x57_0 x61_0 x66_0 x71_0 hy55 hx57_0 hx61_0 hx66_0 hx71_0) ⟨rfl, N71⟩ (by decide) (by decide)
  · show Goes _ _ _ _ _ _ _ (s₁.setTop (mkF m 8 #[.val (.int p0), .val (.int p1), .val (.int p2), .val (.int p3), .val (.int p4), .val (.int (4 : Int32)), .unset, .unset] []))
    obtain ⟨T73, h73, X73, e73, E73, A73, D73, -, st73⟩ := newO X0 hx hZ hown (hw _ (List.mem_of_getElem? (i := 0) rfl)) (hw _ (List.mem_of_getElem? (i := 1) rfl)) (hw _ (List.mem_of_getElem? (i := 2) rfl)) e0 (g := (mkF m 8 #[.val (.int p0), .val (.int p1), .val (.int p2), .val (.int p3), .val (.int p4), .val (.int (4 : Int32)), .unset, .unset] [])) rfl (hb hby at_8) (by decide) (by decide)
    obtain ⟨b73, g73⟩ : ∃ z, z = h0.size := ⟨_, rfl⟩
    rw [← g73] at A73 D73 st73
    have Zs73 : n0 ≤ b73 := Nat.le_trans Z0 (Nat.le_of_eq g73.symm)
    have Zh73 : h0.size ≤ b73 := Nat.le_trans (Keep.refl h0 []).1 (Nat.le_of_eq g73.symm)
    have K73 := (Keep.refl h0 []).ext E73
    have Z73 := Nat.le_trans Z0 E73.1
    have F74 : Fld Z h73 b73 "com/example/twag/twag/parity/IntSequence" "blocks" "[[I" .null := D73 (Or.inl (hw _ (List.mem_of_getElem? (i := 14) rfl))) (ty := (.array (.array .int))) (by decide)
    have F75 : Fld Z h73 b73 "com/example/twag/twag/parity/IntSequence" "size" "I" (.int (0 : Int32)) := D73 (Or.inl (hw _ (List.mem_of_getElem? (i := 21) rfl))) (ty := .int) (by decide)
    refine Goes.step (fun t k => st73 t k) ?_
    show Goes _ _ _ _ _ _ _ (T73.setTop (mkF m 11 #[.val (.int p0), .val (.int p1), .val (.int p2), .val (.int p3), .val (.int p4), .val (.int (4 : Int32)), .unset, .unset] [(.ref b73)]))
    refine Goes.step (fun t k => XS.dup X73.here hx rfl (hb hby at_11) rfl rfl k) ?_
    show Goes _ _ _ _ _ _ _ (T73.setTop (mkF m 12 #[.val (.int p0), .val (.int p1), .val (.int p2), .val (.int p3), .val (.int p4), .val (.int (4 : Int32)), .unset, .unset] [(.ref b73), (.ref b73)]))
    obtain ⟨_, _, ⟨T76, L76, k76, n76⟩, -, X76, ⟨Lc76, hQ76, l76, y76, z76⟩, st76⟩ := X73.specialBack hx (y := (⟨"com/example/twag/twag/parity/IntSequence", "<init>", "()V"⟩ : MethodName)) rfl hown (mvT hZ (hw _ (List.mem_of_getElem? (i := 3) rfl))) (mvT hZ (hw _ (List.mem_of_getElem? (i := 4) rfl))) (mvT hZ (hw _ (List.mem_of_getElem? (i := 5) rfl))) (by decide) (backOf (W := 1) (rm1 l Z tA hw [] b73 h73 n0 Z73 A73 F74 F75 Zs73) hZ (hw _ (List.mem_of_getElem? (i := 5) rfl)) (hw _ (List.mem_of_getElem? (i := 2) rfl)) (by decide) (by decide)) (g := (mkF m 12 #[.val (.int p0), .val (.int p1), .val (.int p2), .val (.int p3), .val (.int p4), .val (.int (4 : Int32)), .unset, .unset] [(.ref b73), (.ref b73)])) rfl (by rw [hml]; rfl) (Steps.refl _) (a := b73) (argsL := []) (rest := [(.ref b73)]) (lenOf own_pd0 rfl) rfl (by show 2 * 0 + _ ≤ _; exact Nat.le_of_eq rfl) (hb hby at_12) (fun _ _ => ⟨rfl, e73, (by decide : 1 + 2 ≤ _), (by decide : 2 + 17 ≤ _)⟩)
    dsimp only [Pt.U, Pt.locs, Pt.cells, Pt.slots] at X76 l76 y76 z76 st76 hQ76
    subst l76 y76 z76
    generalize e76 : T76.heap = h76 at hQ76
    obtain ⟨r76_0, r76_1, rfl, Nq76, Kq76, Zf76_r76_0, Zf76_r76_1, Nf76_0, G76_0, G76_1, G76_2, G76_3, G76_4⟩ := hQ76
    have ne_b73_r76_0 : b73 ≠ r76_0 := Nat.ne_of_lt (Nat.lt_of_lt_of_le A73.lt Zf76_r76_0)
    have Zs76_r76_0 := Nat.le_trans Z73 Zf76_r76_0
    have Zh76_r76_0 := Nat.le_trans K73.1 Zf76_r76_0
    have ne_b73_r76_1 : b73 ≠ r76_1 := Nat.ne_of_lt (Nat.lt_of_lt_of_le A73.lt Zf76_r76_1)
    have Zs76_r76_1 := Nat.le_trans Z73 Zf76_r76_1
    have Zh76_r76_1 := Nat.le_trans K73.1 Zf76_r76_1
    have N76 := Fr.app N0 Nq76
    have K76 := K73.trans Kq76 (allS (Or.inr Zh73) all0)
    have Z76 := Nat.le_trans Z73 Kq76.1
    change Stand _ _ _ _ _ _ _ _ _ _ _ _ 3 19 at X76
    refine Goes.step (fun t k => st76.trans k) ?_
    show Goes _ _ _ _ _ _ _ (T76.setTop (mkF m 15 #[.val (.int p0), .val (.int p1), .val (.int p2), .val (.int p3), .val (.int p4), .val (.int (4 : Int32)), .unset, .unset] [(.ref b73)]))
    refine Goes.step (fun t k => XS.astore X76.here hx rfl (hb hby at_15) rfl rfl (l' := #[.val (.int p0), .val (.int p1), .val (.int p2), .val (.int p3), .val (.int p4), .val (.int (4 : Int32)), .val (.ref b73), .unset]) rfl k) ?_
    show Goes _ _ _ _ _ _ _ (T76.setTop (mkF m 17 #[.val (.int p0), .val (.int p1), .val (.int p2), .val (.int p3), .val (.int p4), .val (.int (4 : Int32)), .val (.ref b73), .unset] []))
    refine Goes.step (fun t k => XS.aload X76.here hx rfl (hb hby at_17) rfl rfl k) ?_
    show Goes _ _ _ _ _ _ _ (T76.setTop (mkF m 19 #[.val (.int p0), .val (.int p1), .val (.int p2), .val (.int p3), .val (.int p4), .val (.int (4 : Int32)), .val (.ref b73), .unset] [(.ref b73)]))
    refine Goes.step (fun t k => XS.iloadN X76.here hx rfl (hb hby at_19) rfl k) ?_
    show Goes _ _ _ _ _ _ _ (T76.setTop (mkF m 20 #[.val (.int p0), .val (.int p1), .val (.int p2), .val (.int p3), .val (.int p4), .val (.int (4 : Int32)), .val (.ref b73), .unset] [(.int p0), (.ref b73)]))
    obtain ⟨cq77, kq77, q77a, q77b, q77c⟩ := isOf hZ e76 G76_0
    obtain ⟨_, _, ⟨T77, L77, k77, n77⟩, -, X77, ⟨Lc77, hQ77, l77, y77, z77⟩, st77⟩ := X76.virtualBack hx (y := (⟨"com/example/twag/twag/parity/IntSequence", "add", "(I)V"⟩ : MethodName)) (z := (⟨"com/example/twag/twag/parity/IntSequence", "add", "(I)V"⟩ : MethodName)) hown (mvT hZ (hw _ (List.mem_of_getElem? (i := 15) rfl))) (mvT hZ (hw _ (List.mem_of_getElem? (i := 16) rfl))) (notFace_of_selects (args := #[]) (mvT hZ (hw _ (List.mem_of_getElem? (i := 18) rfl)))) (mvT hZ (hw _ (List.mem_of_getElem? (i := 18) rfl))) (mvT hZ (hw _ (List.mem_of_getElem? (i := 17) rfl))) (by decide) (backOf (W := 0) (rm3 l Z tA hw [] b73 p0 r76_0 r76_1 (0 : Int32) [(.int (0 : Int32)), (.int (0 : Int32)), (.int (0 : Int32)), (.int (0 : Int32)), (.int (0 : Int32)), (.int (0 : Int32)), (.int (0 : Int32)), (.int (0 : Int32)), (.int (0 : Int32)), (.int (0 : Int32)), (.int (0 : Int32)), (.int (0 : Int32)), (.int (0 : Int32)), (.int (0 : Int32)), (.int (0 : Int32)), (.int (0 : Int32))] h76 n0 Z76 G76_0 G76_1 G76_2 G76_3 G76_4 Zs73 Zs76_r76_1 ne_b73_r76_0 ne_b73_r76_1 Nf76_0 (by simp) (by decide)) hZ (hw _ (List.mem_of_getElem? (i := 19) rfl)) (hw _ (List.mem_of_getElem? (i := 2) rfl)) (by decide) (by decide)) q77a q77c (g := (mkF m 20 #[.val (.int p0), .val (.int p1), .val (.int p2), .val (.int p3), .val (.int p4), .val (.int (4 : Int32)), .val (.ref b73), .unset] [(.int p0), (.ref b73)])) rfl (by rw [hml]; rfl) (Steps.refl _) (argsL := [(.int p0)]) (rest := []) (lenOf own_pd1 rfl) rfl (by show 2 * 0 + _ ≤ _; exact Nat.le_of_eq rfl) (hb hby at_20) (fun _ _ => ⟨rfl, e76, (by decide : 3 + 0 ≤ _), (by decide : 19 + 0 ≤ _)⟩)
    dsimp only [Pt.U, Pt.locs, Pt.cells, Pt.slots] at X77 l77 y77 z77 st77 hQ77
    subst l77 y77 z77
    generalize e77 : T77.heap = h77 at hQ77
    obtain ⟨rfl, Nq77, Kq77, G77_0, G77_1, G77_2, G77_3, G77_4⟩ := hQ77
    have N77 := Fr.app N76 Nq77
    have K77 := K76.trans Kq77 (allS (Or.inr Zh73) (allS (Or.inr Zh76_r76_1) all0))
    have Z77 := Nat.le_trans Z76 Kq77.1
    change Stand _ _ _ _ _ _ _ _ _ _ _ _ 3 19 at X77
    refine Goes.step (fun t k => st77.trans k) ?_
    show Goes _ _ _ _ _ _ _ (T77.setTop (mkF m 23 #[.val (.int p0), .val (.int p1), .val (.int p2), .val (.int p3), .val (.int p4), .val (.int (4 : Int32)), .val (.ref b73), .unset] []))
    refine Goes.step (fun t k => XS.iload X77.here hx rfl (hb hby at_23) rfl k) ?_
    show Goes _ _ _ _ _ _ _ (T77.setTop (mkF m 25 #[.val (.int p0), .val (.int p1), .val (.int p2), .val (.int p3), .val (.int p4), .val (.int (4 : Int32)), .val (.ref b73), .unset] [(.int (4 : Int32))]))
    refine Goes.step (fun t k => XS.iconst X77.here hx rfl (hb hby at_25) k) ?_
    show Goes _ _ _ _ _ _ _ (T77.setTop (mkF m 26 #[.val (.int p0), .val (.int p1), .val (.int p2), .val (.int p3), .val (.int p4), .val (.int (4 : Int32)), .val (.ref b73), .unset] [(.int (2 : Int32)), (.int (4 : Int32))]))
    refine Goes.step (fun t k => XS.icmpNo X77.here hx rfl (hb hby at_26) rfl (flt (by decide)).1 k) ?_
    show Goes _ _ _ _ _ _ _ (T77.setTop (mkF m 29 #[.val (.int p0), .val (.int p1), .val (.int p2), .val (.int p3), .val (.int p4), .val (.int (4 : Int32)), .val (.ref b73), .unset] []))
    refine Goes.step (fun t k => XS.aload X77.here hx rfl (hb hby at_29) rfl rfl k) ?_
    show Goes _ _ _ _ _ _ _ (T77.setTop (mkF m 31 #[.val (.int p0), .val (.int p1), .val (.int p2), .val (.int p3), .val (.int p4), .val (.int (4 : Int32)), .val (.ref b73), .unset] [(.ref b73)]))
    refine Goes.step (fun t k => XS.iloadN X77.here hx rfl (hb hby at_31) rfl k) ?_
    show Goes _ _ _ _ _ _ _ (T77.setTop (mkF m 32 #[.val (.int p0), .val (.int p1), .val (.int p2), .val (.int p3), .val (.int p4), .val (.int (4 : Int32)), .val (.ref b73), .unset] [(.int p1), (.ref b73)]))
    obtain ⟨cq79, kq79, q79a, q79b, q79c⟩ := isOf hZ e77 G77_0
    obtain ⟨_, _, ⟨T79, L79, k79, n79⟩, -, X79, ⟨Lc79, hQ79, l79, y79, z79⟩, st79⟩ := X77.virtualBack hx (y := (⟨"com/example/twag/twag/parity/IntSequence", "add", "(I)V"⟩ : MethodName)) (z := (⟨"com/example/twag/twag/parity/IntSequence", "add", "(I)V"⟩ : MethodName)) hown (mvT hZ (hw _ (List.mem_of_getElem? (i := 15) rfl))) (mvT hZ (hw _ (List.mem_of_getElem? (i := 16) rfl))) (notFace_of_selects (args := #[]) (mvT hZ (hw _ (List.mem_of_getElem? (i := 18) rfl)))) (mvT hZ (hw _ (List.mem_of_getElem? (i := 18) rfl))) (mvT hZ (hw _ (List.mem_of_getElem? (i := 17) rfl))) (by decide) (backOf (W := 0) (rm3 l Z tA hw [] b73 p1 r76_0 r76_1 ((0 : Int32) + (1 : Int32)) ([(.int (0 : Int32)), (.int (0 : Int32)), (.int (0 : Int32)), (.int (0 : Int32)), (.int (0 : Int32)), (.int (0 : Int32)), (.int (0 : Int32)), (.int (0 : Int32)), (.int (0 : Int32)), (.int (0 : Int32)), (.int (0 : Int32)), (.int (0 : Int32)), (.int (0 : Int32)), (.int (0 : Int32)), (.int (0 : Int32)), (.int (0 : Int32))].set ((0 : Int32)).toNatClampNeg (.int p0)) h77 n0 Z77 G77_0 G77_1 G77_2 G77_3 G77_4 Zs73 Zs76_r76_1 ne_b73_r76_0 ne_b73_r76_1 Nf76_0 (by simp) (by decide)) hZ (hw _ (List.mem_of_getElem? (i := 19) rfl)) (hw _ (List.mem_of_getElem? (i := 2) rfl)) (by decide) (by decide)) q79a q79c (g := (mkF m 32 #[.val (.int p0), .val (.int p1), .val (.int p2), .val (.int p3), .val (.int p4), .val (.int (4 : Int32)), .val (.ref b73), .unset] [(.int p1), (.ref b73)])) rfl (by rw [hml]; rfl) (Steps.refl _) (argsL := [(.int p1)]) (rest := []) (lenOf own_pd1 rfl) rfl (by show 2 * 0 + _ ≤ _; exact Nat.le_of_eq rfl) (hb hby at_32) (fun _ _ => ⟨rfl, e77, (by decide : 3 + 0 ≤ _), (by decide : 19 + 0 ≤ _)⟩)
    dsimp only [Pt.U, Pt.locs, Pt.cells, Pt.slots] at X79 l79 y79 z79 st79 hQ79
    subst l79 y79 z79
    generalize e79 : T79.heap = h79 at hQ79
    obtain ⟨rfl, Nq79, Kq79, G79_0, G79_1, G79_2, G79_3, G79_4⟩ := hQ79
    have N79 := Fr.app N77 Nq79
    have K79 := K77.trans Kq79 (allS (Or.inr Zh73) (allS (Or.inr Zh76_r76_1) all0))
    have Z79 := Nat.le_trans Z77 Kq79.1
    change Stand _ _ _ _ _ _ _ _ _ _ _ _ 3 19 at X79
    refine Goes.step (fun t k => st79.trans k) ?_
    show Goes _ _ _ _ _ _ _ (T79.setTop (mkF m 35 #[.val (.int p0), .val (.int p1), .val (.int p2), .val (.int p3), .val (.int p4), .val (.int (4 : Int32)), .val (.ref b73), .unset] []))
    refine Goes.step (fun t k => XS.iload X79.here hx rfl (hb hby at_35) rfl k) ?_
    show Goes _ _ _ _ _ _ _ (T79.setTop (mkF m 37 #[.val (.int p0), .val (.int p1), .val (.int p2), .val (.int p3), .val (.int p4), .val (.int (4 : Int32)), .val (.ref b73), .unset] [(.int (4 : Int32))]))
    refine Goes.step (fun t k => XS.iconst X79.here hx rfl (hb hby at_37) k) ?_
    show Goes _ _ _ _ _ _ _ (T79.setTop (mkF m 38 #[.val (.int p0), .val (.int p1), .val (.int p2), .val (.int p3), .val (.int p4), .val (.int (4 : Int32)), .val (.ref b73), .unset] [(.int (3 : Int32)), (.int (4 : Int32))]))
    refine Goes.step (fun t k => XS.icmpNo X79.here hx rfl (hb hby at_38) rfl (flt (by decide)).1 k) ?_
    show Goes _ _ _ _ _ _ _ (T79.setTop (mkF m 41 #[.val (.int p0), .val (.int p1), .val (.int p2), .val (.int p3), .val (.int p4), .val (.int (4 : Int32)), .val (.ref b73), .unset] []))
    refine Goes.step (fun t k => XS.aload X79.here hx rfl (hb hby at_41) rfl rfl k) ?_
    show Goes _ _ _ _ _ _ _ (T79.setTop (mkF m 43 #[.val (.int p0), .val (.int p1), .val (.int p2), .val (.int p3), .val (.int p4), .val (.int (4 : Int32)), .val (.ref b73), .unset] [(.ref b73)]))
    refine Goes.step (fun t k => XS.iloadN X79.here hx rfl (hb hby at_43) rfl k) ?_
    show Goes _ _ _ _ _ _ _ (T79.setTop (mkF m 44 #[.val (.int p0), .val (.int p1), .val (.int p2), .val (.int p3), .val (.int p4), .val (.int (4 : Int32)), .val (.ref b73), .unset] [(.int p2), (.ref b73)]))
    obtain ⟨cq81, kq81, q81a, q81b, q81c⟩ := isOf hZ e79 G79_0
    obtain ⟨_, _, ⟨T81, L81, k81, n81⟩, -, X81, ⟨Lc81, hQ81, l81, y81, z81⟩, st81⟩ := X79.virtualBack hx (y := (⟨"com/example/twag/twag/parity/IntSequence", "add", "(I)V"⟩ : MethodName)) (z := (⟨"com/example/twag/twag/parity/IntSequence", "add", "(I)V"⟩ : MethodName)) hown (mvT hZ (hw _ (List.mem_of_getElem? (i := 15) rfl))) (mvT hZ (hw _ (List.mem_of_getElem? (i := 16) rfl))) (notFace_of_selects (args := #[]) (mvT hZ (hw _ (List.mem_of_getElem? (i := 18) rfl)))) (mvT hZ (hw _ (List.mem_of_getElem? (i := 18) rfl))) (mvT hZ (hw _ (List.mem_of_getElem? (i := 17) rfl))) (by decide) (backOf (W := 0) (rm3 l Z tA hw [] b73 p2 r76_0 r76_1 (((0 : Int32) + (1 : Int32)) + (1 : Int32)) (([(.int (0 : Int32)), (.int (0 : Int32)), (.int (0 : Int32)), (.int (0 : Int32)), (.int (0 : Int32)), (.int (0 : Int32)), (.int (0 : Int32)), (.int (0 : Int32)), (.int (0 : Int32)), (.int (0 : Int32)), (.int (0 : Int32)), (.int (0 : Int32)), (.int (0 : Int32)), (.int (0 : Int32)), (.int (0 : Int32)), (.int (0 : Int32))].set ((0 : Int32)).toNatClampNeg (.int p0)).set (((0 : Int32) + (1 : Int32))).toNatClampNeg (.int p1)) h79 n0 Z79 G79_0 G79_1 G79_2 G79_3 G79_4 Zs73 Zs76_r76_1 ne_b73_r76_0 ne_b73_r76_1 Nf76_0 (by simp) (by decide)) hZ (hw _ (List.mem_of_getElem? (i := 19) rfl)) (hw _ (List.mem_of_getElem? (i := 2) rfl)) (by decide) (by decide)) q81a q81c (g := (mkF m 44 #[.val (.int p0), .val (.int p1), .val (.int p2), .val (.int p3), .val (.int p4), .val (.int (4 : Int32)), .val (.ref b73), .unset] [(.int p2), (.ref b73)])) rfl (by rw [hml]; rfl) (Steps.refl _) (argsL := [(.int p2)]) (rest := []) (lenOf own_pd1 rfl) rfl (by show 2 * 0 + _ ≤ _; exact Nat.le_of_eq rfl) (hb hby at_44) (fun _ _ => ⟨rfl, e79, (by decide : 3 + 0 ≤ _), (by decide : 19 + 0 ≤ _)⟩)
    dsimp only [Pt.U, Pt.locs, Pt.cells, Pt.slots] at X81 l81 y81 z81 st81 hQ81
    subst l81 y81 z81
    generalize e81 : T81.heap = h81 at hQ81
    obtain ⟨rfl, Nq81, Kq81, G81_0, G81_1, G81_2, G81_3, G81_4⟩ := hQ81
    have N81 := Fr.app N79 Nq81
    have K81 := K79.trans Kq81 (allS (Or.inr Zh73) (allS (Or.inr Zh76_r76_1) all0))
    have Z81 := Nat.le_trans Z79 Kq81.1
    change Stand _ _ _ _ _ _ _ _ _ _ _ _ 3 19 at X81
    refine Goes.step (fun t k => st81.trans k) ?_
    show Goes _ _ _ _ _ _ _ (T81.setTop (mkF m 47 #[.val (.int p0), .val (.int p1), .val (.int p2), .val (.int p3), .val (.int p4), .val (.int (4 : Int32)), .val (.ref b73), .unset] []))
    refine Goes.step (fun t k => XS.iload X81.here hx rfl (hb hby at_47) rfl k) ?_
    show Goes _ _ _ _ _ _ _ (T81.setTop (mkF m 49 #[.val (.int p0), .val (.int p1), .val (.int p2), .val (.int p3), .val (.int p4), .val (.int (4 : Int32)), .val (.ref b73), .unset] [(.int (4 : Int32))]))
    refine Goes.step (fun t k => XS.iconst X81.here hx rfl (hb hby at_49) k) ?_
    show Goes _ _ _ _ _ _ _ (T81.setTop (mkF m 50 #[.val (.int p0), .val (.int p1), .val (.int p2), .val (.int p3), .val (.int p4), .val (.int (4 : Int32)), .val (.ref b73), .unset] [(.int (4 : Int32)), (.int (4 : Int32))]))
    refine Goes.step (fun t k => XS.icmpNo X81.here hx rfl (hb hby at_50) rfl (flt (by decide)).1 k) ?_
    show Goes _ _ _ _ _ _ _ (T81.setTop (mkF m 53 #[.val (.int p0), .val (.int p1), .val (.int p2), .val (.int p3), .val (.int p4), .val (.int (4 : Int32)), .val (.ref b73), .unset] []))
    refine Goes.step (fun t k => XS.aload X81.here hx rfl (hb hby at_53) rfl rfl k) ?_
    show Goes _ _ _ _ _ _ _ (T81.setTop (mkF m 55 #[.val (.int p0), .val (.int p1), .val (.int p2), .val (.int p3), .val (.int p4), .val (.int (4 : Int32)), .val (.ref b73), .unset] [(.ref b73)]))
    refine Goes.step (fun t k => XS.iloadN X81.here hx rfl (hb hby at_55) rfl k) ?_
    show Goes _ _ _ _ _ _ _ (T81.setTop (mkF m 56 #[.val (.int p0), .val (.int p1), .val (.int p2), .val (.int p3), .val (.int p4), .val (.int (4 : Int32)), .val (.ref b73), .unset] [(.int p3), (.ref b73)]))
    obtain ⟨cq83, kq83, q83a, q83b, q83c⟩ := isOf hZ e81 G81_0
    obtain ⟨_, _, ⟨T83, L83, k83, n83⟩, -, X83, ⟨Lc83, hQ83, l83, y83, z83⟩, st83⟩ := X81.virtualBack hx (y := (⟨"com/example/twag/twag/parity/IntSequence", "add", "(I)V"⟩ : MethodName)) (z := (⟨"com/example/twag/twag/parity/IntSequence", "add", "(I)V"⟩ : MethodName)) hown (mvT hZ (hw _ (List.mem_of_getElem? (i := 15) rfl))) (mvT hZ (hw _ (List.mem_of_getElem? (i := 16) rfl))) (notFace_of_selects (args := #[]) (mvT hZ (hw _ (List.mem_of_getElem? (i := 18) rfl)))) (mvT hZ (hw _ (List.mem_of_getElem? (i := 18) rfl))) (mvT hZ (hw _ (List.mem_of_getElem? (i := 17) rfl))) (by decide) (backOf (W := 0) (rm3 l Z tA hw [] b73 p3 r76_0 r76_1 ((((0 : Int32) + (1 : Int32)) + (1 : Int32)) + (1 : Int32)) ((([(.int (0 : Int32)), (.int (0 : Int32)), (.int (0 : Int32)), (.int (0 : Int32)), (.int (0 : Int32)), (.int (0 : Int32)), (.int (0 : Int32)), (.int (0 : Int32)), (.int (0 : Int32)), (.int (0 : Int32)), (.int (0 : Int32)), (.int (0 : Int32)), (.int (0 : Int32)), (.int (0 : Int32)), (.int (0 : Int32)), (.int (0 : Int32))].set ((0 : Int32)).toNatClampNeg (.int p0)).set (((0 : Int32) + (1 : Int32))).toNatClampNeg (.int p1)).set ((((0 : Int32) + (1 : Int32)) + (1 : Int32))).toNatClampNeg (.int p2)) h81 n0 Z81 G81_0 G81_1 G81_2 G81_3 G81_4 Zs73 Zs76_r76_1 ne_b73_r76_0 ne_b73_r76_1 Nf76_0 (by simp) (by decide)) hZ (hw _ (List.mem_of_getElem? (i := 19) rfl)) (hw _ (List.mem_of_getElem? (i := 2) rfl)) (by decide) (by decide)) q83a q83c (g := (mkF m 56 #[.val (.int p0), .val (.int p1), .val (.int p2), .val (.int p3), .val (.int p4), .val (.int (4 : Int32)), .val (.ref b73), .unset] [(.int p3), (.ref b73)])) rfl (by rw [hml]; rfl) (Steps.refl _) (argsL := [(.int p3)]) (rest := []) (lenOf own_pd1 rfl) rfl (by show 2 * 0 + _ ≤ _; exact Nat.le_of_eq rfl) (hb hby at_56) (fun _ _ => ⟨rfl, e81, (by decide : 3 + 0 ≤ _), (by decide : 19 + 0 ≤ _)⟩)
    dsimp only [Pt.U, Pt.locs, Pt.cells, Pt.slots] at X83 l83 y83 z83 st83 hQ83
    subst l83 y83 z83
    generalize e83 : T83.heap = h83 at hQ83
    obtain ⟨rfl, Nq83, Kq83, G83_0, G83_1, G83_2, G83_3, G83_4⟩ := hQ83
    have N83 := Fr.app N81 Nq83
    have K83 := K81.trans Kq83 (allS (Or.inr Zh73) (allS (Or.inr Zh76_r76_1) all0))
    have Z83 := Nat.le_trans Z81 Kq83.1
    change Stand _ _ _ _ _ _ _ _ _ _ _ _ 3 19 at X83
    refine Goes.step (fun t k => st83.trans k) ?_
    show Goes _ _ _ _ _ _ _ (T83.setTop (mkF m 59 #[.val (.int p0), .val (.int p1), .val (.int p2), .val (.int p3), .val (.int p4), .val (.int (4 : Int32)), .val (.ref b73), .unset] []))
    refine Goes.step (fun t k => XS.aload X83.here hx rfl (hb hby at_59) rfl rfl k) ?_
    show Goes _ _ _ _ _ _ _ (T83.setTop (mkF m 61 #[.val (.int p0), .val (.int p1), .val (.int p2), .val (.int p3), .val (.int p4), .val (.int (4 : Int32)), .val (.ref b73), .unset] [(.ref b73)]))
    obtain ⟨cq84, kq84, q84a, q84b, q84c⟩ := isOf hZ e83 G83_0
    obtain ⟨_, _, ⟨T84, L84, k84, n84⟩, -, X84, ⟨Lc84, hQ84, l84, y84, z84⟩, st84⟩ := X83.virtualBack hx (y := (⟨"com/example/twag/twag/parity/IntSequence", "size", "()I"⟩ : MethodName)) (z := (⟨"com/example/twag/twag/parity/IntSequence", "size", "()I"⟩ : MethodName)) hown (mvT hZ (hw _ (List.mem_of_getElem? (i := 23) rfl))) (mvT hZ (hw _ (List.mem_of_getElem? (i := 24) rfl))) (notFace_of_selects (args := #[]) (mvT hZ (hw _ (List.mem_of_getElem? (i := 26) rfl)))) (mvT hZ (hw _ (List.mem_of_getElem? (i := 26) rfl))) (mvT hZ (hw _ (List.mem_of_getElem? (i := 25) rfl))) (by decide) (backOf (W := 0) (rm4 l Z tA hw [] b73 (((((0 : Int32) + (1 : Int32)) + (1 : Int32)) + (1 : Int32)) + (1 : Int32)) h83 G83_2) hZ (hw _ (List.mem_of_getElem? (i := 27) rfl)) (hw _ (List.mem_of_getElem? (i := 2) rfl)) (by decide) (by decide)) q84a q84c (g := (mkF m 61 #[.val (.int p0), .val (.int p1), .val (.int p2), .val (.int p3), .val (.int p4), .val (.int (4 : Int32)), .val (.ref b73), .unset] [(.ref b73)])) rfl (by rw [hml]; rfl) (Steps.refl _) (argsL := []) (rest := []) (lenOf own_pd2 rfl) rfl (by show 2 * 0 + _ ≤ _; exact Nat.le_of_eq rfl) (hb hby at_61) (fun _ _ => ⟨rfl, e83, (by decide : 3 + 0 ≤ _), (by decide : 19 + 0 ≤ _)⟩)
    dsimp only [Pt.U, Pt.locs, Pt.cells, Pt.slots] at X84 l84 y84 z84 st84 hQ84
    subst l84 y84 z84
    obtain ⟨rfl, rfl, e84⟩ := hQ84
    try rw [List.append_nil] at X84
    change Stand _ _ _ _ _ _ _ _ _ _ _ _ 3 19 at X84
    refine Goes.step (fun t k => st84.trans k) ?_
    show Goes _ _ _ _ _ _ _ (T84.setTop (mkF m 64 #[.val (.int p0), .val (.int p1), .val (.int p2), .val (.int p3), .val (.int p4), .val (.int (4 : Int32)), .val (.ref b73), .unset] [(.int (f4 (((((0 : Int32) + (1 : Int32)) + (1 : Int32)) + (1 : Int32)) + (1 : Int32))))]))
    generalize hy85 : (f4 (((((0 : Int32) + (1 : Int32)) + (1 : Int32)) + (1 : Int32)) + (1 : Int32))) = y85
    refine Goes.step (fun t k => XS.iload X84.here hx rfl (hb hby at_64) rfl k) ?_
    show Goes _ _ _ _ _ _ _ (T84.setTop (mkF m 66 #[.val (.int p0), .val (.int p1), .val (.int p2), .val (.int p3), .val (.int p4), .val (.int (4 : Int32)), .val (.ref b73), .unset] [(.int (4 : Int32)), (.int y85)]))
    suffices k87 : ∀ (x87_0 : Int32), x87_0 = (if y85 = (4 : Int32) then (1 : Int32) else (0 : Int32)) → Goes p e below s (Q0 Z p0 p1 p2 p3 p4 h0 n0) kC0 kS0 (T84.setTop (mkF m 74 #[.val (.int p0), .val (.int p1), .val (.int p2), .val (.int p3), .val (.int p4), .val (.int (4 : Int32)), .val (.ref b73), .unset] [(.int x87_0)])) by
      by_cases hc66_86 : y85 = (4 : Int32)
      · refine Goes.step (fun t k => XS.icmpNo X84.here hx rfl (hb hby at_66) rfl (teq hc66_86).2 k) ?_
        show Goes _ _ _ _ _ _ _ (T84.setTop (mkF m 69 #[.val (.int p0), .val (.int p1), .val (.int p2), .val (.int p3), .val (.int p4), .val (.int (4 : Int32)), .val (.ref b73), .unset] []))
        refine Goes.step (fun t k => XS.iconst X84.here hx rfl (hb hby at_69) k) ?_
        show Goes _ _ _ _ _ _ _ (T84.setTop (mkF m 70 #[.val (.int p0), .val (.int p1), .val (.int p2), .val (.int p3), .val (.int p4), .val (.int (4 : Int32)), .val (.ref b73), .unset] [(.int (1 : Int32))]))
        refine Goes.step (fun t k => XS.goto X84.here hx rfl (pc0 := 70) (pc' := 74) rfl (hb hby at_70) (by decide) (by decide) k) ?_
        show Goes _ _ _ _ _ _ _ (T84.setTop (mkF m 74 #[.val (.int p0), .val (.int p1), .val (.int p2), .val (.int p3), .val (.int p4), .val (.int (4 : Int32)), .val (.ref b73), .unset] [(.int (1 : Int32))]))
        exact k87 _ (if_pos hc66_86).symm
      · refine Goes.step (fun t k => XS.icmpYes X84.here hx rfl (pc0 := 66) (pc' := 73) rfl (hb hby at_66) rfl (feq hc66_86).2 (by decide) (by decide) k) ?_
        show Goes _ _ _ _ _ _ _ (T84.setTop (mkF m 73 #[.val (.int p0), .val (.int p1), .val (.int p2), .val (.int p3), .val (.int p4), .val (.int (4 : Int32)), .val (.ref b73), .unset] []))
        refine Goes.step (fun t k => XS.iconst X84.here hx rfl (hb hby at_73) k) ?_
        show Goes _ _ _ _ _ _ _ (T84.setTop (mkF m 74 #[.val (.int p0), .val (.int p1), .val (.int p2), .val (.int p3), .val (.int p4), .val (.int (4 : Int32)), .val (.ref b73), .unset] [(.int (0 : Int32))]))
        exact k87 _ (if_neg hc66_86).symm
    intro x87_0 hx87_0
    refine Goes.step (fun t k => XS.istore X84.here hx rfl (hb hby at_74) rfl (l' := #[.val (.int p0), .val (.int p1), .val (.int p2), .val (.int p3), .val (.int p4), .val (.int (4 : Int32)), .val (.ref b73), .val (.int x87_0)]) rfl k) ?_
    show Goes _ _ _ _ _ _ _ (T84.setTop (mkF m 76 #[.val (.int p0), .val (.int p1), .val (.int p2), .val (.int p3), .val (.int p4), .val (.int (4 : Int32)), .val (.ref b73), .val (.int x87_0)] []))
    refine Goes.step (fun t k => XS.iload X84.here hx rfl (hb hby at_76) rfl k) ?_
    show Goes _ _ _ _ _ _ _ (T84.setTop (mkF m 78 #[.val (.int p0), .val (.int p1), .val (.int p2), .val (.int p3), .val (.int p4), .val (.int (4 : Int32)), .val (.ref b73), .val (.int x87_0)] [(.int x87_0)]))
    suffices k91 : ∀ (T91 : State) (L91 : List Loc) (x91_0 : Int32), Stand p l e room_1 s m #[(.int p0), (.int p1), (.int p2), (.int p3), (.int p4)] below meth c T91 L91 3 19 → T91.heap = h83 → Fr n0 L91 → x91_0 = (if x87_0 = (0 : Int32) then (0 : Int32) else (if (f5 p0) = p0 then (1 : Int32) else (0 : Int32))) → Goes p e below s (Q0 Z p0 p1 p2 p3 p4 h0 n0) kC0 kS0 (T91.setTop (mkF m 96 #[.val (.int p0), .val (.int p1), .val (.int p2), .val (.int p3), .val (.int p4), .val (.int (4 : Int32)), .val (.ref b73), .val (.int x87_0)] [(.int x91_0)])) by
      by_cases hc78_88 : x87_0 = (0 : Int32)
      · refine Goes.step (fun t k => XS.ifYes X84.here hx rfl (pc0 := 78) (pc' := 95) rfl (hb hby at_78) rfl ((if0 _ _).trans (teq hc78_88).1) (by decide) (by decide) k) ?_
        show Goes _ _ _ _ _ _ _ (T84.setTop (mkF m 95 #[.val (.int p0), .val (.int p1), .val (.int p2), .val (.int p3), .val (.int p4), .val (.int (4 : Int32)), .val (.ref b73), .val (.int x87_0)] []))
        refine Goes.step (fun t k => XS.iconst X84.here hx rfl (hb hby at_95) k) ?_
        show Goes _ _ _ _ _ _ _ (T84.setTop (mkF m 96 #[.val (.int p0), .val (.int p1), .val (.int p2), .val (.int p3), .val (.int p4), .val (.int (4 : Int32)), .val (.ref b73), .val (.int x87_0)] [(.int (0 : Int32))]))
        exact k91 _ _ _ X84 e84 N83 (if_pos hc78_88).symm
      · refine Goes.step (fun t k => XS.ifNo X84.here hx rfl (hb hby at_78) rfl ((if0 _ _).trans (feq hc78_88).1) k) ?_
        show Goes _ _ _ _ _ _ _ (T84.setTop (mkF m 81 #[.val (.int p0), .val (.int p1), .val (.int p2), .val (.int p3), .val (.int p4), .val (.int (4 : Int32)), .val (.ref b73), .val (.int x87_0)] []))
        refine Goes.step (fun t k => XS.aload X84.here hx rfl (hb hby at_81) rfl rfl k) ?_
        show Goes _ _ _ _ _ _ _ (T84.setTop (mkF m 83 #[.val (.int p0), .val (.int p1), .val (.int p2), .val (.int p3), .val (.int p4), .val (.int (4 : Int32)), .val (.ref b73), .val (.int x87_0)] [(.ref b73)]))
        refine Goes.step (fun t k => XS.iconst X84.here hx rfl (hb hby at_83) k) ?_
        show Goes _ _ _ _ _ _ _ (T84.setTop (mkF m 84 #[.val (.int p0), .val (.int p1), .val (.int p2), .val (.int p3), .val (.int p4), .val (.int (4 : Int32)), .val (.ref b73), .val (.int x87_0)] [(.int (0 : Int32)), (.ref b73)]))
        obtain ⟨cq89, kq89, q89a, q89b, q89c⟩ := isOf hZ e84 G83_0
        obtain ⟨_, _, ⟨T89, L89, k89, n89⟩, -, X89, ⟨Lc89, hQ89, l89, y89, z89⟩, st89⟩ := X84.virtualBack hx (y := (⟨"com/example/twag/twag/parity/IntSequence", "get", "(I)I"⟩ : MethodName)) (z := (⟨"com/example/twag/twag/parity/IntSequence", "get", "(I)I"⟩ : MethodName)) hown (mvT hZ (hw _ (List.mem_of_getElem? (i := 28) rfl))) (mvT hZ (hw _ (List.mem_of_getElem? (i := 29) rfl))) (notFace_of_selects (args := #[]) (mvT hZ (hw _ (List.mem_of_getElem? (i := 31) rfl)))) (mvT hZ (hw _ (List.mem_of_getElem? (i := 31) rfl))) (mvT hZ (hw _ (List.mem_of_getElem? (i := 30) rfl))) (by decide) (backOf (W := 0) (rm5 l Z tA hw [] b73 (0 : Int32) r76_0 r76_1 (((([(.int (0 : Int32)), (.int (0 : Int32)), (.int (0 : Int32)), (.int (0 : Int32)), (.int (0 : Int32)), (.int (0 : Int32)), (.int (0 : Int32)), (.int (0 : Int32)), (.int (0 : Int32)), (.int (0 : Int32)), (.int (0 : Int32)), (.int (0 : Int32)), (.int (0 : Int32)), (.int (0 : Int32)), (.int (0 : Int32)), (.int (0 : Int32))].set ((0 : Int32)).toNatClampNeg (.int p0)).set (((0 : Int32) + (1 : Int32))).toNatClampNeg (.int p1)).set ((((0 : Int32) + (1 : Int32)) + (1 : Int32))).toNatClampNeg (.int p2)).set (((((0 : Int32) + (1 : Int32)) + (1 : Int32)) + (1 : Int32))).toNatClampNeg (.int p3)) p0 h83 G83_1 G83_3 G83_4 (by decide) rfl) hZ (hw _ (List.mem_of_getElem? (i := 32) rfl)) (hw _ (List.mem_of_getElem? (i := 2) rfl)) (by decide) (by decide)) q89a q89c (g := (mkF m 84 #[.val (.int p0), .val (.int p1), .val (.int p2), .val (.int p3), .val (.int p4), .val (.int (4 : Int32)), .val (.ref b73), .val (.int x87_0)] [(.int (0 : Int32)), (.ref b73)])) rfl (by rw [hml]; rfl) (Steps.refl _) (argsL := [(.int (0 : Int32))]) (rest := []) (lenOf own_pd3 rfl) rfl (by show 2 * 0 + _ ≤ _; exact Nat.le_of_eq rfl) (hb hby at_84) (fun _ _ => ⟨rfl, e84, (by decide : 3 + 0 ≤ _), (by decide : 19 + 0 ≤ _)⟩)
        dsimp only [Pt.U, Pt.locs, Pt.cells, Pt.slots] at X89 l89 y89 z89 st89 hQ89
        subst l89 y89 z89
        obtain ⟨rfl, rfl, e89⟩ := hQ89
        try rw [List.append_nil] at X89
        change Stand _ _ _ _ _ _ _ _ _ _ _ _ 3 19 at X89
        refine Goes.step (fun t k => st89.trans k) ?_
        show Goes _ _ _ _ _ _ _ (T89.setTop (mkF m 87 #[.val (.int p0), .val (.int p1), .val (.int p2), .val (.int p3), .val (.int p4), .val (.int (4 : Int32)), .val (.ref b73), .val (.int x87_0)] [(.int (f5 p0))]))
        refine Goes.step (fun t k => XS.iloadN X89.here hx rfl (hb hby at_87) rfl k) ?_
        show Goes _ _ _ _ _ _ _ (T89.setTop (mkF m 88 #[.val (.int p0), .val (.int p1), .val (.int p2), .val (.int p3), .val (.int p4), .val (.int (4 : Int32)), .val (.ref b73), .val (.int x87_0)] [(.int p0), (.int (f5 p0))]))
        by_cases hc88_90 : (f5 p0) = p0
        · refine Goes.step (fun t k => XS.icmpNo X89.here hx rfl (hb hby at_88) rfl (teq hc88_90).2 k) ?_
          show Goes _ _ _ _ _ _ _ (T89.setTop (mkF m 91 #[.val (.int p0), .val (.int p1), .val (.int p2), .val (.int p3), .val (.int p4), .val (.int (4 : Int32)), .val (.ref b73), .val (.int x87_0)] []))
          refine Goes.step (fun t k => XS.iconst X89.here hx rfl (hb hby at_91) k) ?_
          show Goes _ _ _ _ _ _ _ (T89.setTop (mkF m 92 #[.val (.int p0), .val (.int p1), .val (.int p2), .val (.int p3), .val (.int p4), .val (.int (4 : Int32)), .val (.ref b73), .val (.int x87_0)] [(.int (1 : Int32))]))
          refine Goes.step (fun t k => XS.goto X89.here hx rfl (pc0 := 92) (pc' := 96) rfl (hb hby at_92) (by decide) (by decide) k) ?_
          show Goes _ _ _ _ _ _ _ (T89.setTop (mkF m 96 #[.val (.int p0), .val (.int p1), .val (.int p2), .val (.int p3), .val (.int p4), .val (.int (4 : Int32)), .val (.ref b73), .val (.int x87_0)] [(.int (1 : Int32))]))
          exact k91 _ _ _ X89 e89 N83 ((if_neg hc78_88).trans (if_pos hc88_90)).symm
        · refine Goes.step (fun t k => XS.icmpYes X89.here hx rfl (pc0 := 88) (pc' := 95) rfl (hb hby at_88) rfl (feq hc88_90).2 (by decide) (by decide) k) ?_
          show Goes _ _ _ _ _ _ _ (T89.setTop (mkF m 95 #[.val (.int p0), .val (.int p1), .val (.int p2), .val (.int p3), .val (.int p4), .val (.int (4 : Int32)), .val (.ref b73), .val (.int x87_0)] []))
          refine Goes.step (fun t k => XS.iconst X89.here hx rfl (hb hby at_95) k) ?_
          show Goes _ _ _ _ _ _ _ (T89.setTop (mkF m 96 #[.val (.int p0), .val (.int p1), .val (.int p2), .val (.int p3), .val (.int p4), .val (.int (4 : Int32)), .val (.ref b73), .val (.int x87_0)] [(.int (0 : Int32))]))
          exact k91 _ _ _ X89 e89 N83 ((if_neg hc78_88).trans (if_neg hc88_90)).symm
    intro T91 L91 x91_0 X91 e91 N91 hx91_0
    refine Goes.step (fun t k => XS.istore X91.here hx rfl (hb hby at_96) rfl (l' := #[.val (.int p0), .val (.int p1), .val (.int p2), .val (.int p3), .val (.int p4), .val (.int (4 : Int32)), .val (.ref b73), .val (.int x91_0)]) rfl k) ?_
    show Goes _ _ _ _ _ _ _ (T91.setTop (mkF m 98 #[.val (.int p0), .val (.int p1), .val (.int p2), .val (.int p3), .val (.int p4), .val (.int (4 : Int32)), .val (.ref b73), .val (.int x91_0)] []))
    refine Goes.step (fun t k => XS.iload X91.here hx rfl (hb hby at_98) rfl k) ?_
    show Goes _ _ _ _ _ _ _ (T91.setTop (mkF m 100 #[.val (.int p0), .val (.int p1), .val (.int p2), .val (.int p3), .val (.int p4), .val (.int (4 : Int32)), .val (.ref b73), .val (.int x91_0)] [(.int (4 : Int32))]))
    refine Goes.step (fun t k => XS.iconst X91.here hx rfl (hb hby at_100) k) ?_
    show Goes _ _ _ _ _ _ _ (T91.setTop (mkF m 101 #[.val (.int p0), .val (.int p1), .val (.int p2), .val (.int p3), .val (.int p4), .val (.int (4 : Int32)), .val (.ref b73), .val (.int x91_0)] [(.int (2 : Int32)), (.int (4 : Int32))]))
    refine Goes.step (fun t k => XS.icmpNo X91.here hx rfl (hb hby at_101) rfl (flt (by decide)).1 k) ?_
    show Goes _ _ _ _ _ _ _ (T91.setTop (mkF m 104 #[.val (.int p0), .val (.int p1), .val (.int p2), .val (.int p3), .val (.int p4), .val (.int (4 : Int32)), .val (.ref b73), .val (.int x91_0)] []))
    refine Goes.step (fun t k => XS.iload X91.here hx rfl (hb hby at_104) rfl k) ?_
    show Goes _ _ _ _ _ _ _ (T91.setTop (mkF m 106 #[.val (.int p0), .val (.int p1), .val (.int p2), .val (.int p3), .val (.int p4), .val (.int (4 : Int32)), .val (.ref b73), .val (.int x91_0)] [(.int x91_0)]))
    suffices k96 : ∀ (T96 : State) (L96 : List Loc) (x96_0 : Int32), Stand p l e room_1 s m #[(.int p0), (.int p1), (.int p2), (.int p3), (.int p4)] below meth c T96 L96 3 19 → T96.heap = h83 → Fr n0 L96 → x96_0 = (if x91_0 = (0 : Int32) then (0 : Int32) else (if (f5 p1) = p1 then (1 : Int32) else (0 : Int32))) → Goes p e below s (Q0 Z p0 p1 p2 p3 p4 h0 n0) kC0 kS0 (T96.setTop (mkF m 124 #[.val (.int p0), .val (.int p1), .val (.int p2), .val (.int p3), .val (.int p4), .val (.int (4 : Int32)), .val (.ref b73), .val (.int x91_0)] [(.int x96_0)])) by
      by_cases hc106_93 : x91_0 = (0 : Int32)
      · refine Goes.step (fun t k => XS.ifYes X91.here hx rfl (pc0 := 106) (pc' := 123) rfl (hb hby at_106) rfl ((if0 _ _).trans (teq hc106_93).1) (by decide) (by decide) k) ?_
        show Goes _ _ _ _ _ _ _ (T91.setTop (mkF m 123 #[.val (.int p0), .val (.int p1), .val (.int p2), .val (.int p3), .val (.int p4), .val (.int (4 : Int32)), .val (.ref b73), .val (.int x91_0)] []))
        refine Goes.step (fun t k => XS.iconst X91.here hx rfl (hb hby at_123) k) ?_
        show Goes _ _ _ _ _ _ _ (T91.setTop (mkF m 124 #[.val (.int p0), .val (.int p1), .val (.int p2), .val (.int p3), .val (.int p4), .val (.int (4 : Int32)), .val (.ref b73), .val (.int x91_0)] [(.int (0 : Int32))]))
        exact k96 _ _ _ X91 e91 N91 (if_pos hc106_93).symm
      · refine Goes.step (fun t k => XS.ifNo X91.here hx rfl (hb hby at_106) rfl ((if0 _ _).trans (feq hc106_93).1) k) ?_
        show Goes _ _ _ _ _ _ _ (T91.setTop (mkF m 109 #[.val (.int p0), .val (.int p1), .val (.int p2), .val (.int p3), .val (.int p4), .val (.int (4 : Int32)), .val (.ref b73), .val (.int x91_0)] []))
        refine Goes.step (fun t k => XS.aload X91.here hx rfl (hb hby at_109) rfl rfl k) ?_
        show Goes _ _ _ _ _ _ _ (T91.setTop (mkF m 111 #[.val (.int p0), .val (.int p1), .val (.int p2), .val (.int p3), .val (.int p4), .val (.int (4 : Int32)), .val (.ref b73), .val (.int x91_0)] [(.ref b73)]))
        refine Goes.step (fun t k => XS.iconst X91.here hx rfl (hb hby at_111) k) ?_
        show Goes _ _ _ _ _ _ _ (T91.setTop (mkF m 112 #[.val (.int p0), .val (.int p1), .val (.int p2), .val (.int p3), .val (.int p4), .val (.int (4 : Int32)), .val (.ref b73), .val (.int x91_0)] [(.int (1 : Int32)), (.ref b73)]))
        obtain ⟨cq94, kq94, q94a, q94b, q94c⟩ := isOf hZ e91 G83_0
        obtain ⟨_, _, ⟨T94, L94, k94, n94⟩, -, X94, ⟨Lc94, hQ94, l94, y94, z94⟩, st94⟩ := X91.virtualBack hx (y := (⟨"com/example/twag/twag/parity/IntSequence", "get", "(I)I"⟩ : MethodName)) (z := (⟨"com/example/twag/twag/parity/IntSequence", "get", "(I)I"⟩ : MethodName)) hown (mvT hZ (hw _ (List.mem_of_getElem? (i := 28) rfl))) (mvT hZ (hw _ (List.mem_of_getElem? (i := 29) rfl))) (notFace_of_selects (args := #[]) (mvT hZ (hw _ (List.mem_of_getElem? (i := 31) rfl)))) (mvT hZ (hw _ (List.mem_of_getElem? (i := 31) rfl))) (mvT hZ (hw _ (List.mem_of_getElem? (i := 30) rfl))) (by decide) (backOf (W := 0) (rm5 l Z tA hw [] b73 (1 : Int32) r76_0 r76_1 (((([(.int (0 : Int32)), (.int (0 : Int32)), (.int (0 : Int32)), (.int (0 : Int32)), (.int (0 : Int32)), (.int (0 : Int32)), (.int (0 : Int32)), (.int (0 : Int32)), (.int (0 : Int32)), (.int (0 : Int32)), (.int (0 : Int32)), (.int (0 : Int32)), (.int (0 : Int32)), (.int (0 : Int32)), (.int (0 : Int32)), (.int (0 : Int32))].set ((0 : Int32)).toNatClampNeg (.int p0)).set (((0 : Int32) + (1 : Int32))).toNatClampNeg (.int p1)).set ((((0 : Int32) + (1 : Int32)) + (1 : Int32))).toNatClampNeg (.int p2)).set (((((0 : Int32) + (1 : Int32)) + (1 : Int32)) + (1 : Int32))).toNatClampNeg (.int p3)) p1 h83 G83_1 G83_3 G83_4 (by decide) rfl) hZ (hw _ (List.mem_of_getElem? (i := 32) rfl)) (hw _ (List.mem_of_getElem? (i := 2) rfl)) (by decide) (by decide)) q94a q94c (g := (mkF m 112 #[.val (.int p0), .val (.int p1), .val (.int p2), .val (.int p3), .val (.int p4), .val (.int (4 : Int32)), .val (.ref b73), .val (.int x91_0)] [(.int (1 : Int32)), (.ref b73)])) rfl (by rw [hml]; rfl) (Steps.refl _) (argsL := [(.int (1 : Int32))]) (rest := []) (lenOf own_pd3 rfl) rfl (by show 2 * 0 + _ ≤ _; exact Nat.le_of_eq rfl) (hb hby at_112) (fun _ _ => ⟨rfl, e91, (by decide : 3 + 0 ≤ _), (by decide : 19 + 0 ≤ _)⟩)
        dsimp only [Pt.U, Pt.locs, Pt.cells, Pt.slots] at X94 l94 y94 z94 st94 hQ94
        subst l94 y94 z94
        obtain ⟨rfl, rfl, e94⟩ := hQ94
        try rw [List.append_nil] at X94
        change Stand _ _ _ _ _ _ _ _ _ _ _ _ 3 19 at X94
        refine Goes.step (fun t k => st94.trans k) ?_
        show Goes _ _ _ _ _ _ _ (T94.setTop (mkF m 115 #[.val (.int p0), .val (.int p1), .val (.int p2), .val (.int p3), .val (.int p4), .val (.int (4 : Int32)), .val (.ref b73), .val (.int x91_0)] [(.int (f5 p1))]))
        refine Goes.step (fun t k => XS.iloadN X94.here hx rfl (hb hby at_115) rfl k) ?_
        show Goes _ _ _ _ _ _ _ (T94.setTop (mkF m 116 #[.val (.int p0), .val (.int p1), .val (.int p2), .val (.int p3), .val (.int p4), .val (.int (4 : Int32)), .val (.ref b73), .val (.int x91_0)] [(.int p1), (.int (f5 p1))]))
        by_cases hc116_95 : (f5 p1) = p1
        · refine Goes.step (fun t k => XS.icmpNo X94.here hx rfl (hb hby at_116) rfl (teq hc116_95).2 k) ?_
          show Goes _ _ _ _ _ _ _ (T94.setTop (mkF m 119 #[.val (.int p0), .val (.int p1), .val (.int p2), .val (.int p3), .val (.int p4), .val (.int (4 : Int32)), .val (.ref b73), .val (.int x91_0)] []))
          refine Goes.step (fun t k => XS.iconst X94.here hx rfl (hb hby at_119) k) ?_
          show Goes _ _ _ _ _ _ _ (T94.setTop (mkF m 120 #[.val (.int p0), .val (.int p1), .val (.int p2), .val (.int p3), .val (.int p4), .val (.int (4 : Int32)), .val (.ref b73), .val (.int x91_0)] [(.int (1 : Int32))]))
          refine Goes.step (fun t k => XS.goto X94.here hx rfl (pc0 := 120) (pc' := 124) rfl (hb hby at_120) (by decide) (by decide) k) ?_
          show Goes _ _ _ _ _ _ _ (T94.setTop (mkF m 124 #[.val (.int p0), .val (.int p1), .val (.int p2), .val (.int p3), .val (.int p4), .val (.int (4 : Int32)), .val (.ref b73), .val (.int x91_0)] [(.int (1 : Int32))]))
          exact k96 _ _ _ X94 e94 N91 ((if_neg hc106_93).trans (if_pos hc116_95)).symm
        · refine Goes.step (fun t k => XS.icmpYes X94.here hx rfl (pc0 := 116) (pc' := 123) rfl (hb hby at_116) rfl (feq hc116_95).2 (by decide) (by decide) k) ?_
          show Goes _ _ _ _ _ _ _ (T94.setTop (mkF m 123 #[.val (.int p0), .val (.int p1), .val (.int p2), .val (.int p3), .val (.int p4), .val (.int (4 : Int32)), .val (.ref b73), .val (.int x91_0)] []))
          refine Goes.step (fun t k => XS.iconst X94.here hx rfl (hb hby at_123) k) ?_
          show Goes _ _ _ _ _ _ _ (T94.setTop (mkF m 124 #[.val (.int p0), .val (.int p1), .val (.int p2), .val (.int p3), .val (.int p4), .val (.int (4 : Int32)), .val (.ref b73), .val (.int x91_0)] [(.int (0 : Int32))]))
          exact k96 _ _ _ X94 e94 N91 ((if_neg hc106_93).trans (if_neg hc116_95)).symm
    intro T96 L96 x96_0 X96 e96 N96 hx96_0
    refine Goes.step (fun t k => XS.istore X96.here hx rfl (hb hby at_124) rfl (l' := #[.val (.int p0), .val (.int p1), .val (.int p2), .val (.int p3), .val (.int p4), .val (.int (4 : Int32)), .val (.ref b73), .val (.int x96_0)]) rfl k) ?_
    show Goes _ _ _ _ _ _ _ (T96.setTop (mkF m 126 #[.val (.int p0), .val (.int p1), .val (.int p2), .val (.int p3), .val (.int p4), .val (.int (4 : Int32)), .val (.ref b73), .val (.int x96_0)] []))
    refine Goes.step (fun t k => XS.iload X96.here hx rfl (hb hby at_126) rfl k) ?_
    show Goes _ _ _ _ _ _ _ (T96.setTop (mkF m 128 #[.val (.int p0), .val (.int p1), .val (.int p2), .val (.int p3), .val (.int p4), .val (.int (4 : Int32)), .val (.ref b73), .val (.int x96_0)] [(.int (4 : Int32))]))
    refine Goes.step (fun t k => XS.iconst X96.here hx rfl (hb hby at_128) k) ?_
    show Goes _ _ _ _ _ _ _ (T96.setTop (mkF m 129 #[.val (.int p0), .val (.int p1), .val (.int p2), .val (.int p3), .val (.int p4), .val (.int (4 : Int32)), .val (.ref b73), .val (.int x96_0)] [(.int (3 : Int32)), (.int (4 : Int32))]))
    refine Goes.step (fun t k => XS.icmpNo X96.here hx rfl (hb hby at_129) rfl (flt (by decide)).1 k) ?_
    show Goes _ _ _ _ _ _ _ (T96.setTop (mkF m 132 #[.val (.int p0), .val (.int p1), .val (.int p2), .val (.int p3), .val (.int p4), .val (.int (4 : Int32)), .val (.ref b73), .val (.int x96_0)] []))
    refine Goes.step (fun t k => XS.iload X96.here hx rfl (hb hby at_132) rfl k) ?_
    show Goes _ _ _ _ _ _ _ (T96.setTop (mkF m 134 #[.val (.int p0), .val (.int p1), .val (.int p2), .val (.int p3), .val (.int p4), .val (.int (4 : Int32)), .val (.ref b73), .val (.int x96_0)] [(.int x96_0)]))
    suffices k101 : ∀ (T101 : State) (L101 : List Loc) (x101_0 : Int32), Stand p l e room_1 s m #[(.int p0), (.int p1), (.int p2), (.int p3), (.int p4)] below meth c T101 L101 3 19 → T101.heap = h83 → Fr n0 L101 → x101_0 = (if x96_0 = (0 : Int32) then (0 : Int32) else (if (f5 p2) = p2 then (1 : Int32) else (0 : Int32))) → Goes p e below s (Q0 Z p0 p1 p2 p3 p4 h0 n0) kC0 kS0 (T101.setTop (mkF m 152 #[.val (.int p0), .val (.int p1), .val (.int p2), .val (.int p3), .val (.int p4), .val (.int (4 : Int32)), .val (.ref b73), .val (.int x96_0)] [(.int x101_0)])) by
      by_cases hc134_98 : x96_0 = (0 : Int32)
      · refine Goes.step (fun t k => XS.ifYes X96.here hx rfl (pc0 := 134) (pc' := 151) rfl (hb hby at_134) rfl ((if0 _ _).trans (teq hc134_98).1) (by decide) (by decide) k) ?_
        show Goes _ _ _ _ _ _ _ (T96.setTop (mkF m 151 #[.val (.int p0), .val (.int p1), .val (.int p2), .val (.int p3), .val (.int p4), .val (.int (4 : Int32)), .val (.ref b73), .val (.int x96_0)] []))
        refine Goes.step (fun t k => XS.iconst X96.here hx rfl (hb hby at_151) k) ?_
        show Goes _ _ _ _ _ _ _ (T96.setTop (mkF m 152 #[.val (.int p0), .val (.int p1), .val (.int p2), .val (.int p3), .val (.int p4), .val (.int (4 : Int32)), .val (.ref b73), .val (.int x96_0)] [(.int (0 : Int32))]))
        exact k101 _ _ _ X96 e96 N96 (if_pos hc134_98).symm
      · refine Goes.step (fun t k => XS.ifNo X96.here hx rfl (hb hby at_134) rfl ((if0 _ _).trans (feq hc134_98).1) k) ?_
        show Goes _ _ _ _ _ _ _ (T96.setTop (mkF m 137 #[.val (.int p0), .val (.int p1), .val (.int p2), .val (.int p3), .val (.int p4), .val (.int (4 : Int32)), .val (.ref b73), .val (.int x96_0)] []))
        refine Goes.step (fun t k => XS.aload X96.here hx rfl (hb hby at_137) rfl rfl k) ?_
        show Goes _ _ _ _ _ _ _ (T96.setTop (mkF m 139 #[.val (.int p0), .val (.int p1), .val (.int p2), .val (.int p3), .val (.int p4), .val (.int (4 : Int32)), .val (.ref b73), .val (.int x96_0)] [(.ref b73)]))
        refine Goes.step (fun t k => XS.iconst X96.here hx rfl (hb hby at_139) k) ?_
        show Goes _ _ _ _ _ _ _ (T96.setTop (mkF m 140 #[.val (.int p0), .val (.int p1), .val (.int p2), .val (.int p3), .val (.int p4), .val (.int (4 : Int32)), .val (.ref b73), .val (.int x96_0)] [(.int (2 : Int32)), (.ref b73)]))
        obtain ⟨cq99, kq99, q99a, q99b, q99c⟩ := isOf hZ e96 G83_0
        obtain ⟨_, _, ⟨T99, L99, k99, n99⟩, -, X99, ⟨Lc99, hQ99, l99, y99, z99⟩, st99⟩ := X96.virtualBack hx (y := (⟨"com/example/twag/twag/parity/IntSequence", "get", "(I)I"⟩ : MethodName)) (z := (⟨"com/example/twag/twag/parity/IntSequence", "get", "(I)I"⟩ : MethodName)) hown (mvT hZ (hw _ (List.mem_of_getElem? (i := 28) rfl))) (mvT hZ (hw _ (List.mem_of_getElem? (i := 29) rfl))) (notFace_of_selects (args := #[]) (mvT hZ (hw _ (List.mem_of_getElem? (i := 31) rfl)))) (mvT hZ (hw _ (List.mem_of_getElem? (i := 31) rfl))) (mvT hZ (hw _ (List.mem_of_getElem? (i := 30) rfl))) (by decide) (backOf (W := 0) (rm5 l Z tA hw [] b73 (2 : Int32) r76_0 r76_1 (((([(.int (0 : Int32)), (.int (0 : Int32)), (.int (0 : Int32)), (.int (0 : Int32)), (.int (0 : Int32)), (.int (0 : Int32)), (.int (0 : Int32)), (.int (0 : Int32)), (.int (0 : Int32)), (.int (0 : Int32)), (.int (0 : Int32)), (.int (0 : Int32)), (.int (0 : Int32)), (.int (0 : Int32)), (.int (0 : Int32)), (.int (0 : Int32))].set ((0 : Int32)).toNatClampNeg (.int p0)).set (((0 : Int32) + (1 : Int32))).toNatClampNeg (.int p1)).set ((((0 : Int32) + (1 : Int32)) + (1 : Int32))).toNatClampNeg (.int p2)).set (((((0 : Int32) + (1 : Int32)) + (1 : Int32)) + (1 : Int32))).toNatClampNeg (.int p3)) p2 h83 G83_1 G83_3 G83_4 (by decide) rfl) hZ (hw _ (List.mem_of_getElem? (i := 32) rfl)) (hw _ (List.mem_of_getElem? (i := 2) rfl)) (by decide) (by decide)) q99a q99c (g := (mkF m 140 #[.val (.int p0), .val (.int p1), .val (.int p2), .val (.int p3), .val (.int p4), .val (.int (4 : Int32)), .val (.ref b73), .val (.int x96_0)] [(.int (2 : Int32)), (.ref b73)])) rfl (by rw [hml]; rfl) (Steps.refl _) (argsL := [(.int (2 : Int32))]) (rest := []) (lenOf own_pd3 rfl) rfl (by show 2 * 0 + _ ≤ _; exact Nat.le_of_eq rfl) (hb hby at_140) (fun _ _ => ⟨rfl, e96, (by decide : 3 + 0 ≤ _), (by decide : 19 + 0 ≤ _)⟩)
        dsimp only [Pt.U, Pt.locs, Pt.cells, Pt.slots] at X99 l99 y99 z99 st99 hQ99
        subst l99 y99 z99
        obtain ⟨rfl, rfl, e99⟩ := hQ99
        try rw [List.append_nil] at X99
        change Stand _ _ _ _ _ _ _ _ _ _ _ _ 3 19 at X99
        refine Goes.step (fun t k => st99.trans k) ?_
        show Goes _ _ _ _ _ _ _ (T99.setTop (mkF m 143 #[.val (.int p0), .val (.int p1), .val (.int p2), .val (.int p3), .val (.int p4), .val (.int (4 : Int32)), .val (.ref b73), .val (.int x96_0)] [(.int (f5 p2))]))
        refine Goes.step (fun t k => XS.iloadN X99.here hx rfl (hb hby at_143) rfl k) ?_
        show Goes _ _ _ _ _ _ _ (T99.setTop (mkF m 144 #[.val (.int p0), .val (.int p1), .val (.int p2), .val (.int p3), .val (.int p4), .val (.int (4 : Int32)), .val (.ref b73), .val (.int x96_0)] [(.int p2), (.int (f5 p2))]))
        by_cases hc144_100 : (f5 p2) = p2
        · refine Goes.step (fun t k => XS.icmpNo X99.here hx rfl (hb hby at_144) rfl (teq hc144_100).2 k) ?_
          show Goes _ _ _ _ _ _ _ (T99.setTop (mkF m 147 #[.val (.int p0), .val (.int p1), .val (.int p2), .val (.int p3), .val (.int p4), .val (.int (4 : Int32)), .val (.ref b73), .val (.int x96_0)] []))
          refine Goes.step (fun t k => XS.iconst X99.here hx rfl (hb hby at_147) k) ?_
          show Goes _ _ _ _ _ _ _ (T99.setTop (mkF m 148 #[.val (.int p0), .val (.int p1), .val (.int p2), .val (.int p3), .val (.int p4), .val (.int (4 : Int32)), .val (.ref b73), .val (.int x96_0)] [(.int (1 : Int32))]))
          refine Goes.step (fun t k => XS.goto X99.here hx rfl (pc0 := 148) (pc' := 152) rfl (hb hby at_148) (by decide) (by decide) k) ?_
          show Goes _ _ _ _ _ _ _ (T99.setTop (mkF m 152 #[.val (.int p0), .val (.int p1), .val (.int p2), .val (.int p3), .val (.int p4), .val (.int (4 : Int32)), .val (.ref b73), .val (.int x96_0)] [(.int (1 : Int32))]))
          exact k101 _ _ _ X99 e99 N96 ((if_neg hc134_98).trans (if_pos hc144_100)).symm
        · refine Goes.step (fun t k => XS.icmpYes X99.here hx rfl (pc0 := 144) (pc' := 151) rfl (hb hby at_144) rfl (feq hc144_100).2 (by decide) (by decide) k) ?_
          show Goes _ _ _ _ _ _ _ (T99.setTop (mkF m 151 #[.val (.int p0), .val (.int p1), .val (.int p2), .val (.int p3), .val (.int p4), .val (.int (4 : Int32)), .val (.ref b73), .val (.int x96_0)] []))
          refine Goes.step (fun t k => XS.iconst X99.here hx rfl (hb hby at_151) k) ?_
          show Goes _ _ _ _ _ _ _ (T99.setTop (mkF m 152 #[.val (.int p0), .val (.int p1), .val (.int p2), .val (.int p3), .val (.int p4), .val (.int (4 : Int32)), .val (.ref b73), .val (.int x96_0)] [(.int (0 : Int32))]))
          exact k101 _ _ _ X99 e99 N96 ((if_neg hc134_98).trans (if_neg hc144_100)).symm
    intro T101 L101 x101_0 X101 e101 N101 hx101_0
    refine Goes.step (fun t k => XS.istore X101.here hx rfl (hb hby at_152) rfl (l' := #[.val (.int p0), .val (.int p1), .val (.int p2), .val (.int p3), .val (.int p4), .val (.int (4 : Int32)), .val (.ref b73), .val (.int x101_0)]) rfl k) ?_
    show Goes _ _ _ _ _ _ _ (T101.setTop (mkF m 154 #[.val (.int p0), .val (.int p1), .val (.int p2), .val (.int p3), .val (.int p4), .val (.int (4 : Int32)), .val (.ref b73), .val (.int x101_0)] []))
    refine Goes.step (fun t k => XS.iload X101.here hx rfl (hb hby at_154) rfl k) ?_
    show Goes _ _ _ _ _ _ _ (T101.setTop (mkF m 156 #[.val (.int p0), .val (.int p1), .val (.int p2), .val (.int p3), .val (.int p4), .val (.int (4 : Int32)), .val (.ref b73), .val (.int x101_0)] [(.int (4 : Int32))]))
    refine Goes.step (fun t k => XS.iconst X101.here hx rfl (hb hby at_156) k) ?_
    show Goes _ _ _ _ _ _ _ (T101.setTop (mkF m 157 #[.val (.int p0), .val (.int p1), .val (.int p2), .val (.int p3), .val (.int p4), .val (.int (4 : Int32)), .val (.ref b73), .val (.int x101_0)] [(.int (4 : Int32)), (.int (4 : Int32))]))
    refine Goes.step (fun t k => XS.icmpNo X101.here hx rfl (hb hby at_157) rfl (flt (by decide)).1 k) ?_
    show Goes _ _ _ _ _ _ _ (T101.setTop (mkF m 160 #[.val (.int p0), .val (.int p1), .val (.int p2), .val (.int p3), .val (.int p4), .val (.int (4 : Int32)), .val (.ref b73), .val (.int x101_0)] []))
    refine Goes.step (fun t k => XS.iload X101.here hx rfl (hb hby at_160) rfl k) ?_
    show Goes _ _ _ _ _ _ _ (T101.setTop (mkF m 162 #[.val (.int p0), .val (.int p1), .val (.int p2), .val (.int p3), .val (.int p4), .val (.int (4 : Int32)), .val (.ref b73), .val (.int x101_0)] [(.int x101_0)]))
    suffices k106 : ∀ (T106 : State) (L106 : List Loc) (x106_0 : Int32), Stand p l e room_1 s m #[(.int p0), (.int p1), (.int p2), (.int p3), (.int p4)] below meth c T106 L106 3 19 → T106.heap = h83 → Fr n0 L106 → x106_0 = (if x101_0 = (0 : Int32) then (0 : Int32) else (if (f5 p3) = p3 then (1 : Int32) else (0 : Int32))) → Goes p e below s (Q0 Z p0 p1 p2 p3 p4 h0 n0) kC0 kS0 (T106.setTop (mkF m 180 #[.val (.int p0), .val (.int p1), .val (.int p2), .val (.int p3), .val (.int p4), .val (.int (4 : Int32)), .val (.ref b73), .val (.int x101_0)] [(.int x106_0)])) by
      by_cases hc162_103 : x101_0 = (0 : Int32)
      · refine Goes.step (fun t k => XS.ifYes X101.here hx rfl (pc0 := 162) (pc' := 179) rfl (hb hby at_162) rfl ((if0 _ _).trans (teq hc162_103).1) (by decide) (by decide) k) ?_
        show Goes _ _ _ _ _ _ _ (T101.setTop (mkF m 179 #[.val (.int p0), .val (.int p1), .val (.int p2), .val (.int p3), .val (.int p4), .val (.int (4 : Int32)), .val (.ref b73), .val (.int x101_0)] []))
        refine Goes.step (fun t k => XS.iconst X101.here hx rfl (hb hby at_179) k) ?_
        show Goes _ _ _ _ _ _ _ (T101.setTop (mkF m 180 #[.val (.int p0), .val (.int p1), .val (.int p2), .val (.int p3), .val (.int p4), .val (.int (4 : Int32)), .val (.ref b73), .val (.int x101_0)] [(.int (0 : Int32))]))
        exact k106 _ _ _ X101 e101 N101 (if_pos hc162_103).symm
      · refine Goes.step (fun t k => XS.ifNo X101.here hx rfl (hb hby at_162) rfl ((if0 _ _).trans (feq hc162_103).1) k) ?_
        show Goes _ _ _ _ _ _ _ (T101.setTop (mkF m 165 #[.val (.int p0), .val (.int p1), .val (.int p2), .val (.int p3), .val (.int p4), .val (.int (4 : Int32)), .val (.ref b73), .val (.int x101_0)] []))
        refine Goes.step (fun t k => XS.aload X101.here hx rfl (hb hby at_165) rfl rfl k) ?_
        show Goes _ _ _ _ _ _ _ (T101.setTop (mkF m 167 #[.val (.int p0), .val (.int p1), .val (.int p2), .val (.int p3), .val (.int p4), .val (.int (4 : Int32)), .val (.ref b73), .val (.int x101_0)] [(.ref b73)]))
        refine Goes.step (fun t k => XS.iconst X101.here hx rfl (hb hby at_167) k) ?_
        show Goes _ _ _ _ _ _ _ (T101.setTop (mkF m 168 #[.val (.int p0), .val (.int p1), .val (.int p2), .val (.int p3), .val (.int p4), .val (.int (4 : Int32)), .val (.ref b73), .val (.int x101_0)] [(.int (3 : Int32)), (.ref b73)]))
        obtain ⟨cq104, kq104, q104a, q104b, q104c⟩ := isOf hZ e101 G83_0
        obtain ⟨_, _, ⟨T104, L104, k104, n104⟩, -, X104, ⟨Lc104, hQ104, l104, y104, z104⟩, st104⟩ := X101.virtualBack hx (y := (⟨"com/example/twag/twag/parity/IntSequence", "get", "(I)I"⟩ : MethodName)) (z := (⟨"com/example/twag/twag/parity/IntSequence", "get", "(I)I"⟩ : MethodName)) hown (mvT hZ (hw _ (List.mem_of_getElem? (i := 28) rfl))) (mvT hZ (hw _ (List.mem_of_getElem? (i := 29) rfl))) (notFace_of_selects (args := #[]) (mvT hZ (hw _ (List.mem_of_getElem? (i := 31) rfl)))) (mvT hZ (hw _ (List.mem_of_getElem? (i := 31) rfl))) (mvT hZ (hw _ (List.mem_of_getElem? (i := 30) rfl))) (by decide) (backOf (W := 0) (rm5 l Z tA hw [] b73 (3 : Int32) r76_0 r76_1 (((([(.int (0 : Int32)), (.int (0 : Int32)), (.int (0 : Int32)), (.int (0 : Int32)), (.int (0 : Int32)), (.int (0 : Int32)), (.int (0 : Int32)), (.int (0 : Int32)), (.int (0 : Int32)), (.int (0 : Int32)), (.int (0 : Int32)), (.int (0 : Int32)), (.int (0 : Int32)), (.int (0 : Int32)), (.int (0 : Int32)), (.int (0 : Int32))].set ((0 : Int32)).toNatClampNeg (.int p0)).set (((0 : Int32) + (1 : Int32))).toNatClampNeg (.int p1)).set ((((0 : Int32) + (1 : Int32)) + (1 : Int32))).toNatClampNeg (.int p2)).set (((((0 : Int32) + (1 : Int32)) + (1 : Int32)) + (1 : Int32))).toNatClampNeg (.int p3)) p3 h83 G83_1 G83_3 G83_4 (by decide) rfl) hZ (hw _ (List.mem_of_getElem? (i := 32) rfl)) (hw _ (List.mem_of_getElem? (i := 2) rfl)) (by decide) (by decide)) q104a q104c (g := (mkF m 168 #[.val (.int p0), .val (.int p1), .val (.int p2), .val (.int p3), .val (.int p4), .val (.int (4 : Int32)), .val (.ref b73), .val (.int x101_0)] [(.int (3 : Int32)), (.ref b73)])) rfl (by rw [hml]; rfl) (Steps.refl _) (argsL := [(.int (3 : Int32))]) (rest := []) (lenOf own_pd3 rfl) rfl (by show 2 * 0 + _ ≤ _; exact Nat.le_of_eq rfl) (hb hby at_168) (fun _ _ => ⟨rfl, e101, (by decide : 3 + 0 ≤ _), (by decide : 19 + 0 ≤ _)⟩)
        dsimp only [Pt.U, Pt.locs, Pt.cells, Pt.slots] at X104 l104 y104 z104 st104 hQ104
        subst l104 y104 z104
        obtain ⟨rfl, rfl, e104⟩ := hQ104
        try rw [List.append_nil] at X104
        change Stand _ _ _ _ _ _ _ _ _ _ _ _ 3 19 at X104
        refine Goes.step (fun t k => st104.trans k) ?_
        show Goes _ _ _ _ _ _ _ (T104.setTop (mkF m 171 #[.val (.int p0), .val (.int p1), .val (.int p2), .val (.int p3), .val (.int p4), .val (.int (4 : Int32)), .val (.ref b73), .val (.int x101_0)] [(.int (f5 p3))]))
        refine Goes.step (fun t k => XS.iloadN X104.here hx rfl (hb hby at_171) rfl k) ?_
        show Goes _ _ _ _ _ _ _ (T104.setTop (mkF m 172 #[.val (.int p0), .val (.int p1), .val (.int p2), .val (.int p3), .val (.int p4), .val (.int (4 : Int32)), .val (.ref b73), .val (.int x101_0)] [(.int p3), (.int (f5 p3))]))
        by_cases hc172_105 : (f5 p3) = p3
        · refine Goes.step (fun t k => XS.icmpNo X104.here hx rfl (hb hby at_172) rfl (teq hc172_105).2 k) ?_
          show Goes _ _ _ _ _ _ _ (T104.setTop (mkF m 175 #[.val (.int p0), .val (.int p1), .val (.int p2), .val (.int p3), .val (.int p4), .val (.int (4 : Int32)), .val (.ref b73), .val (.int x101_0)] []))
          refine Goes.step (fun t k => XS.iconst X104.here hx rfl (hb hby at_175) k) ?_
          show Goes _ _ _ _ _ _ _ (T104.setTop (mkF m 176 #[.val (.int p0), .val (.int p1), .val (.int p2), .val (.int p3), .val (.int p4), .val (.int (4 : Int32)), .val (.ref b73), .val (.int x101_0)] [(.int (1 : Int32))]))
          refine Goes.step (fun t k => XS.goto X104.here hx rfl (pc0 := 176) (pc' := 180) rfl (hb hby at_176) (by decide) (by decide) k) ?_
          show Goes _ _ _ _ _ _ _ (T104.setTop (mkF m 180 #[.val (.int p0), .val (.int p1), .val (.int p2), .val (.int p3), .val (.int p4), .val (.int (4 : Int32)), .val (.ref b73), .val (.int x101_0)] [(.int (1 : Int32))]))
          exact k106 _ _ _ X104 e104 N101 ((if_neg hc162_103).trans (if_pos hc172_105)).symm
        · refine Goes.step (fun t k => XS.icmpYes X104.here hx rfl (pc0 := 172) (pc' := 179) rfl (hb hby at_172) rfl (feq hc172_105).2 (by decide) (by decide) k) ?_
          show Goes _ _ _ _ _ _ _ (T104.setTop (mkF m 179 #[.val (.int p0), .val (.int p1), .val (.int p2), .val (.int p3), .val (.int p4), .val (.int (4 : Int32)), .val (.ref b73), .val (.int x101_0)] []))
          refine Goes.step (fun t k => XS.iconst X104.here hx rfl (hb hby at_179) k) ?_
          show Goes _ _ _ _ _ _ _ (T104.setTop (mkF m 180 #[.val (.int p0), .val (.int p1), .val (.int p2), .val (.int p3), .val (.int p4), .val (.int (4 : Int32)), .val (.ref b73), .val (.int x101_0)] [(.int (0 : Int32))]))
          exact k106 _ _ _ X104 e104 N101 ((if_neg hc162_103).trans (if_neg hc172_105)).symm
    intro T106 L106 x106_0 X106 e106 N106 hx106_0
    refine Goes.step (fun t k => XS.istore X106.here hx rfl (hb hby at_180) rfl (l' := #[.val (.int p0), .val (.int p1), .val (.int p2), .val (.int p3), .val (.int p4), .val (.int (4 : Int32)), .val (.ref b73), .val (.int x106_0)]) rfl k) ?_
    show Goes _ _ _ _ _ _ _ (T106.setTop (mkF m 182 #[.val (.int p0), .val (.int p1), .val (.int p2), .val (.int p3), .val (.int p4), .val (.int (4 : Int32)), .val (.ref b73), .val (.int x106_0)] []))
    refine Goes.step (fun t k => XS.iload X106.here hx rfl (hb hby at_182) rfl k) ?_
    show Goes _ _ _ _ _ _ _ (T106.setTop (mkF m 184 #[.val (.int p0), .val (.int p1), .val (.int p2), .val (.int p3), .val (.int p4), .val (.int (4 : Int32)), .val (.ref b73), .val (.int x106_0)] [(.int x106_0)]))
    exact Goes.retZ X106 hx Bd.notSynchronized (r := (1 : Int32)) Bd.returns (by simp) (hb hby at_184) (own_plain_4 p0 p1 p2 p3 y85 x87_0 x91_0 x96_0 x101_0 x106_0 hy85 hx87_0 hx91_0 hx96_0 hx101_0 hx106_0) ⟨rfl, N106⟩ (by decide) (by decide)
set_option maxRecDepth 65536 in
set_option maxHeartbeats 40000000 in
theorem comes_1 {Post : Tables → Env → Array Value → State → Outcome → State → Prop} (hpost : ∀ tb e args s v u, (limb_1_1.after args s (.returned v) u = true ∧ limb_1_2.after args s (.returned v) u = true ∧ True) → FrameEnd s (.returned v) u (Jvm.fieldLocs frame_1_writes args s ++ Jvm.arrayLocs frame_1_arrays args s ++ Jvm.staticLocs frame_1_statics s) 16 128 → Post tb e args s (.returned v) u) :
    ArmFor flags0 classFile x code maxLocals ret World_1 tables_1 room_1 Calls_1 rest_1 Pre_1 Post := by
  intro l hfl _ _ p e ha hc hk s m args below hf hA hF happ hP
  obtain ⟨hcalls, hrest, hpre⟩ := hP
  obtain ⟨-, -, -, hnamed, -, -, -, hat⟩ := (Spec.applies_iff hf).mp happ
  obtain ⟨hg, hn⟩ := and_e (Cond.before_iff.mp (show (Jvm.Cond.and given_1 narrow_1).before args s = true from hpre))
  obtain ⟨g0, gr0⟩ := and_e hg
  obtain ⟨ga0, gr1⟩ := and_e gr0
  obtain ⟨ga1, gr2⟩ := and_e gr1
  obtain ⟨ga2, gr3⟩ := and_e gr2
  obtain ⟨ga3, gr4⟩ := and_e gr3
  have ga4 := gr4
  obtain ⟨w0, w1, w2, w3, w4, rfl⟩ : ∃ w0 w1 w2 w3 w4 : Value, args = #[w0, w1, w2, w3, w4] := by
    have hs : args.size = 5 := by simpa [Cond.value, given_1] using g0
    obtain ⟨L⟩ := args
    match L, hs with
    | [w0, w1, w2, w3, w4], _ => exact ⟨w0, w1, w2, w3, w4, rfl⟩
  have hw := fun d (hd : d ∈ tables_1) => atoms_spec (ws := Jvm.Cond.code x code maxLocals ret :: tables_1) hat d (List.mem_cons_of_mem _ hd)
  have hfit : Fit s := fun {y c} hc i hi => by
    obtain ⟨ha, rfl⟩ := Array.getElem?_eq_some_iff.mp hc
    have q := List.all_eq_true.mp ((Array.all_eq_true_iff_forall_mem.mp hF) _ (Array.getElem_mem ha)) i (List.mem_range.mpr hi)
    simpa [Array.getElem?_eq_getElem hi] using q
  obtain ⟨i0, ei0⟩ := is_v ga0
  obtain rfl : w0 = (.int i0) := Option.some.inj ei0
  obtain ⟨i1, ei1⟩ := is_v ga1
  obtain rfl : w1 = (.int i1) := Option.some.inj ei1
  obtain ⟨i2, ei2⟩ := is_v ga2
  obtain rfl : w2 = (.int i2) := Option.some.inj ei2
  obtain ⟨i3, ei3⟩ := is_v ga3
  obtain rfl : w3 = (.int i3) := Option.some.inj ei3
  obtain ⟨i4, ei4⟩ := is_v ga4
  obtain rfl : w4 = (.int i4) := Option.some.inj ei4
  obtain ⟨n, o, h1, h2, h3, _, L, rfl, ⟨rfl, N⟩, hq⟩ := rm0 l s _ hw tables_1 i0 i1 i2 i3 i4  s.heap s.heap.size (Nat.le_refl _)  p e ha hc hk s m _ below hf ((Spec.applies_iff_loose hf).mp happ).1 ⟨rfl, State.Warmed39.refl s, rfl⟩ trivial
  refine ⟨n, _, h1, h2, h3, hpost _ _ _ _ _ _ ⟨Cond.after_iff.mpr rfl, Cond.after_iff.mpr (eq_i res_at (Term.int_eval (1)) rfl), trivial⟩ ⟨hq.1, hq.2.1, (hq.2.2.sift fun y hy => Or.inr (N y hy)).mono (by decide) (by decide)⟩⟩
theorem main_1_1 : Claimed_1_1 := comes_1 fun _ _ _ _ _ _ h hF => ⟨h.1, hF⟩
theorem main_1_2 : Claimed_1_2 := comes_1 fun _ _ _ _ _ _ h hF => ⟨h.2.1, hF⟩
end Jvm.Pilot.@@N@@
namespace Jvm.Pilot.@@N@@
open Jvm Jvm.ClassFile Sem Op Lib Jvm.Free Jvm.Stand Jvm.Pilot.@@N@@.Jvm.D
/-! MADE BY PROGRAM (witnessworld.py) out of the Statement's table words and the real class files: 9 classes; the members and pool entries that the words name. The judged class is class 1, her method 1. -/
namespace start1
open Jvm.ClassFile
def u (s : String) : CpInfo := .utf8 (stringToUtf16 s)
/-- a pool by its gaps: so many unusable entries, then the entry; so many at the end -/
def gap : Nat → List CpInfo → List CpInfo
  | 0, r => r
  | n + 1, r => .unusable :: gap n r
def poolList (es : List (Nat × CpInfo)) (last : Nat) : List CpInfo := es.foldr (fun e r => gap e.1 (e.2 :: r)) (gap last [])
def pool (es : List (Nat × CpInfo)) (last : Nat) : Array CpInfo := ⟨poolList es last⟩
def fileOf (pool : Array CpInfo) (this : Nat) (attrs : Array Attribute := #[]) (ms : Array MethodInfo := #[]) (fl : Nat := 33) (sup : Nat := 0) (ifs : Array Nat := #[]) (fds : Array FieldInfo := #[]) : ClassFile where
  minorVersion := 0
  majorVersion := 65
  constantPool := pool
  accessFlags := fl
  thisClass := this
  superClass := sup
  interfaces := ifs
  fields := fds
  methods := ms
  attributes := attrs
def plain (name : String) (sup : Option ClassId) : Class where
  name := name
  kind := .ordinary
  loader := none
  accessFlags := 33
  super := sup
  interfaces := #[]
  cf := none
  fields := #[]
  methods := #[]
  instanceTypes := #[]
  staticTypes := #[]
  resolved := #[]
  callSites := []
  init := .initialized
  statics := none
  mirror := none

def pool0 : Array CpInfo := pool [(5, u "<init>"), (0, u "()V"), (1, .class_ 10), (1, u "java/lang/Object")] 113

def k0c0 : Code := { maxStack := 0, maxLocals := 1, code := object_method_1_code, exceptionTable := #[], attributes := #[] }
def k0m0 : Method := { name := "<init>", desc := "()V", sig := { parameters := [], returnType := none }, accessFlags := 1, code := some k0c0 }
/-- java/lang/Object -/
def k0 : Class := { plain "java/lang/Object" none with
  accessFlags := 33
  interfaces := #[]
  cf := some (fileOf pool0 8 #[] #[{ accessFlags := 1, nameIndex := 5, descriptorIndex := 6, attributes := #[] }] 33 0 #[] #[])
  fields := #[]
  methods := #[k0m0]
  instanceTypes := #[]
  staticTypes := #[]
  resolved := Array.replicate 124 none
  statics := none }

def pool1 : Array CpInfo := pool [(2, .class_ 4), (0, .nameAndType 5 6), (0, u "java/lang/Object"), (0, u "<init>"), (0, u "()V"), (0, .class_ 8), (0, u "com/example/twag/twag/parity/IntSequence"), (0, .methodref 7 3), (0, .methodref 7 11), (0, .nameAndType 12 13), (0, u "add"), (0, u "(I)V"), (0, .methodref 7 15), (0, .nameAndType 16 17), (0, u "size"), (0, u "()I"), (0, .methodref 7 19), (0, .nameAndType 20 21), (0, u "get"), (0, u "(I)I"), (0, .class_ 23), (0, u "com/example/twag/twag/parity/IntSequenceGetPinLaw"), (2, u "law"), (0, u "(IIIII)Z")] 3

def k1m0 : Method := { name := "<init>", desc := "()V", sig := { parameters := [], returnType := none }, accessFlags := 2, code := none }
def k1c1 : Code := { maxStack := 2, maxLocals := 8, code := code, exceptionTable := #[], attributes := #[] }
def k1m1 : Method := { name := "law", desc := "(IIIII)Z", sig := { parameters := [.int, .int, .int, .int, .int], returnType := some .boolean }, accessFlags := 9, code := some k1c1 }
/-- com/example/twag/twag/parity/IntSequenceGetPinLaw -/
def k1 : Class := { plain "com/example/twag/twag/parity/IntSequenceGetPinLaw" (some 0) with
  accessFlags := 49
  interfaces := #[]
  cf := some (fileOf pool1 22 #[] #[{ accessFlags := 2, nameIndex := 5, descriptorIndex := 6, attributes := #[] }, { accessFlags := 9, nameIndex := 26, descriptorIndex := 27, attributes := #[] }] 49 2 #[] #[])
  fields := #[]
  methods := #[k1m0, k1m1]
  instanceTypes := #[]
  staticTypes := #[]
  resolved := Array.replicate 31 none
  statics := none }

def pool2 : Array CpInfo := pool [(1, .class_ 2), (0, u "com/example/twag/twag/parity/IntSequence"), (0, .methodref 4 5), (0, .class_ 6), (0, .nameAndType 7 8), (0, u "java/lang/Object"), (0, u "<init>"), (0, u "()V"), (0, .class_ 10), (0, u "[I"), (0, .fieldref 1 12), (0, .nameAndType 13 14), (0, u "blocks"), (0, u "[[I"), (0, .fieldref 1 16), (0, .nameAndType 17 18), (0, u "size"), (0, u "I"), (2, .integer 2147483647), (29, u "BLOCK_BITS"), (2, u "BLOCK_SIZE"), (1, u "INITIAL_CAPACITY"), (3, u "add"), (0, u "(I)V"), (1, u "()I"), (0, u "get"), (0, u "(I)I")] 4

def k2c0 : Code := { maxStack := 5, maxLocals := 1, code := prog_12_method_1_code, exceptionTable := #[], attributes := #[] }
def k2m0 : Method := { name := "<init>", desc := "()V", sig := { parameters := [], returnType := none }, accessFlags := 0, code := some k2c0 }
def k2c1 : Code := { maxStack := 5, maxLocals := 4, code := prog_12_method_2_code, exceptionTable := #[], attributes := #[] }
def k2m1 : Method := { name := "add", desc := "(I)V", sig := { parameters := [.int], returnType := none }, accessFlags := 0, code := some k2c1 }
def k2c2 : Code := { maxStack := 1, maxLocals := 1, code := prog_12_method_3_code, exceptionTable := #[], attributes := #[] }
def k2m2 : Method := { name := "size", desc := "()I", sig := { parameters := [], returnType := some .int }, accessFlags := 0, code := some k2c2 }
def k2c3 : Code := { maxStack := 3, maxLocals := 2, code := prog_12_method_4_code, exceptionTable := #[], attributes := #[] }
def k2m3 : Method := { name := "get", desc := "(I)I", sig := { parameters := [.int], returnType := some .int }, accessFlags := 0, code := some k2c3 }
/-- com/example/twag/twag/parity/IntSequence -/
def k2 : Class := { plain "com/example/twag/twag/parity/IntSequence" (some 0) with
  accessFlags := 48
  interfaces := #[]
  cf := some (fileOf pool2 1 #[] #[{ accessFlags := 0, nameIndex := 7, descriptorIndex := 8, attributes := #[] }, { accessFlags := 0, nameIndex := 60, descriptorIndex := 61, attributes := #[] }, { accessFlags := 0, nameIndex := 17, descriptorIndex := 63, attributes := #[] }, { accessFlags := 0, nameIndex := 64, descriptorIndex := 65, attributes := #[] }] 48 4 #[] #[{ accessFlags := 26, nameIndex := 51, descriptorIndex := 18, attributes := #[] }, { accessFlags := 26, nameIndex := 54, descriptorIndex := 18, attributes := #[] }, { accessFlags := 26, nameIndex := 56, descriptorIndex := 18, attributes := #[] }, { accessFlags := 2, nameIndex := 13, descriptorIndex := 14, attributes := #[] }, { accessFlags := 2, nameIndex := 17, descriptorIndex := 18, attributes := #[] }])
  fields := #[{ name := "BLOCK_BITS", type := .int, accessFlags := 26, slot := 0, constantValue := 0 }, { name := "BLOCK_SIZE", type := .int, accessFlags := 26, slot := 1, constantValue := 0 }, { name := "INITIAL_CAPACITY", type := .int, accessFlags := 26, slot := 2, constantValue := 0 }, { name := "blocks", type := (.array (.array .int)), accessFlags := 2, slot := 0, constantValue := 0 }, { name := "size", type := .int, accessFlags := 2, slot := 1, constantValue := 0 }]
  methods := #[k2m0, k2m1, k2m2, k2m3]
  instanceTypes := #[(.array (.array .int)), .int]
  staticTypes := #[.int, .int, .int]
  resolved := Array.replicate 70 none
  statics := none }

def pool3 : Array CpInfo := pool [(1, u "java/lang/Cloneable"), (0, .class_ 1), (0, u "java/lang/Object"), (0, .class_ 3)] 3

/-- java/lang/Cloneable -/
def k3 : Class := { plain "java/lang/Cloneable" (some 0) with
  accessFlags := 1537
  interfaces := #[]
  cf := some (fileOf pool3 2 #[] #[] 1537 4 #[] #[])
  fields := #[]
  methods := #[]
  instanceTypes := #[]
  staticTypes := #[]
  resolved := Array.replicate 8 none
  statics := none }

def pool4 : Array CpInfo := pool [(1, u "java/io/Serializable"), (0, .class_ 1), (0, u "java/lang/Object"), (0, .class_ 3)] 3

/-- java/io/Serializable -/
def k4 : Class := { plain "java/io/Serializable" (some 0) with
  accessFlags := 1537
  interfaces := #[]
  cf := some (fileOf pool4 2 #[] #[] 1537 4 #[] #[])
  fields := #[]
  methods := #[]
  instanceTypes := #[]
  staticTypes := #[]
  resolved := Array.replicate 8 none
  statics := none }

/-- the primitive byte -/
def k5 : Class := { plain "byte" none with kind := .primitive 'B', accessFlags := 0x411 }
/-- [B -/
def k6 : Class := { plain "[B" (some 0) with kind := .array 5 .byte, interfaces := #[3, 4], accessFlags := 1041 }

/-- the primitive int -/
def k7 : Class := { plain "int" none with kind := .primitive 'I', accessFlags := 0x411 }
/-- [I -/
def k8 : Class := { plain "[I" (some 0) with kind := .array 7 .int, interfaces := #[3, 4], accessFlags := 1041 }

def heap : Heap := #[]
/-- [[I (laid by hand: the program lays none for an array of arrays) -/
def k9 : Class := { plain "[[I" (some 0) with kind := .array 8 (.array .int), interfaces := #[3, 4], accessFlags := 1041 }
def classes : Array Class := #[k0, k1, k2, k3, k4, k5, k6, k7, k8, k9]
def interned : List (Array UInt16 × Addr) := []
def slotsUsed : Nat := 0
def theMethod : MethodId := ⟨1, 1⟩
def args0 : Array Value := #[.int 5, .int 6, .int 7, .int 8, .int 9]
def aboutOver (below : List Frame) : State where
  vm := { classes := classes, interned := interned.toArray }
  heap := heap
  slotsUsed := slotsUsed
  threads := #[{ frames := .invoking theMethod args0 :: below }]
def below0 : List Frame := [.native { method := ⟨0, 0⟩, args := #[] }]
def about1 : State := aboutOver below0
def p0 : Program := .bare "" "" ""
def e0 : Env := launch0.env 0 0 0
theorem w_frames : about1.frames = Frame.invoking theMethod args0 :: below0 := rfl
set_option maxRecDepth 65536 in
theorem w_args : argsFit about1.vm theMethod args0 = true := by decide +kernel
set_option maxRecDepth 65536 in
theorem w_heap : heapFits about1 = true := by decide +kernel
set_option maxRecDepth 65536 in
theorem w_runnable : about1.curStatus? = some .runnable := by decide +kernel
set_option maxRecDepth 65536 in
theorem w_alone : about1.alone = true := by decide +kernel
set_option maxRecDepth 65536 in
theorem w_named : about1.methodNamed? x = some theMethod := by decide +kernel
set_option maxRecDepth 65536 in
theorem w_hears : about1.hears theMethod below0 = true := by decide +kernel
set_option maxRecDepth 65536 in
theorem w_ripe : about1.ripe theMethod args0 below0 = true := by decide +kernel
theorem w_running : about1.status = .running := rfl
set_option maxRecDepth 65536 in
theorem w_room : about1.hasRoom e0.platform room_1 = true :=
  launch0.hasRoom_least _ room_1 (by decide +kernel) (by decide +kernel) (by decide +kernel) (by decide +kernel) (by decide +kernel) (by decide +kernel)
theorem allAtoms_all (ts : List Jvm.Cond) (a : Array Jvm.Value) (st : Jvm.State) : (allAtoms ts).before a st = ts.all (fun c => c.before a st) := by
  induction ts with
  | nil => rfl
  | cons c t ih =>
    show (Jvm.Cond.and c (allAtoms t)).before a st = _
    rw [Jvm.Cond.before_and, ih, List.all_cons]
def words1 : List Jvm.Cond := Jvm.Cond.code x code maxLocals ret :: tables_1
/-- a 'code' word, met by the world's own term for the bytes: nothing is compared byte by byte -/
theorem code_word {y : MethodName} {bytes : ByteArray} {mx : Nat} {rt : Option FieldType} {a : Array Value} {s : State} {m : MethodId} {meth : Method} {c : Code} (h1 : s.methodNamed? y = some m) (h2 : s.vm.method? m = some meth) (h3 : meth.code = some c) (h4 : c.code = bytes)
    (h5 : (c.maxLocals == mx && c.exceptionTable.isEmpty && decide (c.maxStack ≤ mostOperands) && decide (meth.sig.returnType = rt) && !meth.locks && decide (parseMethodDescriptor y.desc = some meth.sig)) = true) : (Jvm.Cond.code y bytes mx rt).before a s = true := by
  simp only [Bool.and_eq_true, beq_iff_eq, Bool.not_eq_true', decide_eq_true_eq] at h5
  obtain ⟨⟨⟨⟨⟨g1, g2⟩, g3⟩, g4⟩, g5⟩, g6⟩ := h5
  simp [Cond.before, Cond.holds, Cond.value, h1, h2, h3, h4, g1, g2, g3, g4, g5, g6]
def isCode : Jvm.Cond → Bool
  | .code _ _ _ _ => true
  | _ => false
theorem all_split {L : List Jvm.Cond} {P : Jvm.Cond → Bool} (h1 : L.all (fun c => isCode c || P c) = true) (h2 : ∀ c ∈ L.filter isCode, P c = true) : L.all P = true := by
  refine List.all_eq_true.mpr fun c hc => ?_
  have h := List.all_eq_true.mp h1 c hc
  rcases Bool.eq_false_or_eq_true (isCode c) with hi | hi
  · exact h2 c (List.mem_filter.mpr ⟨hc, hi⟩)
  · simpa [hi] using h
set_option maxRecDepth 65536 in
theorem w_c0 : (Jvm.Cond.code x code maxLocals ret).before args0 about1 = true := code_word (m := ⟨1, 1⟩) (meth := k1m1) (c := k1c1) (by decide +kernel) rfl rfl rfl (by decide +kernel)
set_option maxRecDepth 65536 in
theorem w_c1 : (Jvm.Cond.code ({ cls := "com/example/twag/twag/parity/IntSequence", name := "<init>", desc := "()V" } : Jvm.MethodName) prog_12_method_1_code (1 : Nat) (Option.none : Option Jvm.ClassFile.FieldType)).before args0 about1 = true := code_word (m := ⟨2, 0⟩) (meth := k2m0) (c := k2c0) (by decide +kernel) rfl rfl rfl (by decide +kernel)
set_option maxRecDepth 65536 in
theorem w_c2 : (Jvm.Cond.code ({ cls := "java/lang/Object", name := "<init>", desc := "()V" } : Jvm.MethodName) object_method_1_code (1 : Nat) (Option.none : Option Jvm.ClassFile.FieldType)).before args0 about1 = true := code_word (m := ⟨0, 0⟩) (meth := k0m0) (c := k0c0) (by decide +kernel) rfl rfl rfl (by decide +kernel)
set_option maxRecDepth 65536 in
theorem w_c3 : (Jvm.Cond.code ({ cls := "com/example/twag/twag/parity/IntSequence", name := "add", desc := "(I)V" } : Jvm.MethodName) prog_12_method_2_code (4 : Nat) (Option.none : Option Jvm.ClassFile.FieldType)).before args0 about1 = true := code_word (m := ⟨2, 1⟩) (meth := k2m1) (c := k2c1) (by decide +kernel) rfl rfl rfl (by decide +kernel)
set_option maxRecDepth 65536 in
theorem w_c4 : (Jvm.Cond.code ({ cls := "com/example/twag/twag/parity/IntSequence", name := "size", desc := "()I" } : Jvm.MethodName) prog_12_method_3_code (1 : Nat) (Option.some Jvm.ClassFile.FieldType.int)).before args0 about1 = true := code_word (m := ⟨2, 2⟩) (meth := k2m2) (c := k2c2) (by decide +kernel) rfl rfl rfl (by decide +kernel)
set_option maxRecDepth 65536 in
theorem w_c5 : (Jvm.Cond.code ({ cls := "com/example/twag/twag/parity/IntSequence", name := "get", desc := "(I)I" } : Jvm.MethodName) prog_12_method_4_code (2 : Nat) (Option.some Jvm.ClassFile.FieldType.int)).before args0 about1 = true := code_word (m := ⟨2, 3⟩) (meth := k2m3) (c := k2c3) (by decide +kernel) rfl rfl rfl (by decide +kernel)
def codes1 : List Jvm.Cond := [Jvm.Cond.code x code maxLocals ret, Jvm.Cond.code ({ cls := "com/example/twag/twag/parity/IntSequence", name := "<init>", desc := "()V" } : Jvm.MethodName) prog_12_method_1_code (1 : Nat) (Option.none : Option Jvm.ClassFile.FieldType), Jvm.Cond.code ({ cls := "java/lang/Object", name := "<init>", desc := "()V" } : Jvm.MethodName) object_method_1_code (1 : Nat) (Option.none : Option Jvm.ClassFile.FieldType), Jvm.Cond.code ({ cls := "com/example/twag/twag/parity/IntSequence", name := "add", desc := "(I)V" } : Jvm.MethodName) prog_12_method_2_code (4 : Nat) (Option.none : Option Jvm.ClassFile.FieldType), Jvm.Cond.code ({ cls := "com/example/twag/twag/parity/IntSequence", name := "size", desc := "()I" } : Jvm.MethodName) prog_12_method_3_code (1 : Nat) (Option.some Jvm.ClassFile.FieldType.int), Jvm.Cond.code ({ cls := "com/example/twag/twag/parity/IntSequence", name := "get", desc := "(I)I" } : Jvm.MethodName) prog_12_method_4_code (2 : Nat) (Option.some Jvm.ClassFile.FieldType.int)]
set_option maxRecDepth 65536 in
theorem codes_eq : words1.filter isCode = codes1 := rfl
theorem w_codes : ∀ c ∈ words1.filter isCode, c.before args0 about1 = true := by
  rw [codes_eq]
  intro c hc
  simp only [codes1, List.mem_cons, List.not_mem_nil, or_false] at hc
  rcases hc with rfl | rfl | rfl | rfl | rfl | rfl
  · exact w_c0
  · exact w_c1
  · exact w_c2
  · exact w_c3
  · exact w_c4
  · exact w_c5
set_option maxRecDepth 65536 in
theorem w_t1 : (words1.take 24).all (fun c => isCode c || c.before args0 about1) = true := by decide +kernel
set_option maxRecDepth 65536 in
theorem w_t2 : (words1.drop 24).all (fun c => isCode c || c.before args0 about1) = true := by decide +kernel
theorem w_tables : (allAtoms (Jvm.Cond.code x code maxLocals ret :: tables_1)).before args0 about1 = true := by
  rw [allAtoms_all]
  show words1.all (fun c => c.before args0 about1) = true
  refine all_split ?_ w_codes
  rw [← List.take_append_drop 24 words1, List.all_append, w_t1, w_t2]
  rfl
set_option maxRecDepth 65536 in
theorem w_case : (Jvm.Cond.and given_1 narrow_1).before args0 about1 = true := by decide +kernel
theorem w_applies : (headSpec (Jvm.Cond.code x code maxLocals ret :: tables_1) room_1).applies x e0.platform about1 = true :=
  (Spec.applies_iff w_frames).mpr ⟨w_running, w_runnable, w_alone, w_named, w_hears, w_ripe, w_room, w_tables⟩
theorem atStart : AtStart classFile x code maxLocals ret World_1 tables_1 room_1 Calls_1 rest_1 Pre_1 launch0 p0 e0 about1 theMethod args0 below0 :=
  ⟨lists_1, trivial, launch0.admits_env _ _ _, launch0.least_env, fairChoices_fair.cas, fairChoices_fair.clock, w_frames, w_args, w_heap, w_applies, trivial, trivial, w_case⟩
end start1
theorem witness_1 : WitnessClaimed_1 := ⟨start1.p0, start1.e0, start1.about1, start1.theMethod, start1.args0, start1.below0, start1.atStart⟩
end Jvm.Pilot.@@N@@
