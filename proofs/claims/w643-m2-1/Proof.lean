import JvmDerived
import JvmDerived.Pilot.@@N@@Statement
import JvmDerived.Pilot.@@N@@Code
set_option linter.unusedVariables false
set_option linter.unusedSimpArgs false
namespace Jvm.Pilot.@@N@@
open Jvm Jvm.ClassFile Sem Op Lib Jvm.Free Jvm.Stand Jvm.LawKit Jvm.RoadKit Bundle Jvm.Pilot.@@N@@.Jvm.D
section Own0
theorem own_fld_to {Z : State} {h : Heap} {a : Addr} {C n d : String} {v v' : Value} (F : Fld Z h a C n d v) (q : v = v') : Fld Z h a C n d v' := q ▸ F
theorem own_sta_keep {Z : State} {h h' : Heap} {C n d : String} {v : Value} {ws : List Addr} (F : Sta Z h C n d v) (K : Keep h h' ws) (q : ∀ x ∈ ws, ∀ c : Cell, h[x]? = some c → c.vm.isStatics = false) : Sta Z h' C n d v := by
  obtain ⟨cf, i, k, f, st, cell, h1, h2, h3, h4, h5, h6, h7⟩ := F
  exact ⟨cf, i, k, f, st, cell, h1, h2, h3, h4, K.2.1 st cell h5 (fun y => by rw [q st y cell h5] at h6; cases h6), h6, h7⟩
theorem own_ins_keep {Z : State} {h h' : Heap} {a : Addr} {C : String} {bo : Bool} {ws : List Addr} (F : Ins Z h a C bo) (K : Keep h h' ws) : Ins Z h' a C bo := by
  obtain ⟨cell, cT, h1, h2, h3⟩ := F
  obtain ⟨c', e1, e2, e3, -⟩ := K.2.2 a cell h1
  exact ⟨c', cT, e1, h2, by rw [e2, e3]; exact h3⟩
theorem notsta_exa {Z : State} {h : Heap} {a : Addr} {C : String} (F : Exa Z h a C) : ∀ c : Cell, h[a]? = some c → c.vm.isStatics = false := fun c hc => by
  obtain ⟨cell, _, h1, -, -, h4, -⟩ := F
  cases hc.symm.trans h1; exact h4
theorem eqi_v {args : Array Value} {first s : State} {o : Option Outcome} {idx : List Nat} {a : Term} {k : Int32} (h : (Cond.eq a (.int k)).value args first o s idx = some true) : a.eval args first o idx s = some (.int k) := by
  obtain ⟨x, y, e1, e2, k1, k2⟩ := cmp_v (Or.inl h)
  have e3 : (Term.int k).eval args first o idx s = some (.int k) := rfl
  cases e3.symm.trans e2
  cases x <;> simp [Cond.value, e1, e3] at h
  rw [e1, h]
end Own0
section Own
variable {p : Program} {l : Launch} {e : Env} {R : Room} {s : State} {m : MethodId} {args : Array Value} {below : List Frame} {meth : Method} {c : Code} {T T' : State} {locs : List Loc} {cells slots : Nat} {Z : State} {h h' : Heap} {Q : Option Value → Heap → List Loc → Prop} {kc ks : Nat} {a b : Addr}
/-- from T the method comes to its end, and Q holds of what it returns, of the heap and of the written places -/
def Goes (p : Program) (e : Env) (below : List Frame) (s : State) (Q : Option Value → Heap → List Loc → Prop) (kc ks : Nat) (T : State) : Prop :=
  ∃ s₂ o, Steps p.tables e below T s₂ ∧ s₂.status = .running ∧ Ended s₂ below o ∧ ∃ v L, o = .returned v ∧ Q v s₂.heap L ∧ FrameEnd s o s₂ L kc ks
theorem Goes.step (st : ∀ t, Steps p.tables e below T' t → Steps p.tables e below T t) (k : Goes p e below s Q kc ks T') : Goes p e below s Q kc ks T := by
  obtain ⟨s₂, o, h1, h2⟩ := k; exact ⟨s₂, o, st _ h1, h2⟩
theorem Goes.ret (X : Stand p l e R s m args below meth c T locs cells slots) {v : Option Value} (hv : meth.sig.returnType = none → v = none) (hlocks : meth.locks = false) {T₀ : State}
    (st : ∀ fs, (∀ (f : JFrame) (acts : List Action), f.method = m → f.locked = none → f.entered = [] → (doReturn e (T.setTop f) acts v).1 = T.setFrames fs) → Steps p.tables e below T₀ (T.setFrames fs))
    (hq : Q v T.heap locs) (hc : cells ≤ kc) (hs : slots ≤ ks) : Goes p e below s Q kc ks T₀ := by
  obtain ⟨fs, hr, hrun, hended, hW, hsame⟩ := X.leave (v := v) hv hlocks
  exact ⟨_, _, st fs hr, hrun, hended, _, _, rfl, hq, ⟨_, rfl⟩, hW, hsame.mono hc hs⟩
theorem Goes.retZ (X : Stand p l e R s m args below meth c T locs cells slots) (hx : p.tables.exec = Jvm.exec) (hlocks : meth.locks = false) {pc : Nat} {Ls : Array Slot} {z r : Int32} {t : FieldType} {rest : List Value} (hret : meth.sig.returnType = some t) (ht : t = .boolean ∨ t = .byte ∨ t = .char ∨ t = .short)
    (hd : decode c.code pc = .ok (.ireturn, 1)) (hz : nar t z = r) (hq : Q (some (.int r)) T.heap locs) (hc : cells ≤ kc) (hs : slots ≤ ks) : Goes p e below s Q kc ks (T.setTop (mkF m pc Ls (.int z :: rest))) := by
  subst hz
  exact Goes.ret X (fun h => by rw [hret] at h; cases h) hlocks (fun fs hr => retN X hx hret ht hd hr) hq hc hs
theorem Goes.retI (X : Stand p l e R s m args below meth c T locs cells slots) (hx : p.tables.exec = Jvm.exec) (hlocks : meth.locks = false) {pc : Nat} {Ls : Array Slot} {z r : Int32} {rest : List Value} (hret : meth.sig.returnType = some .int)
    (hd : decode c.code pc = .ok (.ireturn, 1)) (hz : z = r) (hq : Q (some (.int r)) T.heap locs) (hc : cells ≤ kc) (hs : slots ≤ ks) : Goes p e below s Q kc ks (T.setTop (mkF m pc Ls (.int z :: rest))) := by
  subst hz
  exact Goes.ret X (fun h => by rw [hret] at h; cases h) hlocks (fun fs hr => retOut X hx hret rfl (Or.inl ⟨rfl, Or.inl rfl, z, rfl⟩) hd hr) hq hc hs
theorem Goes.retJ (X : Stand p l e R s m args below meth c T locs cells slots) (hx : p.tables.exec = Jvm.exec) (hlocks : meth.locks = false) {pc : Nat} {Ls : Array Slot} {z r : Int64} {rest : List Value} (hret : meth.sig.returnType = some .long)
    (hd : decode c.code pc = .ok (.lreturn, 1)) (hz : z = r) (hq : Q (some (.long r)) T.heap locs) (hc : cells ≤ kc) (hs : slots ≤ ks) : Goes p e below s Q kc ks (T.setTop (mkF m pc Ls (.long z :: rest))) := by
  subst hz
  exact Goes.ret X (fun h => by rw [hret] at h; cases h) hlocks (fun fs hr => retOut X hx hret rfl (Or.inr (Or.inl ⟨rfl, rfl, z, rfl⟩)) hd hr) hq hc hs
theorem Goes.retR (X : Stand p l e R s m args below meth c T locs cells slots) (hx : p.tables.exec = Jvm.exec) (hlocks : meth.locks = false) {pc : Nat} {Ls : Array Slot} {z r : Value} {t : FieldType} {rest : List Value} (hret : meth.sig.returnType = some t) (ht : t.isReference = true) (hn : narrow t z = z) (hw : z.isRef = true)
    (hd : decode c.code pc = .ok (.areturn, 1)) (hz : z = r) (hq : Q (some r) T.heap locs) (hc : cells ≤ kc) (hs : slots ≤ ks) : Goes p e below s Q kc ks (T.setTop (mkF m pc Ls (z :: rest))) := by
  subst hz
  exact Goes.ret X (fun h => by rw [hret] at h; cases h) hlocks (fun fs hr => retOut X hx hret hn (Or.inr (Or.inr (Or.inr (Or.inr ⟨rfl, ht, hw⟩)))) hd hr) hq hc hs
theorem Goes.retV (X : Stand p l e R s m args below meth c T locs cells slots) (hx : p.tables.exec = Jvm.exec) (hlocks : meth.locks = false) {pc : Nat} {Ls : Array Slot} (hret : meth.sig.returnType = none)
    (hd : decode c.code pc = .ok (.return_, 1)) (hq : Q none T.heap locs) (hc : cells ≤ kc) (hs : slots ≤ ks) : Goes p e below s Q kc ks (T.setTop (mkF m pc Ls [])) :=
  Goes.ret X (fun _ => rfl) hlocks (fun fs hr => X.returnOut hx hret hd hr) hq hc hs
/-- the array at a holds vs -/
def Ara (Z : State) (h : Heap) (a : Addr) (ty : FieldType) (vs : List Value) : Prop := ∃ cl : Cell, Arr Z h a cl ty ∧ cl.slots.toList = vs ∧ vs.length < 2 ^ 31 ∧ (∀ v ∈ vs, fits ty v = true) ∧ ∀ C, ty = .object C → Ovr Z cl.cls C
variable {ty : FieldType} {vs : List Value} {sl : Nat} {v : Value} {ws : List Addr}
theorem Ara.lt (F : Ara Z h a ty vs) : a < h.size := by obtain ⟨c, A, -⟩ := F; exact A.lt
theorem Ara.ext (F : Ara Z h a ty vs) (E : Ext h h') : Ara Z h' a ty vs := by obtain ⟨c, A, r⟩ := F; exact ⟨c, A.ext E, r⟩
theorem Ara.other (F : Ara Z h b ty vs) (W : Wr h h' a sl v) (q : b ≠ a) : Ara Z h' b ty vs := by obtain ⟨c, A, r⟩ := F; exact ⟨c, A.other W q, r⟩
theorem Ara.keep (F : Ara Z h a ty vs) (K : Keep h h' ws) (q : a ∉ ws) : Ara Z h' a ty vs := by obtain ⟨c, A, r⟩ := F; exact ⟨c, ⟨K.2.1 a c A.1 q, A.2⟩, r⟩
theorem fits_dflt (ty : FieldType) : fits ty (defaultValue ty) = true := by cases ty <;> rfl
theorem Ara.new {k : ClassId} {z : Int32} (A : Arr Z h a (newA k ty z) ty) (q : ¬ z < 0) (e : List.replicate z.toNatClampNeg (defaultValue ty) = vs) (O : ∀ C, ty = .object C → Ovr Z k C) : Ara Z h a ty vs := by
  subst e
  refine ⟨_, A, by simp [newA], by simpa using (back32 q).2, fun v hv => ?_, O⟩
  rw [(List.mem_replicate.mp hv).2]; exact fits_dflt ty
theorem Ara.same {j : Int32} {cl : Cell} (A : Arr Z h a cl ty) (e : cl.slots.toList = vs) (hl : vs.length < 2 ^ 31) (hf : ∀ v ∈ vs, fits ty v = true) (O : ∀ C, ty = .object C → Ovr Z cl.cls C) (hv : fits ty v = true) (W : Wr h h' a j.toNatClampNeg v) : Ara Z h' a ty (vs.set j.toNatClampNeg v) := by
  refine ⟨_, A.same W, by simp [Cell.setSlot, ← e], by simpa using hl, fun u hu => ?_, O⟩
  rcases List.mem_or_eq_of_mem_set hu with q | q
  · exact hf u q
  · rw [q]; exact hv
theorem inb {j : Int32} {cl : Cell} (e : cl.slots.toList = vs) (h0 : ¬ j < 0) (hj : j.toNatClampNeg < vs.length) : ¬ (j < 0 ∨ cl.slots.size ≤ j.toNatClampNeg) := by
  rintro (q | q)
  · exact h0 q
  · rw [← e] at hj; simp at hj; omega
theorem getb {j : Int32} {cl : Cell} (e : cl.slots.toList = vs) (hv : vs[j.toNatClampNeg]? = some v) : cl.slots[j.toNatClampNeg]? = some v := by rw [← e] at hv; simpa using hv
theorem ltb {n : Nat} (hv : vs[n]? = some v) : n < vs.length := (List.getElem?_eq_some_iff.mp hv).1
theorem lenb {cl : Cell} (e : cl.slots.toList = vs) : cl.slots.size = vs.length := by rw [← e]; simp
theorem notsta_ara (F : Ara Z h a ty vs) : ∀ c : Cell, h[a]? = some c → c.vm.isStatics = false := fun c hc => by
  obtain ⟨cl, A, -⟩ := F
  cases hc.symm.trans A.1; exact A.plain
theorem Ara.to {vs' : List Value} (F : Ara Z h a ty vs) (q : vs = vs') : Ara Z h a ty vs' := q ▸ F
end Own

theorem own_eight (p k : Int32) (h : (p &&& 7) + 1 = k) : k = 1 ∨ k = 2 ∨ k = 3 ∨ k = 4 ∨ k = 5 ∨ k = 6 ∨ k = 7 ∨ k = 8 := by
  have h1 := c_mask p 7 3 (by decide) (by decide)
  have h2 := c_iadd (p &&& 7) 1
  have h3 := rng32 ((p &&& 7) + 1)
  rw [(by decide : (1 : Int32).toInt = 1), h] at h2
  rw [h] at h3
  have h4 : k.toInt = 1 ∨ k.toInt = 2 ∨ k.toInt = 3 ∨ k.toInt = 4 ∨ k.toInt = 5 ∨ k.toInt = 6 ∨ k.toInt = 7 ∨ k.toInt = 8 := by omega
  rcases h4 with h | h | h | h | h | h | h | h <;> simp [← Int32.toInt_inj, h]
theorem own_pn0 : plainName "com/example/chernoff/chernoff/monitor/Rounds" = true := by first | (simp [plainName, overriddenIn]; done) | decide +kernel
theorem own_pd0 : parseMethodDescriptor "(I)V" = some ⟨[.int], none⟩ := by decide +kernel
theorem own_pd1 : parseMethodDescriptor "()V" = some ⟨[], none⟩ := by decide +kernel
theorem own_pd2 : parseMethodDescriptor "()J" = some ⟨[], some .long⟩ := by decide +kernel
theorem own_pd3 : parseMethodDescriptor "()Z" = some ⟨[], some .boolean⟩ := by decide +kernel
theorem own_pd4 : parseMethodDescriptor "()I" = some ⟨[], some .int⟩ := by decide +kernel
theorem own_pn1 : plainName "com/example/chernoff/chernoff/monitor/RoundsNextPinLaw" = true := by first | (simp [plainName, overriddenIn]; done) | decide +kernel
theorem own_d1_0 : decode prog_65_method_1_code 0 = .ok (.aload_n 0, 1) := by decide +kernel
theorem own_d1_1 : decode prog_65_method_1_code 1 = .ok (.invokespecial 1, 3) := by decide +kernel
theorem own_d1_4 : decode prog_65_method_1_code 4 = .ok (.aload_n 0, 1) := by decide +kernel
theorem own_d1_5 : decode prog_65_method_1_code 5 = .ok (.iload_n 1, 1) := by decide +kernel
theorem own_d1_6 : decode prog_65_method_1_code 6 = .ok (.i2l, 1) := by decide +kernel
theorem own_d1_7 : decode prog_65_method_1_code 7 = .ok (.putfield 7, 3) := by decide +kernel
theorem own_d1_10 : decode prog_65_method_1_code 10 = .ok (.return_, 1) := by decide +kernel
theorem own_ef1 (m : MethodId) (a0 : Addr) (p1 : Int32) : entryFrame m #[(.ref a0), (.int p1)] 2 = mkF m 0 #[.val (.ref a0), .val (.int p1)] [] := by first | (simp [entryFrame, mkF, argsToLocals, Value.category, maxLocals]; done) | rfl
abbrev RM1 : Room := ({ frames := 1, cells := 0, slots := 0, locals := 12 } : Room)
abbrev kC1 : Nat := 0
abbrev kS1 : Nat := 0
def Q1 (Z : State) (a0 : Addr) (p1 : Int32) (h0 : Heap) (n0 : Nat) (v : Option Value) (h : Heap) (L : List Loc) : Prop := v = none ∧ Fr n0 L ∧ Keep h0 h [a0] ∧ Exa Z h a0 "com/example/chernoff/chernoff/monitor/Rounds" ∧ Fld Z h a0 "com/example/chernoff/chernoff/monitor/Rounds" "stretches" "J" (.long (p1.toInt64)) ∧ Fld Z h a0 "com/example/chernoff/chernoff/monitor/Rounds" "number" "J" (.long (0 : Int64)) ∧ Fld Z h a0 "com/example/chernoff/chernoff/monitor/Rounds" "position" "J" (.long (0 : Int64))
set_option maxRecDepth 65536 in
set_option maxHeartbeats 40000000 in
theorem rm1 (l : Launch) (Z : State) (tA : Array Value) (hw : ∀ d ∈ tables_1, d.before tA Z = true) (ws : List Jvm.Cond) (a0 : Addr) (p1 : Int32) (h0 : Heap) (n0 : Nat) (Z0 : n0 ≤ h0.size) (H0 : Exa Z h0 a0 "com/example/chernoff/chernoff/monitor/Rounds") (H1 : Fld Z h0 a0 "com/example/chernoff/chernoff/monitor/Rounds" "stretches" "J" (.long (0 : Int64))) (H2 : Fld Z h0 a0 "com/example/chernoff/chernoff/monitor/Rounds" "number" "J" (.long (0 : Int64))) (H3 : Fld Z h0 a0 "com/example/chernoff/chernoff/monitor/Rounds" "position" "J" (.long (0 : Int64))) (g_a0 : n0 ≤ a0) :
    MetFree l (⟨"com/example/chernoff/chernoff/monitor/Rounds", "<init>", "(I)V"⟩ : MethodName) (head1 (Jvm.Cond.code (⟨"com/example/chernoff/chernoff/monitor/Rounds", "<init>", "(I)V"⟩ : MethodName) prog_65_method_1_code 2 none :: ws) RM1) (fun a U => a = #[(.ref a0), (.int p1)] ∧ Z.Warmed39 U.vm ∧ U.heap = h0) (fun _ _ _ _ _ => True) (fun _ U o U' => ∃ v L, o = .returned v ∧ Q1 Z a0 p1 h0 n0 v U'.heap L ∧ FrameEnd U o U' L RM1.cells RM1.slots) := by
  refine MetFree.of_bodySF (plainFor_of_name own_pn0) hisR ?_
  intro p e s m args below meth c s₁ Bd hml0 hP hK
  obtain ⟨rfl, hZ, hh⟩ := hP
  have hx := Bd.exec
  have hby := Bd.bytes
  have hml : c.maxLocals = 2 := hml0
  have hown : s.vm.findClass "com/example/chernoff/chernoff/monitor/Rounds" = some m.cls := findClass_of_methodNamed Bd.named
  have hnm := (name_of_methodNamed Bd.named Bd.method).1
  have X0 : Stand p l e RM1 s m #[(.ref a0), (.int p1)] below meth c s₁ [] 0 0 := Stand.of_body Bd
  have e0 : s₁.heap = h0 := by rw [← hh, Bd.state]; rfl
  have N0 := Fr.nil n0
  show Goes p e below s (Q1 Z a0 p1 h0 n0) kC1 kS1 (s₁.setTop (entryFrame m #[(.ref a0), (.int p1)] 2))
  refine Goes.step (fun t k => castTop (own_ef1 m a0 p1) k) ?_
  show Goes _ _ _ _ _ _ _ (s₁.setTop (mkF m 0 #[.val (.ref a0), .val (.int p1)] []))
  refine Goes.step (fun t k => XS.aloadN X0.here hx rfl (hb hby own_d1_0) rfl rfl k) ?_
  show Goes _ _ _ _ _ _ _ (s₁.setTop (mkF m 1 #[.val (.ref a0), .val (.int p1)] [(.ref a0)]))
  obtain ⟨T1, X1, e1, st1⟩ := initO X0 hx hZ hown (hw _ (List.mem_of_getElem? (i := 6) rfl)) (hw _ (List.mem_of_getElem? (i := 7) rfl)) (hw _ (List.mem_of_getElem? (i := 8) rfl)) e0 (g := (mkF m 1 #[.val (.ref a0), .val (.int p1)] [(.ref a0)])) rfl (by rw [hml]; rfl) rfl (hb hby own_d1_1) (by decide) (W := 0) (by show 2 * 0 + _ ≤ _; exact Nat.le_of_eq rfl) (by decide)
  refine Goes.step (fun t k => st1 t k) ?_
  show Goes _ _ _ _ _ _ _ (T1.setTop (mkF m 4 #[.val (.ref a0), .val (.int p1)] []))
  refine Goes.step (fun t k => XS.aloadN X1.here hx rfl (hb hby own_d1_4) rfl rfl k) ?_
  show Goes _ _ _ _ _ _ _ (T1.setTop (mkF m 5 #[.val (.ref a0), .val (.int p1)] [(.ref a0)]))
  refine Goes.step (fun t k => XS.iloadN X1.here hx rfl (hb hby own_d1_5) rfl k) ?_
  show Goes _ _ _ _ _ _ _ (T1.setTop (mkF m 6 #[.val (.ref a0), .val (.int p1)] [(.int p1), (.ref a0)]))
  refine Goes.step (fun t k => XS.i2l X1.here hx rfl (hb hby own_d1_6) rfl k) ?_
  show Goes _ _ _ _ _ _ _ (T1.setTop (mkF m 7 #[.val (.ref a0), .val (.int p1)] [(.long (p1.toInt64)), (.ref a0)]))
  obtain ⟨T2, h2, X2, e2, W2, st2⟩ := putF X1 hx hZ hown (host := "") (Or.inl (hw _ (List.mem_of_getElem? (i := 9) rfl))) Via.refl e1 H1 H0 (Or.inr ⟨(hw _ (List.mem_of_getElem? (i := 10) rfl)), rfl, hnm⟩) (hw _ (List.mem_of_getElem? (i := 1) rfl)) (ty := .long) (by decide) rfl rfl (g := (mkF m 7 #[.val (.ref a0), .val (.int p1)] [(.long (p1.toInt64)), (.ref a0)])) rfl rfl (hb hby own_d1_7)
  have Fw2 := H1.same W2
  have F3 := H0.wr W2
  have F4 := H2.other W2 (Or.inr (slot_ne (Or.inl (hw _ (List.mem_of_getElem? (i := 19) rfl))) (Or.inr (hw _ (List.mem_of_getElem? (i := 10) rfl))) (by decide) (t := .long) (t' := .long) (by decide) (by decide)))
  have F5 := H3.other W2 (Or.inr (slot_ne (Or.inl (hw _ (List.mem_of_getElem? (i := 17) rfl))) (Or.inr (hw _ (List.mem_of_getElem? (i := 10) rfl))) (by decide) (t := .long) (t' := .long) (by decide) (by decide)))
  have K2 := (Keep.refl h0 [a0]).wr W2 (Or.inl (List.mem_of_getElem? (i := 0) rfl))
  have N2 := Fr.snoc X2 N0 g_a0
  have Z2 := Nat.le_trans Z0 (Nat.le_of_eq W2.size.symm)
  refine Goes.step (fun t k => st2 t k) ?_
  show Goes _ _ _ _ _ _ _ (T2.setTop (mkF m 10 #[.val (.ref a0), .val (.int p1)] []))
  exact Goes.retV X2 hx Bd.notSynchronized Bd.returns (hb hby own_d1_10) (by rw [e2]; exact ⟨rfl, N2, K2, F3, Fw2, F4, F5⟩) (by decide) (by decide)
def g3_2 (wS : Int64) (wN : Int64) (wP : Int64) : Int64 := (if wP = (wN * wS) then (wN + (1 : Int64)) else wN)
def g3_3 (wS : Int64) (wN : Int64) (wP : Int64) : Int64 := ((if wP = (wN * wS) then (0 : Int64) else wP) + (1 : Int64))
theorem own_d3_0 : decode prog_65_method_2_code 0 = .ok (.aload_n 0, 1) := by decide +kernel
theorem own_d3_1 : decode prog_65_method_2_code 1 = .ok (.getfield 13, 3) := by decide +kernel
theorem own_d3_4 : decode prog_65_method_2_code 4 = .ok (.aload_n 0, 1) := by decide +kernel
theorem own_d3_5 : decode prog_65_method_2_code 5 = .ok (.getfield 16, 3) := by decide +kernel
theorem own_d3_8 : decode prog_65_method_2_code 8 = .ok (.aload_n 0, 1) := by decide +kernel
theorem own_d3_9 : decode prog_65_method_2_code 9 = .ok (.getfield 7, 3) := by decide +kernel
theorem own_d3_12 : decode prog_65_method_2_code 12 = .ok (.lmul, 1) := by decide +kernel
theorem own_d3_13 : decode prog_65_method_2_code 13 = .ok (.lcmp, 1) := by decide +kernel
theorem own_d3_14 : decode prog_65_method_2_code 14 = .ok (.ifCond .ne 18, 3) := by decide +kernel
theorem own_d3_17 : decode prog_65_method_2_code 17 = .ok (.aload_n 0, 1) := by decide +kernel
theorem own_d3_18 : decode prog_65_method_2_code 18 = .ok (.dup, 1) := by decide +kernel
theorem own_d3_19 : decode prog_65_method_2_code 19 = .ok (.getfield 16, 3) := by decide +kernel
theorem own_d3_22 : decode prog_65_method_2_code 22 = .ok (.lconst 1, 1) := by decide +kernel
theorem own_d3_23 : decode prog_65_method_2_code 23 = .ok (.ladd, 1) := by decide +kernel
theorem own_d3_24 : decode prog_65_method_2_code 24 = .ok (.putfield 16, 3) := by decide +kernel
theorem own_d3_27 : decode prog_65_method_2_code 27 = .ok (.aload_n 0, 1) := by decide +kernel
theorem own_d3_28 : decode prog_65_method_2_code 28 = .ok (.lconst 0, 1) := by decide +kernel
theorem own_d3_29 : decode prog_65_method_2_code 29 = .ok (.putfield 13, 3) := by decide +kernel
theorem own_d3_32 : decode prog_65_method_2_code 32 = .ok (.aload_n 0, 1) := by decide +kernel
theorem own_d3_33 : decode prog_65_method_2_code 33 = .ok (.dup, 1) := by decide +kernel
theorem own_d3_34 : decode prog_65_method_2_code 34 = .ok (.getfield 13, 3) := by decide +kernel
theorem own_d3_37 : decode prog_65_method_2_code 37 = .ok (.lconst 1, 1) := by decide +kernel
theorem own_d3_38 : decode prog_65_method_2_code 38 = .ok (.ladd, 1) := by decide +kernel
theorem own_d3_39 : decode prog_65_method_2_code 39 = .ok (.putfield 13, 3) := by decide +kernel
theorem own_d3_42 : decode prog_65_method_2_code 42 = .ok (.return_, 1) := by decide +kernel
theorem own_ef3 (m : MethodId) (a0 : Addr) : entryFrame m #[(.ref a0)] 1 = mkF m 0 #[.val (.ref a0)] [] := by first | (simp [entryFrame, mkF, argsToLocals, Value.category, maxLocals]; done) | rfl
abbrev RM3 : Room := ({ frames := 0, cells := 0, slots := 0, locals := 0 } : Room)
abbrev kC3 : Nat := 0
abbrev kS3 : Nat := 0
def Q3 (Z : State) (a0 : Addr) (wS : Int64) (wN : Int64) (wP : Int64) (h0 : Heap) (n0 : Nat) (v : Option Value) (h : Heap) (L : List Loc) : Prop := v = none ∧ Fr n0 L ∧ Keep h0 h [a0] ∧ Exa Z h a0 "com/example/chernoff/chernoff/monitor/Rounds" ∧ Fld Z h a0 "com/example/chernoff/chernoff/monitor/Rounds" "stretches" "J" (.long wS) ∧ Fld Z h a0 "com/example/chernoff/chernoff/monitor/Rounds" "number" "J" (.long (g3_2 wS wN wP)) ∧ Fld Z h a0 "com/example/chernoff/chernoff/monitor/Rounds" "position" "J" (.long (g3_3 wS wN wP))
set_option maxRecDepth 65536 in
set_option maxHeartbeats 40000000 in
theorem rm3 (l : Launch) (Z : State) (tA : Array Value) (hw : ∀ d ∈ tables_1, d.before tA Z = true) (ws : List Jvm.Cond) (a0 : Addr) (wS : Int64) (wN : Int64) (wP : Int64) (h0 : Heap) (n0 : Nat) (Z0 : n0 ≤ h0.size) (H0 : Exa Z h0 a0 "com/example/chernoff/chernoff/monitor/Rounds") (H1 : Fld Z h0 a0 "com/example/chernoff/chernoff/monitor/Rounds" "stretches" "J" (.long wS)) (H2 : Fld Z h0 a0 "com/example/chernoff/chernoff/monitor/Rounds" "number" "J" (.long wN)) (H3 : Fld Z h0 a0 "com/example/chernoff/chernoff/monitor/Rounds" "position" "J" (.long wP)) (g_a0 : n0 ≤ a0) :
    MetFree l (⟨"com/example/chernoff/chernoff/monitor/Rounds", "next", "()V"⟩ : MethodName) (head1 (Jvm.Cond.code (⟨"com/example/chernoff/chernoff/monitor/Rounds", "next", "()V"⟩ : MethodName) prog_65_method_2_code 1 none :: ws) RM3) (fun a U => a = #[(.ref a0)] ∧ Z.Warmed39 U.vm ∧ U.heap = h0) (fun _ _ _ _ _ => True) (fun _ U o U' => ∃ v L, o = .returned v ∧ Q3 Z a0 wS wN wP h0 n0 v U'.heap L ∧ FrameEnd U o U' L RM3.cells RM3.slots) := by
  refine MetFree.of_bodySF (plainFor_of_name own_pn0) hisR ?_
  intro p e s m args below meth c s₁ Bd hml0 hP hK
  obtain ⟨rfl, hZ, hh⟩ := hP
  have hx := Bd.exec
  have hby := Bd.bytes
  have hml : c.maxLocals = 1 := hml0
  have hown : s.vm.findClass "com/example/chernoff/chernoff/monitor/Rounds" = some m.cls := findClass_of_methodNamed Bd.named
  have hnm := (name_of_methodNamed Bd.named Bd.method).1
  have X0 : Stand p l e RM3 s m #[(.ref a0)] below meth c s₁ [] 0 0 := Stand.of_body Bd
  have e0 : s₁.heap = h0 := by rw [← hh, Bd.state]; rfl
  have N0 := Fr.nil n0
  show Goes p e below s (Q3 Z a0 wS wN wP h0 n0) kC3 kS3 (s₁.setTop (entryFrame m #[(.ref a0)] 1))
  refine Goes.step (fun t k => castTop (own_ef3 m a0) k) ?_
  show Goes _ _ _ _ _ _ _ (s₁.setTop (mkF m 0 #[.val (.ref a0)] []))
  refine Goes.step (fun t k => XS.aloadN X0.here hx rfl (hb hby own_d3_0) rfl rfl k) ?_
  show Goes _ _ _ _ _ _ _ (s₁.setTop (mkF m 1 #[.val (.ref a0)] [(.ref a0)]))
  obtain ⟨T1, X1, e1, st1⟩ := getF X0 hx hZ hown (host := "") (Or.inl (hw _ (List.mem_of_getElem? (i := 16) rfl))) Via.refl e0 H3 (g := (mkF m 1 #[.val (.ref a0)] [(.ref a0)])) rfl rfl (hb hby own_d3_1)
  refine Goes.step (fun t k => st1 t k) ?_
  show Goes _ _ _ _ _ _ _ (T1.setTop (mkF m 4 #[.val (.ref a0)] [(.long wP)]))
  refine Goes.step (fun t k => XS.aloadN X1.here hx rfl (hb hby own_d3_4) rfl rfl k) ?_
  show Goes _ _ _ _ _ _ _ (T1.setTop (mkF m 5 #[.val (.ref a0)] [(.ref a0), (.long wP)]))
  obtain ⟨T2, X2, e2, st2⟩ := getF X1 hx hZ hown (host := "") (Or.inl (hw _ (List.mem_of_getElem? (i := 18) rfl))) Via.refl e1 H2 (g := (mkF m 5 #[.val (.ref a0)] [(.ref a0), (.long wP)])) rfl rfl (hb hby own_d3_5)
  refine Goes.step (fun t k => st2 t k) ?_
  show Goes _ _ _ _ _ _ _ (T2.setTop (mkF m 8 #[.val (.ref a0)] [(.long wN), (.long wP)]))
  refine Goes.step (fun t k => XS.aloadN X2.here hx rfl (hb hby own_d3_8) rfl rfl k) ?_
  show Goes _ _ _ _ _ _ _ (T2.setTop (mkF m 9 #[.val (.ref a0)] [(.ref a0), (.long wN), (.long wP)]))
  obtain ⟨T3, X3, e3, st3⟩ := getF X2 hx hZ hown (host := "") (Or.inl (hw _ (List.mem_of_getElem? (i := 9) rfl))) Via.refl e2 H1 (g := (mkF m 9 #[.val (.ref a0)] [(.ref a0), (.long wN), (.long wP)])) rfl rfl (hb hby own_d3_9)
  refine Goes.step (fun t k => st3 t k) ?_
  show Goes _ _ _ _ _ _ _ (T3.setTop (mkF m 12 #[.val (.ref a0)] [(.long wS), (.long wN), (.long wP)]))
  refine Goes.step (fun t k => XS.lmul X3.here hx rfl (hb hby own_d3_12) rfl k) ?_
  show Goes _ _ _ _ _ _ _ (T3.setTop (mkF m 13 #[.val (.ref a0)] [(.long (wN * wS)), (.long wP)]))
  refine Goes.step (fun t k => XS.lcmp X3.here hx rfl (hb hby own_d3_13) rfl k) ?_
  show Goes _ _ _ _ _ _ _ (T3.setTop (mkF m 14 #[.val (.ref a0)] [(.int (lcmpW wP (wN * wS)))]))
  suffices k14 : ∀ (T14 : State) (h14 : Heap) (L14 : List Loc) (x14_0 : Int64) (x14_1 : Int64), Stand p l e RM3 s m #[(.ref a0)] below meth c T14 L14 0 0 → T14.heap = h14 → Fr n0 L14 → Keep h0 h14 [a0] → n0 ≤ h14.size → Exa Z h14 a0 "com/example/chernoff/chernoff/monitor/Rounds" → Fld Z h14 a0 "com/example/chernoff/chernoff/monitor/Rounds" "stretches" "J" (.long wS) → Fld Z h14 a0 "com/example/chernoff/chernoff/monitor/Rounds" "number" "J" (.long x14_0) → Fld Z h14 a0 "com/example/chernoff/chernoff/monitor/Rounds" "position" "J" (.long x14_1) → x14_0 = (if wP = (wN * wS) then (wN + (1 : Int64)) else wN) → x14_1 = (if wP = (wN * wS) then (0 : Int64) else wP) → Goes p e below s (Q3 Z a0 wS wN wP h0 n0) kC3 kS3 (T14.setTop (mkF m 32 #[.val (.ref a0)] [])) by
    by_cases hc14_4 : wP = (wN * wS)
    · refine Goes.step (fun t k => XS.ifNo X3.here hx rfl (hb hby own_d3_14) rfl ((if0 _ _).trans (teq ((lw_eq _ _).mpr hc14_4)).2) k) ?_
      show Goes _ _ _ _ _ _ _ (T3.setTop (mkF m 17 #[.val (.ref a0)] []))
      refine Goes.step (fun t k => XS.aloadN X3.here hx rfl (hb hby own_d3_17) rfl rfl k) ?_
      show Goes _ _ _ _ _ _ _ (T3.setTop (mkF m 18 #[.val (.ref a0)] [(.ref a0)]))
      refine Goes.step (fun t k => XS.dup X3.here hx rfl (hb hby own_d3_18) rfl rfl k) ?_
      show Goes _ _ _ _ _ _ _ (T3.setTop (mkF m 19 #[.val (.ref a0)] [(.ref a0), (.ref a0)]))
      obtain ⟨T5, X5, e5, st5⟩ := getF X3 hx hZ hown (host := "") (Or.inl (hw _ (List.mem_of_getElem? (i := 18) rfl))) Via.refl e3 H2 (g := (mkF m 19 #[.val (.ref a0)] [(.ref a0), (.ref a0)])) rfl rfl (hb hby own_d3_19)
      refine Goes.step (fun t k => st5 t k) ?_
      show Goes _ _ _ _ _ _ _ (T5.setTop (mkF m 22 #[.val (.ref a0)] [(.long wN), (.ref a0)]))
      refine Goes.step (fun t k => XS.lconst X5.here hx rfl (hb hby own_d3_22) k) ?_
      show Goes _ _ _ _ _ _ _ (T5.setTop (mkF m 23 #[.val (.ref a0)] [(.long (1 : Int64)), (.long wN), (.ref a0)]))
      refine Goes.step (fun t k => XS.ladd X5.here hx rfl (hb hby own_d3_23) rfl k) ?_
      show Goes _ _ _ _ _ _ _ (T5.setTop (mkF m 24 #[.val (.ref a0)] [(.long (wN + (1 : Int64))), (.ref a0)]))
      obtain ⟨T6, h6, X6, e6, W6, st6⟩ := putF X5 hx hZ hown (host := "") (Or.inl (hw _ (List.mem_of_getElem? (i := 18) rfl))) Via.refl e5 H2 H0 (Or.inl (hw _ (List.mem_of_getElem? (i := 19) rfl))) (hw _ (List.mem_of_getElem? (i := 1) rfl)) (ty := .long) (by decide) rfl rfl (g := (mkF m 24 #[.val (.ref a0)] [(.long (wN + (1 : Int64))), (.ref a0)])) rfl rfl (hb hby own_d3_24)
      have Fw6 := H2.same W6
      have F7 := H0.wr W6
      have F8 := H1.other W6 (Or.inr (slot_ne (Or.inr (hw _ (List.mem_of_getElem? (i := 10) rfl))) (Or.inl (hw _ (List.mem_of_getElem? (i := 19) rfl))) (by decide) (t := .long) (t' := .long) (by decide) (by decide)))
      have F9 := H3.other W6 (Or.inr (slot_ne (Or.inl (hw _ (List.mem_of_getElem? (i := 17) rfl))) (Or.inl (hw _ (List.mem_of_getElem? (i := 19) rfl))) (by decide) (t := .long) (t' := .long) (by decide) (by decide)))
      have K6 := (Keep.refl h0 [a0]).wr W6 (Or.inl (List.mem_of_getElem? (i := 0) rfl))
      have N6 := Fr.snoc X6 N0 g_a0
      have Z6 := Nat.le_trans Z0 (Nat.le_of_eq W6.size.symm)
      refine Goes.step (fun t k => st6 t k) ?_
      show Goes _ _ _ _ _ _ _ (T6.setTop (mkF m 27 #[.val (.ref a0)] []))
      refine Goes.step (fun t k => XS.aloadN X6.here hx rfl (hb hby own_d3_27) rfl rfl k) ?_
      show Goes _ _ _ _ _ _ _ (T6.setTop (mkF m 28 #[.val (.ref a0)] [(.ref a0)]))
      refine Goes.step (fun t k => XS.lconst X6.here hx rfl (hb hby own_d3_28) k) ?_
      show Goes _ _ _ _ _ _ _ (T6.setTop (mkF m 29 #[.val (.ref a0)] [(.long (0 : Int64)), (.ref a0)]))
      obtain ⟨T10, h10, X10, e10, W10, st10⟩ := putF X6 hx hZ hown (host := "") (Or.inl (hw _ (List.mem_of_getElem? (i := 16) rfl))) Via.refl e6 F9 F7 (Or.inl (hw _ (List.mem_of_getElem? (i := 17) rfl))) (hw _ (List.mem_of_getElem? (i := 1) rfl)) (ty := .long) (by decide) rfl rfl (g := (mkF m 29 #[.val (.ref a0)] [(.long (0 : Int64)), (.ref a0)])) rfl rfl (hb hby own_d3_29)
      have Fw10 := F9.same W10
      have F11 := F7.wr W10
      have F12 := F8.other W10 (Or.inr (slot_ne (Or.inr (hw _ (List.mem_of_getElem? (i := 10) rfl))) (Or.inl (hw _ (List.mem_of_getElem? (i := 17) rfl))) (by decide) (t := .long) (t' := .long) (by decide) (by decide)))
      have F13 := Fw6.other W10 (Or.inr (slot_ne (Or.inl (hw _ (List.mem_of_getElem? (i := 19) rfl))) (Or.inl (hw _ (List.mem_of_getElem? (i := 17) rfl))) (by decide) (t := .long) (t' := .long) (by decide) (by decide)))
      have K10 := K6.wr W10 (Or.inl (List.mem_of_getElem? (i := 0) rfl))
      have N10 := Fr.snoc X10 N6 g_a0
      have Z10 := Nat.le_trans Z6 (Nat.le_of_eq W10.size.symm)
      refine Goes.step (fun t k => st10 t k) ?_
      show Goes _ _ _ _ _ _ _ (T10.setTop (mkF m 32 #[.val (.ref a0)] []))
      exact k14 _ _ _ _ _ X10 e10 N10 K10 Z10 F11 F12 F13 Fw10 (if_pos hc14_4).symm (if_pos hc14_4).symm
    · refine Goes.step (fun t k => XS.ifYes X3.here hx rfl (pc0 := 14) (pc' := 32) rfl (hb hby own_d3_14) rfl ((if0 _ _).trans (feq (fun q => hc14_4 ((lw_eq _ _).mp q))).2) (by decide) (by decide) k) ?_
      show Goes _ _ _ _ _ _ _ (T3.setTop (mkF m 32 #[.val (.ref a0)] []))
      exact k14 _ _ _ _ _ X3 e3 N0 (Keep.refl h0 [a0]) Z0 H0 H1 H2 H3 (if_neg hc14_4).symm (if_neg hc14_4).symm
  intro T14 h14 L14 x14_0 x14_1 X14 e14 N14 K14 Z14 F14_0 F14_1 F14_2 F14_3 hx14_0 hx14_1
  refine Goes.step (fun t k => XS.aloadN X14.here hx rfl (hb hby own_d3_32) rfl rfl k) ?_
  show Goes _ _ _ _ _ _ _ (T14.setTop (mkF m 33 #[.val (.ref a0)] [(.ref a0)]))
  refine Goes.step (fun t k => XS.dup X14.here hx rfl (hb hby own_d3_33) rfl rfl k) ?_
  show Goes _ _ _ _ _ _ _ (T14.setTop (mkF m 34 #[.val (.ref a0)] [(.ref a0), (.ref a0)]))
  obtain ⟨T15, X15, e15, st15⟩ := getF X14 hx hZ hown (host := "") (Or.inl (hw _ (List.mem_of_getElem? (i := 16) rfl))) Via.refl e14 F14_3 (g := (mkF m 34 #[.val (.ref a0)] [(.ref a0), (.ref a0)])) rfl rfl (hb hby own_d3_34)
  refine Goes.step (fun t k => st15 t k) ?_
  show Goes _ _ _ _ _ _ _ (T15.setTop (mkF m 37 #[.val (.ref a0)] [(.long x14_1), (.ref a0)]))
  refine Goes.step (fun t k => XS.lconst X15.here hx rfl (hb hby own_d3_37) k) ?_
  show Goes _ _ _ _ _ _ _ (T15.setTop (mkF m 38 #[.val (.ref a0)] [(.long (1 : Int64)), (.long x14_1), (.ref a0)]))
  refine Goes.step (fun t k => XS.ladd X15.here hx rfl (hb hby own_d3_38) rfl k) ?_
  show Goes _ _ _ _ _ _ _ (T15.setTop (mkF m 39 #[.val (.ref a0)] [(.long (x14_1 + (1 : Int64))), (.ref a0)]))
  obtain ⟨T16, h16, X16, e16, W16, st16⟩ := putF X15 hx hZ hown (host := "") (Or.inl (hw _ (List.mem_of_getElem? (i := 16) rfl))) Via.refl e15 F14_3 F14_0 (Or.inl (hw _ (List.mem_of_getElem? (i := 17) rfl))) (hw _ (List.mem_of_getElem? (i := 1) rfl)) (ty := .long) (by decide) rfl rfl (g := (mkF m 39 #[.val (.ref a0)] [(.long (x14_1 + (1 : Int64))), (.ref a0)])) rfl rfl (hb hby own_d3_39)
  have Fw16 := F14_3.same W16
  have F17 := F14_0.wr W16
  have F18 := F14_1.other W16 (Or.inr (slot_ne (Or.inr (hw _ (List.mem_of_getElem? (i := 10) rfl))) (Or.inl (hw _ (List.mem_of_getElem? (i := 17) rfl))) (by decide) (t := .long) (t' := .long) (by decide) (by decide)))
  have F19 := F14_2.other W16 (Or.inr (slot_ne (Or.inl (hw _ (List.mem_of_getElem? (i := 19) rfl))) (Or.inl (hw _ (List.mem_of_getElem? (i := 17) rfl))) (by decide) (t := .long) (t' := .long) (by decide) (by decide)))
  have K16 := K14.wr W16 (Or.inl (List.mem_of_getElem? (i := 0) rfl))
  have N16 := Fr.snoc X16 N14 g_a0
  have Z16 := Nat.le_trans Z14 (Nat.le_of_eq W16.size.symm)
  refine Goes.step (fun t k => st16 t k) ?_
  show Goes _ _ _ _ _ _ _ (T16.setTop (mkF m 42 #[.val (.ref a0)] []))
  subst hx14_1
  subst hx14_0
  exact Goes.retV X16 hx Bd.notSynchronized Bd.returns (hb hby own_d3_42) (by rw [e16]; exact ⟨rfl, N16, K16, F17, F18, F19, Fw16⟩) (by decide) (by decide)
def f4 (wN : Int64) : Int64 := wN
theorem own_d4_0 : decode prog_65_method_3_code 0 = .ok (.aload_n 0, 1) := by decide +kernel
theorem own_d4_1 : decode prog_65_method_3_code 1 = .ok (.getfield 16, 3) := by decide +kernel
theorem own_d4_4 : decode prog_65_method_3_code 4 = .ok (.lreturn, 1) := by decide +kernel
theorem own_ef4 (m : MethodId) (a0 : Addr) : entryFrame m #[(.ref a0)] 1 = mkF m 0 #[.val (.ref a0)] [] := by first | (simp [entryFrame, mkF, argsToLocals, Value.category, maxLocals]; done) | rfl
abbrev RM4 : Room := ({ frames := 0, cells := 0, slots := 0, locals := 0 } : Room)
abbrev kC4 : Nat := 0
abbrev kS4 : Nat := 0
def Q4 (Z : State) (a0 : Addr) (wN : Int64) (h0 : Heap) (v : Option Value) (h : Heap) (L : List Loc) : Prop := v = some (.long (f4 wN)) ∧ L = [] ∧ h = h0
set_option maxRecDepth 65536 in
set_option maxHeartbeats 40000000 in
theorem rm4 (l : Launch) (Z : State) (tA : Array Value) (hw : ∀ d ∈ tables_1, d.before tA Z = true) (ws : List Jvm.Cond) (a0 : Addr) (wN : Int64) (h0 : Heap) (H0 : Fld Z h0 a0 "com/example/chernoff/chernoff/monitor/Rounds" "number" "J" (.long wN)) :
    MetFree l (⟨"com/example/chernoff/chernoff/monitor/Rounds", "number", "()J"⟩ : MethodName) (head1 (Jvm.Cond.code (⟨"com/example/chernoff/chernoff/monitor/Rounds", "number", "()J"⟩ : MethodName) prog_65_method_3_code 1 (some .long) :: ws) RM4) (fun a U => a = #[(.ref a0)] ∧ Z.Warmed39 U.vm ∧ U.heap = h0) (fun _ _ _ _ _ => True) (fun _ U o U' => ∃ v L, o = .returned v ∧ Q4 Z a0 wN h0 v U'.heap L ∧ FrameEnd U o U' L RM4.cells RM4.slots) := by
  refine MetFree.of_bodySF (plainFor_of_name own_pn0) hisR ?_
  intro p e s m args below meth c s₁ Bd hml0 hP hK
  obtain ⟨rfl, hZ, hh⟩ := hP
  have hx := Bd.exec
  have hby := Bd.bytes
  have hml : c.maxLocals = 1 := hml0
  have hown : s.vm.findClass "com/example/chernoff/chernoff/monitor/Rounds" = some m.cls := findClass_of_methodNamed Bd.named
  have hnm := (name_of_methodNamed Bd.named Bd.method).1
  have X0 : Stand p l e RM4 s m #[(.ref a0)] below meth c s₁ [] 0 0 := Stand.of_body Bd
  have e0 : s₁.heap = h0 := by rw [← hh, Bd.state]; rfl
  show Goes p e below s (Q4 Z a0 wN h0) kC4 kS4 (s₁.setTop (entryFrame m #[(.ref a0)] 1))
  refine Goes.step (fun t k => castTop (own_ef4 m a0) k) ?_
  show Goes _ _ _ _ _ _ _ (s₁.setTop (mkF m 0 #[.val (.ref a0)] []))
  refine Goes.step (fun t k => XS.aloadN X0.here hx rfl (hb hby own_d4_0) rfl rfl k) ?_
  show Goes _ _ _ _ _ _ _ (s₁.setTop (mkF m 1 #[.val (.ref a0)] [(.ref a0)]))
  obtain ⟨T1, X1, e1, st1⟩ := getF X0 hx hZ hown (host := "") (Or.inl (hw _ (List.mem_of_getElem? (i := 18) rfl))) Via.refl e0 H0 (g := (mkF m 1 #[.val (.ref a0)] [(.ref a0)])) rfl rfl (hb hby own_d4_1)
  refine Goes.step (fun t k => st1 t k) ?_
  show Goes _ _ _ _ _ _ _ (T1.setTop (mkF m 4 #[.val (.ref a0)] [(.long wN)]))
  exact Goes.retJ X1 hx Bd.notSynchronized (r := (f4 wN)) Bd.returns (hb hby own_d4_4) rfl ⟨rfl, rfl, e1⟩ (by decide) (by decide)
def f5 (wP : Int64) : Int32 := (nar .boolean (if wP = (1 : Int64) then (1 : Int32) else (0 : Int32)))
theorem own_d5_0 : decode prog_65_method_4_code 0 = .ok (.aload_n 0, 1) := by decide +kernel
theorem own_d5_1 : decode prog_65_method_4_code 1 = .ok (.getfield 13, 3) := by decide +kernel
theorem own_d5_4 : decode prog_65_method_4_code 4 = .ok (.lconst 1, 1) := by decide +kernel
theorem own_d5_5 : decode prog_65_method_4_code 5 = .ok (.lcmp, 1) := by decide +kernel
theorem own_d5_6 : decode prog_65_method_4_code 6 = .ok (.ifCond .ne 7, 3) := by decide +kernel
theorem own_d5_9 : decode prog_65_method_4_code 9 = .ok (.iconst 1, 1) := by decide +kernel
theorem own_d5_10 : decode prog_65_method_4_code 10 = .ok (.goto 4, 3) := by decide +kernel
theorem own_d5_13 : decode prog_65_method_4_code 13 = .ok (.iconst 0, 1) := by decide +kernel
theorem own_d5_14 : decode prog_65_method_4_code 14 = .ok (.ireturn, 1) := by decide +kernel
theorem own_ef5 (m : MethodId) (a0 : Addr) : entryFrame m #[(.ref a0)] 1 = mkF m 0 #[.val (.ref a0)] [] := by first | (simp [entryFrame, mkF, argsToLocals, Value.category, maxLocals]; done) | rfl
abbrev RM5 : Room := ({ frames := 0, cells := 0, slots := 0, locals := 0 } : Room)
abbrev kC5 : Nat := 0
abbrev kS5 : Nat := 0
def Q5 (Z : State) (a0 : Addr) (wP : Int64) (h0 : Heap) (v : Option Value) (h : Heap) (L : List Loc) : Prop := v = some (.int (f5 wP)) ∧ L = [] ∧ h = h0
set_option maxRecDepth 65536 in
set_option maxHeartbeats 40000000 in
theorem rm5 (l : Launch) (Z : State) (tA : Array Value) (hw : ∀ d ∈ tables_1, d.before tA Z = true) (ws : List Jvm.Cond) (a0 : Addr) (wP : Int64) (h0 : Heap) (H0 : Fld Z h0 a0 "com/example/chernoff/chernoff/monitor/Rounds" "position" "J" (.long wP)) :
    MetFree l (⟨"com/example/chernoff/chernoff/monitor/Rounds", "opened", "()Z"⟩ : MethodName) (head1 (Jvm.Cond.code (⟨"com/example/chernoff/chernoff/monitor/Rounds", "opened", "()Z"⟩ : MethodName) prog_65_method_4_code 1 (some .boolean) :: ws) RM5) (fun a U => a = #[(.ref a0)] ∧ Z.Warmed39 U.vm ∧ U.heap = h0) (fun _ _ _ _ _ => True) (fun _ U o U' => ∃ v L, o = .returned v ∧ Q5 Z a0 wP h0 v U'.heap L ∧ FrameEnd U o U' L RM5.cells RM5.slots) := by
  refine MetFree.of_bodySF (plainFor_of_name own_pn0) hisR ?_
  intro p e s m args below meth c s₁ Bd hml0 hP hK
  obtain ⟨rfl, hZ, hh⟩ := hP
  have hx := Bd.exec
  have hby := Bd.bytes
  have hml : c.maxLocals = 1 := hml0
  have hown : s.vm.findClass "com/example/chernoff/chernoff/monitor/Rounds" = some m.cls := findClass_of_methodNamed Bd.named
  have hnm := (name_of_methodNamed Bd.named Bd.method).1
  have X0 : Stand p l e RM5 s m #[(.ref a0)] below meth c s₁ [] 0 0 := Stand.of_body Bd
  have e0 : s₁.heap = h0 := by rw [← hh, Bd.state]; rfl
  show Goes p e below s (Q5 Z a0 wP h0) kC5 kS5 (s₁.setTop (entryFrame m #[(.ref a0)] 1))
  refine Goes.step (fun t k => castTop (own_ef5 m a0) k) ?_
  show Goes _ _ _ _ _ _ _ (s₁.setTop (mkF m 0 #[.val (.ref a0)] []))
  refine Goes.step (fun t k => XS.aloadN X0.here hx rfl (hb hby own_d5_0) rfl rfl k) ?_
  show Goes _ _ _ _ _ _ _ (s₁.setTop (mkF m 1 #[.val (.ref a0)] [(.ref a0)]))
  obtain ⟨T1, X1, e1, st1⟩ := getF X0 hx hZ hown (host := "") (Or.inl (hw _ (List.mem_of_getElem? (i := 16) rfl))) Via.refl e0 H0 (g := (mkF m 1 #[.val (.ref a0)] [(.ref a0)])) rfl rfl (hb hby own_d5_1)
  refine Goes.step (fun t k => st1 t k) ?_
  show Goes _ _ _ _ _ _ _ (T1.setTop (mkF m 4 #[.val (.ref a0)] [(.long wP)]))
  refine Goes.step (fun t k => XS.lconst X1.here hx rfl (hb hby own_d5_4) k) ?_
  show Goes _ _ _ _ _ _ _ (T1.setTop (mkF m 5 #[.val (.ref a0)] [(.long (1 : Int64)), (.long wP)]))
  refine Goes.step (fun t k => XS.lcmp X1.here hx rfl (hb hby own_d5_5) rfl k) ?_
  show Goes _ _ _ _ _ _ _ (T1.setTop (mkF m 6 #[.val (.ref a0)] [(.int (lcmpW wP (1 : Int64)))]))
  suffices k3 : ∀ (x3_0 : Int32), x3_0 = (if wP = (1 : Int64) then (1 : Int32) else (0 : Int32)) → Goes p e below s (Q5 Z a0 wP h0) kC5 kS5 (T1.setTop (mkF m 14 #[.val (.ref a0)] [(.int x3_0)])) by
    by_cases hc6_2 : wP = (1 : Int64)
    · refine Goes.step (fun t k => XS.ifNo X1.here hx rfl (hb hby own_d5_6) rfl ((if0 _ _).trans (teq ((lw_eq _ _).mpr hc6_2)).2) k) ?_
      show Goes _ _ _ _ _ _ _ (T1.setTop (mkF m 9 #[.val (.ref a0)] []))
      refine Goes.step (fun t k => XS.iconst X1.here hx rfl (hb hby own_d5_9) k) ?_
      show Goes _ _ _ _ _ _ _ (T1.setTop (mkF m 10 #[.val (.ref a0)] [(.int (1 : Int32))]))
      refine Goes.step (fun t k => XS.goto X1.here hx rfl (pc0 := 10) (pc' := 14) rfl (hb hby own_d5_10) (by decide) (by decide) k) ?_
      show Goes _ _ _ _ _ _ _ (T1.setTop (mkF m 14 #[.val (.ref a0)] [(.int (1 : Int32))]))
      exact k3 _ (if_pos hc6_2).symm
    · refine Goes.step (fun t k => XS.ifYes X1.here hx rfl (pc0 := 6) (pc' := 13) rfl (hb hby own_d5_6) rfl ((if0 _ _).trans (feq (fun q => hc6_2 ((lw_eq _ _).mp q))).2) (by decide) (by decide) k) ?_
      show Goes _ _ _ _ _ _ _ (T1.setTop (mkF m 13 #[.val (.ref a0)] []))
      refine Goes.step (fun t k => XS.iconst X1.here hx rfl (hb hby own_d5_13) k) ?_
      show Goes _ _ _ _ _ _ _ (T1.setTop (mkF m 14 #[.val (.ref a0)] [(.int (0 : Int32))]))
      exact k3 _ (if_neg hc6_2).symm
  intro x3_0 hx3_0
  subst hx3_0
  exact Goes.retZ X1 hx Bd.notSynchronized (r := (f5 wP)) Bd.returns (by simp) (hb hby own_d5_14) rfl ⟨rfl, rfl, e1⟩ (by decide) (by decide)
def f6 (wS : Int64) (wN : Int64) (wP : Int64) : Int32 := (nar .boolean (if wP = (wN * wS) then (1 : Int32) else (0 : Int32)))
theorem own_d6_0 : decode prog_65_method_5_code 0 = .ok (.aload_n 0, 1) := by decide +kernel
theorem own_d6_1 : decode prog_65_method_5_code 1 = .ok (.getfield 13, 3) := by decide +kernel
theorem own_d6_4 : decode prog_65_method_5_code 4 = .ok (.aload_n 0, 1) := by decide +kernel
theorem own_d6_5 : decode prog_65_method_5_code 5 = .ok (.getfield 16, 3) := by decide +kernel
theorem own_d6_8 : decode prog_65_method_5_code 8 = .ok (.aload_n 0, 1) := by decide +kernel
theorem own_d6_9 : decode prog_65_method_5_code 9 = .ok (.getfield 7, 3) := by decide +kernel
theorem own_d6_12 : decode prog_65_method_5_code 12 = .ok (.lmul, 1) := by decide +kernel
theorem own_d6_13 : decode prog_65_method_5_code 13 = .ok (.lcmp, 1) := by decide +kernel
theorem own_d6_14 : decode prog_65_method_5_code 14 = .ok (.ifCond .ne 7, 3) := by decide +kernel
theorem own_d6_17 : decode prog_65_method_5_code 17 = .ok (.iconst 1, 1) := by decide +kernel
theorem own_d6_18 : decode prog_65_method_5_code 18 = .ok (.goto 4, 3) := by decide +kernel
theorem own_d6_21 : decode prog_65_method_5_code 21 = .ok (.iconst 0, 1) := by decide +kernel
theorem own_d6_22 : decode prog_65_method_5_code 22 = .ok (.ireturn, 1) := by decide +kernel
theorem own_ef6 (m : MethodId) (a0 : Addr) : entryFrame m #[(.ref a0)] 1 = mkF m 0 #[.val (.ref a0)] [] := by first | (simp [entryFrame, mkF, argsToLocals, Value.category, maxLocals]; done) | rfl
abbrev RM6 : Room := ({ frames := 0, cells := 0, slots := 0, locals := 0 } : Room)
abbrev kC6 : Nat := 0
abbrev kS6 : Nat := 0
def Q6 (Z : State) (a0 : Addr) (wS : Int64) (wN : Int64) (wP : Int64) (h0 : Heap) (v : Option Value) (h : Heap) (L : List Loc) : Prop := v = some (.int (f6 wS wN wP)) ∧ L = [] ∧ h = h0
set_option maxRecDepth 65536 in
set_option maxHeartbeats 40000000 in
theorem rm6 (l : Launch) (Z : State) (tA : Array Value) (hw : ∀ d ∈ tables_1, d.before tA Z = true) (ws : List Jvm.Cond) (a0 : Addr) (wS : Int64) (wN : Int64) (wP : Int64) (h0 : Heap) (H0 : Fld Z h0 a0 "com/example/chernoff/chernoff/monitor/Rounds" "stretches" "J" (.long wS)) (H1 : Fld Z h0 a0 "com/example/chernoff/chernoff/monitor/Rounds" "number" "J" (.long wN)) (H2 : Fld Z h0 a0 "com/example/chernoff/chernoff/monitor/Rounds" "position" "J" (.long wP)) :
    MetFree l (⟨"com/example/chernoff/chernoff/monitor/Rounds", "closed", "()Z"⟩ : MethodName) (head1 (Jvm.Cond.code (⟨"com/example/chernoff/chernoff/monitor/Rounds", "closed", "()Z"⟩ : MethodName) prog_65_method_5_code 1 (some .boolean) :: ws) RM6) (fun a U => a = #[(.ref a0)] ∧ Z.Warmed39 U.vm ∧ U.heap = h0) (fun _ _ _ _ _ => True) (fun _ U o U' => ∃ v L, o = .returned v ∧ Q6 Z a0 wS wN wP h0 v U'.heap L ∧ FrameEnd U o U' L RM6.cells RM6.slots) := by
  refine MetFree.of_bodySF (plainFor_of_name own_pn0) hisR ?_
  intro p e s m args below meth c s₁ Bd hml0 hP hK
  obtain ⟨rfl, hZ, hh⟩ := hP
  have hx := Bd.exec
  have hby := Bd.bytes
  have hml : c.maxLocals = 1 := hml0
  have hown : s.vm.findClass "com/example/chernoff/chernoff/monitor/Rounds" = some m.cls := findClass_of_methodNamed Bd.named
  have hnm := (name_of_methodNamed Bd.named Bd.method).1
  have X0 : Stand p l e RM6 s m #[(.ref a0)] below meth c s₁ [] 0 0 := Stand.of_body Bd
  have e0 : s₁.heap = h0 := by rw [← hh, Bd.state]; rfl
  show Goes p e below s (Q6 Z a0 wS wN wP h0) kC6 kS6 (s₁.setTop (entryFrame m #[(.ref a0)] 1))
  refine Goes.step (fun t k => castTop (own_ef6 m a0) k) ?_
  show Goes _ _ _ _ _ _ _ (s₁.setTop (mkF m 0 #[.val (.ref a0)] []))
  refine Goes.step (fun t k => XS.aloadN X0.here hx rfl (hb hby own_d6_0) rfl rfl k) ?_
  show Goes _ _ _ _ _ _ _ (s₁.setTop (mkF m 1 #[.val (.ref a0)] [(.ref a0)]))
  obtain ⟨T1, X1, e1, st1⟩ := getF X0 hx hZ hown (host := "") (Or.inl (hw _ (List.mem_of_getElem? (i := 16) rfl))) Via.refl e0 H2 (g := (mkF m 1 #[.val (.ref a0)] [(.ref a0)])) rfl rfl (hb hby own_d6_1)
  refine Goes.step (fun t k => st1 t k) ?_
  show Goes _ _ _ _ _ _ _ (T1.setTop (mkF m 4 #[.val (.ref a0)] [(.long wP)]))
  refine Goes.step (fun t k => XS.aloadN X1.here hx rfl (hb hby own_d6_4) rfl rfl k) ?_
  show Goes _ _ _ _ _ _ _ (T1.setTop (mkF m 5 #[.val (.ref a0)] [(.ref a0), (.long wP)]))
  obtain ⟨T2, X2, e2, st2⟩ := getF X1 hx hZ hown (host := "") (Or.inl (hw _ (List.mem_of_getElem? (i := 18) rfl))) Via.refl e1 H1 (g := (mkF m 5 #[.val (.ref a0)] [(.ref a0), (.long wP)])) rfl rfl (hb hby own_d6_5)
  refine Goes.step (fun t k => st2 t k) ?_
  show Goes _ _ _ _ _ _ _ (T2.setTop (mkF m 8 #[.val (.ref a0)] [(.long wN), (.long wP)]))
  refine Goes.step (fun t k => XS.aloadN X2.here hx rfl (hb hby own_d6_8) rfl rfl k) ?_
  show Goes _ _ _ _ _ _ _ (T2.setTop (mkF m 9 #[.val (.ref a0)] [(.ref a0), (.long wN), (.long wP)]))
  obtain ⟨T3, X3, e3, st3⟩ := getF X2 hx hZ hown (host := "") (Or.inl (hw _ (List.mem_of_getElem? (i := 9) rfl))) Via.refl e2 H0 (g := (mkF m 9 #[.val (.ref a0)] [(.ref a0), (.long wN), (.long wP)])) rfl rfl (hb hby own_d6_9)
  refine Goes.step (fun t k => st3 t k) ?_
  show Goes _ _ _ _ _ _ _ (T3.setTop (mkF m 12 #[.val (.ref a0)] [(.long wS), (.long wN), (.long wP)]))
  refine Goes.step (fun t k => XS.lmul X3.here hx rfl (hb hby own_d6_12) rfl k) ?_
  show Goes _ _ _ _ _ _ _ (T3.setTop (mkF m 13 #[.val (.ref a0)] [(.long (wN * wS)), (.long wP)]))
  refine Goes.step (fun t k => XS.lcmp X3.here hx rfl (hb hby own_d6_13) rfl k) ?_
  show Goes _ _ _ _ _ _ _ (T3.setTop (mkF m 14 #[.val (.ref a0)] [(.int (lcmpW wP (wN * wS)))]))
  suffices k5 : ∀ (x5_0 : Int32), x5_0 = (if wP = (wN * wS) then (1 : Int32) else (0 : Int32)) → Goes p e below s (Q6 Z a0 wS wN wP h0) kC6 kS6 (T3.setTop (mkF m 22 #[.val (.ref a0)] [(.int x5_0)])) by
    by_cases hc14_4 : wP = (wN * wS)
    · refine Goes.step (fun t k => XS.ifNo X3.here hx rfl (hb hby own_d6_14) rfl ((if0 _ _).trans (teq ((lw_eq _ _).mpr hc14_4)).2) k) ?_
      show Goes _ _ _ _ _ _ _ (T3.setTop (mkF m 17 #[.val (.ref a0)] []))
      refine Goes.step (fun t k => XS.iconst X3.here hx rfl (hb hby own_d6_17) k) ?_
      show Goes _ _ _ _ _ _ _ (T3.setTop (mkF m 18 #[.val (.ref a0)] [(.int (1 : Int32))]))
      refine Goes.step (fun t k => XS.goto X3.here hx rfl (pc0 := 18) (pc' := 22) rfl (hb hby own_d6_18) (by decide) (by decide) k) ?_
      show Goes _ _ _ _ _ _ _ (T3.setTop (mkF m 22 #[.val (.ref a0)] [(.int (1 : Int32))]))
      exact k5 _ (if_pos hc14_4).symm
    · refine Goes.step (fun t k => XS.ifYes X3.here hx rfl (pc0 := 14) (pc' := 21) rfl (hb hby own_d6_14) rfl ((if0 _ _).trans (feq (fun q => hc14_4 ((lw_eq _ _).mp q))).2) (by decide) (by decide) k) ?_
      show Goes _ _ _ _ _ _ _ (T3.setTop (mkF m 21 #[.val (.ref a0)] []))
      refine Goes.step (fun t k => XS.iconst X3.here hx rfl (hb hby own_d6_21) k) ?_
      show Goes _ _ _ _ _ _ _ (T3.setTop (mkF m 22 #[.val (.ref a0)] [(.int (0 : Int32))]))
      exact k5 _ (if_neg hc14_4).symm
  intro x5_0 hx5_0
  subst hx5_0
  exact Goes.retZ X3 hx Bd.notSynchronized (r := (f6 wS wN wP)) Bd.returns (by simp) (hb hby own_d6_22) rfl ⟨rfl, rfl, e3⟩ (by decide) (by decide)
def f7 (wN : Int64) (wP : Int64) : Int32 := (((wP - (1 : Int64)) / wN).toInt32)
theorem own_d7_0 : decode prog_65_method_6_code 0 = .ok (.aload_n 0, 1) := by decide +kernel
theorem own_d7_1 : decode prog_65_method_6_code 1 = .ok (.getfield 13, 3) := by decide +kernel
theorem own_d7_4 : decode prog_65_method_6_code 4 = .ok (.lconst 1, 1) := by decide +kernel
theorem own_d7_5 : decode prog_65_method_6_code 5 = .ok (.lsub, 1) := by decide +kernel
theorem own_d7_6 : decode prog_65_method_6_code 6 = .ok (.aload_n 0, 1) := by decide +kernel
theorem own_d7_7 : decode prog_65_method_6_code 7 = .ok (.getfield 16, 3) := by decide +kernel
theorem own_d7_10 : decode prog_65_method_6_code 10 = .ok (.ldiv, 1) := by decide +kernel
theorem own_d7_11 : decode prog_65_method_6_code 11 = .ok (.l2i, 1) := by decide +kernel
theorem own_d7_12 : decode prog_65_method_6_code 12 = .ok (.ireturn, 1) := by decide +kernel
theorem own_ef7 (m : MethodId) (a0 : Addr) : entryFrame m #[(.ref a0)] 1 = mkF m 0 #[.val (.ref a0)] [] := by first | (simp [entryFrame, mkF, argsToLocals, Value.category, maxLocals]; done) | rfl
abbrev RM7 : Room := ({ frames := 0, cells := 0, slots := 0, locals := 0 } : Room)
abbrev kC7 : Nat := 0
abbrev kS7 : Nat := 0
def Q7 (Z : State) (a0 : Addr) (wN : Int64) (wP : Int64) (h0 : Heap) (v : Option Value) (h : Heap) (L : List Loc) : Prop := v = some (.int (f7 wN wP)) ∧ L = [] ∧ h = h0
set_option maxRecDepth 65536 in
set_option maxHeartbeats 40000000 in
theorem rm7 (l : Launch) (Z : State) (tA : Array Value) (hw : ∀ d ∈ tables_1, d.before tA Z = true) (ws : List Jvm.Cond) (a0 : Addr) (wN : Int64) (wP : Int64) (h0 : Heap) (H0 : Fld Z h0 a0 "com/example/chernoff/chernoff/monitor/Rounds" "number" "J" (.long wN)) (H1 : Fld Z h0 a0 "com/example/chernoff/chernoff/monitor/Rounds" "position" "J" (.long wP)) (hnz : ¬ (wN = (0 : Int64))) :
    MetFree l (⟨"com/example/chernoff/chernoff/monitor/Rounds", "stretch", "()I"⟩ : MethodName) (head1 (Jvm.Cond.code (⟨"com/example/chernoff/chernoff/monitor/Rounds", "stretch", "()I"⟩ : MethodName) prog_65_method_6_code 1 (some .int) :: ws) RM7) (fun a U => a = #[(.ref a0)] ∧ Z.Warmed39 U.vm ∧ U.heap = h0) (fun _ _ _ _ _ => True) (fun _ U o U' => ∃ v L, o = .returned v ∧ Q7 Z a0 wN wP h0 v U'.heap L ∧ FrameEnd U o U' L RM7.cells RM7.slots) := by
  refine MetFree.of_bodySF (plainFor_of_name own_pn0) hisR ?_
  intro p e s m args below meth c s₁ Bd hml0 hP hK
  obtain ⟨rfl, hZ, hh⟩ := hP
  have hx := Bd.exec
  have hby := Bd.bytes
  have hml : c.maxLocals = 1 := hml0
  have hown : s.vm.findClass "com/example/chernoff/chernoff/monitor/Rounds" = some m.cls := findClass_of_methodNamed Bd.named
  have hnm := (name_of_methodNamed Bd.named Bd.method).1
  have X0 : Stand p l e RM7 s m #[(.ref a0)] below meth c s₁ [] 0 0 := Stand.of_body Bd
  have e0 : s₁.heap = h0 := by rw [← hh, Bd.state]; rfl
  show Goes p e below s (Q7 Z a0 wN wP h0) kC7 kS7 (s₁.setTop (entryFrame m #[(.ref a0)] 1))
  refine Goes.step (fun t k => castTop (own_ef7 m a0) k) ?_
  show Goes _ _ _ _ _ _ _ (s₁.setTop (mkF m 0 #[.val (.ref a0)] []))
  refine Goes.step (fun t k => XS.aloadN X0.here hx rfl (hb hby own_d7_0) rfl rfl k) ?_
  show Goes _ _ _ _ _ _ _ (s₁.setTop (mkF m 1 #[.val (.ref a0)] [(.ref a0)]))
  obtain ⟨T1, X1, e1, st1⟩ := getF X0 hx hZ hown (host := "") (Or.inl (hw _ (List.mem_of_getElem? (i := 16) rfl))) Via.refl e0 H1 (g := (mkF m 1 #[.val (.ref a0)] [(.ref a0)])) rfl rfl (hb hby own_d7_1)
  refine Goes.step (fun t k => st1 t k) ?_
  show Goes _ _ _ _ _ _ _ (T1.setTop (mkF m 4 #[.val (.ref a0)] [(.long wP)]))
  refine Goes.step (fun t k => XS.lconst X1.here hx rfl (hb hby own_d7_4) k) ?_
  show Goes _ _ _ _ _ _ _ (T1.setTop (mkF m 5 #[.val (.ref a0)] [(.long (1 : Int64)), (.long wP)]))
  refine Goes.step (fun t k => XS.lsub X1.here hx rfl (hb hby own_d7_5) rfl k) ?_
  show Goes _ _ _ _ _ _ _ (T1.setTop (mkF m 6 #[.val (.ref a0)] [(.long (wP - (1 : Int64)))]))
  refine Goes.step (fun t k => XS.aloadN X1.here hx rfl (hb hby own_d7_6) rfl rfl k) ?_
  show Goes _ _ _ _ _ _ _ (T1.setTop (mkF m 7 #[.val (.ref a0)] [(.ref a0), (.long (wP - (1 : Int64)))]))
  obtain ⟨T2, X2, e2, st2⟩ := getF X1 hx hZ hown (host := "") (Or.inl (hw _ (List.mem_of_getElem? (i := 18) rfl))) Via.refl e1 H0 (g := (mkF m 7 #[.val (.ref a0)] [(.ref a0), (.long (wP - (1 : Int64)))])) rfl rfl (hb hby own_d7_7)
  refine Goes.step (fun t k => st2 t k) ?_
  show Goes _ _ _ _ _ _ _ (T2.setTop (mkF m 10 #[.val (.ref a0)] [(.long wN), (.long (wP - (1 : Int64)))]))
  have hnz3 : ¬ (wN = (0 : Int64)) := by exact hnz
  refine Goes.step (fun t k => XS.ldiv X2.here hx rfl (hb hby own_d7_10) rfl hnz3 k) ?_
  show Goes _ _ _ _ _ _ _ (T2.setTop (mkF m 11 #[.val (.ref a0)] [(.long ((wP - (1 : Int64)) / wN))]))
  refine Goes.step (fun t k => XS.l2i X2.here hx rfl (hb hby own_d7_11) rfl k) ?_
  show Goes _ _ _ _ _ _ _ (T2.setTop (mkF m 12 #[.val (.ref a0)] [(.int (((wP - (1 : Int64)) / wN).toInt32))]))
  exact Goes.retI X2 hx Bd.notSynchronized (r := (f7 wN wP)) Bd.returns (hb hby own_d7_12) rfl ⟨rfl, rfl, e2⟩ (by decide) (by decide)
def f8 (wN : Int64) (wP : Int64) : Int32 := (nar .boolean (if (wP - (wP / wN) * wN) = (0 : Int64) then (1 : Int32) else (0 : Int32)))
theorem own_d8_0 : decode prog_65_method_7_code 0 = .ok (.aload_n 0, 1) := by decide +kernel
theorem own_d8_1 : decode prog_65_method_7_code 1 = .ok (.getfield 13, 3) := by decide +kernel
theorem own_d8_4 : decode prog_65_method_7_code 4 = .ok (.aload_n 0, 1) := by decide +kernel
theorem own_d8_5 : decode prog_65_method_7_code 5 = .ok (.getfield 16, 3) := by decide +kernel
theorem own_d8_8 : decode prog_65_method_7_code 8 = .ok (.lrem, 1) := by decide +kernel
theorem own_d8_9 : decode prog_65_method_7_code 9 = .ok (.lconst 0, 1) := by decide +kernel
theorem own_d8_10 : decode prog_65_method_7_code 10 = .ok (.lcmp, 1) := by decide +kernel
theorem own_d8_11 : decode prog_65_method_7_code 11 = .ok (.ifCond .ne 7, 3) := by decide +kernel
theorem own_d8_14 : decode prog_65_method_7_code 14 = .ok (.iconst 1, 1) := by decide +kernel
theorem own_d8_15 : decode prog_65_method_7_code 15 = .ok (.goto 4, 3) := by decide +kernel
theorem own_d8_18 : decode prog_65_method_7_code 18 = .ok (.iconst 0, 1) := by decide +kernel
theorem own_d8_19 : decode prog_65_method_7_code 19 = .ok (.ireturn, 1) := by decide +kernel
theorem own_ef8 (m : MethodId) (a0 : Addr) : entryFrame m #[(.ref a0)] 1 = mkF m 0 #[.val (.ref a0)] [] := by first | (simp [entryFrame, mkF, argsToLocals, Value.category, maxLocals]; done) | rfl
abbrev RM8 : Room := ({ frames := 0, cells := 0, slots := 0, locals := 0 } : Room)
abbrev kC8 : Nat := 0
abbrev kS8 : Nat := 0
def Q8 (Z : State) (a0 : Addr) (wN : Int64) (wP : Int64) (h0 : Heap) (v : Option Value) (h : Heap) (L : List Loc) : Prop := v = some (.int (f8 wN wP)) ∧ L = [] ∧ h = h0
set_option maxRecDepth 65536 in
set_option maxHeartbeats 40000000 in
theorem rm8 (l : Launch) (Z : State) (tA : Array Value) (hw : ∀ d ∈ tables_1, d.before tA Z = true) (ws : List Jvm.Cond) (a0 : Addr) (wN : Int64) (wP : Int64) (h0 : Heap) (H0 : Fld Z h0 a0 "com/example/chernoff/chernoff/monitor/Rounds" "number" "J" (.long wN)) (H1 : Fld Z h0 a0 "com/example/chernoff/chernoff/monitor/Rounds" "position" "J" (.long wP)) (hnz : ¬ (wN = (0 : Int64))) :
    MetFree l (⟨"com/example/chernoff/chernoff/monitor/Rounds", "stretchClosed", "()Z"⟩ : MethodName) (head1 (Jvm.Cond.code (⟨"com/example/chernoff/chernoff/monitor/Rounds", "stretchClosed", "()Z"⟩ : MethodName) prog_65_method_7_code 1 (some .boolean) :: ws) RM8) (fun a U => a = #[(.ref a0)] ∧ Z.Warmed39 U.vm ∧ U.heap = h0) (fun _ _ _ _ _ => True) (fun _ U o U' => ∃ v L, o = .returned v ∧ Q8 Z a0 wN wP h0 v U'.heap L ∧ FrameEnd U o U' L RM8.cells RM8.slots) := by
  refine MetFree.of_bodySF (plainFor_of_name own_pn0) hisR ?_
  intro p e s m args below meth c s₁ Bd hml0 hP hK
  obtain ⟨rfl, hZ, hh⟩ := hP
  have hx := Bd.exec
  have hby := Bd.bytes
  have hml : c.maxLocals = 1 := hml0
  have hown : s.vm.findClass "com/example/chernoff/chernoff/monitor/Rounds" = some m.cls := findClass_of_methodNamed Bd.named
  have hnm := (name_of_methodNamed Bd.named Bd.method).1
  have X0 : Stand p l e RM8 s m #[(.ref a0)] below meth c s₁ [] 0 0 := Stand.of_body Bd
  have e0 : s₁.heap = h0 := by rw [← hh, Bd.state]; rfl
  show Goes p e below s (Q8 Z a0 wN wP h0) kC8 kS8 (s₁.setTop (entryFrame m #[(.ref a0)] 1))
  refine Goes.step (fun t k => castTop (own_ef8 m a0) k) ?_
  show Goes _ _ _ _ _ _ _ (s₁.setTop (mkF m 0 #[.val (.ref a0)] []))
  refine Goes.step (fun t k => XS.aloadN X0.here hx rfl (hb hby own_d8_0) rfl rfl k) ?_
  show Goes _ _ _ _ _ _ _ (s₁.setTop (mkF m 1 #[.val (.ref a0)] [(.ref a0)]))
  obtain ⟨T1, X1, e1, st1⟩ := getF X0 hx hZ hown (host := "") (Or.inl (hw _ (List.mem_of_getElem? (i := 16) rfl))) Via.refl e0 H1 (g := (mkF m 1 #[.val (.ref a0)] [(.ref a0)])) rfl rfl (hb hby own_d8_1)
  refine Goes.step (fun t k => st1 t k) ?_
  show Goes _ _ _ _ _ _ _ (T1.setTop (mkF m 4 #[.val (.ref a0)] [(.long wP)]))
  refine Goes.step (fun t k => XS.aloadN X1.here hx rfl (hb hby own_d8_4) rfl rfl k) ?_
  show Goes _ _ _ _ _ _ _ (T1.setTop (mkF m 5 #[.val (.ref a0)] [(.ref a0), (.long wP)]))
  obtain ⟨T2, X2, e2, st2⟩ := getF X1 hx hZ hown (host := "") (Or.inl (hw _ (List.mem_of_getElem? (i := 18) rfl))) Via.refl e1 H0 (g := (mkF m 5 #[.val (.ref a0)] [(.ref a0), (.long wP)])) rfl rfl (hb hby own_d8_5)
  refine Goes.step (fun t k => st2 t k) ?_
  show Goes _ _ _ _ _ _ _ (T2.setTop (mkF m 8 #[.val (.ref a0)] [(.long wN), (.long wP)]))
  have hnz3 : ¬ (wN = (0 : Int64)) := by exact hnz
  refine Goes.step (fun t k => XS.lrem X2.here hx rfl (hb hby own_d8_8) rfl hnz3 k) ?_
  show Goes _ _ _ _ _ _ _ (T2.setTop (mkF m 9 #[.val (.ref a0)] [(.long (wP - (wP / wN) * wN))]))
  refine Goes.step (fun t k => XS.lconst X2.here hx rfl (hb hby own_d8_9) k) ?_
  show Goes _ _ _ _ _ _ _ (T2.setTop (mkF m 10 #[.val (.ref a0)] [(.long (0 : Int64)), (.long (wP - (wP / wN) * wN))]))
  refine Goes.step (fun t k => XS.lcmp X2.here hx rfl (hb hby own_d8_10) rfl k) ?_
  show Goes _ _ _ _ _ _ _ (T2.setTop (mkF m 11 #[.val (.ref a0)] [(.int (lcmpW (wP - (wP / wN) * wN) (0 : Int64)))]))
  suffices k5 : ∀ (x5_0 : Int32), x5_0 = (if (wP - (wP / wN) * wN) = (0 : Int64) then (1 : Int32) else (0 : Int32)) → Goes p e below s (Q8 Z a0 wN wP h0) kC8 kS8 (T2.setTop (mkF m 19 #[.val (.ref a0)] [(.int x5_0)])) by
    by_cases hc11_4 : (wP - (wP / wN) * wN) = (0 : Int64)
    · refine Goes.step (fun t k => XS.ifNo X2.here hx rfl (hb hby own_d8_11) rfl ((if0 _ _).trans (teq ((lw_eq _ _).mpr hc11_4)).2) k) ?_
      show Goes _ _ _ _ _ _ _ (T2.setTop (mkF m 14 #[.val (.ref a0)] []))
      refine Goes.step (fun t k => XS.iconst X2.here hx rfl (hb hby own_d8_14) k) ?_
      show Goes _ _ _ _ _ _ _ (T2.setTop (mkF m 15 #[.val (.ref a0)] [(.int (1 : Int32))]))
      refine Goes.step (fun t k => XS.goto X2.here hx rfl (pc0 := 15) (pc' := 19) rfl (hb hby own_d8_15) (by decide) (by decide) k) ?_
      show Goes _ _ _ _ _ _ _ (T2.setTop (mkF m 19 #[.val (.ref a0)] [(.int (1 : Int32))]))
      exact k5 _ (if_pos hc11_4).symm
    · refine Goes.step (fun t k => XS.ifYes X2.here hx rfl (pc0 := 11) (pc' := 18) rfl (hb hby own_d8_11) rfl ((if0 _ _).trans (feq (fun q => hc11_4 ((lw_eq _ _).mp q))).2) (by decide) (by decide) k) ?_
      show Goes _ _ _ _ _ _ _ (T2.setTop (mkF m 18 #[.val (.ref a0)] []))
      refine Goes.step (fun t k => XS.iconst X2.here hx rfl (hb hby own_d8_18) k) ?_
      show Goes _ _ _ _ _ _ _ (T2.setTop (mkF m 19 #[.val (.ref a0)] [(.int (0 : Int32))]))
      exact k5 _ (if_neg hc11_4).symm
  intro x5_0 hx5_0
  subst hx5_0
  exact Goes.retZ X2 hx Bd.notSynchronized (r := (f8 wN wP)) Bd.returns (by simp) (hb hby own_d8_19) rfl ⟨rfl, rfl, e2⟩ (by decide) (by decide)
set_option maxRecDepth 65536 in
set_option maxHeartbeats 4000000 in
theorem own_nz44 (p0 : Int32) (p1 : Int32) (y1 : Int32) (y2 : Int32) (x11_0 : Int64) (x11_1 : Int64) (x14_0 : Int64) (x14_1 : Int64) (x17_0 : Int64) (x17_1 : Int64) (x20_0 : Int64) (x20_1 : Int64) (x23_0 : Int64) (x23_1 : Int64) (x26_0 : Int64) (x26_1 : Int64) (x29_0 : Int64) (hy1 : ((p0 &&& (7 : Int32)) + (1 : Int32)) = y1) (hy2 : ((p1 &&& (7 : Int32)) + (1 : Int32)) = y2) (hx11_0 : x11_0 = (if (1 : Int32) < y2 then (g3_2 (y1.toInt64) (g3_2 (y1.toInt64) (0 : Int64) (0 : Int64)) (g3_3 (y1.toInt64) (0 : Int64) (0 : Int64))) else (g3_2 (y1.toInt64) (0 : Int64) (0 : Int64)))) (hx11_1 : x11_1 = (if (1 : Int32) < y2 then (g3_3 (y1.toInt64) (g3_2 (y1.toInt64) (0 : Int64) (0 : Int64)) (g3_3 (y1.toInt64) (0 : Int64) (0 : Int64))) else (g3_3 (y1.toInt64) (0 : Int64) (0 : Int64)))) (hx14_0 : x14_0 = (if (2 : Int32) < y2 then (g3_2 (y1.toInt64) x11_0 x11_1) else x11_0)) (hx14_1 : x14_1 = (if (2 : Int32) < y2 then (g3_3 (y1.toInt64) x11_0 x11_1) else x11_1)) (hx17_0 : x17_0 = (if (3 : Int32) < y2 then (g3_2 (y1.toInt64) x14_0 x14_1) else x14_0)) (hx17_1 : x17_1 = (if (3 : Int32) < y2 then (g3_3 (y1.toInt64) x14_0 x14_1) else x14_1)) (hx20_0 : x20_0 = (if (4 : Int32) < y2 then (g3_2 (y1.toInt64) x17_0 x17_1) else x17_0)) (hx20_1 : x20_1 = (if (4 : Int32) < y2 then (g3_3 (y1.toInt64) x17_0 x17_1) else x17_1)) (hx23_0 : x23_0 = (if (5 : Int32) < y2 then (g3_2 (y1.toInt64) x20_0 x20_1) else x20_0)) (hx23_1 : x23_1 = (if (5 : Int32) < y2 then (g3_3 (y1.toInt64) x20_0 x20_1) else x20_1)) (hx26_0 : x26_0 = (if (6 : Int32) < y2 then (g3_2 (y1.toInt64) x23_0 x23_1) else x23_0)) (hx26_1 : x26_1 = (if (6 : Int32) < y2 then (g3_3 (y1.toInt64) x23_0 x23_1) else x23_1)) (hx29_0 : x29_0 = (if (7 : Int32) < y2 then (g3_2 (y1.toInt64) x26_0 x26_1) else x26_0)) : ¬ (x29_0 = (0 : Int64)) := by
  have c1 := own_eight p0 y1 hy1
  have c2 := own_eight p1 y2 hy2
  clear hy1 hy2
  rcases c1 with rfl | rfl | rfl | rfl | rfl | rfl | rfl | rfl <;> rcases c2 with rfl | rfl | rfl | rfl | rfl | rfl | rfl | rfl <;> (subst_vars; decide +kernel)
set_option maxRecDepth 65536 in
set_option maxHeartbeats 4000000 in
theorem own_nd253 (p0 : Int32) (p1 : Int32) (y1 : Int32) (y2 : Int32) (x33_0 : Int64) (hy1 : ((p0 &&& (7 : Int32)) + (1 : Int32)) = y1) (hy2 : ((p1 &&& (7 : Int32)) + (1 : Int32)) = y2) (hx33_0 : x33_0 = (if y1 < y2 then (if ((3 : Int64) * (y1.toInt64)) < (y2.toInt64) then (if ((6 : Int64) * (y1.toInt64)) < (y2.toInt64) then (4 : Int64) else (3 : Int64)) else (2 : Int64)) else (1 : Int64))) : ¬ (x33_0 = (0 : Int64)) := by
  have c1 := own_eight p0 y1 hy1
  have c2 := own_eight p1 y2 hy2
  clear hy1 hy2
  rcases c1 with rfl | rfl | rfl | rfl | rfl | rfl | rfl | rfl <;> rcases c2 with rfl | rfl | rfl | rfl | rfl | rfl | rfl | rfl <;> (subst_vars; decide +kernel)
set_option maxRecDepth 65536 in
set_option maxHeartbeats 4000000 in
theorem own_nz47 (p0 : Int32) (p1 : Int32) (y1 : Int32) (y2 : Int32) (x11_0 : Int64) (x11_1 : Int64) (x14_0 : Int64) (x14_1 : Int64) (x17_0 : Int64) (x17_1 : Int64) (x20_0 : Int64) (x20_1 : Int64) (x23_0 : Int64) (x23_1 : Int64) (x26_0 : Int64) (x26_1 : Int64) (x29_0 : Int64) (hy1 : ((p0 &&& (7 : Int32)) + (1 : Int32)) = y1) (hy2 : ((p1 &&& (7 : Int32)) + (1 : Int32)) = y2) (hx11_0 : x11_0 = (if (1 : Int32) < y2 then (g3_2 (y1.toInt64) (g3_2 (y1.toInt64) (0 : Int64) (0 : Int64)) (g3_3 (y1.toInt64) (0 : Int64) (0 : Int64))) else (g3_2 (y1.toInt64) (0 : Int64) (0 : Int64)))) (hx11_1 : x11_1 = (if (1 : Int32) < y2 then (g3_3 (y1.toInt64) (g3_2 (y1.toInt64) (0 : Int64) (0 : Int64)) (g3_3 (y1.toInt64) (0 : Int64) (0 : Int64))) else (g3_3 (y1.toInt64) (0 : Int64) (0 : Int64)))) (hx14_0 : x14_0 = (if (2 : Int32) < y2 then (g3_2 (y1.toInt64) x11_0 x11_1) else x11_0)) (hx14_1 : x14_1 = (if (2 : Int32) < y2 then (g3_3 (y1.toInt64) x11_0 x11_1) else x11_1)) (hx17_0 : x17_0 = (if (3 : Int32) < y2 then (g3_2 (y1.toInt64) x14_0 x14_1) else x14_0)) (hx17_1 : x17_1 = (if (3 : Int32) < y2 then (g3_3 (y1.toInt64) x14_0 x14_1) else x14_1)) (hx20_0 : x20_0 = (if (4 : Int32) < y2 then (g3_2 (y1.toInt64) x17_0 x17_1) else x17_0)) (hx20_1 : x20_1 = (if (4 : Int32) < y2 then (g3_3 (y1.toInt64) x17_0 x17_1) else x17_1)) (hx23_0 : x23_0 = (if (5 : Int32) < y2 then (g3_2 (y1.toInt64) x20_0 x20_1) else x20_0)) (hx23_1 : x23_1 = (if (5 : Int32) < y2 then (g3_3 (y1.toInt64) x20_0 x20_1) else x20_1)) (hx26_0 : x26_0 = (if (6 : Int32) < y2 then (g3_2 (y1.toInt64) x23_0 x23_1) else x23_0)) (hx26_1 : x26_1 = (if (6 : Int32) < y2 then (g3_3 (y1.toInt64) x23_0 x23_1) else x23_1)) (hx29_0 : x29_0 = (if (7 : Int32) < y2 then (g3_2 (y1.toInt64) x26_0 x26_1) else x26_0)) : ¬ (x29_0 = (0 : Int64)) := by
  have c1 := own_eight p0 y1 hy1
  have c2 := own_eight p1 y2 hy2
  clear hy1 hy2
  rcases c1 with rfl | rfl | rfl | rfl | rfl | rfl | rfl | rfl <;> rcases c2 with rfl | rfl | rfl | rfl | rfl | rfl | rfl | rfl <;> (subst_vars; decide +kernel)
set_option maxRecDepth 65536 in
set_option maxHeartbeats 4000000 in
theorem own_nd267 (p0 : Int32) (p1 : Int32) (y1 : Int32) (y2 : Int32) (x33_0 : Int64) (hy1 : ((p0 &&& (7 : Int32)) + (1 : Int32)) = y1) (hy2 : ((p1 &&& (7 : Int32)) + (1 : Int32)) = y2) (hx33_0 : x33_0 = (if y1 < y2 then (if ((3 : Int64) * (y1.toInt64)) < (y2.toInt64) then (if ((6 : Int64) * (y1.toInt64)) < (y2.toInt64) then (4 : Int64) else (3 : Int64)) else (2 : Int64)) else (1 : Int64))) : ¬ (x33_0 = (0 : Int64)) := by
  have c1 := own_eight p0 y1 hy1
  have c2 := own_eight p1 y2 hy2
  clear hy1 hy2
  rcases c1 with rfl | rfl | rfl | rfl | rfl | rfl | rfl | rfl <;> rcases c2 with rfl | rfl | rfl | rfl | rfl | rfl | rfl | rfl <;> (subst_vars; decide +kernel)
set_option maxRecDepth 65536 in
set_option maxHeartbeats 4000000 in
theorem own_plain (p0 : Int32) (p1 : Int32) (y1 : Int32) (y2 : Int32) (x11_0 : Int64) (x11_1 : Int64) (x14_0 : Int64) (x14_1 : Int64) (x17_0 : Int64) (x17_1 : Int64) (x20_0 : Int64) (x20_1 : Int64) (x23_0 : Int64) (x23_1 : Int64) (x26_0 : Int64) (x26_1 : Int64) (x29_0 : Int64) (x29_1 : Int64) (x33_0 : Int64) (x33_1 : Int64) (x52_0 : Int32) (hy1 : ((p0 &&& (7 : Int32)) + (1 : Int32)) = y1) (hy2 : ((p1 &&& (7 : Int32)) + (1 : Int32)) = y2) (hx11_0 : x11_0 = (if (1 : Int32) < y2 then (g3_2 (y1.toInt64) (g3_2 (y1.toInt64) (0 : Int64) (0 : Int64)) (g3_3 (y1.toInt64) (0 : Int64) (0 : Int64))) else (g3_2 (y1.toInt64) (0 : Int64) (0 : Int64)))) (hx11_1 : x11_1 = (if (1 : Int32) < y2 then (g3_3 (y1.toInt64) (g3_2 (y1.toInt64) (0 : Int64) (0 : Int64)) (g3_3 (y1.toInt64) (0 : Int64) (0 : Int64))) else (g3_3 (y1.toInt64) (0 : Int64) (0 : Int64)))) (hx14_0 : x14_0 = (if (2 : Int32) < y2 then (g3_2 (y1.toInt64) x11_0 x11_1) else x11_0)) (hx14_1 : x14_1 = (if (2 : Int32) < y2 then (g3_3 (y1.toInt64) x11_0 x11_1) else x11_1)) (hx17_0 : x17_0 = (if (3 : Int32) < y2 then (g3_2 (y1.toInt64) x14_0 x14_1) else x14_0)) (hx17_1 : x17_1 = (if (3 : Int32) < y2 then (g3_3 (y1.toInt64) x14_0 x14_1) else x14_1)) (hx20_0 : x20_0 = (if (4 : Int32) < y2 then (g3_2 (y1.toInt64) x17_0 x17_1) else x17_0)) (hx20_1 : x20_1 = (if (4 : Int32) < y2 then (g3_3 (y1.toInt64) x17_0 x17_1) else x17_1)) (hx23_0 : x23_0 = (if (5 : Int32) < y2 then (g3_2 (y1.toInt64) x20_0 x20_1) else x20_0)) (hx23_1 : x23_1 = (if (5 : Int32) < y2 then (g3_3 (y1.toInt64) x20_0 x20_1) else x20_1)) (hx26_0 : x26_0 = (if (6 : Int32) < y2 then (g3_2 (y1.toInt64) x23_0 x23_1) else x23_0)) (hx26_1 : x26_1 = (if (6 : Int32) < y2 then (g3_3 (y1.toInt64) x23_0 x23_1) else x23_1)) (hx29_0 : x29_0 = (if (7 : Int32) < y2 then (g3_2 (y1.toInt64) x26_0 x26_1) else x26_0)) (hx29_1 : x29_1 = (if (7 : Int32) < y2 then (g3_3 (y1.toInt64) x26_0 x26_1) else x26_1)) (hx33_0 : x33_0 = (if y1 < y2 then (if ((3 : Int64) * (y1.toInt64)) < (y2.toInt64) then (if ((6 : Int64) * (y1.toInt64)) < (y2.toInt64) then (4 : Int64) else (3 : Int64)) else (2 : Int64)) else (1 : Int64))) (hx33_1 : x33_1 = (if y1 < y2 then (if ((3 : Int64) * (y1.toInt64)) < (y2.toInt64) then (if ((6 : Int64) * (y1.toInt64)) < (y2.toInt64) then ((6 : Int64) * (y1.toInt64)) else ((3 : Int64) * (y1.toInt64))) else (y1.toInt64)) else (0 : Int64))) (hx52_0 : x52_0 = (if (f4 x29_0) = x33_0 then (if (f5 x29_1) = (if ((y2.toInt64) - x33_1) = (1 : Int64) then (1 : Int32) else (0 : Int32)) then (if (f6 (y1.toInt64) x29_0 x29_1) = (if ((y2.toInt64) - x33_1) = (x33_0 * (y1.toInt64)) then (1 : Int32) else (0 : Int32)) then (if (f7 x29_0 x29_1) = (((((y2.toInt64) - x33_1) - (1 : Int64)) / x33_0).toInt32) then (if (f8 x29_0 x29_1) = (if (((y2.toInt64) - x33_1) - (((y2.toInt64) - x33_1) / x33_0) * x33_0) = (0 : Int64) then (1 : Int32) else (0 : Int32)) then (1 : Int32) else (0 : Int32)) else (0 : Int32)) else (0 : Int32)) else (0 : Int32)) else (0 : Int32))) : nar .boolean x52_0 = (1 : Int32) := by
  have c1 := own_eight p0 y1 hy1
  have c2 := own_eight p1 y2 hy2
  clear hy1 hy2
  rcases c1 with rfl | rfl | rfl | rfl | rfl | rfl | rfl | rfl <;> rcases c2 with rfl | rfl | rfl | rfl | rfl | rfl | rfl | rfl <;> (subst_vars; decide +kernel)
theorem own_ef0 (m : MethodId) (p0 : Int32) (p1 : Int32) : entryFrame m #[(.int p0), (.int p1)] maxLocals = mkF m 0 #[.val (.int p0), .val (.int p1), .unset, .unset, .unset, .unset, .unset, .unset, .unset, .unset, .unset] [] := by first | (simp [entryFrame, mkF, argsToLocals, Value.category, maxLocals]; done) | rfl
abbrev kC0 : Nat := 1
abbrev kS0 : Nat := 3
def Q0 (Z : State) (p0 : Int32) (p1 : Int32) (h0 : Heap) (n0 : Nat) (v : Option Value) (h : Heap) (L : List Loc) : Prop := v = some (.int 1) ∧ Fr n0 L
set_option maxRecDepth 65536 in
set_option maxHeartbeats 40000000 in
theorem rm0 (l : Launch) (Z : State) (tA : Array Value) (hw : ∀ d ∈ tables_1, d.before tA Z = true) (ws : List Jvm.Cond) (p0 : Int32) (p1 : Int32) (h0 : Heap) (n0 : Nat) (Z0 : n0 ≤ h0.size)  :
    MetFree l x (head1 (Jvm.Cond.code x code maxLocals ret :: ws) room_1) (fun a U => a = #[(.int p0), (.int p1)] ∧ Z.Warmed39 U.vm ∧ U.heap = h0) (fun _ _ _ _ _ => True) (fun _ U o U' => ∃ v L, o = .returned v ∧ Q0 Z p0 p1 h0 n0 v U'.heap L ∧ FrameEnd U o U' L kC0 kS0) := by
  refine MetFree.of_bodySF (plainFor_of_name own_pn1) hisR ?_
  intro p e s m args below meth c s₁ Bd hml0 hP hK
  obtain ⟨rfl, hZ, hh⟩ := hP
  have hx := Bd.exec
  have hby := Bd.bytes
  have hml : c.maxLocals = 11 := hml0
  have hown : s.vm.findClass "com/example/chernoff/chernoff/monitor/RoundsNextPinLaw" = some m.cls := findClass_of_methodNamed Bd.named
  have hnm := (name_of_methodNamed Bd.named Bd.method).1
  have X0 : Stand p l e room_1 s m #[(.int p0), (.int p1)] below meth c s₁ [] 0 0 := Stand.of_body Bd
  have e0 : s₁.heap = h0 := by rw [← hh, Bd.state]; rfl
  have N0 := Fr.nil n0
  show Goes p e below s (Q0 Z p0 p1 h0 n0) kC0 kS0 (s₁.setTop (entryFrame m #[(.int p0), (.int p1)] maxLocals))
  refine Goes.step (fun t k => castTop (own_ef0 m p0 p1) k) ?_
  show Goes _ _ _ _ _ _ _ (s₁.setTop (mkF m 0 #[.val (.int p0), .val (.int p1), .unset, .unset, .unset, .unset, .unset, .unset, .unset, .unset, .unset] []))
  refine Goes.step (fun t k => XS.iloadN X0.here hx rfl (hb hby at_0) rfl k) ?_
  show Goes _ _ _ _ _ _ _ (s₁.setTop (mkF m 1 #[.val (.int p0), .val (.int p1), .unset, .unset, .unset, .unset, .unset, .unset, .unset, .unset, .unset] [(.int p0)]))
  refine Goes.step (fun t k => XS.bipush X0.here hx rfl (hb hby at_1) k) ?_
  show Goes _ _ _ _ _ _ _ (s₁.setTop (mkF m 3 #[.val (.int p0), .val (.int p1), .unset, .unset, .unset, .unset, .unset, .unset, .unset, .unset, .unset] [(.int (7 : Int32)), (.int p0)]))
  refine Goes.step (fun t k => XS.iand X0.here hx rfl (hb hby at_3) rfl k) ?_
  show Goes _ _ _ _ _ _ _ (s₁.setTop (mkF m 4 #[.val (.int p0), .val (.int p1), .unset, .unset, .unset, .unset, .unset, .unset, .unset, .unset, .unset] [(.int (p0 &&& (7 : Int32)))]))
  refine Goes.step (fun t k => XS.iconst X0.here hx rfl (hb hby at_4) k) ?_
  show Goes _ _ _ _ _ _ _ (s₁.setTop (mkF m 5 #[.val (.int p0), .val (.int p1), .unset, .unset, .unset, .unset, .unset, .unset, .unset, .unset, .unset] [(.int (1 : Int32)), (.int (p0 &&& (7 : Int32)))]))
  refine Goes.step (fun t k => XS.iadd X0.here hx rfl (hb hby at_5) rfl k) ?_
  show Goes _ _ _ _ _ _ _ (s₁.setTop (mkF m 6 #[.val (.int p0), .val (.int p1), .unset, .unset, .unset, .unset, .unset, .unset, .unset, .unset, .unset] [(.int ((p0 &&& (7 : Int32)) + (1 : Int32)))]))
  refine Goes.step (fun t k => XS.istoreN X0.here hx rfl (hb hby at_6) rfl (l' := #[.val (.int p0), .val (.int p1), .val (.int ((p0 &&& (7 : Int32)) + (1 : Int32))), .unset, .unset, .unset, .unset, .unset, .unset, .unset, .unset]) rfl k) ?_
  show Goes _ _ _ _ _ _ _ (s₁.setTop (mkF m 7 #[.val (.int p0), .val (.int p1), .val (.int ((p0 &&& (7 : Int32)) + (1 : Int32))), .unset, .unset, .unset, .unset, .unset, .unset, .unset, .unset] []))
  generalize hy1 : ((p0 &&& (7 : Int32)) + (1 : Int32)) = y1
  refine Goes.step (fun t k => XS.iloadN X0.here hx rfl (hb hby at_7) rfl k) ?_
  show Goes _ _ _ _ _ _ _ (s₁.setTop (mkF m 8 #[.val (.int p0), .val (.int p1), .val (.int y1), .unset, .unset, .unset, .unset, .unset, .unset, .unset, .unset] [(.int p1)]))
  refine Goes.step (fun t k => XS.bipush X0.here hx rfl (hb hby at_8) k) ?_
  show Goes _ _ _ _ _ _ _ (s₁.setTop (mkF m 10 #[.val (.int p0), .val (.int p1), .val (.int y1), .unset, .unset, .unset, .unset, .unset, .unset, .unset, .unset] [(.int (7 : Int32)), (.int p1)]))
  refine Goes.step (fun t k => XS.iand X0.here hx rfl (hb hby at_10) rfl k) ?_
  show Goes _ _ _ _ _ _ _ (s₁.setTop (mkF m 11 #[.val (.int p0), .val (.int p1), .val (.int y1), .unset, .unset, .unset, .unset, .unset, .unset, .unset, .unset] [(.int (p1 &&& (7 : Int32)))]))
  refine Goes.step (fun t k => XS.iconst X0.here hx rfl (hb hby at_11) k) ?_
  show Goes _ _ _ _ _ _ _ (s₁.setTop (mkF m 12 #[.val (.int p0), .val (.int p1), .val (.int y1), .unset, .unset, .unset, .unset, .unset, .unset, .unset, .unset] [(.int (1 : Int32)), (.int (p1 &&& (7 : Int32)))]))
  refine Goes.step (fun t k => XS.iadd X0.here hx rfl (hb hby at_12) rfl k) ?_
  show Goes _ _ _ _ _ _ _ (s₁.setTop (mkF m 13 #[.val (.int p0), .val (.int p1), .val (.int y1), .unset, .unset, .unset, .unset, .unset, .unset, .unset, .unset] [(.int ((p1 &&& (7 : Int32)) + (1 : Int32)))]))
  refine Goes.step (fun t k => XS.istoreN X0.here hx rfl (hb hby at_13) rfl (l' := #[.val (.int p0), .val (.int p1), .val (.int y1), .val (.int ((p1 &&& (7 : Int32)) + (1 : Int32))), .unset, .unset, .unset, .unset, .unset, .unset, .unset]) rfl k) ?_
  show Goes _ _ _ _ _ _ _ (s₁.setTop (mkF m 14 #[.val (.int p0), .val (.int p1), .val (.int y1), .val (.int ((p1 &&& (7 : Int32)) + (1 : Int32))), .unset, .unset, .unset, .unset, .unset, .unset, .unset] []))
  generalize hy2 : ((p1 &&& (7 : Int32)) + (1 : Int32)) = y2
  obtain ⟨T3, h3, X3, e3, E3, A3, D3, -, st3⟩ := newO X0 hx hZ hown (hw _ (List.mem_of_getElem? (i := 0) rfl)) (hw _ (List.mem_of_getElem? (i := 1) rfl)) (hw _ (List.mem_of_getElem? (i := 2) rfl)) e0 (g := (mkF m 14 #[.val (.int p0), .val (.int p1), .val (.int y1), .val (.int y2), .unset, .unset, .unset, .unset, .unset, .unset, .unset] [])) rfl (hb hby at_14) (by decide) (by decide)
  obtain ⟨b3, g3⟩ : ∃ z, z = h0.size := ⟨_, rfl⟩
  rw [← g3] at A3 D3 st3
  have Zs3 : n0 ≤ b3 := Nat.le_trans Z0 (Nat.le_of_eq g3.symm)
  have Zh3 : h0.size ≤ b3 := Nat.le_trans (Keep.refl h0 []).1 (Nat.le_of_eq g3.symm)
  have K3 := (Keep.refl h0 []).ext E3
  have Z3 := Nat.le_trans Z0 E3.1
  have F4 : Fld Z h3 b3 "com/example/chernoff/chernoff/monitor/Rounds" "stretches" "J" (.long (0 : Int64)) := D3 (Or.inr (hw _ (List.mem_of_getElem? (i := 10) rfl))) (ty := .long) (by decide)
  have F5 : Fld Z h3 b3 "com/example/chernoff/chernoff/monitor/Rounds" "position" "J" (.long (0 : Int64)) := D3 (Or.inl (hw _ (List.mem_of_getElem? (i := 17) rfl))) (ty := .long) (by decide)
  have F6 : Fld Z h3 b3 "com/example/chernoff/chernoff/monitor/Rounds" "number" "J" (.long (0 : Int64)) := D3 (Or.inl (hw _ (List.mem_of_getElem? (i := 19) rfl))) (ty := .long) (by decide)
  refine Goes.step (fun t k => st3 t k) ?_
  show Goes _ _ _ _ _ _ _ (T3.setTop (mkF m 17 #[.val (.int p0), .val (.int p1), .val (.int y1), .val (.int y2), .unset, .unset, .unset, .unset, .unset, .unset, .unset] [(.ref b3)]))
  refine Goes.step (fun t k => XS.dup X3.here hx rfl (hb hby at_17) rfl rfl k) ?_
  show Goes _ _ _ _ _ _ _ (T3.setTop (mkF m 18 #[.val (.int p0), .val (.int p1), .val (.int y1), .val (.int y2), .unset, .unset, .unset, .unset, .unset, .unset, .unset] [(.ref b3), (.ref b3)]))
  refine Goes.step (fun t k => XS.iloadN X3.here hx rfl (hb hby at_18) rfl k) ?_
  show Goes _ _ _ _ _ _ _ (T3.setTop (mkF m 19 #[.val (.int p0), .val (.int p1), .val (.int y1), .val (.int y2), .unset, .unset, .unset, .unset, .unset, .unset, .unset] [(.int y1), (.ref b3), (.ref b3)]))
  obtain ⟨_, _, ⟨T7, L7, k7, n7⟩, -, X7, ⟨Lc7, hQ7, l7, y7, z7⟩, st7⟩ := X3.specialBack hx (y := (⟨"com/example/chernoff/chernoff/monitor/Rounds", "<init>", "(I)V"⟩ : MethodName)) rfl hown (mvT hZ (hw _ (List.mem_of_getElem? (i := 3) rfl))) (mvT hZ (hw _ (List.mem_of_getElem? (i := 4) rfl))) (mvT hZ (hw _ (List.mem_of_getElem? (i := 5) rfl))) (by decide) (backOf (W := 1) (rm1 l Z tA hw [] b3 y1 h3 n0 Z3 A3 F4 F6 F5 Zs3) hZ (hw _ (List.mem_of_getElem? (i := 5) rfl)) (hw _ (List.mem_of_getElem? (i := 2) rfl)) (by decide) (by decide)) (g := (mkF m 19 #[.val (.int p0), .val (.int p1), .val (.int y1), .val (.int y2), .unset, .unset, .unset, .unset, .unset, .unset, .unset] [(.int y1), (.ref b3), (.ref b3)])) rfl (by rw [hml]; rfl) (Steps.refl _) (a := b3) (argsL := [(.int y1)]) (rest := [(.ref b3)]) (lenOf own_pd0 rfl) rfl (by show 2 * 0 + _ ≤ _; exact Nat.le_of_eq rfl) (hb hby at_19) (fun _ _ => ⟨rfl, e3, (by decide : 1 + 0 ≤ _), (by decide : 3 + 0 ≤ _)⟩)
  dsimp only [Pt.U, Pt.locs, Pt.cells, Pt.slots] at X7 l7 y7 z7 st7 hQ7
  subst l7 y7 z7
  generalize e7 : T7.heap = h7 at hQ7
  obtain ⟨rfl, Nq7, Kq7, G7_0, G7_1, G7_2, G7_3⟩ := hQ7
  have N7 := Fr.app N0 Nq7
  have K7 := K3.trans Kq7 (allS (Or.inr Zh3) all0)
  have Z7 := Nat.le_trans Z3 Kq7.1
  change Stand _ _ _ _ _ _ _ _ _ _ _ _ 1 3 at X7
  refine Goes.step (fun t k => st7.trans k) ?_
  show Goes _ _ _ _ _ _ _ (T7.setTop (mkF m 22 #[.val (.int p0), .val (.int p1), .val (.int y1), .val (.int y2), .unset, .unset, .unset, .unset, .unset, .unset, .unset] [(.ref b3)]))
  refine Goes.step (fun t k => XS.astore X7.here hx rfl (hb hby at_22) rfl rfl (l' := #[.val (.int p0), .val (.int p1), .val (.int y1), .val (.int y2), .val (.ref b3), .unset, .unset, .unset, .unset, .unset, .unset]) rfl k) ?_
  show Goes _ _ _ _ _ _ _ (T7.setTop (mkF m 24 #[.val (.int p0), .val (.int p1), .val (.int y1), .val (.int y2), .val (.ref b3), .unset, .unset, .unset, .unset, .unset, .unset] []))
  refine Goes.step (fun t k => XS.aload X7.here hx rfl (hb hby at_24) rfl rfl k) ?_
  show Goes _ _ _ _ _ _ _ (T7.setTop (mkF m 26 #[.val (.int p0), .val (.int p1), .val (.int y1), .val (.int y2), .val (.ref b3), .unset, .unset, .unset, .unset, .unset, .unset] [(.ref b3)]))
  obtain ⟨cq8, kq8, q8a, q8b, q8c⟩ := isOf hZ e7 G7_0
  obtain ⟨_, _, ⟨T8, L8, k8, n8⟩, -, X8, ⟨Lc8, hQ8, l8, y8, z8⟩, st8⟩ := X7.virtualBack hx (y := (⟨"com/example/chernoff/chernoff/monitor/Rounds", "next", "()V"⟩ : MethodName)) (z := (⟨"com/example/chernoff/chernoff/monitor/Rounds", "next", "()V"⟩ : MethodName)) hown (mvT hZ (hw _ (List.mem_of_getElem? (i := 11) rfl))) (mvT hZ (hw _ (List.mem_of_getElem? (i := 12) rfl))) (notFace_of_selects (args := #[]) (mvT hZ (hw _ (List.mem_of_getElem? (i := 14) rfl)))) (mvT hZ (hw _ (List.mem_of_getElem? (i := 14) rfl))) (mvT hZ (hw _ (List.mem_of_getElem? (i := 13) rfl))) (by decide) (backOf (W := 0) (rm3 l Z tA hw [] b3 (y1.toInt64) (0 : Int64) (0 : Int64) h7 n0 Z7 G7_0 G7_1 G7_2 G7_3 Zs3) hZ (hw _ (List.mem_of_getElem? (i := 15) rfl)) (hw _ (List.mem_of_getElem? (i := 2) rfl)) (by decide) (by decide)) q8a q8c (g := (mkF m 26 #[.val (.int p0), .val (.int p1), .val (.int y1), .val (.int y2), .val (.ref b3), .unset, .unset, .unset, .unset, .unset, .unset] [(.ref b3)])) rfl (by rw [hml]; rfl) (Steps.refl _) (argsL := []) (rest := []) (lenOf own_pd1 rfl) rfl (by show 2 * 0 + _ ≤ _; exact Nat.le_of_eq rfl) (hb hby at_26) (fun _ _ => ⟨rfl, e7, (by decide : 1 + 0 ≤ _), (by decide : 3 + 0 ≤ _)⟩)
  dsimp only [Pt.U, Pt.locs, Pt.cells, Pt.slots] at X8 l8 y8 z8 st8 hQ8
  subst l8 y8 z8
  generalize e8 : T8.heap = h8 at hQ8
  obtain ⟨rfl, Nq8, Kq8, G8_0, G8_1, G8_2, G8_3⟩ := hQ8
  have N8 := Fr.app N7 Nq8
  have K8 := K7.trans Kq8 (allS (Or.inr Zh3) all0)
  have Z8 := Nat.le_trans Z7 Kq8.1
  change Stand _ _ _ _ _ _ _ _ _ _ _ _ 1 3 at X8
  refine Goes.step (fun t k => st8.trans k) ?_
  show Goes _ _ _ _ _ _ _ (T8.setTop (mkF m 29 #[.val (.int p0), .val (.int p1), .val (.int y1), .val (.int y2), .val (.ref b3), .unset, .unset, .unset, .unset, .unset, .unset] []))
  refine Goes.step (fun t k => XS.iloadN X8.here hx rfl (hb hby at_29) rfl k) ?_
  show Goes _ _ _ _ _ _ _ (T8.setTop (mkF m 30 #[.val (.int p0), .val (.int p1), .val (.int y1), .val (.int y2), .val (.ref b3), .unset, .unset, .unset, .unset, .unset, .unset] [(.int y2)]))
  refine Goes.step (fun t k => XS.iconst X8.here hx rfl (hb hby at_30) k) ?_
  show Goes _ _ _ _ _ _ _ (T8.setTop (mkF m 31 #[.val (.int p0), .val (.int p1), .val (.int y1), .val (.int y2), .val (.ref b3), .unset, .unset, .unset, .unset, .unset, .unset] [(.int (1 : Int32)), (.int y2)]))
  suffices k11 : ∀ (T11 : State) (h11 : Heap) (L11 : List Loc) (x11_0 : Int64) (x11_1 : Int64), Stand p l e room_1 s m #[(.int p0), (.int p1)] below meth c T11 L11 1 3 → T11.heap = h11 → Fr n0 L11 → Keep h0 h11 [] → n0 ≤ h11.size → Exa Z h11 b3 "com/example/chernoff/chernoff/monitor/Rounds" → Fld Z h11 b3 "com/example/chernoff/chernoff/monitor/Rounds" "stretches" "J" (.long (y1.toInt64)) → Fld Z h11 b3 "com/example/chernoff/chernoff/monitor/Rounds" "number" "J" (.long x11_0) → Fld Z h11 b3 "com/example/chernoff/chernoff/monitor/Rounds" "position" "J" (.long x11_1) → x11_0 = (if (1 : Int32) < y2 then (g3_2 (y1.toInt64) (g3_2 (y1.toInt64) (0 : Int64) (0 : Int64)) (g3_3 (y1.toInt64) (0 : Int64) (0 : Int64))) else (g3_2 (y1.toInt64) (0 : Int64) (0 : Int64))) → x11_1 = (if (1 : Int32) < y2 then (g3_3 (y1.toInt64) (g3_2 (y1.toInt64) (0 : Int64) (0 : Int64)) (g3_3 (y1.toInt64) (0 : Int64) (0 : Int64))) else (g3_3 (y1.toInt64) (0 : Int64) (0 : Int64))) → Goes p e below s (Q0 Z p0 p1 h0 n0) kC0 kS0 (T11.setTop (mkF m 39 #[.val (.int p0), .val (.int p1), .val (.int y1), .val (.int y2), .val (.ref b3), .unset, .unset, .unset, .unset, .unset, .unset] [])) by
    by_cases hc31_9 : (1 : Int32) < y2
    · refine Goes.step (fun t k => XS.icmpNo X8.here hx rfl (hb hby at_31) rfl (tlt hc31_9).2.2.2 k) ?_
      show Goes _ _ _ _ _ _ _ (T8.setTop (mkF m 34 #[.val (.int p0), .val (.int p1), .val (.int y1), .val (.int y2), .val (.ref b3), .unset, .unset, .unset, .unset, .unset, .unset] []))
      refine Goes.step (fun t k => XS.aload X8.here hx rfl (hb hby at_34) rfl rfl k) ?_
      show Goes _ _ _ _ _ _ _ (T8.setTop (mkF m 36 #[.val (.int p0), .val (.int p1), .val (.int y1), .val (.int y2), .val (.ref b3), .unset, .unset, .unset, .unset, .unset, .unset] [(.ref b3)]))
      obtain ⟨cq10, kq10, q10a, q10b, q10c⟩ := isOf hZ e8 G8_0
      obtain ⟨_, _, ⟨T10, L10, k10, n10⟩, -, X10, ⟨Lc10, hQ10, l10, y10, z10⟩, st10⟩ := X8.virtualBack hx (y := (⟨"com/example/chernoff/chernoff/monitor/Rounds", "next", "()V"⟩ : MethodName)) (z := (⟨"com/example/chernoff/chernoff/monitor/Rounds", "next", "()V"⟩ : MethodName)) hown (mvT hZ (hw _ (List.mem_of_getElem? (i := 11) rfl))) (mvT hZ (hw _ (List.mem_of_getElem? (i := 12) rfl))) (notFace_of_selects (args := #[]) (mvT hZ (hw _ (List.mem_of_getElem? (i := 14) rfl)))) (mvT hZ (hw _ (List.mem_of_getElem? (i := 14) rfl))) (mvT hZ (hw _ (List.mem_of_getElem? (i := 13) rfl))) (by decide) (backOf (W := 0) (rm3 l Z tA hw [] b3 (y1.toInt64) (g3_2 (y1.toInt64) (0 : Int64) (0 : Int64)) (g3_3 (y1.toInt64) (0 : Int64) (0 : Int64)) h8 n0 Z8 G8_0 G8_1 G8_2 G8_3 Zs3) hZ (hw _ (List.mem_of_getElem? (i := 15) rfl)) (hw _ (List.mem_of_getElem? (i := 2) rfl)) (by decide) (by decide)) q10a q10c (g := (mkF m 36 #[.val (.int p0), .val (.int p1), .val (.int y1), .val (.int y2), .val (.ref b3), .unset, .unset, .unset, .unset, .unset, .unset] [(.ref b3)])) rfl (by rw [hml]; rfl) (Steps.refl _) (argsL := []) (rest := []) (lenOf own_pd1 rfl) rfl (by show 2 * 0 + _ ≤ _; exact Nat.le_of_eq rfl) (hb hby at_36) (fun _ _ => ⟨rfl, e8, (by decide : 1 + 0 ≤ _), (by decide : 3 + 0 ≤ _)⟩)
      dsimp only [Pt.U, Pt.locs, Pt.cells, Pt.slots] at X10 l10 y10 z10 st10 hQ10
      subst l10 y10 z10
      generalize e10 : T10.heap = h10 at hQ10
      obtain ⟨rfl, Nq10, Kq10, G10_0, G10_1, G10_2, G10_3⟩ := hQ10
      have N10 := Fr.app N8 Nq10
      have K10 := K8.trans Kq10 (allS (Or.inr Zh3) all0)
      have Z10 := Nat.le_trans Z8 Kq10.1
      change Stand _ _ _ _ _ _ _ _ _ _ _ _ 1 3 at X10
      refine Goes.step (fun t k => st10.trans k) ?_
      show Goes _ _ _ _ _ _ _ (T10.setTop (mkF m 39 #[.val (.int p0), .val (.int p1), .val (.int y1), .val (.int y2), .val (.ref b3), .unset, .unset, .unset, .unset, .unset, .unset] []))
      exact k11 _ _ _ _ _ X10 e10 N10 K10 Z10 G10_0 G10_1 G10_2 G10_3 (if_pos hc31_9).symm (if_pos hc31_9).symm
    · refine Goes.step (fun t k => XS.icmpYes X8.here hx rfl (pc0 := 31) (pc' := 39) rfl (hb hby at_31) rfl (flt hc31_9).2.2.2 (by decide) (by decide) k) ?_
      show Goes _ _ _ _ _ _ _ (T8.setTop (mkF m 39 #[.val (.int p0), .val (.int p1), .val (.int y1), .val (.int y2), .val (.ref b3), .unset, .unset, .unset, .unset, .unset, .unset] []))
      exact k11 _ _ _ _ _ X8 e8 N8 K8 Z8 G8_0 G8_1 G8_2 G8_3 (if_neg hc31_9).symm (if_neg hc31_9).symm
  intro T11 h11 L11 x11_0 x11_1 X11 e11 N11 K11 Z11 F11_0 F11_1 F11_2 F11_3 hx11_0 hx11_1
  refine Goes.step (fun t k => XS.iloadN X11.here hx rfl (hb hby at_39) rfl k) ?_
  show Goes _ _ _ _ _ _ _ (T11.setTop (mkF m 40 #[.val (.int p0), .val (.int p1), .val (.int y1), .val (.int y2), .val (.ref b3), .unset, .unset, .unset, .unset, .unset, .unset] [(.int y2)]))
  refine Goes.step (fun t k => XS.iconst X11.here hx rfl (hb hby at_40) k) ?_
  show Goes _ _ _ _ _ _ _ (T11.setTop (mkF m 41 #[.val (.int p0), .val (.int p1), .val (.int y1), .val (.int y2), .val (.ref b3), .unset, .unset, .unset, .unset, .unset, .unset] [(.int (2 : Int32)), (.int y2)]))
  suffices k14 : ∀ (T14 : State) (h14 : Heap) (L14 : List Loc) (x14_0 : Int64) (x14_1 : Int64), Stand p l e room_1 s m #[(.int p0), (.int p1)] below meth c T14 L14 1 3 → T14.heap = h14 → Fr n0 L14 → Keep h0 h14 [] → n0 ≤ h14.size → Exa Z h14 b3 "com/example/chernoff/chernoff/monitor/Rounds" → Fld Z h14 b3 "com/example/chernoff/chernoff/monitor/Rounds" "stretches" "J" (.long (y1.toInt64)) → Fld Z h14 b3 "com/example/chernoff/chernoff/monitor/Rounds" "number" "J" (.long x14_0) → Fld Z h14 b3 "com/example/chernoff/chernoff/monitor/Rounds" "position" "J" (.long x14_1) → x14_0 = (if (2 : Int32) < y2 then (g3_2 (y1.toInt64) x11_0 x11_1) else x11_0) → x14_1 = (if (2 : Int32) < y2 then (g3_3 (y1.toInt64) x11_0 x11_1) else x11_1) → Goes p e below s (Q0 Z p0 p1 h0 n0) kC0 kS0 (T14.setTop (mkF m 49 #[.val (.int p0), .val (.int p1), .val (.int y1), .val (.int y2), .val (.ref b3), .unset, .unset, .unset, .unset, .unset, .unset] [])) by
    by_cases hc41_12 : (2 : Int32) < y2
    · refine Goes.step (fun t k => XS.icmpNo X11.here hx rfl (hb hby at_41) rfl (tlt hc41_12).2.2.2 k) ?_
      show Goes _ _ _ _ _ _ _ (T11.setTop (mkF m 44 #[.val (.int p0), .val (.int p1), .val (.int y1), .val (.int y2), .val (.ref b3), .unset, .unset, .unset, .unset, .unset, .unset] []))
      refine Goes.step (fun t k => XS.aload X11.here hx rfl (hb hby at_44) rfl rfl k) ?_
      show Goes _ _ _ _ _ _ _ (T11.setTop (mkF m 46 #[.val (.int p0), .val (.int p1), .val (.int y1), .val (.int y2), .val (.ref b3), .unset, .unset, .unset, .unset, .unset, .unset] [(.ref b3)]))
      obtain ⟨cq13, kq13, q13a, q13b, q13c⟩ := isOf hZ e11 F11_0
      obtain ⟨_, _, ⟨T13, L13, k13, n13⟩, -, X13, ⟨Lc13, hQ13, l13, y13, z13⟩, st13⟩ := X11.virtualBack hx (y := (⟨"com/example/chernoff/chernoff/monitor/Rounds", "next", "()V"⟩ : MethodName)) (z := (⟨"com/example/chernoff/chernoff/monitor/Rounds", "next", "()V"⟩ : MethodName)) hown (mvT hZ (hw _ (List.mem_of_getElem? (i := 11) rfl))) (mvT hZ (hw _ (List.mem_of_getElem? (i := 12) rfl))) (notFace_of_selects (args := #[]) (mvT hZ (hw _ (List.mem_of_getElem? (i := 14) rfl)))) (mvT hZ (hw _ (List.mem_of_getElem? (i := 14) rfl))) (mvT hZ (hw _ (List.mem_of_getElem? (i := 13) rfl))) (by decide) (backOf (W := 0) (rm3 l Z tA hw [] b3 (y1.toInt64) x11_0 x11_1 h11 n0 Z11 F11_0 F11_1 F11_2 F11_3 Zs3) hZ (hw _ (List.mem_of_getElem? (i := 15) rfl)) (hw _ (List.mem_of_getElem? (i := 2) rfl)) (by decide) (by decide)) q13a q13c (g := (mkF m 46 #[.val (.int p0), .val (.int p1), .val (.int y1), .val (.int y2), .val (.ref b3), .unset, .unset, .unset, .unset, .unset, .unset] [(.ref b3)])) rfl (by rw [hml]; rfl) (Steps.refl _) (argsL := []) (rest := []) (lenOf own_pd1 rfl) rfl (by show 2 * 0 + _ ≤ _; exact Nat.le_of_eq rfl) (hb hby at_46) (fun _ _ => ⟨rfl, e11, (by decide : 1 + 0 ≤ _), (by decide : 3 + 0 ≤ _)⟩)
      dsimp only [Pt.U, Pt.locs, Pt.cells, Pt.slots] at X13 l13 y13 z13 st13 hQ13
      subst l13 y13 z13
      generalize e13 : T13.heap = h13 at hQ13
      obtain ⟨rfl, Nq13, Kq13, G13_0, G13_1, G13_2, G13_3⟩ := hQ13
      have N13 := Fr.app N11 Nq13
      have K13 := K11.trans Kq13 (allS (Or.inr Zh3) all0)
      have Z13 := Nat.le_trans Z11 Kq13.1
      change Stand _ _ _ _ _ _ _ _ _ _ _ _ 1 3 at X13
      refine Goes.step (fun t k => st13.trans k) ?_
      show Goes _ _ _ _ _ _ _ (T13.setTop (mkF m 49 #[.val (.int p0), .val (.int p1), .val (.int y1), .val (.int y2), .val (.ref b3), .unset, .unset, .unset, .unset, .unset, .unset] []))
      exact k14 _ _ _ _ _ X13 e13 N13 K13 Z13 G13_0 G13_1 G13_2 G13_3 (if_pos hc41_12).symm (if_pos hc41_12).symm
    · refine Goes.step (fun t k => XS.icmpYes X11.here hx rfl (pc0 := 41) (pc' := 49) rfl (hb hby at_41) rfl (flt hc41_12).2.2.2 (by decide) (by decide) k) ?_
      show Goes _ _ _ _ _ _ _ (T11.setTop (mkF m 49 #[.val (.int p0), .val (.int p1), .val (.int y1), .val (.int y2), .val (.ref b3), .unset, .unset, .unset, .unset, .unset, .unset] []))
      exact k14 _ _ _ _ _ X11 e11 N11 K11 Z11 F11_0 F11_1 F11_2 F11_3 (if_neg hc41_12).symm (if_neg hc41_12).symm
  intro T14 h14 L14 x14_0 x14_1 X14 e14 N14 K14 Z14 F14_0 F14_1 F14_2 F14_3 hx14_0 hx14_1
  refine Goes.step (fun t k => XS.iloadN X14.here hx rfl (hb hby at_49) rfl k) ?_
  show Goes _ _ _ _ _ _ _ (T14.setTop (mkF m 50 #[.val (.int p0), .val (.int p1), .val (.int y1), .val (.int y2), .val (.ref b3), .unset, .unset, .unset, .unset, .unset, .unset] [(.int y2)]))
  refine Goes.step (fun t k => XS.iconst X14.here hx rfl (hb hby at_50) k) ?_
  show Goes _ _ _ _ _ _ _ (T14.setTop (mkF m 51 #[.val (.int p0), .val (.int p1), .val (.int y1), .val (.int y2), .val (.ref b3), .unset, .unset, .unset, .unset, .unset, .unset] [(.int (3 : Int32)), (.int y2)]))
  suffices k17 : ∀ (T17 : State) (h17 : Heap) (L17 : List Loc) (x17_0 : Int64) (x17_1 : Int64), Stand p l e room_1 s m #[(.int p0), (.int p1)] below meth c T17 L17 1 3 → T17.heap = h17 → Fr n0 L17 → Keep h0 h17 [] → n0 ≤ h17.size → Exa Z h17 b3 "com/example/chernoff/chernoff/monitor/Rounds" → Fld Z h17 b3 "com/example/chernoff/chernoff/monitor/Rounds" "stretches" "J" (.long (y1.toInt64)) → Fld Z h17 b3 "com/example/chernoff/chernoff/monitor/Rounds" "number" "J" (.long x17_0) → Fld Z h17 b3 "com/example/chernoff/chernoff/monitor/Rounds" "position" "J" (.long x17_1) → x17_0 = (if (3 : Int32) < y2 then (g3_2 (y1.toInt64) x14_0 x14_1) else x14_0) → x17_1 = (if (3 : Int32) < y2 then (g3_3 (y1.toInt64) x14_0 x14_1) else x14_1) → Goes p e below s (Q0 Z p0 p1 h0 n0) kC0 kS0 (T17.setTop (mkF m 59 #[.val (.int p0), .val (.int p1), .val (.int y1), .val (.int y2), .val (.ref b3), .unset, .unset, .unset, .unset, .unset, .unset] [])) by
    by_cases hc51_15 : (3 : Int32) < y2
    · refine Goes.step (fun t k => XS.icmpNo X14.here hx rfl (hb hby at_51) rfl (tlt hc51_15).2.2.2 k) ?_
      show Goes _ _ _ _ _ _ _ (T14.setTop (mkF m 54 #[.val (.int p0), .val (.int p1), .val (.int y1), .val (.int y2), .val (.ref b3), .unset, .unset, .unset, .unset, .unset, .unset] []))
      refine Goes.step (fun t k => XS.aload X14.here hx rfl (hb hby at_54) rfl rfl k) ?_
      show Goes _ _ _ _ _ _ _ (T14.setTop (mkF m 56 #[.val (.int p0), .val (.int p1), .val (.int y1), .val (.int y2), .val (.ref b3), .unset, .unset, .unset, .unset, .unset, .unset] [(.ref b3)]))
      obtain ⟨cq16, kq16, q16a, q16b, q16c⟩ := isOf hZ e14 F14_0
      obtain ⟨_, _, ⟨T16, L16, k16, n16⟩, -, X16, ⟨Lc16, hQ16, l16, y16, z16⟩, st16⟩ := X14.virtualBack hx (y := (⟨"com/example/chernoff/chernoff/monitor/Rounds", "next", "()V"⟩ : MethodName)) (z := (⟨"com/example/chernoff/chernoff/monitor/Rounds", "next", "()V"⟩ : MethodName)) hown (mvT hZ (hw _ (List.mem_of_getElem? (i := 11) rfl))) (mvT hZ (hw _ (List.mem_of_getElem? (i := 12) rfl))) (notFace_of_selects (args := #[]) (mvT hZ (hw _ (List.mem_of_getElem? (i := 14) rfl)))) (mvT hZ (hw _ (List.mem_of_getElem? (i := 14) rfl))) (mvT hZ (hw _ (List.mem_of_getElem? (i := 13) rfl))) (by decide) (backOf (W := 0) (rm3 l Z tA hw [] b3 (y1.toInt64) x14_0 x14_1 h14 n0 Z14 F14_0 F14_1 F14_2 F14_3 Zs3) hZ (hw _ (List.mem_of_getElem? (i := 15) rfl)) (hw _ (List.mem_of_getElem? (i := 2) rfl)) (by decide) (by decide)) q16a q16c (g := (mkF m 56 #[.val (.int p0), .val (.int p1), .val (.int y1), .val (.int y2), .val (.ref b3), .unset, .unset, .unset, .unset, .unset, .unset] [(.ref b3)])) rfl (by rw [hml]; rfl) (Steps.refl _) (argsL := []) (rest := []) (lenOf own_pd1 rfl) rfl (by show 2 * 0 + _ ≤ _; exact Nat.le_of_eq rfl) (hb hby at_56) (fun _ _ => ⟨rfl, e14, (by decide : 1 + 0 ≤ _), (by decide : 3 + 0 ≤ _)⟩)
      dsimp only [Pt.U, Pt.locs, Pt.cells, Pt.slots] at X16 l16 y16 z16 st16 hQ16
      subst l16 y16 z16
      generalize e16 : T16.heap = h16 at hQ16
      obtain ⟨rfl, Nq16, Kq16, G16_0, G16_1, G16_2, G16_3⟩ := hQ16
      have N16 := Fr.app N14 Nq16
      have K16 := K14.trans Kq16 (allS (Or.inr Zh3) all0)
      have Z16 := Nat.le_trans Z14 Kq16.1
      change Stand _ _ _ _ _ _ _ _ _ _ _ _ 1 3 at X16
      refine Goes.step (fun t k => st16.trans k) ?_
      show Goes _ _ _ _ _ _ _ (T16.setTop (mkF m 59 #[.val (.int p0), .val (.int p1), .val (.int y1), .val (.int y2), .val (.ref b3), .unset, .unset, .unset, .unset, .unset, .unset] []))
      exact k17 _ _ _ _ _ X16 e16 N16 K16 Z16 G16_0 G16_1 G16_2 G16_3 (if_pos hc51_15).symm (if_pos hc51_15).symm
    · refine Goes.step (fun t k => XS.icmpYes X14.here hx rfl (pc0 := 51) (pc' := 59) rfl (hb hby at_51) rfl (flt hc51_15).2.2.2 (by decide) (by decide) k) ?_
      show Goes _ _ _ _ _ _ _ (T14.setTop (mkF m 59 #[.val (.int p0), .val (.int p1), .val (.int y1), .val (.int y2), .val (.ref b3), .unset, .unset, .unset, .unset, .unset, .unset] []))
      exact k17 _ _ _ _ _ X14 e14 N14 K14 Z14 F14_0 F14_1 F14_2 F14_3 (if_neg hc51_15).symm (if_neg hc51_15).symm
  intro T17 h17 L17 x17_0 x17_1 X17 e17 N17 K17 Z17 F17_0 F17_1 F17_2 F17_3 hx17_0 hx17_1
  refine Goes.step (fun t k => XS.iloadN X17.here hx rfl (hb hby at_59) rfl k) ?_
  show Goes _ _ _ _ _ _ _ (T17.setTop (mkF m 60 #[.val (.int p0), .val (.int p1), .val (.int y1), .val (.int y2), .val (.ref b3), .unset, .unset, .unset, .unset, .unset, .unset] [(.int y2)]))
  refine Goes.step (fun t k => XS.iconst X17.here hx rfl (hb hby at_60) k) ?_
  show Goes _ _ _ _ _ _ _ (T17.setTop (mkF m 61 #[.val (.int p0), .val (.int p1), .val (.int y1), .val (.int y2), .val (.ref b3), .unset, .unset, .unset, .unset, .unset, .unset] [(.int (4 : Int32)), (.int y2)]))
  suffices k20 : ∀ (T20 : State) (h20 : Heap) (L20 : List Loc) (x20_0 : Int64) (x20_1 : Int64), Stand p l e room_1 s m #[(.int p0), (.int p1)] below meth c T20 L20 1 3 → T20.heap = h20 → Fr n0 L20 → Keep h0 h20 [] → n0 ≤ h20.size → Exa Z h20 b3 "com/example/chernoff/chernoff/monitor/Rounds" → Fld Z h20 b3 "com/example/chernoff/chernoff/monitor/Rounds" "stretches" "J" (.long (y1.toInt64)) → Fld Z h20 b3 "com/example/chernoff/chernoff/monitor/Rounds" "number" "J" (.long x20_0) → Fld Z h20 b3 "com/example/chernoff/chernoff/monitor/Rounds" "position" "J" (.long x20_1) → x20_0 = (if (4 : Int32) < y2 then (g3_2 (y1.toInt64) x17_0 x17_1) else x17_0) → x20_1 = (if (4 : Int32) < y2 then (g3_3 (y1.toInt64) x17_0 x17_1) else x17_1) → Goes p e below s (Q0 Z p0 p1 h0 n0) kC0 kS0 (T20.setTop (mkF m 69 #[.val (.int p0), .val (.int p1), .val (.int y1), .val (.int y2), .val (.ref b3), .unset, .unset, .unset, .unset, .unset, .unset] [])) by
    by_cases hc61_18 : (4 : Int32) < y2
    · refine Goes.step (fun t k => XS.icmpNo X17.here hx rfl (hb hby at_61) rfl (tlt hc61_18).2.2.2 k) ?_
      show Goes _ _ _ _ _ _ _ (T17.setTop (mkF m 64 #[.val (.int p0), .val (.int p1), .val (.int y1), .val (.int y2), .val (.ref b3), .unset, .unset, .unset, .unset, .unset, .unset] []))
      refine Goes.step (fun t k => XS.aload X17.here hx rfl (hb hby at_64) rfl rfl k) ?_
      show Goes _ _ _ _ _ _ _ (T17.setTop (mkF m 66 #[.val (.int p0), .val (.int p1), .val (.int y1), .val (.int y2), .val (.ref b3), .unset, .unset, .unset, .unset, .unset, .unset] [(.ref b3)]))
      obtain ⟨cq19, kq19, q19a, q19b, q19c⟩ := isOf hZ e17 F17_0
      obtain ⟨_, _, ⟨T19, L19, k19, n19⟩, -, X19, ⟨Lc19, hQ19, l19, y19, z19⟩, st19⟩ := X17.virtualBack hx (y := (⟨"com/example/chernoff/chernoff/monitor/Rounds", "next", "()V"⟩ : MethodName)) (z := (⟨"com/example/chernoff/chernoff/monitor/Rounds", "next", "()V"⟩ : MethodName)) hown (mvT hZ (hw _ (List.mem_of_getElem? (i := 11) rfl))) (mvT hZ (hw _ (List.mem_of_getElem? (i := 12) rfl))) (notFace_of_selects (args := #[]) (mvT hZ (hw _ (List.mem_of_getElem? (i := 14) rfl)))) (mvT hZ (hw _ (List.mem_of_getElem? (i := 14) rfl))) (mvT hZ (hw _ (List.mem_of_getElem? (i := 13) rfl))) (by decide) (backOf (W := 0) (rm3 l Z tA hw [] b3 (y1.toInt64) x17_0 x17_1 h17 n0 Z17 F17_0 F17_1 F17_2 F17_3 Zs3) hZ (hw _ (List.mem_of_getElem? (i := 15) rfl)) (hw _ (List.mem_of_getElem? (i := 2) rfl)) (by decide) (by decide)) q19a q19c (g := (mkF m 66 #[.val (.int p0), .val (.int p1), .val (.int y1), .val (.int y2), .val (.ref b3), .unset, .unset, .unset, .unset, .unset, .unset] [(.ref b3)])) rfl (by rw [hml]; rfl) (Steps.refl _) (argsL := []) (rest := []) (lenOf own_pd1 rfl) rfl (by show 2 * 0 + _ ≤ _; exact Nat.le_of_eq rfl) (hb hby at_66) (fun _ _ => ⟨rfl, e17, (by decide : 1 + 0 ≤ _), (by decide : 3 + 0 ≤ _)⟩)
      dsimp only [Pt.U, Pt.locs, Pt.cells, Pt.slots] at X19 l19 y19 z19 st19 hQ19
      subst l19 y19 z19
      generalize e19 : T19.heap = h19 at hQ19
      obtain ⟨rfl, Nq19, Kq19, G19_0, G19_1, G19_2, G19_3⟩ := hQ19
      have N19 := Fr.app N17 Nq19
      have K19 := K17.trans Kq19 (allS (Or.inr Zh3) all0)
      have Z19 := Nat.le_trans Z17 Kq19.1
      change Stand _ _ _ _ _ _ _ _ _ _ _ _ 1 3 at X19
      refine Goes.step (fun t k => st19.trans k) ?_
      show Goes _ _ _ _ _ _ _ (T19.setTop (mkF m 69 #[.val (.int p0), .val (.int p1), .val (.int y1), .val (.int y2), .val (.ref b3), .unset, .unset, .unset, .unset, .unset, .unset] []))
      exact k20 _ _ _ _ _ X19 e19 N19 K19 Z19 G19_0 G19_1 G19_2 G19_3 (if_pos hc61_18).symm (if_pos hc61_18).symm
    · refine Goes.step (fun t k => XS.icmpYes X17.here hx rfl (pc0 := 61) (pc' := 69) rfl (hb hby at_61) rfl (flt hc61_18).2.2.2 (by decide) (by decide) k) ?_
      show Goes _ _ _ _ _ _ _ (T17.setTop (mkF m 69 #[.val (.int p0), .val (.int p1), .val (.int y1), .val (.int y2), .val (.ref b3), .unset, .unset, .unset, .unset, .unset, .unset] []))
      exact k20 _ _ _ _ _ X17 e17 N17 K17 Z17 F17_0 F17_1 F17_2 F17_3 (if_neg hc61_18).symm (if_neg hc61_18).symm
  intro T20 h20 L20 x20_0 x20_1 X20 e20 N20 K20 Z20 F20_0 F20_1 F20_2 F20_3 hx20_0 hx20_1
  refine Goes.step (fun t k => XS.iloadN X20.here hx rfl (hb hby at_69) rfl k) ?_
  show Goes _ _ _ _ _ _ _ (T20.setTop (mkF m 70 #[.val (.int p0), .val (.int p1), .val (.int y1), .val (.int y2), .val (.ref b3), .unset, .unset, .unset, .unset, .unset, .unset] [(.int y2)]))
  refine Goes.step (fun t k => XS.iconst X20.here hx rfl (hb hby at_70) k) ?_
  show Goes _ _ _ _ _ _ _ (T20.setTop (mkF m 71 #[.val (.int p0), .val (.int p1), .val (.int y1), .val (.int y2), .val (.ref b3), .unset, .unset, .unset, .unset, .unset, .unset] [(.int (5 : Int32)), (.int y2)]))
  suffices k23 : ∀ (T23 : State) (h23 : Heap) (L23 : List Loc) (x23_0 : Int64) (x23_1 : Int64), Stand p l e room_1 s m #[(.int p0), (.int p1)] below meth c T23 L23 1 3 → T23.heap = h23 → Fr n0 L23 → Keep h0 h23 [] → n0 ≤ h23.size → Exa Z h23 b3 "com/example/chernoff/chernoff/monitor/Rounds" → Fld Z h23 b3 "com/example/chernoff/chernoff/monitor/Rounds" "stretches" "J" (.long (y1.toInt64)) → Fld Z h23 b3 "com/example/chernoff/chernoff/monitor/Rounds" "number" "J" (.long x23_0) → Fld Z h23 b3 "com/example/chernoff/chernoff/monitor/Rounds" "position" "J" (.long x23_1) → x23_0 = (if (5 : Int32) < y2 then (g3_2 (y1.toInt64) x20_0 x20_1) else x20_0) → x23_1 = (if (5 : Int32) < y2 then (g3_3 (y1.toInt64) x20_0 x20_1) else x20_1) → Goes p e below s (Q0 Z p0 p1 h0 n0) kC0 kS0 (T23.setTop (mkF m 79 #[.val (.int p0), .val (.int p1), .val (.int y1), .val (.int y2), .val (.ref b3), .unset, .unset, .unset, .unset, .unset, .unset] [])) by
    by_cases hc71_21 : (5 : Int32) < y2
    · refine Goes.step (fun t k => XS.icmpNo X20.here hx rfl (hb hby at_71) rfl (tlt hc71_21).2.2.2 k) ?_
      show Goes _ _ _ _ _ _ _ (T20.setTop (mkF m 74 #[.val (.int p0), .val (.int p1), .val (.int y1), .val (.int y2), .val (.ref b3), .unset, .unset, .unset, .unset, .unset, .unset] []))
      refine Goes.step (fun t k => XS.aload X20.here hx rfl (hb hby at_74) rfl rfl k) ?_
      show Goes _ _ _ _ _ _ _ (T20.setTop (mkF m 76 #[.val (.int p0), .val (.int p1), .val (.int y1), .val (.int y2), .val (.ref b3), .unset, .unset, .unset, .unset, .unset, .unset] [(.ref b3)]))
      obtain ⟨cq22, kq22, q22a, q22b, q22c⟩ := isOf hZ e20 F20_0
      obtain ⟨_, _, ⟨T22, L22, k22, n22⟩, -, X22, ⟨Lc22, hQ22, l22, y22, z22⟩, st22⟩ := X20.virtualBack hx (y := (⟨"com/example/chernoff/chernoff/monitor/Rounds", "next", "()V"⟩ : MethodName)) (z := (⟨"com/example/chernoff/chernoff/monitor/Rounds", "next", "()V"⟩ : MethodName)) hown (mvT hZ (hw _ (List.mem_of_getElem? (i := 11) rfl))) (mvT hZ (hw _ (List.mem_of_getElem? (i := 12) rfl))) (notFace_of_selects (args := #[]) (mvT hZ (hw _ (List.mem_of_getElem? (i := 14) rfl)))) (mvT hZ (hw _ (List.mem_of_getElem? (i := 14) rfl))) (mvT hZ (hw _ (List.mem_of_getElem? (i := 13) rfl))) (by decide) (backOf (W := 0) (rm3 l Z tA hw [] b3 (y1.toInt64) x20_0 x20_1 h20 n0 Z20 F20_0 F20_1 F20_2 F20_3 Zs3) hZ (hw _ (List.mem_of_getElem? (i := 15) rfl)) (hw _ (List.mem_of_getElem? (i := 2) rfl)) (by decide) (by decide)) q22a q22c (g := (mkF m 76 #[.val (.int p0), .val (.int p1), .val (.int y1), .val (.int y2), .val (.ref b3), .unset, .unset, .unset, .unset, .unset, .unset] [(.ref b3)])) rfl (by rw [hml]; rfl) (Steps.refl _) (argsL := []) (rest := []) (lenOf own_pd1 rfl) rfl (by show 2 * 0 + _ ≤ _; exact Nat.le_of_eq rfl) (hb hby at_76) (fun _ _ => ⟨rfl, e20, (by decide : 1 + 0 ≤ _), (by decide : 3 + 0 ≤ _)⟩)
      dsimp only [Pt.U, Pt.locs, Pt.cells, Pt.slots] at X22 l22 y22 z22 st22 hQ22
      subst l22 y22 z22
      generalize e22 : T22.heap = h22 at hQ22
      obtain ⟨rfl, Nq22, Kq22, G22_0, G22_1, G22_2, G22_3⟩ := hQ22
      have N22 := Fr.app N20 Nq22
      have K22 := K20.trans Kq22 (allS (Or.inr Zh3) all0)
      have Z22 := Nat.le_trans Z20 Kq22.1
      change Stand _ _ _ _ _ _ _ _ _ _ _ _ 1 3 at X22
      refine Goes.step (fun t k => st22.trans k) ?_
      show Goes _ _ _ _ _ _ _ (T22.setTop (mkF m 79 #[.val (.int p0), .val (.int p1), .val (.int y1), .val (.int y2), .val (.ref b3), .unset, .unset, .unset, .unset, .unset, .unset] []))
      exact k23 _ _ _ _ _ X22 e22 N22 K22 Z22 G22_0 G22_1 G22_2 G22_3 (if_pos hc71_21).symm (if_pos hc71_21).symm
    · refine Goes.step (fun t k => XS.icmpYes X20.here hx rfl (pc0 := 71) (pc' := 79) rfl (hb hby at_71) rfl (flt hc71_21).2.2.2 (by decide) (by decide) k) ?_
      show Goes _ _ _ _ _ _ _ (T20.setTop (mkF m 79 #[.val (.int p0), .val (.int p1), .val (.int y1), .val (.int y2), .val (.ref b3), .unset, .unset, .unset, .unset, .unset, .unset] []))
      exact k23 _ _ _ _ _ X20 e20 N20 K20 Z20 F20_0 F20_1 F20_2 F20_3 (if_neg hc71_21).symm (if_neg hc71_21).symm
  intro T23 h23 L23 x23_0 x23_1 X23 e23 N23 K23 Z23 F23_0 F23_1 F23_2 F23_3 hx23_0 hx23_1
  refine Goes.step (fun t k => XS.iloadN X23.here hx rfl (hb hby at_79) rfl k) ?_
  show Goes _ _ _ _ _ _ _ (T23.setTop (mkF m 80 #[.val (.int p0), .val (.int p1), .val (.int y1), .val (.int y2), .val (.ref b3), .unset, .unset, .unset, .unset, .unset, .unset] [(.int y2)]))
  refine Goes.step (fun t k => XS.bipush X23.here hx rfl (hb hby at_80) k) ?_
  show Goes _ _ _ _ _ _ _ (T23.setTop (mkF m 82 #[.val (.int p0), .val (.int p1), .val (.int y1), .val (.int y2), .val (.ref b3), .unset, .unset, .unset, .unset, .unset, .unset] [(.int (6 : Int32)), (.int y2)]))
  suffices k26 : ∀ (T26 : State) (h26 : Heap) (L26 : List Loc) (x26_0 : Int64) (x26_1 : Int64), Stand p l e room_1 s m #[(.int p0), (.int p1)] below meth c T26 L26 1 3 → T26.heap = h26 → Fr n0 L26 → Keep h0 h26 [] → n0 ≤ h26.size → Exa Z h26 b3 "com/example/chernoff/chernoff/monitor/Rounds" → Fld Z h26 b3 "com/example/chernoff/chernoff/monitor/Rounds" "stretches" "J" (.long (y1.toInt64)) → Fld Z h26 b3 "com/example/chernoff/chernoff/monitor/Rounds" "number" "J" (.long x26_0) → Fld Z h26 b3 "com/example/chernoff/chernoff/monitor/Rounds" "position" "J" (.long x26_1) → x26_0 = (if (6 : Int32) < y2 then (g3_2 (y1.toInt64) x23_0 x23_1) else x23_0) → x26_1 = (if (6 : Int32) < y2 then (g3_3 (y1.toInt64) x23_0 x23_1) else x23_1) → Goes p e below s (Q0 Z p0 p1 h0 n0) kC0 kS0 (T26.setTop (mkF m 90 #[.val (.int p0), .val (.int p1), .val (.int y1), .val (.int y2), .val (.ref b3), .unset, .unset, .unset, .unset, .unset, .unset] [])) by
    by_cases hc82_24 : (6 : Int32) < y2
    · refine Goes.step (fun t k => XS.icmpNo X23.here hx rfl (hb hby at_82) rfl (tlt hc82_24).2.2.2 k) ?_
      show Goes _ _ _ _ _ _ _ (T23.setTop (mkF m 85 #[.val (.int p0), .val (.int p1), .val (.int y1), .val (.int y2), .val (.ref b3), .unset, .unset, .unset, .unset, .unset, .unset] []))
      refine Goes.step (fun t k => XS.aload X23.here hx rfl (hb hby at_85) rfl rfl k) ?_
      show Goes _ _ _ _ _ _ _ (T23.setTop (mkF m 87 #[.val (.int p0), .val (.int p1), .val (.int y1), .val (.int y2), .val (.ref b3), .unset, .unset, .unset, .unset, .unset, .unset] [(.ref b3)]))
      obtain ⟨cq25, kq25, q25a, q25b, q25c⟩ := isOf hZ e23 F23_0
      obtain ⟨_, _, ⟨T25, L25, k25, n25⟩, -, X25, ⟨Lc25, hQ25, l25, y25, z25⟩, st25⟩ := X23.virtualBack hx (y := (⟨"com/example/chernoff/chernoff/monitor/Rounds", "next", "()V"⟩ : MethodName)) (z := (⟨"com/example/chernoff/chernoff/monitor/Rounds", "next", "()V"⟩ : MethodName)) hown (mvT hZ (hw _ (List.mem_of_getElem? (i := 11) rfl))) (mvT hZ (hw _ (List.mem_of_getElem? (i := 12) rfl))) (notFace_of_selects (args := #[]) (mvT hZ (hw _ (List.mem_of_getElem? (i := 14) rfl)))) (mvT hZ (hw _ (List.mem_of_getElem? (i := 14) rfl))) (mvT hZ (hw _ (List.mem_of_getElem? (i := 13) rfl))) (by decide) (backOf (W := 0) (rm3 l Z tA hw [] b3 (y1.toInt64) x23_0 x23_1 h23 n0 Z23 F23_0 F23_1 F23_2 F23_3 Zs3) hZ (hw _ (List.mem_of_getElem? (i := 15) rfl)) (hw _ (List.mem_of_getElem? (i := 2) rfl)) (by decide) (by decide)) q25a q25c (g := (mkF m 87 #[.val (.int p0), .val (.int p1), .val (.int y1), .val (.int y2), .val (.ref b3), .unset, .unset, .unset, .unset, .unset, .unset] [(.ref b3)])) rfl (by rw [hml]; rfl) (Steps.refl _) (argsL := []) (rest := []) (lenOf own_pd1 rfl) rfl (by show 2 * 0 + _ ≤ _; exact Nat.le_of_eq rfl) (hb hby at_87) (fun _ _ => ⟨rfl, e23, (by decide : 1 + 0 ≤ _), (by decide : 3 + 0 ≤ _)⟩)
      dsimp only [Pt.U, Pt.locs, Pt.cells, Pt.slots] at X25 l25 y25 z25 st25 hQ25
      subst l25 y25 z25
      generalize e25 : T25.heap = h25 at hQ25
      obtain ⟨rfl, Nq25, Kq25, G25_0, G25_1, G25_2, G25_3⟩ := hQ25
      have N25 := Fr.app N23 Nq25
      have K25 := K23.trans Kq25 (allS (Or.inr Zh3) all0)
      have Z25 := Nat.le_trans Z23 Kq25.1
      change Stand _ _ _ _ _ _ _ _ _ _ _ _ 1 3 at X25
      refine Goes.step (fun t k => st25.trans k) ?_
      show Goes _ _ _ _ _ _ _ (T25.setTop (mkF m 90 #[.val (.int p0), .val (.int p1), .val (.int y1), .val (.int y2), .val (.ref b3), .unset, .unset, .unset, .unset, .unset, .unset] []))
      exact k26 _ _ _ _ _ X25 e25 N25 K25 Z25 G25_0 G25_1 G25_2 G25_3 (if_pos hc82_24).symm (if_pos hc82_24).symm
    · refine Goes.step (fun t k => XS.icmpYes X23.here hx rfl (pc0 := 82) (pc' := 90) rfl (hb hby at_82) rfl (flt hc82_24).2.2.2 (by decide) (by decide) k) ?_
      show Goes _ _ _ _ _ _ _ (T23.setTop (mkF m 90 #[.val (.int p0), .val (.int p1), .val (.int y1), .val (.int y2), .val (.ref b3), .unset, .unset, .unset, .unset, .unset, .unset] []))
      exact k26 _ _ _ _ _ X23 e23 N23 K23 Z23 F23_0 F23_1 F23_2 F23_3 (if_neg hc82_24).symm (if_neg hc82_24).symm
  intro T26 h26 L26 x26_0 x26_1 X26 e26 N26 K26 Z26 F26_0 F26_1 F26_2 F26_3 hx26_0 hx26_1
  refine Goes.step (fun t k => XS.iloadN X26.here hx rfl (hb hby at_90) rfl k) ?_
  show Goes _ _ _ _ _ _ _ (T26.setTop (mkF m 91 #[.val (.int p0), .val (.int p1), .val (.int y1), .val (.int y2), .val (.ref b3), .unset, .unset, .unset, .unset, .unset, .unset] [(.int y2)]))
  refine Goes.step (fun t k => XS.bipush X26.here hx rfl (hb hby at_91) k) ?_
  show Goes _ _ _ _ _ _ _ (T26.setTop (mkF m 93 #[.val (.int p0), .val (.int p1), .val (.int y1), .val (.int y2), .val (.ref b3), .unset, .unset, .unset, .unset, .unset, .unset] [(.int (7 : Int32)), (.int y2)]))
  suffices k29 : ∀ (T29 : State) (h29 : Heap) (L29 : List Loc) (x29_0 : Int64) (x29_1 : Int64), Stand p l e room_1 s m #[(.int p0), (.int p1)] below meth c T29 L29 1 3 → T29.heap = h29 → Fr n0 L29 → Keep h0 h29 [] → n0 ≤ h29.size → Exa Z h29 b3 "com/example/chernoff/chernoff/monitor/Rounds" → Fld Z h29 b3 "com/example/chernoff/chernoff/monitor/Rounds" "stretches" "J" (.long (y1.toInt64)) → Fld Z h29 b3 "com/example/chernoff/chernoff/monitor/Rounds" "number" "J" (.long x29_0) → Fld Z h29 b3 "com/example/chernoff/chernoff/monitor/Rounds" "position" "J" (.long x29_1) → x29_0 = (if (7 : Int32) < y2 then (g3_2 (y1.toInt64) x26_0 x26_1) else x26_0) → x29_1 = (if (7 : Int32) < y2 then (g3_3 (y1.toInt64) x26_0 x26_1) else x26_1) → Goes p e below s (Q0 Z p0 p1 h0 n0) kC0 kS0 (T29.setTop (mkF m 101 #[.val (.int p0), .val (.int p1), .val (.int y1), .val (.int y2), .val (.ref b3), .unset, .unset, .unset, .unset, .unset, .unset] [])) by
    by_cases hc93_27 : (7 : Int32) < y2
    · refine Goes.step (fun t k => XS.icmpNo X26.here hx rfl (hb hby at_93) rfl (tlt hc93_27).2.2.2 k) ?_
      show Goes _ _ _ _ _ _ _ (T26.setTop (mkF m 96 #[.val (.int p0), .val (.int p1), .val (.int y1), .val (.int y2), .val (.ref b3), .unset, .unset, .unset, .unset, .unset, .unset] []))
      refine Goes.step (fun t k => XS.aload X26.here hx rfl (hb hby at_96) rfl rfl k) ?_
      show Goes _ _ _ _ _ _ _ (T26.setTop (mkF m 98 #[.val (.int p0), .val (.int p1), .val (.int y1), .val (.int y2), .val (.ref b3), .unset, .unset, .unset, .unset, .unset, .unset] [(.ref b3)]))
      obtain ⟨cq28, kq28, q28a, q28b, q28c⟩ := isOf hZ e26 F26_0
      obtain ⟨_, _, ⟨T28, L28, k28, n28⟩, -, X28, ⟨Lc28, hQ28, l28, y28, z28⟩, st28⟩ := X26.virtualBack hx (y := (⟨"com/example/chernoff/chernoff/monitor/Rounds", "next", "()V"⟩ : MethodName)) (z := (⟨"com/example/chernoff/chernoff/monitor/Rounds", "next", "()V"⟩ : MethodName)) hown (mvT hZ (hw _ (List.mem_of_getElem? (i := 11) rfl))) (mvT hZ (hw _ (List.mem_of_getElem? (i := 12) rfl))) (notFace_of_selects (args := #[]) (mvT hZ (hw _ (List.mem_of_getElem? (i := 14) rfl)))) (mvT hZ (hw _ (List.mem_of_getElem? (i := 14) rfl))) (mvT hZ (hw _ (List.mem_of_getElem? (i := 13) rfl))) (by decide) (backOf (W := 0) (rm3 l Z tA hw [] b3 (y1.toInt64) x26_0 x26_1 h26 n0 Z26 F26_0 F26_1 F26_2 F26_3 Zs3) hZ (hw _ (List.mem_of_getElem? (i := 15) rfl)) (hw _ (List.mem_of_getElem? (i := 2) rfl)) (by decide) (by decide)) q28a q28c (g := (mkF m 98 #[.val (.int p0), .val (.int p1), .val (.int y1), .val (.int y2), .val (.ref b3), .unset, .unset, .unset, .unset, .unset, .unset] [(.ref b3)])) rfl (by rw [hml]; rfl) (Steps.refl _) (argsL := []) (rest := []) (lenOf own_pd1 rfl) rfl (by show 2 * 0 + _ ≤ _; exact Nat.le_of_eq rfl) (hb hby at_98) (fun _ _ => ⟨rfl, e26, (by decide : 1 + 0 ≤ _), (by decide : 3 + 0 ≤ _)⟩)
      dsimp only [Pt.U, Pt.locs, Pt.cells, Pt.slots] at X28 l28 y28 z28 st28 hQ28
      subst l28 y28 z28
      generalize e28 : T28.heap = h28 at hQ28
      obtain ⟨rfl, Nq28, Kq28, G28_0, G28_1, G28_2, G28_3⟩ := hQ28
      have N28 := Fr.app N26 Nq28
      have K28 := K26.trans Kq28 (allS (Or.inr Zh3) all0)
      have Z28 := Nat.le_trans Z26 Kq28.1
      change Stand _ _ _ _ _ _ _ _ _ _ _ _ 1 3 at X28
      refine Goes.step (fun t k => st28.trans k) ?_
      show Goes _ _ _ _ _ _ _ (T28.setTop (mkF m 101 #[.val (.int p0), .val (.int p1), .val (.int y1), .val (.int y2), .val (.ref b3), .unset, .unset, .unset, .unset, .unset, .unset] []))
      exact k29 _ _ _ _ _ X28 e28 N28 K28 Z28 G28_0 G28_1 G28_2 G28_3 (if_pos hc93_27).symm (if_pos hc93_27).symm
    · refine Goes.step (fun t k => XS.icmpYes X26.here hx rfl (pc0 := 93) (pc' := 101) rfl (hb hby at_93) rfl (flt hc93_27).2.2.2 (by decide) (by decide) k) ?_
      show Goes _ _ _ _ _ _ _ (T26.setTop (mkF m 101 #[.val (.int p0), .val (.int p1), .val (.int y1), .val (.int y2), .val (.ref b3), .unset, .unset, .unset, .unset, .unset, .unset] []))
      exact k29 _ _ _ _ _ X26 e26 N26 K26 Z26 F26_0 F26_1 F26_2 F26_3 (if_neg hc93_27).symm (if_neg hc93_27).symm
  intro T29 h29 L29 x29_0 x29_1 X29 e29 N29 K29 Z29 F29_0 F29_1 F29_2 F29_3 hx29_0 hx29_1
  refine Goes.step (fun t k => XS.iloadN X29.here hx rfl (hb hby at_101) rfl k) ?_
  show Goes _ _ _ _ _ _ _ (T29.setTop (mkF m 102 #[.val (.int p0), .val (.int p1), .val (.int y1), .val (.int y2), .val (.ref b3), .unset, .unset, .unset, .unset, .unset, .unset] [(.int y2)]))
  refine Goes.step (fun t k => XS.iloadN X29.here hx rfl (hb hby at_102) rfl k) ?_
  show Goes _ _ _ _ _ _ _ (T29.setTop (mkF m 103 #[.val (.int p0), .val (.int p1), .val (.int y1), .val (.int y2), .val (.ref b3), .unset, .unset, .unset, .unset, .unset, .unset] [(.int y1), (.int y2)]))
  suffices k33 : ∀ (x33_0 : Int64) (x33_1 : Int64), x33_0 = (if y1 < y2 then (if ((3 : Int64) * (y1.toInt64)) < (y2.toInt64) then (if ((6 : Int64) * (y1.toInt64)) < (y2.toInt64) then (4 : Int64) else (3 : Int64)) else (2 : Int64)) else (1 : Int64)) → x33_1 = (if y1 < y2 then (if ((3 : Int64) * (y1.toInt64)) < (y2.toInt64) then (if ((6 : Int64) * (y1.toInt64)) < (y2.toInt64) then ((6 : Int64) * (y1.toInt64)) else ((3 : Int64) * (y1.toInt64))) else (y1.toInt64)) else (0 : Int64)) → Goes p e below s (Q0 Z p0 p1 h0 n0) kC0 kS0 (T29.setTop (mkF m 180 #[.val (.int p0), .val (.int p1), .val (.int y1), .val (.int y2), .val (.ref b3), .val (.long x33_0), .second, .val (.long x33_1), .second, .unset, .unset] [])) by
    by_cases hc103_30 : y1 < y2
    · refine Goes.step (fun t k => XS.icmpYes X29.here hx rfl (pc0 := 103) (pc' := 115) rfl (hb hby at_103) rfl (tlt hc103_30).2.2.1 (by decide) (by decide) k) ?_
      show Goes _ _ _ _ _ _ _ (T29.setTop (mkF m 115 #[.val (.int p0), .val (.int p1), .val (.int y1), .val (.int y2), .val (.ref b3), .unset, .unset, .unset, .unset, .unset, .unset] []))
      refine Goes.step (fun t k => XS.iloadN X29.here hx rfl (hb hby at_115) rfl k) ?_
      show Goes _ _ _ _ _ _ _ (T29.setTop (mkF m 116 #[.val (.int p0), .val (.int p1), .val (.int y1), .val (.int y2), .val (.ref b3), .unset, .unset, .unset, .unset, .unset, .unset] [(.int y2)]))
      refine Goes.step (fun t k => XS.i2l X29.here hx rfl (hb hby at_116) rfl k) ?_
      show Goes _ _ _ _ _ _ _ (T29.setTop (mkF m 117 #[.val (.int p0), .val (.int p1), .val (.int y1), .val (.int y2), .val (.ref b3), .unset, .unset, .unset, .unset, .unset, .unset] [(.long (y2.toInt64))]))
      refine Goes.step (fun t k => X29.ldc2Long hx hown (mvT hZ (hw _ (List.mem_of_getElem? (i := 20) rfl))) (g := (mkF m 117 #[.val (.int p0), .val (.int p1), .val (.int y1), .val (.int y2), .val (.ref b3), .unset, .unset, .unset, .unset, .unset, .unset] [(.long (y2.toInt64))])) rfl (hb hby at_117) _ k) ?_
      show Goes _ _ _ _ _ _ _ (T29.setTop (mkF m 120 #[.val (.int p0), .val (.int p1), .val (.int y1), .val (.int y2), .val (.ref b3), .unset, .unset, .unset, .unset, .unset, .unset] [(.long (3 : Int64)), (.long (y2.toInt64))]))
      refine Goes.step (fun t k => XS.iloadN X29.here hx rfl (hb hby at_120) rfl k) ?_
      show Goes _ _ _ _ _ _ _ (T29.setTop (mkF m 121 #[.val (.int p0), .val (.int p1), .val (.int y1), .val (.int y2), .val (.ref b3), .unset, .unset, .unset, .unset, .unset, .unset] [(.int y1), (.long (3 : Int64)), (.long (y2.toInt64))]))
      refine Goes.step (fun t k => XS.i2l X29.here hx rfl (hb hby at_121) rfl k) ?_
      show Goes _ _ _ _ _ _ _ (T29.setTop (mkF m 122 #[.val (.int p0), .val (.int p1), .val (.int y1), .val (.int y2), .val (.ref b3), .unset, .unset, .unset, .unset, .unset, .unset] [(.long (y1.toInt64)), (.long (3 : Int64)), (.long (y2.toInt64))]))
      refine Goes.step (fun t k => XS.lmul X29.here hx rfl (hb hby at_122) rfl k) ?_
      show Goes _ _ _ _ _ _ _ (T29.setTop (mkF m 123 #[.val (.int p0), .val (.int p1), .val (.int y1), .val (.int y2), .val (.ref b3), .unset, .unset, .unset, .unset, .unset, .unset] [(.long ((3 : Int64) * (y1.toInt64))), (.long (y2.toInt64))]))
      refine Goes.step (fun t k => XS.lcmp X29.here hx rfl (hb hby at_123) rfl k) ?_
      show Goes _ _ _ _ _ _ _ (T29.setTop (mkF m 124 #[.val (.int p0), .val (.int p1), .val (.int y1), .val (.int y2), .val (.ref b3), .unset, .unset, .unset, .unset, .unset, .unset] [(.int (lcmpW (y2.toInt64) ((3 : Int64) * (y1.toInt64))))]))
      by_cases hc124_31 : ((3 : Int64) * (y1.toInt64)) < (y2.toInt64)
      · refine Goes.step (fun t k => XS.ifYes X29.here hx rfl (pc0 := 124) (pc' := 139) rfl (hb hby at_124) rfl ((if0 _ _).trans (tlt ((lw_gt _ _).mpr hc124_31)).2.2.1) (by decide) (by decide) k) ?_
        show Goes _ _ _ _ _ _ _ (T29.setTop (mkF m 139 #[.val (.int p0), .val (.int p1), .val (.int y1), .val (.int y2), .val (.ref b3), .unset, .unset, .unset, .unset, .unset, .unset] []))
        refine Goes.step (fun t k => XS.iloadN X29.here hx rfl (hb hby at_139) rfl k) ?_
        show Goes _ _ _ _ _ _ _ (T29.setTop (mkF m 140 #[.val (.int p0), .val (.int p1), .val (.int y1), .val (.int y2), .val (.ref b3), .unset, .unset, .unset, .unset, .unset, .unset] [(.int y2)]))
        refine Goes.step (fun t k => XS.i2l X29.here hx rfl (hb hby at_140) rfl k) ?_
        show Goes _ _ _ _ _ _ _ (T29.setTop (mkF m 141 #[.val (.int p0), .val (.int p1), .val (.int y1), .val (.int y2), .val (.ref b3), .unset, .unset, .unset, .unset, .unset, .unset] [(.long (y2.toInt64))]))
        refine Goes.step (fun t k => X29.ldc2Long hx hown (mvT hZ (hw _ (List.mem_of_getElem? (i := 21) rfl))) (g := (mkF m 141 #[.val (.int p0), .val (.int p1), .val (.int y1), .val (.int y2), .val (.ref b3), .unset, .unset, .unset, .unset, .unset, .unset] [(.long (y2.toInt64))])) rfl (hb hby at_141) _ k) ?_
        show Goes _ _ _ _ _ _ _ (T29.setTop (mkF m 144 #[.val (.int p0), .val (.int p1), .val (.int y1), .val (.int y2), .val (.ref b3), .unset, .unset, .unset, .unset, .unset, .unset] [(.long (6 : Int64)), (.long (y2.toInt64))]))
        refine Goes.step (fun t k => XS.iloadN X29.here hx rfl (hb hby at_144) rfl k) ?_
        show Goes _ _ _ _ _ _ _ (T29.setTop (mkF m 145 #[.val (.int p0), .val (.int p1), .val (.int y1), .val (.int y2), .val (.ref b3), .unset, .unset, .unset, .unset, .unset, .unset] [(.int y1), (.long (6 : Int64)), (.long (y2.toInt64))]))
        refine Goes.step (fun t k => XS.i2l X29.here hx rfl (hb hby at_145) rfl k) ?_
        show Goes _ _ _ _ _ _ _ (T29.setTop (mkF m 146 #[.val (.int p0), .val (.int p1), .val (.int y1), .val (.int y2), .val (.ref b3), .unset, .unset, .unset, .unset, .unset, .unset] [(.long (y1.toInt64)), (.long (6 : Int64)), (.long (y2.toInt64))]))
        refine Goes.step (fun t k => XS.lmul X29.here hx rfl (hb hby at_146) rfl k) ?_
        show Goes _ _ _ _ _ _ _ (T29.setTop (mkF m 147 #[.val (.int p0), .val (.int p1), .val (.int y1), .val (.int y2), .val (.ref b3), .unset, .unset, .unset, .unset, .unset, .unset] [(.long ((6 : Int64) * (y1.toInt64))), (.long (y2.toInt64))]))
        refine Goes.step (fun t k => XS.lcmp X29.here hx rfl (hb hby at_147) rfl k) ?_
        show Goes _ _ _ _ _ _ _ (T29.setTop (mkF m 148 #[.val (.int p0), .val (.int p1), .val (.int y1), .val (.int y2), .val (.ref b3), .unset, .unset, .unset, .unset, .unset, .unset] [(.int (lcmpW (y2.toInt64) ((6 : Int64) * (y1.toInt64))))]))
        by_cases hc148_32 : ((6 : Int64) * (y1.toInt64)) < (y2.toInt64)
        · refine Goes.step (fun t k => XS.ifYes X29.here hx rfl (pc0 := 148) (pc' := 167) rfl (hb hby at_148) rfl ((if0 _ _).trans (tlt ((lw_gt _ _).mpr hc148_32)).2.2.1) (by decide) (by decide) k) ?_
          show Goes _ _ _ _ _ _ _ (T29.setTop (mkF m 167 #[.val (.int p0), .val (.int p1), .val (.int y1), .val (.int y2), .val (.ref b3), .unset, .unset, .unset, .unset, .unset, .unset] []))
          refine Goes.step (fun t k => X29.ldc2Long hx hown (mvT hZ (hw _ (List.mem_of_getElem? (i := 47) rfl))) (g := (mkF m 167 #[.val (.int p0), .val (.int p1), .val (.int y1), .val (.int y2), .val (.ref b3), .unset, .unset, .unset, .unset, .unset, .unset] [])) rfl (hb hby at_167) _ k) ?_
          show Goes _ _ _ _ _ _ _ (T29.setTop (mkF m 170 #[.val (.int p0), .val (.int p1), .val (.int y1), .val (.int y2), .val (.ref b3), .unset, .unset, .unset, .unset, .unset, .unset] [(.long (4 : Int64))]))
          refine Goes.step (fun t k => XS.lstore X29.here hx rfl (hb hby at_170) rfl (l' := #[.val (.int p0), .val (.int p1), .val (.int y1), .val (.int y2), .val (.ref b3), .val (.long (4 : Int64)), .second, .unset, .unset, .unset, .unset]) rfl k) ?_
          show Goes _ _ _ _ _ _ _ (T29.setTop (mkF m 172 #[.val (.int p0), .val (.int p1), .val (.int y1), .val (.int y2), .val (.ref b3), .val (.long (4 : Int64)), .second, .unset, .unset, .unset, .unset] []))
          refine Goes.step (fun t k => X29.ldc2Long hx hown (mvT hZ (hw _ (List.mem_of_getElem? (i := 21) rfl))) (g := (mkF m 172 #[.val (.int p0), .val (.int p1), .val (.int y1), .val (.int y2), .val (.ref b3), .val (.long (4 : Int64)), .second, .unset, .unset, .unset, .unset] [])) rfl (hb hby at_172) _ k) ?_
          show Goes _ _ _ _ _ _ _ (T29.setTop (mkF m 175 #[.val (.int p0), .val (.int p1), .val (.int y1), .val (.int y2), .val (.ref b3), .val (.long (4 : Int64)), .second, .unset, .unset, .unset, .unset] [(.long (6 : Int64))]))
          refine Goes.step (fun t k => XS.iloadN X29.here hx rfl (hb hby at_175) rfl k) ?_
          show Goes _ _ _ _ _ _ _ (T29.setTop (mkF m 176 #[.val (.int p0), .val (.int p1), .val (.int y1), .val (.int y2), .val (.ref b3), .val (.long (4 : Int64)), .second, .unset, .unset, .unset, .unset] [(.int y1), (.long (6 : Int64))]))
          refine Goes.step (fun t k => XS.i2l X29.here hx rfl (hb hby at_176) rfl k) ?_
          show Goes _ _ _ _ _ _ _ (T29.setTop (mkF m 177 #[.val (.int p0), .val (.int p1), .val (.int y1), .val (.int y2), .val (.ref b3), .val (.long (4 : Int64)), .second, .unset, .unset, .unset, .unset] [(.long (y1.toInt64)), (.long (6 : Int64))]))
          refine Goes.step (fun t k => XS.lmul X29.here hx rfl (hb hby at_177) rfl k) ?_
          show Goes _ _ _ _ _ _ _ (T29.setTop (mkF m 178 #[.val (.int p0), .val (.int p1), .val (.int y1), .val (.int y2), .val (.ref b3), .val (.long (4 : Int64)), .second, .unset, .unset, .unset, .unset] [(.long ((6 : Int64) * (y1.toInt64)))]))
          refine Goes.step (fun t k => XS.lstore X29.here hx rfl (hb hby at_178) rfl (l' := #[.val (.int p0), .val (.int p1), .val (.int y1), .val (.int y2), .val (.ref b3), .val (.long (4 : Int64)), .second, .val (.long ((6 : Int64) * (y1.toInt64))), .second, .unset, .unset]) rfl k) ?_
          show Goes _ _ _ _ _ _ _ (T29.setTop (mkF m 180 #[.val (.int p0), .val (.int p1), .val (.int y1), .val (.int y2), .val (.ref b3), .val (.long (4 : Int64)), .second, .val (.long ((6 : Int64) * (y1.toInt64))), .second, .unset, .unset] []))
          exact k33 _ _ ((if_pos hc103_30).trans ((if_pos hc124_31).trans (if_pos hc148_32))).symm ((if_pos hc103_30).trans ((if_pos hc124_31).trans (if_pos hc148_32))).symm
        · refine Goes.step (fun t k => XS.ifNo X29.here hx rfl (hb hby at_148) rfl ((if0 _ _).trans (flt (fun q => hc148_32 ((lw_gt _ _).mp q))).2.2.1) k) ?_
          show Goes _ _ _ _ _ _ _ (T29.setTop (mkF m 151 #[.val (.int p0), .val (.int p1), .val (.int y1), .val (.int y2), .val (.ref b3), .unset, .unset, .unset, .unset, .unset, .unset] []))
          refine Goes.step (fun t k => X29.ldc2Long hx hown (mvT hZ (hw _ (List.mem_of_getElem? (i := 20) rfl))) (g := (mkF m 151 #[.val (.int p0), .val (.int p1), .val (.int y1), .val (.int y2), .val (.ref b3), .unset, .unset, .unset, .unset, .unset, .unset] [])) rfl (hb hby at_151) _ k) ?_
          show Goes _ _ _ _ _ _ _ (T29.setTop (mkF m 154 #[.val (.int p0), .val (.int p1), .val (.int y1), .val (.int y2), .val (.ref b3), .unset, .unset, .unset, .unset, .unset, .unset] [(.long (3 : Int64))]))
          refine Goes.step (fun t k => XS.lstore X29.here hx rfl (hb hby at_154) rfl (l' := #[.val (.int p0), .val (.int p1), .val (.int y1), .val (.int y2), .val (.ref b3), .val (.long (3 : Int64)), .second, .unset, .unset, .unset, .unset]) rfl k) ?_
          show Goes _ _ _ _ _ _ _ (T29.setTop (mkF m 156 #[.val (.int p0), .val (.int p1), .val (.int y1), .val (.int y2), .val (.ref b3), .val (.long (3 : Int64)), .second, .unset, .unset, .unset, .unset] []))
          refine Goes.step (fun t k => X29.ldc2Long hx hown (mvT hZ (hw _ (List.mem_of_getElem? (i := 20) rfl))) (g := (mkF m 156 #[.val (.int p0), .val (.int p1), .val (.int y1), .val (.int y2), .val (.ref b3), .val (.long (3 : Int64)), .second, .unset, .unset, .unset, .unset] [])) rfl (hb hby at_156) _ k) ?_
          show Goes _ _ _ _ _ _ _ (T29.setTop (mkF m 159 #[.val (.int p0), .val (.int p1), .val (.int y1), .val (.int y2), .val (.ref b3), .val (.long (3 : Int64)), .second, .unset, .unset, .unset, .unset] [(.long (3 : Int64))]))
          refine Goes.step (fun t k => XS.iloadN X29.here hx rfl (hb hby at_159) rfl k) ?_
          show Goes _ _ _ _ _ _ _ (T29.setTop (mkF m 160 #[.val (.int p0), .val (.int p1), .val (.int y1), .val (.int y2), .val (.ref b3), .val (.long (3 : Int64)), .second, .unset, .unset, .unset, .unset] [(.int y1), (.long (3 : Int64))]))
          refine Goes.step (fun t k => XS.i2l X29.here hx rfl (hb hby at_160) rfl k) ?_
          show Goes _ _ _ _ _ _ _ (T29.setTop (mkF m 161 #[.val (.int p0), .val (.int p1), .val (.int y1), .val (.int y2), .val (.ref b3), .val (.long (3 : Int64)), .second, .unset, .unset, .unset, .unset] [(.long (y1.toInt64)), (.long (3 : Int64))]))
          refine Goes.step (fun t k => XS.lmul X29.here hx rfl (hb hby at_161) rfl k) ?_
          show Goes _ _ _ _ _ _ _ (T29.setTop (mkF m 162 #[.val (.int p0), .val (.int p1), .val (.int y1), .val (.int y2), .val (.ref b3), .val (.long (3 : Int64)), .second, .unset, .unset, .unset, .unset] [(.long ((3 : Int64) * (y1.toInt64)))]))
          refine Goes.step (fun t k => XS.lstore X29.here hx rfl (hb hby at_162) rfl (l' := #[.val (.int p0), .val (.int p1), .val (.int y1), .val (.int y2), .val (.ref b3), .val (.long (3 : Int64)), .second, .val (.long ((3 : Int64) * (y1.toInt64))), .second, .unset, .unset]) rfl k) ?_
          show Goes _ _ _ _ _ _ _ (T29.setTop (mkF m 164 #[.val (.int p0), .val (.int p1), .val (.int y1), .val (.int y2), .val (.ref b3), .val (.long (3 : Int64)), .second, .val (.long ((3 : Int64) * (y1.toInt64))), .second, .unset, .unset] []))
          refine Goes.step (fun t k => XS.goto X29.here hx rfl (pc0 := 164) (pc' := 180) rfl (hb hby at_164) (by decide) (by decide) k) ?_
          show Goes _ _ _ _ _ _ _ (T29.setTop (mkF m 180 #[.val (.int p0), .val (.int p1), .val (.int y1), .val (.int y2), .val (.ref b3), .val (.long (3 : Int64)), .second, .val (.long ((3 : Int64) * (y1.toInt64))), .second, .unset, .unset] []))
          exact k33 _ _ ((if_pos hc103_30).trans ((if_pos hc124_31).trans (if_neg hc148_32))).symm ((if_pos hc103_30).trans ((if_pos hc124_31).trans (if_neg hc148_32))).symm
      · refine Goes.step (fun t k => XS.ifNo X29.here hx rfl (hb hby at_124) rfl ((if0 _ _).trans (flt (fun q => hc124_31 ((lw_gt _ _).mp q))).2.2.1) k) ?_
        show Goes _ _ _ _ _ _ _ (T29.setTop (mkF m 127 #[.val (.int p0), .val (.int p1), .val (.int y1), .val (.int y2), .val (.ref b3), .unset, .unset, .unset, .unset, .unset, .unset] []))
        refine Goes.step (fun t k => X29.ldc2Long hx hown (mvT hZ (hw _ (List.mem_of_getElem? (i := 48) rfl))) (g := (mkF m 127 #[.val (.int p0), .val (.int p1), .val (.int y1), .val (.int y2), .val (.ref b3), .unset, .unset, .unset, .unset, .unset, .unset] [])) rfl (hb hby at_127) _ k) ?_
        show Goes _ _ _ _ _ _ _ (T29.setTop (mkF m 130 #[.val (.int p0), .val (.int p1), .val (.int y1), .val (.int y2), .val (.ref b3), .unset, .unset, .unset, .unset, .unset, .unset] [(.long (2 : Int64))]))
        refine Goes.step (fun t k => XS.lstore X29.here hx rfl (hb hby at_130) rfl (l' := #[.val (.int p0), .val (.int p1), .val (.int y1), .val (.int y2), .val (.ref b3), .val (.long (2 : Int64)), .second, .unset, .unset, .unset, .unset]) rfl k) ?_
        show Goes _ _ _ _ _ _ _ (T29.setTop (mkF m 132 #[.val (.int p0), .val (.int p1), .val (.int y1), .val (.int y2), .val (.ref b3), .val (.long (2 : Int64)), .second, .unset, .unset, .unset, .unset] []))
        refine Goes.step (fun t k => XS.iloadN X29.here hx rfl (hb hby at_132) rfl k) ?_
        show Goes _ _ _ _ _ _ _ (T29.setTop (mkF m 133 #[.val (.int p0), .val (.int p1), .val (.int y1), .val (.int y2), .val (.ref b3), .val (.long (2 : Int64)), .second, .unset, .unset, .unset, .unset] [(.int y1)]))
        refine Goes.step (fun t k => XS.i2l X29.here hx rfl (hb hby at_133) rfl k) ?_
        show Goes _ _ _ _ _ _ _ (T29.setTop (mkF m 134 #[.val (.int p0), .val (.int p1), .val (.int y1), .val (.int y2), .val (.ref b3), .val (.long (2 : Int64)), .second, .unset, .unset, .unset, .unset] [(.long (y1.toInt64))]))
        refine Goes.step (fun t k => XS.lstore X29.here hx rfl (hb hby at_134) rfl (l' := #[.val (.int p0), .val (.int p1), .val (.int y1), .val (.int y2), .val (.ref b3), .val (.long (2 : Int64)), .second, .val (.long (y1.toInt64)), .second, .unset, .unset]) rfl k) ?_
        show Goes _ _ _ _ _ _ _ (T29.setTop (mkF m 136 #[.val (.int p0), .val (.int p1), .val (.int y1), .val (.int y2), .val (.ref b3), .val (.long (2 : Int64)), .second, .val (.long (y1.toInt64)), .second, .unset, .unset] []))
        refine Goes.step (fun t k => XS.goto X29.here hx rfl (pc0 := 136) (pc' := 180) rfl (hb hby at_136) (by decide) (by decide) k) ?_
        show Goes _ _ _ _ _ _ _ (T29.setTop (mkF m 180 #[.val (.int p0), .val (.int p1), .val (.int y1), .val (.int y2), .val (.ref b3), .val (.long (2 : Int64)), .second, .val (.long (y1.toInt64)), .second, .unset, .unset] []))
        exact k33 _ _ ((if_pos hc103_30).trans (if_neg hc124_31)).symm ((if_pos hc103_30).trans (if_neg hc124_31)).symm
    · refine Goes.step (fun t k => XS.icmpNo X29.here hx rfl (hb hby at_103) rfl (flt hc103_30).2.2.1 k) ?_
      show Goes _ _ _ _ _ _ _ (T29.setTop (mkF m 106 #[.val (.int p0), .val (.int p1), .val (.int y1), .val (.int y2), .val (.ref b3), .unset, .unset, .unset, .unset, .unset, .unset] []))
      refine Goes.step (fun t k => XS.lconst X29.here hx rfl (hb hby at_106) k) ?_
      show Goes _ _ _ _ _ _ _ (T29.setTop (mkF m 107 #[.val (.int p0), .val (.int p1), .val (.int y1), .val (.int y2), .val (.ref b3), .unset, .unset, .unset, .unset, .unset, .unset] [(.long (1 : Int64))]))
      refine Goes.step (fun t k => XS.lstore X29.here hx rfl (hb hby at_107) rfl (l' := #[.val (.int p0), .val (.int p1), .val (.int y1), .val (.int y2), .val (.ref b3), .val (.long (1 : Int64)), .second, .unset, .unset, .unset, .unset]) rfl k) ?_
      show Goes _ _ _ _ _ _ _ (T29.setTop (mkF m 109 #[.val (.int p0), .val (.int p1), .val (.int y1), .val (.int y2), .val (.ref b3), .val (.long (1 : Int64)), .second, .unset, .unset, .unset, .unset] []))
      refine Goes.step (fun t k => XS.lconst X29.here hx rfl (hb hby at_109) k) ?_
      show Goes _ _ _ _ _ _ _ (T29.setTop (mkF m 110 #[.val (.int p0), .val (.int p1), .val (.int y1), .val (.int y2), .val (.ref b3), .val (.long (1 : Int64)), .second, .unset, .unset, .unset, .unset] [(.long (0 : Int64))]))
      refine Goes.step (fun t k => XS.lstore X29.here hx rfl (hb hby at_110) rfl (l' := #[.val (.int p0), .val (.int p1), .val (.int y1), .val (.int y2), .val (.ref b3), .val (.long (1 : Int64)), .second, .val (.long (0 : Int64)), .second, .unset, .unset]) rfl k) ?_
      show Goes _ _ _ _ _ _ _ (T29.setTop (mkF m 112 #[.val (.int p0), .val (.int p1), .val (.int y1), .val (.int y2), .val (.ref b3), .val (.long (1 : Int64)), .second, .val (.long (0 : Int64)), .second, .unset, .unset] []))
      refine Goes.step (fun t k => XS.goto X29.here hx rfl (pc0 := 112) (pc' := 180) rfl (hb hby at_112) (by decide) (by decide) k) ?_
      show Goes _ _ _ _ _ _ _ (T29.setTop (mkF m 180 #[.val (.int p0), .val (.int p1), .val (.int y1), .val (.int y2), .val (.ref b3), .val (.long (1 : Int64)), .second, .val (.long (0 : Int64)), .second, .unset, .unset] []))
      exact k33 _ _ (if_neg hc103_30).symm (if_neg hc103_30).symm
  intro x33_0 x33_1 hx33_0 hx33_1
  refine Goes.step (fun t k => XS.iloadN X29.here hx rfl (hb hby at_180) rfl k) ?_
  show Goes _ _ _ _ _ _ _ (T29.setTop (mkF m 181 #[.val (.int p0), .val (.int p1), .val (.int y1), .val (.int y2), .val (.ref b3), .val (.long x33_0), .second, .val (.long x33_1), .second, .unset, .unset] [(.int y2)]))
  refine Goes.step (fun t k => XS.i2l X29.here hx rfl (hb hby at_181) rfl k) ?_
  show Goes _ _ _ _ _ _ _ (T29.setTop (mkF m 182 #[.val (.int p0), .val (.int p1), .val (.int y1), .val (.int y2), .val (.ref b3), .val (.long x33_0), .second, .val (.long x33_1), .second, .unset, .unset] [(.long (y2.toInt64))]))
  refine Goes.step (fun t k => XS.lload X29.here hx rfl (hb hby at_182) rfl k) ?_
  show Goes _ _ _ _ _ _ _ (T29.setTop (mkF m 184 #[.val (.int p0), .val (.int p1), .val (.int y1), .val (.int y2), .val (.ref b3), .val (.long x33_0), .second, .val (.long x33_1), .second, .unset, .unset] [(.long x33_1), (.long (y2.toInt64))]))
  refine Goes.step (fun t k => XS.lsub X29.here hx rfl (hb hby at_184) rfl k) ?_
  show Goes _ _ _ _ _ _ _ (T29.setTop (mkF m 185 #[.val (.int p0), .val (.int p1), .val (.int y1), .val (.int y2), .val (.ref b3), .val (.long x33_0), .second, .val (.long x33_1), .second, .unset, .unset] [(.long ((y2.toInt64) - x33_1))]))
  refine Goes.step (fun t k => XS.lstore X29.here hx rfl (hb hby at_185) rfl (l' := #[.val (.int p0), .val (.int p1), .val (.int y1), .val (.int y2), .val (.ref b3), .val (.long x33_0), .second, .val (.long x33_1), .second, .val (.long ((y2.toInt64) - x33_1)), .second]) rfl k) ?_
  show Goes _ _ _ _ _ _ _ (T29.setTop (mkF m 187 #[.val (.int p0), .val (.int p1), .val (.int y1), .val (.int y2), .val (.ref b3), .val (.long x33_0), .second, .val (.long x33_1), .second, .val (.long ((y2.toInt64) - x33_1)), .second] []))
  refine Goes.step (fun t k => XS.aload X29.here hx rfl (hb hby at_187) rfl rfl k) ?_
  show Goes _ _ _ _ _ _ _ (T29.setTop (mkF m 189 #[.val (.int p0), .val (.int p1), .val (.int y1), .val (.int y2), .val (.ref b3), .val (.long x33_0), .second, .val (.long x33_1), .second, .val (.long ((y2.toInt64) - x33_1)), .second] [(.ref b3)]))
  obtain ⟨cq34, kq34, q34a, q34b, q34c⟩ := isOf hZ e29 F29_0
  obtain ⟨_, _, ⟨T34, L34, k34, n34⟩, -, X34, ⟨Lc34, hQ34, l34, y34, z34⟩, st34⟩ := X29.virtualBack hx (y := (⟨"com/example/chernoff/chernoff/monitor/Rounds", "number", "()J"⟩ : MethodName)) (z := (⟨"com/example/chernoff/chernoff/monitor/Rounds", "number", "()J"⟩ : MethodName)) hown (mvT hZ (hw _ (List.mem_of_getElem? (i := 22) rfl))) (mvT hZ (hw _ (List.mem_of_getElem? (i := 23) rfl))) (notFace_of_selects (args := #[]) (mvT hZ (hw _ (List.mem_of_getElem? (i := 25) rfl)))) (mvT hZ (hw _ (List.mem_of_getElem? (i := 25) rfl))) (mvT hZ (hw _ (List.mem_of_getElem? (i := 24) rfl))) (by decide) (backOf (W := 0) (rm4 l Z tA hw [] b3 x29_0 h29 F29_2) hZ (hw _ (List.mem_of_getElem? (i := 26) rfl)) (hw _ (List.mem_of_getElem? (i := 2) rfl)) (by decide) (by decide)) q34a q34c (g := (mkF m 189 #[.val (.int p0), .val (.int p1), .val (.int y1), .val (.int y2), .val (.ref b3), .val (.long x33_0), .second, .val (.long x33_1), .second, .val (.long ((y2.toInt64) - x33_1)), .second] [(.ref b3)])) rfl (by rw [hml]; rfl) (Steps.refl _) (argsL := []) (rest := []) (lenOf own_pd2 rfl) rfl (by show 2 * 0 + _ ≤ _; exact Nat.le_of_eq rfl) (hb hby at_189) (fun _ _ => ⟨rfl, e29, (by decide : 1 + 0 ≤ _), (by decide : 3 + 0 ≤ _)⟩)
  dsimp only [Pt.U, Pt.locs, Pt.cells, Pt.slots] at X34 l34 y34 z34 st34 hQ34
  subst l34 y34 z34
  obtain ⟨rfl, rfl, e34⟩ := hQ34
  try rw [List.append_nil] at X34
  change Stand _ _ _ _ _ _ _ _ _ _ _ _ 1 3 at X34
  refine Goes.step (fun t k => st34.trans k) ?_
  show Goes _ _ _ _ _ _ _ (T34.setTop (mkF m 192 #[.val (.int p0), .val (.int p1), .val (.int y1), .val (.int y2), .val (.ref b3), .val (.long x33_0), .second, .val (.long x33_1), .second, .val (.long ((y2.toInt64) - x33_1)), .second] [(.long (f4 x29_0))]))
  refine Goes.step (fun t k => XS.lload X34.here hx rfl (hb hby at_192) rfl k) ?_
  show Goes _ _ _ _ _ _ _ (T34.setTop (mkF m 194 #[.val (.int p0), .val (.int p1), .val (.int y1), .val (.int y2), .val (.ref b3), .val (.long x33_0), .second, .val (.long x33_1), .second, .val (.long ((y2.toInt64) - x33_1)), .second] [(.long x33_0), (.long (f4 x29_0))]))
  refine Goes.step (fun t k => XS.lcmp X34.here hx rfl (hb hby at_194) rfl k) ?_
  show Goes _ _ _ _ _ _ _ (T34.setTop (mkF m 195 #[.val (.int p0), .val (.int p1), .val (.int y1), .val (.int y2), .val (.ref b3), .val (.long x33_0), .second, .val (.long x33_1), .second, .val (.long ((y2.toInt64) - x33_1)), .second] [(.int (lcmpW (f4 x29_0) x33_0))]))
  suffices k52 : ∀ (T52 : State) (x52_0 : Int32), Stand p l e room_1 s m #[(.int p0), (.int p1)] below meth c T52 L29 1 3 → T52.heap = h29 → x52_0 = (if (f4 x29_0) = x33_0 then (if (f5 x29_1) = (if ((y2.toInt64) - x33_1) = (1 : Int64) then (1 : Int32) else (0 : Int32)) then (if (f6 (y1.toInt64) x29_0 x29_1) = (if ((y2.toInt64) - x33_1) = (x33_0 * (y1.toInt64)) then (1 : Int32) else (0 : Int32)) then (if (f7 x29_0 x29_1) = (((((y2.toInt64) - x33_1) - (1 : Int64)) / x33_0).toInt32) then (if (f8 x29_0 x29_1) = (if (((y2.toInt64) - x33_1) - (((y2.toInt64) - x33_1) / x33_0) * x33_0) = (0 : Int64) then (1 : Int32) else (0 : Int32)) then (1 : Int32) else (0 : Int32)) else (0 : Int32)) else (0 : Int32)) else (0 : Int32)) else (0 : Int32)) → Goes p e below s (Q0 Z p0 p1 h0 n0) kC0 kS0 (T52.setTop (mkF m 286 #[.val (.int p0), .val (.int p1), .val (.int y1), .val (.int y2), .val (.ref b3), .val (.long x33_0), .second, .val (.long x33_1), .second, .val (.long ((y2.toInt64) - x33_1)), .second] [(.int x52_0)])) by
    by_cases hc195_35 : (f4 x29_0) = x33_0
    · refine Goes.step (fun t k => XS.ifNo X34.here hx rfl (hb hby at_195) rfl ((if0 _ _).trans (teq ((lw_eq _ _).mpr hc195_35)).2) k) ?_
      show Goes _ _ _ _ _ _ _ (T34.setTop (mkF m 198 #[.val (.int p0), .val (.int p1), .val (.int y1), .val (.int y2), .val (.ref b3), .val (.long x33_0), .second, .val (.long x33_1), .second, .val (.long ((y2.toInt64) - x33_1)), .second] []))
      refine Goes.step (fun t k => XS.aload X34.here hx rfl (hb hby at_198) rfl rfl k) ?_
      show Goes _ _ _ _ _ _ _ (T34.setTop (mkF m 200 #[.val (.int p0), .val (.int p1), .val (.int y1), .val (.int y2), .val (.ref b3), .val (.long x33_0), .second, .val (.long x33_1), .second, .val (.long ((y2.toInt64) - x33_1)), .second] [(.ref b3)]))
      obtain ⟨cq36, kq36, q36a, q36b, q36c⟩ := isOf hZ e34 F29_0
      obtain ⟨_, _, ⟨T36, L36, k36, n36⟩, -, X36, ⟨Lc36, hQ36, l36, y36, z36⟩, st36⟩ := X34.virtualBack hx (y := (⟨"com/example/chernoff/chernoff/monitor/Rounds", "opened", "()Z"⟩ : MethodName)) (z := (⟨"com/example/chernoff/chernoff/monitor/Rounds", "opened", "()Z"⟩ : MethodName)) hown (mvT hZ (hw _ (List.mem_of_getElem? (i := 27) rfl))) (mvT hZ (hw _ (List.mem_of_getElem? (i := 28) rfl))) (notFace_of_selects (args := #[]) (mvT hZ (hw _ (List.mem_of_getElem? (i := 30) rfl)))) (mvT hZ (hw _ (List.mem_of_getElem? (i := 30) rfl))) (mvT hZ (hw _ (List.mem_of_getElem? (i := 29) rfl))) (by decide) (backOf (W := 0) (rm5 l Z tA hw [] b3 x29_1 h29 F29_3) hZ (hw _ (List.mem_of_getElem? (i := 31) rfl)) (hw _ (List.mem_of_getElem? (i := 2) rfl)) (by decide) (by decide)) q36a q36c (g := (mkF m 200 #[.val (.int p0), .val (.int p1), .val (.int y1), .val (.int y2), .val (.ref b3), .val (.long x33_0), .second, .val (.long x33_1), .second, .val (.long ((y2.toInt64) - x33_1)), .second] [(.ref b3)])) rfl (by rw [hml]; rfl) (Steps.refl _) (argsL := []) (rest := []) (lenOf own_pd3 rfl) rfl (by show 2 * 0 + _ ≤ _; exact Nat.le_of_eq rfl) (hb hby at_200) (fun _ _ => ⟨rfl, e34, (by decide : 1 + 0 ≤ _), (by decide : 3 + 0 ≤ _)⟩)
      dsimp only [Pt.U, Pt.locs, Pt.cells, Pt.slots] at X36 l36 y36 z36 st36 hQ36
      subst l36 y36 z36
      obtain ⟨rfl, rfl, e36⟩ := hQ36
      try rw [List.append_nil] at X36
      change Stand _ _ _ _ _ _ _ _ _ _ _ _ 1 3 at X36
      refine Goes.step (fun t k => st36.trans k) ?_
      show Goes _ _ _ _ _ _ _ (T36.setTop (mkF m 203 #[.val (.int p0), .val (.int p1), .val (.int y1), .val (.int y2), .val (.ref b3), .val (.long x33_0), .second, .val (.long x33_1), .second, .val (.long ((y2.toInt64) - x33_1)), .second] [(.int (f5 x29_1))]))
      refine Goes.step (fun t k => XS.lload X36.here hx rfl (hb hby at_203) rfl k) ?_
      show Goes _ _ _ _ _ _ _ (T36.setTop (mkF m 205 #[.val (.int p0), .val (.int p1), .val (.int y1), .val (.int y2), .val (.ref b3), .val (.long x33_0), .second, .val (.long x33_1), .second, .val (.long ((y2.toInt64) - x33_1)), .second] [(.long ((y2.toInt64) - x33_1)), (.int (f5 x29_1))]))
      refine Goes.step (fun t k => XS.lconst X36.here hx rfl (hb hby at_205) k) ?_
      show Goes _ _ _ _ _ _ _ (T36.setTop (mkF m 206 #[.val (.int p0), .val (.int p1), .val (.int y1), .val (.int y2), .val (.ref b3), .val (.long x33_0), .second, .val (.long x33_1), .second, .val (.long ((y2.toInt64) - x33_1)), .second] [(.long (1 : Int64)), (.long ((y2.toInt64) - x33_1)), (.int (f5 x29_1))]))
      refine Goes.step (fun t k => XS.lcmp X36.here hx rfl (hb hby at_206) rfl k) ?_
      show Goes _ _ _ _ _ _ _ (T36.setTop (mkF m 207 #[.val (.int p0), .val (.int p1), .val (.int y1), .val (.int y2), .val (.ref b3), .val (.long x33_0), .second, .val (.long x33_1), .second, .val (.long ((y2.toInt64) - x33_1)), .second] [(.int (lcmpW ((y2.toInt64) - x33_1) (1 : Int64))), (.int (f5 x29_1))]))
      suffices k38 : ∀ (x38_0 : Int32), x38_0 = (if ((y2.toInt64) - x33_1) = (1 : Int64) then (1 : Int32) else (0 : Int32)) → Goes p e below s (Q0 Z p0 p1 h0 n0) kC0 kS0 (T36.setTop (mkF m 215 #[.val (.int p0), .val (.int p1), .val (.int y1), .val (.int y2), .val (.ref b3), .val (.long x33_0), .second, .val (.long x33_1), .second, .val (.long ((y2.toInt64) - x33_1)), .second] [(.int x38_0), (.int (f5 x29_1))])) by
        by_cases hc207_37 : ((y2.toInt64) - x33_1) = (1 : Int64)
        · refine Goes.step (fun t k => XS.ifNo X36.here hx rfl (hb hby at_207) rfl ((if0 _ _).trans (teq ((lw_eq _ _).mpr hc207_37)).2) k) ?_
          show Goes _ _ _ _ _ _ _ (T36.setTop (mkF m 210 #[.val (.int p0), .val (.int p1), .val (.int y1), .val (.int y2), .val (.ref b3), .val (.long x33_0), .second, .val (.long x33_1), .second, .val (.long ((y2.toInt64) - x33_1)), .second] [(.int (f5 x29_1))]))
          refine Goes.step (fun t k => XS.iconst X36.here hx rfl (hb hby at_210) k) ?_
          show Goes _ _ _ _ _ _ _ (T36.setTop (mkF m 211 #[.val (.int p0), .val (.int p1), .val (.int y1), .val (.int y2), .val (.ref b3), .val (.long x33_0), .second, .val (.long x33_1), .second, .val (.long ((y2.toInt64) - x33_1)), .second] [(.int (1 : Int32)), (.int (f5 x29_1))]))
          refine Goes.step (fun t k => XS.goto X36.here hx rfl (pc0 := 211) (pc' := 215) rfl (hb hby at_211) (by decide) (by decide) k) ?_
          show Goes _ _ _ _ _ _ _ (T36.setTop (mkF m 215 #[.val (.int p0), .val (.int p1), .val (.int y1), .val (.int y2), .val (.ref b3), .val (.long x33_0), .second, .val (.long x33_1), .second, .val (.long ((y2.toInt64) - x33_1)), .second] [(.int (1 : Int32)), (.int (f5 x29_1))]))
          exact k38 _ (if_pos hc207_37).symm
        · refine Goes.step (fun t k => XS.ifYes X36.here hx rfl (pc0 := 207) (pc' := 214) rfl (hb hby at_207) rfl ((if0 _ _).trans (feq (fun q => hc207_37 ((lw_eq _ _).mp q))).2) (by decide) (by decide) k) ?_
          show Goes _ _ _ _ _ _ _ (T36.setTop (mkF m 214 #[.val (.int p0), .val (.int p1), .val (.int y1), .val (.int y2), .val (.ref b3), .val (.long x33_0), .second, .val (.long x33_1), .second, .val (.long ((y2.toInt64) - x33_1)), .second] [(.int (f5 x29_1))]))
          refine Goes.step (fun t k => XS.iconst X36.here hx rfl (hb hby at_214) k) ?_
          show Goes _ _ _ _ _ _ _ (T36.setTop (mkF m 215 #[.val (.int p0), .val (.int p1), .val (.int y1), .val (.int y2), .val (.ref b3), .val (.long x33_0), .second, .val (.long x33_1), .second, .val (.long ((y2.toInt64) - x33_1)), .second] [(.int (0 : Int32)), (.int (f5 x29_1))]))
          exact k38 _ (if_neg hc207_37).symm
      intro x38_0 hx38_0
      by_cases hc215_39 : (f5 x29_1) = x38_0
      · refine Goes.step (fun t k => XS.icmpNo X36.here hx rfl (hb hby at_215) rfl (teq hc215_39).2 k) ?_
        show Goes _ _ _ _ _ _ _ (T36.setTop (mkF m 218 #[.val (.int p0), .val (.int p1), .val (.int y1), .val (.int y2), .val (.ref b3), .val (.long x33_0), .second, .val (.long x33_1), .second, .val (.long ((y2.toInt64) - x33_1)), .second] []))
        refine Goes.step (fun t k => XS.aload X36.here hx rfl (hb hby at_218) rfl rfl k) ?_
        show Goes _ _ _ _ _ _ _ (T36.setTop (mkF m 220 #[.val (.int p0), .val (.int p1), .val (.int y1), .val (.int y2), .val (.ref b3), .val (.long x33_0), .second, .val (.long x33_1), .second, .val (.long ((y2.toInt64) - x33_1)), .second] [(.ref b3)]))
        obtain ⟨cq40, kq40, q40a, q40b, q40c⟩ := isOf hZ e36 F29_0
        obtain ⟨_, _, ⟨T40, L40, k40, n40⟩, -, X40, ⟨Lc40, hQ40, l40, y40, z40⟩, st40⟩ := X36.virtualBack hx (y := (⟨"com/example/chernoff/chernoff/monitor/Rounds", "closed", "()Z"⟩ : MethodName)) (z := (⟨"com/example/chernoff/chernoff/monitor/Rounds", "closed", "()Z"⟩ : MethodName)) hown (mvT hZ (hw _ (List.mem_of_getElem? (i := 32) rfl))) (mvT hZ (hw _ (List.mem_of_getElem? (i := 33) rfl))) (notFace_of_selects (args := #[]) (mvT hZ (hw _ (List.mem_of_getElem? (i := 35) rfl)))) (mvT hZ (hw _ (List.mem_of_getElem? (i := 35) rfl))) (mvT hZ (hw _ (List.mem_of_getElem? (i := 34) rfl))) (by decide) (backOf (W := 0) (rm6 l Z tA hw [] b3 (y1.toInt64) x29_0 x29_1 h29 F29_1 F29_2 F29_3) hZ (hw _ (List.mem_of_getElem? (i := 36) rfl)) (hw _ (List.mem_of_getElem? (i := 2) rfl)) (by decide) (by decide)) q40a q40c (g := (mkF m 220 #[.val (.int p0), .val (.int p1), .val (.int y1), .val (.int y2), .val (.ref b3), .val (.long x33_0), .second, .val (.long x33_1), .second, .val (.long ((y2.toInt64) - x33_1)), .second] [(.ref b3)])) rfl (by rw [hml]; rfl) (Steps.refl _) (argsL := []) (rest := []) (lenOf own_pd3 rfl) rfl (by show 2 * 0 + _ ≤ _; exact Nat.le_of_eq rfl) (hb hby at_220) (fun _ _ => ⟨rfl, e36, (by decide : 1 + 0 ≤ _), (by decide : 3 + 0 ≤ _)⟩)
        dsimp only [Pt.U, Pt.locs, Pt.cells, Pt.slots] at X40 l40 y40 z40 st40 hQ40
        subst l40 y40 z40
        obtain ⟨rfl, rfl, e40⟩ := hQ40
        try rw [List.append_nil] at X40
        change Stand _ _ _ _ _ _ _ _ _ _ _ _ 1 3 at X40
        refine Goes.step (fun t k => st40.trans k) ?_
        show Goes _ _ _ _ _ _ _ (T40.setTop (mkF m 223 #[.val (.int p0), .val (.int p1), .val (.int y1), .val (.int y2), .val (.ref b3), .val (.long x33_0), .second, .val (.long x33_1), .second, .val (.long ((y2.toInt64) - x33_1)), .second] [(.int (f6 (y1.toInt64) x29_0 x29_1))]))
        refine Goes.step (fun t k => XS.lload X40.here hx rfl (hb hby at_223) rfl k) ?_
        show Goes _ _ _ _ _ _ _ (T40.setTop (mkF m 225 #[.val (.int p0), .val (.int p1), .val (.int y1), .val (.int y2), .val (.ref b3), .val (.long x33_0), .second, .val (.long x33_1), .second, .val (.long ((y2.toInt64) - x33_1)), .second] [(.long ((y2.toInt64) - x33_1)), (.int (f6 (y1.toInt64) x29_0 x29_1))]))
        refine Goes.step (fun t k => XS.lload X40.here hx rfl (hb hby at_225) rfl k) ?_
        show Goes _ _ _ _ _ _ _ (T40.setTop (mkF m 227 #[.val (.int p0), .val (.int p1), .val (.int y1), .val (.int y2), .val (.ref b3), .val (.long x33_0), .second, .val (.long x33_1), .second, .val (.long ((y2.toInt64) - x33_1)), .second] [(.long x33_0), (.long ((y2.toInt64) - x33_1)), (.int (f6 (y1.toInt64) x29_0 x29_1))]))
        refine Goes.step (fun t k => XS.iloadN X40.here hx rfl (hb hby at_227) rfl k) ?_
        show Goes _ _ _ _ _ _ _ (T40.setTop (mkF m 228 #[.val (.int p0), .val (.int p1), .val (.int y1), .val (.int y2), .val (.ref b3), .val (.long x33_0), .second, .val (.long x33_1), .second, .val (.long ((y2.toInt64) - x33_1)), .second] [(.int y1), (.long x33_0), (.long ((y2.toInt64) - x33_1)), (.int (f6 (y1.toInt64) x29_0 x29_1))]))
        refine Goes.step (fun t k => XS.i2l X40.here hx rfl (hb hby at_228) rfl k) ?_
        show Goes _ _ _ _ _ _ _ (T40.setTop (mkF m 229 #[.val (.int p0), .val (.int p1), .val (.int y1), .val (.int y2), .val (.ref b3), .val (.long x33_0), .second, .val (.long x33_1), .second, .val (.long ((y2.toInt64) - x33_1)), .second] [(.long (y1.toInt64)), (.long x33_0), (.long ((y2.toInt64) - x33_1)), (.int (f6 (y1.toInt64) x29_0 x29_1))]))
        refine Goes.step (fun t k => XS.lmul X40.here hx rfl (hb hby at_229) rfl k) ?_
        show Goes _ _ _ _ _ _ _ (T40.setTop (mkF m 230 #[.val (.int p0), .val (.int p1), .val (.int y1), .val (.int y2), .val (.ref b3), .val (.long x33_0), .second, .val (.long x33_1), .second, .val (.long ((y2.toInt64) - x33_1)), .second] [(.long (x33_0 * (y1.toInt64))), (.long ((y2.toInt64) - x33_1)), (.int (f6 (y1.toInt64) x29_0 x29_1))]))
        refine Goes.step (fun t k => XS.lcmp X40.here hx rfl (hb hby at_230) rfl k) ?_
        show Goes _ _ _ _ _ _ _ (T40.setTop (mkF m 231 #[.val (.int p0), .val (.int p1), .val (.int y1), .val (.int y2), .val (.ref b3), .val (.long x33_0), .second, .val (.long x33_1), .second, .val (.long ((y2.toInt64) - x33_1)), .second] [(.int (lcmpW ((y2.toInt64) - x33_1) (x33_0 * (y1.toInt64)))), (.int (f6 (y1.toInt64) x29_0 x29_1))]))
        suffices k42 : ∀ (x42_0 : Int32), x42_0 = (if ((y2.toInt64) - x33_1) = (x33_0 * (y1.toInt64)) then (1 : Int32) else (0 : Int32)) → Goes p e below s (Q0 Z p0 p1 h0 n0) kC0 kS0 (T40.setTop (mkF m 239 #[.val (.int p0), .val (.int p1), .val (.int y1), .val (.int y2), .val (.ref b3), .val (.long x33_0), .second, .val (.long x33_1), .second, .val (.long ((y2.toInt64) - x33_1)), .second] [(.int x42_0), (.int (f6 (y1.toInt64) x29_0 x29_1))])) by
          by_cases hc231_41 : ((y2.toInt64) - x33_1) = (x33_0 * (y1.toInt64))
          · refine Goes.step (fun t k => XS.ifNo X40.here hx rfl (hb hby at_231) rfl ((if0 _ _).trans (teq ((lw_eq _ _).mpr hc231_41)).2) k) ?_
            show Goes _ _ _ _ _ _ _ (T40.setTop (mkF m 234 #[.val (.int p0), .val (.int p1), .val (.int y1), .val (.int y2), .val (.ref b3), .val (.long x33_0), .second, .val (.long x33_1), .second, .val (.long ((y2.toInt64) - x33_1)), .second] [(.int (f6 (y1.toInt64) x29_0 x29_1))]))
            refine Goes.step (fun t k => XS.iconst X40.here hx rfl (hb hby at_234) k) ?_
            show Goes _ _ _ _ _ _ _ (T40.setTop (mkF m 235 #[.val (.int p0), .val (.int p1), .val (.int y1), .val (.int y2), .val (.ref b3), .val (.long x33_0), .second, .val (.long x33_1), .second, .val (.long ((y2.toInt64) - x33_1)), .second] [(.int (1 : Int32)), (.int (f6 (y1.toInt64) x29_0 x29_1))]))
            refine Goes.step (fun t k => XS.goto X40.here hx rfl (pc0 := 235) (pc' := 239) rfl (hb hby at_235) (by decide) (by decide) k) ?_
            show Goes _ _ _ _ _ _ _ (T40.setTop (mkF m 239 #[.val (.int p0), .val (.int p1), .val (.int y1), .val (.int y2), .val (.ref b3), .val (.long x33_0), .second, .val (.long x33_1), .second, .val (.long ((y2.toInt64) - x33_1)), .second] [(.int (1 : Int32)), (.int (f6 (y1.toInt64) x29_0 x29_1))]))
            exact k42 _ (if_pos hc231_41).symm
          · refine Goes.step (fun t k => XS.ifYes X40.here hx rfl (pc0 := 231) (pc' := 238) rfl (hb hby at_231) rfl ((if0 _ _).trans (feq (fun q => hc231_41 ((lw_eq _ _).mp q))).2) (by decide) (by decide) k) ?_
            show Goes _ _ _ _ _ _ _ (T40.setTop (mkF m 238 #[.val (.int p0), .val (.int p1), .val (.int y1), .val (.int y2), .val (.ref b3), .val (.long x33_0), .second, .val (.long x33_1), .second, .val (.long ((y2.toInt64) - x33_1)), .second] [(.int (f6 (y1.toInt64) x29_0 x29_1))]))
            refine Goes.step (fun t k => XS.iconst X40.here hx rfl (hb hby at_238) k) ?_
            show Goes _ _ _ _ _ _ _ (T40.setTop (mkF m 239 #[.val (.int p0), .val (.int p1), .val (.int y1), .val (.int y2), .val (.ref b3), .val (.long x33_0), .second, .val (.long x33_1), .second, .val (.long ((y2.toInt64) - x33_1)), .second] [(.int (0 : Int32)), (.int (f6 (y1.toInt64) x29_0 x29_1))]))
            exact k42 _ (if_neg hc231_41).symm
        intro x42_0 hx42_0
        by_cases hc239_43 : (f6 (y1.toInt64) x29_0 x29_1) = x42_0
        · refine Goes.step (fun t k => XS.icmpNo X40.here hx rfl (hb hby at_239) rfl (teq hc239_43).2 k) ?_
          show Goes _ _ _ _ _ _ _ (T40.setTop (mkF m 242 #[.val (.int p0), .val (.int p1), .val (.int y1), .val (.int y2), .val (.ref b3), .val (.long x33_0), .second, .val (.long x33_1), .second, .val (.long ((y2.toInt64) - x33_1)), .second] []))
          refine Goes.step (fun t k => XS.aload X40.here hx rfl (hb hby at_242) rfl rfl k) ?_
          show Goes _ _ _ _ _ _ _ (T40.setTop (mkF m 244 #[.val (.int p0), .val (.int p1), .val (.int y1), .val (.int y2), .val (.ref b3), .val (.long x33_0), .second, .val (.long x33_1), .second, .val (.long ((y2.toInt64) - x33_1)), .second] [(.ref b3)]))
          obtain ⟨cq44, kq44, q44a, q44b, q44c⟩ := isOf hZ e40 F29_0
          obtain ⟨_, _, ⟨T44, L44, k44, n44⟩, -, X44, ⟨Lc44, hQ44, l44, y44, z44⟩, st44⟩ := X40.virtualBack hx (y := (⟨"com/example/chernoff/chernoff/monitor/Rounds", "stretch", "()I"⟩ : MethodName)) (z := (⟨"com/example/chernoff/chernoff/monitor/Rounds", "stretch", "()I"⟩ : MethodName)) hown (mvT hZ (hw _ (List.mem_of_getElem? (i := 37) rfl))) (mvT hZ (hw _ (List.mem_of_getElem? (i := 38) rfl))) (notFace_of_selects (args := #[]) (mvT hZ (hw _ (List.mem_of_getElem? (i := 40) rfl)))) (mvT hZ (hw _ (List.mem_of_getElem? (i := 40) rfl))) (mvT hZ (hw _ (List.mem_of_getElem? (i := 39) rfl))) (by decide) (backOf (W := 0) (rm7 l Z tA hw [] b3 x29_0 x29_1 h29 F29_2 F29_3 (own_nz44 p0 p1 y1 y2 x11_0 x11_1 x14_0 x14_1 x17_0 x17_1 x20_0 x20_1 x23_0 x23_1 x26_0 x26_1 x29_0 hy1 hy2 hx11_0 hx11_1 hx14_0 hx14_1 hx17_0 hx17_1 hx20_0 hx20_1 hx23_0 hx23_1 hx26_0 hx26_1 hx29_0)) hZ (hw _ (List.mem_of_getElem? (i := 41) rfl)) (hw _ (List.mem_of_getElem? (i := 2) rfl)) (by decide) (by decide)) q44a q44c (g := (mkF m 244 #[.val (.int p0), .val (.int p1), .val (.int y1), .val (.int y2), .val (.ref b3), .val (.long x33_0), .second, .val (.long x33_1), .second, .val (.long ((y2.toInt64) - x33_1)), .second] [(.ref b3)])) rfl (by rw [hml]; rfl) (Steps.refl _) (argsL := []) (rest := []) (lenOf own_pd4 rfl) rfl (by show 2 * 0 + _ ≤ _; exact Nat.le_of_eq rfl) (hb hby at_244) (fun _ _ => ⟨rfl, e40, (by decide : 1 + 0 ≤ _), (by decide : 3 + 0 ≤ _)⟩)
          dsimp only [Pt.U, Pt.locs, Pt.cells, Pt.slots] at X44 l44 y44 z44 st44 hQ44
          subst l44 y44 z44
          obtain ⟨rfl, rfl, e44⟩ := hQ44
          try rw [List.append_nil] at X44
          change Stand _ _ _ _ _ _ _ _ _ _ _ _ 1 3 at X44
          refine Goes.step (fun t k => st44.trans k) ?_
          show Goes _ _ _ _ _ _ _ (T44.setTop (mkF m 247 #[.val (.int p0), .val (.int p1), .val (.int y1), .val (.int y2), .val (.ref b3), .val (.long x33_0), .second, .val (.long x33_1), .second, .val (.long ((y2.toInt64) - x33_1)), .second] [(.int (f7 x29_0 x29_1))]))
          refine Goes.step (fun t k => XS.lload X44.here hx rfl (hb hby at_247) rfl k) ?_
          show Goes _ _ _ _ _ _ _ (T44.setTop (mkF m 249 #[.val (.int p0), .val (.int p1), .val (.int y1), .val (.int y2), .val (.ref b3), .val (.long x33_0), .second, .val (.long x33_1), .second, .val (.long ((y2.toInt64) - x33_1)), .second] [(.long ((y2.toInt64) - x33_1)), (.int (f7 x29_0 x29_1))]))
          refine Goes.step (fun t k => XS.lconst X44.here hx rfl (hb hby at_249) k) ?_
          show Goes _ _ _ _ _ _ _ (T44.setTop (mkF m 250 #[.val (.int p0), .val (.int p1), .val (.int y1), .val (.int y2), .val (.ref b3), .val (.long x33_0), .second, .val (.long x33_1), .second, .val (.long ((y2.toInt64) - x33_1)), .second] [(.long (1 : Int64)), (.long ((y2.toInt64) - x33_1)), (.int (f7 x29_0 x29_1))]))
          refine Goes.step (fun t k => XS.lsub X44.here hx rfl (hb hby at_250) rfl k) ?_
          show Goes _ _ _ _ _ _ _ (T44.setTop (mkF m 251 #[.val (.int p0), .val (.int p1), .val (.int y1), .val (.int y2), .val (.ref b3), .val (.long x33_0), .second, .val (.long x33_1), .second, .val (.long ((y2.toInt64) - x33_1)), .second] [(.long (((y2.toInt64) - x33_1) - (1 : Int64))), (.int (f7 x29_0 x29_1))]))
          refine Goes.step (fun t k => XS.lload X44.here hx rfl (hb hby at_251) rfl k) ?_
          show Goes _ _ _ _ _ _ _ (T44.setTop (mkF m 253 #[.val (.int p0), .val (.int p1), .val (.int y1), .val (.int y2), .val (.ref b3), .val (.long x33_0), .second, .val (.long x33_1), .second, .val (.long ((y2.toInt64) - x33_1)), .second] [(.long x33_0), (.long (((y2.toInt64) - x33_1) - (1 : Int64))), (.int (f7 x29_0 x29_1))]))
          have hnz45 : ¬ (x33_0 = (0 : Int64)) := by exact (own_nd253 p0 p1 y1 y2 x33_0 hy1 hy2 hx33_0)
          refine Goes.step (fun t k => XS.ldiv X44.here hx rfl (hb hby at_253) rfl hnz45 k) ?_
          show Goes _ _ _ _ _ _ _ (T44.setTop (mkF m 254 #[.val (.int p0), .val (.int p1), .val (.int y1), .val (.int y2), .val (.ref b3), .val (.long x33_0), .second, .val (.long x33_1), .second, .val (.long ((y2.toInt64) - x33_1)), .second] [(.long ((((y2.toInt64) - x33_1) - (1 : Int64)) / x33_0)), (.int (f7 x29_0 x29_1))]))
          refine Goes.step (fun t k => XS.l2i X44.here hx rfl (hb hby at_254) rfl k) ?_
          show Goes _ _ _ _ _ _ _ (T44.setTop (mkF m 255 #[.val (.int p0), .val (.int p1), .val (.int y1), .val (.int y2), .val (.ref b3), .val (.long x33_0), .second, .val (.long x33_1), .second, .val (.long ((y2.toInt64) - x33_1)), .second] [(.int (((((y2.toInt64) - x33_1) - (1 : Int64)) / x33_0).toInt32)), (.int (f7 x29_0 x29_1))]))
          by_cases hc255_46 : (f7 x29_0 x29_1) = (((((y2.toInt64) - x33_1) - (1 : Int64)) / x33_0).toInt32)
          · refine Goes.step (fun t k => XS.icmpNo X44.here hx rfl (hb hby at_255) rfl (teq hc255_46).2 k) ?_
            show Goes _ _ _ _ _ _ _ (T44.setTop (mkF m 258 #[.val (.int p0), .val (.int p1), .val (.int y1), .val (.int y2), .val (.ref b3), .val (.long x33_0), .second, .val (.long x33_1), .second, .val (.long ((y2.toInt64) - x33_1)), .second] []))
            refine Goes.step (fun t k => XS.aload X44.here hx rfl (hb hby at_258) rfl rfl k) ?_
            show Goes _ _ _ _ _ _ _ (T44.setTop (mkF m 260 #[.val (.int p0), .val (.int p1), .val (.int y1), .val (.int y2), .val (.ref b3), .val (.long x33_0), .second, .val (.long x33_1), .second, .val (.long ((y2.toInt64) - x33_1)), .second] [(.ref b3)]))
            obtain ⟨cq47, kq47, q47a, q47b, q47c⟩ := isOf hZ e44 F29_0
            obtain ⟨_, _, ⟨T47, L47, k47, n47⟩, -, X47, ⟨Lc47, hQ47, l47, y47, z47⟩, st47⟩ := X44.virtualBack hx (y := (⟨"com/example/chernoff/chernoff/monitor/Rounds", "stretchClosed", "()Z"⟩ : MethodName)) (z := (⟨"com/example/chernoff/chernoff/monitor/Rounds", "stretchClosed", "()Z"⟩ : MethodName)) hown (mvT hZ (hw _ (List.mem_of_getElem? (i := 42) rfl))) (mvT hZ (hw _ (List.mem_of_getElem? (i := 43) rfl))) (notFace_of_selects (args := #[]) (mvT hZ (hw _ (List.mem_of_getElem? (i := 45) rfl)))) (mvT hZ (hw _ (List.mem_of_getElem? (i := 45) rfl))) (mvT hZ (hw _ (List.mem_of_getElem? (i := 44) rfl))) (by decide) (backOf (W := 0) (rm8 l Z tA hw [] b3 x29_0 x29_1 h29 F29_2 F29_3 (own_nz47 p0 p1 y1 y2 x11_0 x11_1 x14_0 x14_1 x17_0 x17_1 x20_0 x20_1 x23_0 x23_1 x26_0 x26_1 x29_0 hy1 hy2 hx11_0 hx11_1 hx14_0 hx14_1 hx17_0 hx17_1 hx20_0 hx20_1 hx23_0 hx23_1 hx26_0 hx26_1 hx29_0)) hZ (hw _ (List.mem_of_getElem? (i := 46) rfl)) (hw _ (List.mem_of_getElem? (i := 2) rfl)) (by decide) (by decide)) q47a q47c (g := (mkF m 260 #[.val (.int p0), .val (.int p1), .val (.int y1), .val (.int y2), .val (.ref b3), .val (.long x33_0), .second, .val (.long x33_1), .second, .val (.long ((y2.toInt64) - x33_1)), .second] [(.ref b3)])) rfl (by rw [hml]; rfl) (Steps.refl _) (argsL := []) (rest := []) (lenOf own_pd3 rfl) rfl (by show 2 * 0 + _ ≤ _; exact Nat.le_of_eq rfl) (hb hby at_260) (fun _ _ => ⟨rfl, e44, (by decide : 1 + 0 ≤ _), (by decide : 3 + 0 ≤ _)⟩)
            dsimp only [Pt.U, Pt.locs, Pt.cells, Pt.slots] at X47 l47 y47 z47 st47 hQ47
            subst l47 y47 z47
            obtain ⟨rfl, rfl, e47⟩ := hQ47
            try rw [List.append_nil] at X47
            change Stand _ _ _ _ _ _ _ _ _ _ _ _ 1 3 at X47
            refine Goes.step (fun t k => st47.trans k) ?_
            show Goes _ _ _ _ _ _ _ (T47.setTop (mkF m 263 #[.val (.int p0), .val (.int p1), .val (.int y1), .val (.int y2), .val (.ref b3), .val (.long x33_0), .second, .val (.long x33_1), .second, .val (.long ((y2.toInt64) - x33_1)), .second] [(.int (f8 x29_0 x29_1))]))
            refine Goes.step (fun t k => XS.lload X47.here hx rfl (hb hby at_263) rfl k) ?_
            show Goes _ _ _ _ _ _ _ (T47.setTop (mkF m 265 #[.val (.int p0), .val (.int p1), .val (.int y1), .val (.int y2), .val (.ref b3), .val (.long x33_0), .second, .val (.long x33_1), .second, .val (.long ((y2.toInt64) - x33_1)), .second] [(.long ((y2.toInt64) - x33_1)), (.int (f8 x29_0 x29_1))]))
            refine Goes.step (fun t k => XS.lload X47.here hx rfl (hb hby at_265) rfl k) ?_
            show Goes _ _ _ _ _ _ _ (T47.setTop (mkF m 267 #[.val (.int p0), .val (.int p1), .val (.int y1), .val (.int y2), .val (.ref b3), .val (.long x33_0), .second, .val (.long x33_1), .second, .val (.long ((y2.toInt64) - x33_1)), .second] [(.long x33_0), (.long ((y2.toInt64) - x33_1)), (.int (f8 x29_0 x29_1))]))
            have hnz48 : ¬ (x33_0 = (0 : Int64)) := by exact (own_nd267 p0 p1 y1 y2 x33_0 hy1 hy2 hx33_0)
            refine Goes.step (fun t k => XS.lrem X47.here hx rfl (hb hby at_267) rfl hnz48 k) ?_
            show Goes _ _ _ _ _ _ _ (T47.setTop (mkF m 268 #[.val (.int p0), .val (.int p1), .val (.int y1), .val (.int y2), .val (.ref b3), .val (.long x33_0), .second, .val (.long x33_1), .second, .val (.long ((y2.toInt64) - x33_1)), .second] [(.long (((y2.toInt64) - x33_1) - (((y2.toInt64) - x33_1) / x33_0) * x33_0)), (.int (f8 x29_0 x29_1))]))
            refine Goes.step (fun t k => XS.lconst X47.here hx rfl (hb hby at_268) k) ?_
            show Goes _ _ _ _ _ _ _ (T47.setTop (mkF m 269 #[.val (.int p0), .val (.int p1), .val (.int y1), .val (.int y2), .val (.ref b3), .val (.long x33_0), .second, .val (.long x33_1), .second, .val (.long ((y2.toInt64) - x33_1)), .second] [(.long (0 : Int64)), (.long (((y2.toInt64) - x33_1) - (((y2.toInt64) - x33_1) / x33_0) * x33_0)), (.int (f8 x29_0 x29_1))]))
            refine Goes.step (fun t k => XS.lcmp X47.here hx rfl (hb hby at_269) rfl k) ?_
            show Goes _ _ _ _ _ _ _ (T47.setTop (mkF m 270 #[.val (.int p0), .val (.int p1), .val (.int y1), .val (.int y2), .val (.ref b3), .val (.long x33_0), .second, .val (.long x33_1), .second, .val (.long ((y2.toInt64) - x33_1)), .second] [(.int (lcmpW (((y2.toInt64) - x33_1) - (((y2.toInt64) - x33_1) / x33_0) * x33_0) (0 : Int64))), (.int (f8 x29_0 x29_1))]))
            suffices k50 : ∀ (x50_0 : Int32), x50_0 = (if (((y2.toInt64) - x33_1) - (((y2.toInt64) - x33_1) / x33_0) * x33_0) = (0 : Int64) then (1 : Int32) else (0 : Int32)) → Goes p e below s (Q0 Z p0 p1 h0 n0) kC0 kS0 (T47.setTop (mkF m 278 #[.val (.int p0), .val (.int p1), .val (.int y1), .val (.int y2), .val (.ref b3), .val (.long x33_0), .second, .val (.long x33_1), .second, .val (.long ((y2.toInt64) - x33_1)), .second] [(.int x50_0), (.int (f8 x29_0 x29_1))])) by
              by_cases hc270_49 : (((y2.toInt64) - x33_1) - (((y2.toInt64) - x33_1) / x33_0) * x33_0) = (0 : Int64)
              · refine Goes.step (fun t k => XS.ifNo X47.here hx rfl (hb hby at_270) rfl ((if0 _ _).trans (teq ((lw_eq _ _).mpr hc270_49)).2) k) ?_
                show Goes _ _ _ _ _ _ _ (T47.setTop (mkF m 273 #[.val (.int p0), .val (.int p1), .val (.int y1), .val (.int y2), .val (.ref b3), .val (.long x33_0), .second, .val (.long x33_1), .second, .val (.long ((y2.toInt64) - x33_1)), .second] [(.int (f8 x29_0 x29_1))]))
                refine Goes.step (fun t k => XS.iconst X47.here hx rfl (hb hby at_273) k) ?_
                show Goes _ _ _ _ _ _ _ (T47.setTop (mkF m 274 #[.val (.int p0), .val (.int p1), .val (.int y1), .val (.int y2), .val (.ref b3), .val (.long x33_0), .second, .val (.long x33_1), .second, .val (.long ((y2.toInt64) - x33_1)), .second] [(.int (1 : Int32)), (.int (f8 x29_0 x29_1))]))
                refine Goes.step (fun t k => XS.goto X47.here hx rfl (pc0 := 274) (pc' := 278) rfl (hb hby at_274) (by decide) (by decide) k) ?_
                show Goes _ _ _ _ _ _ _ (T47.setTop (mkF m 278 #[.val (.int p0), .val (.int p1), .val (.int y1), .val (.int y2), .val (.ref b3), .val (.long x33_0), .second, .val (.long x33_1), .second, .val (.long ((y2.toInt64) - x33_1)), .second] [(.int (1 : Int32)), (.int (f8 x29_0 x29_1))]))
                exact k50 _ (if_pos hc270_49).symm
              · refine Goes.step (fun t k => XS.ifYes X47.here hx rfl (pc0 := 270) (pc' := 277) rfl (hb hby at_270) rfl ((if0 _ _).trans (feq (fun q => hc270_49 ((lw_eq _ _).mp q))).2) (by decide) (by decide) k) ?_
                show Goes _ _ _ _ _ _ _ (T47.setTop (mkF m 277 #[.val (.int p0), .val (.int p1), .val (.int y1), .val (.int y2), .val (.ref b3), .val (.long x33_0), .second, .val (.long x33_1), .second, .val (.long ((y2.toInt64) - x33_1)), .second] [(.int (f8 x29_0 x29_1))]))
                refine Goes.step (fun t k => XS.iconst X47.here hx rfl (hb hby at_277) k) ?_
                show Goes _ _ _ _ _ _ _ (T47.setTop (mkF m 278 #[.val (.int p0), .val (.int p1), .val (.int y1), .val (.int y2), .val (.ref b3), .val (.long x33_0), .second, .val (.long x33_1), .second, .val (.long ((y2.toInt64) - x33_1)), .second] [(.int (0 : Int32)), (.int (f8 x29_0 x29_1))]))
                exact k50 _ (if_neg hc270_49).symm
            intro x50_0 hx50_0
            by_cases hc278_51 : (f8 x29_0 x29_1) = x50_0
            · refine Goes.step (fun t k => XS.icmpNo X47.here hx rfl (hb hby at_278) rfl (teq hc278_51).2 k) ?_
              show Goes _ _ _ _ _ _ _ (T47.setTop (mkF m 281 #[.val (.int p0), .val (.int p1), .val (.int y1), .val (.int y2), .val (.ref b3), .val (.long x33_0), .second, .val (.long x33_1), .second, .val (.long ((y2.toInt64) - x33_1)), .second] []))
              refine Goes.step (fun t k => XS.iconst X47.here hx rfl (hb hby at_281) k) ?_
              show Goes _ _ _ _ _ _ _ (T47.setTop (mkF m 282 #[.val (.int p0), .val (.int p1), .val (.int y1), .val (.int y2), .val (.ref b3), .val (.long x33_0), .second, .val (.long x33_1), .second, .val (.long ((y2.toInt64) - x33_1)), .second] [(.int (1 : Int32))]))
              refine Goes.step (fun t k => XS.goto X47.here hx rfl (pc0 := 282) (pc' := 286) rfl (hb hby at_282) (by decide) (by decide) k) ?_
              show Goes _ _ _ _ _ _ _ (T47.setTop (mkF m 286 #[.val (.int p0), .val (.int p1), .val (.int y1), .val (.int y2), .val (.ref b3), .val (.long x33_0), .second, .val (.long x33_1), .second, .val (.long ((y2.toInt64) - x33_1)), .second] [(.int (1 : Int32))]))
              subst hx50_0
              subst hx42_0
              subst hx38_0
              exact k52 _ _ X47 e47 ((if_pos hc195_35).trans ((if_pos hc215_39).trans ((if_pos hc239_43).trans ((if_pos hc255_46).trans (if_pos hc278_51))))).symm
            · refine Goes.step (fun t k => XS.icmpYes X47.here hx rfl (pc0 := 278) (pc' := 285) rfl (hb hby at_278) rfl (feq hc278_51).2 (by decide) (by decide) k) ?_
              show Goes _ _ _ _ _ _ _ (T47.setTop (mkF m 285 #[.val (.int p0), .val (.int p1), .val (.int y1), .val (.int y2), .val (.ref b3), .val (.long x33_0), .second, .val (.long x33_1), .second, .val (.long ((y2.toInt64) - x33_1)), .second] []))
              refine Goes.step (fun t k => XS.iconst X47.here hx rfl (hb hby at_285) k) ?_
              show Goes _ _ _ _ _ _ _ (T47.setTop (mkF m 286 #[.val (.int p0), .val (.int p1), .val (.int y1), .val (.int y2), .val (.ref b3), .val (.long x33_0), .second, .val (.long x33_1), .second, .val (.long ((y2.toInt64) - x33_1)), .second] [(.int (0 : Int32))]))
              subst hx50_0
              subst hx42_0
              subst hx38_0
              exact k52 _ _ X47 e47 ((if_pos hc195_35).trans ((if_pos hc215_39).trans ((if_pos hc239_43).trans ((if_pos hc255_46).trans (if_neg hc278_51))))).symm
          · refine Goes.step (fun t k => XS.icmpYes X44.here hx rfl (pc0 := 255) (pc' := 285) rfl (hb hby at_255) rfl (feq hc255_46).2 (by decide) (by decide) k) ?_
            show Goes _ _ _ _ _ _ _ (T44.setTop (mkF m 285 #[.val (.int p0), .val (.int p1), .val (.int y1), .val (.int y2), .val (.ref b3), .val (.long x33_0), .second, .val (.long x33_1), .second, .val (.long ((y2.toInt64) - x33_1)), .second] []))
            refine Goes.step (fun t k => XS.iconst X44.here hx rfl (hb hby at_285) k) ?_
            show Goes _ _ _ _ _ _ _ (T44.setTop (mkF m 286 #[.val (.int p0), .val (.int p1), .val (.int y1), .val (.int y2), .val (.ref b3), .val (.long x33_0), .second, .val (.long x33_1), .second, .val (.long ((y2.toInt64) - x33_1)), .second] [(.int (0 : Int32))]))
            subst hx42_0
            subst hx38_0
            exact k52 _ _ X44 e44 ((if_pos hc195_35).trans ((if_pos hc215_39).trans ((if_pos hc239_43).trans (if_neg hc255_46)))).symm
        · refine Goes.step (fun t k => XS.icmpYes X40.here hx rfl (pc0 := 239) (pc' := 285) rfl (hb hby at_239) rfl (feq hc239_43).2 (by decide) (by decide) k) ?_
          show Goes _ _ _ _ _ _ _ (T40.setTop (mkF m 285 #[.val (.int p0), .val (.int p1), .val (.int y1), .val (.int y2), .val (.ref b3), .val (.long x33_0), .second, .val (.long x33_1), .second, .val (.long ((y2.toInt64) - x33_1)), .second] []))
          refine Goes.step (fun t k => XS.iconst X40.here hx rfl (hb hby at_285) k) ?_
          show Goes _ _ _ _ _ _ _ (T40.setTop (mkF m 286 #[.val (.int p0), .val (.int p1), .val (.int y1), .val (.int y2), .val (.ref b3), .val (.long x33_0), .second, .val (.long x33_1), .second, .val (.long ((y2.toInt64) - x33_1)), .second] [(.int (0 : Int32))]))
          subst hx42_0
          subst hx38_0
          exact k52 _ _ X40 e40 ((if_pos hc195_35).trans ((if_pos hc215_39).trans (if_neg hc239_43))).symm
      · refine Goes.step (fun t k => XS.icmpYes X36.here hx rfl (pc0 := 215) (pc' := 285) rfl (hb hby at_215) rfl (feq hc215_39).2 (by decide) (by decide) k) ?_
        show Goes _ _ _ _ _ _ _ (T36.setTop (mkF m 285 #[.val (.int p0), .val (.int p1), .val (.int y1), .val (.int y2), .val (.ref b3), .val (.long x33_0), .second, .val (.long x33_1), .second, .val (.long ((y2.toInt64) - x33_1)), .second] []))
        refine Goes.step (fun t k => XS.iconst X36.here hx rfl (hb hby at_285) k) ?_
        show Goes _ _ _ _ _ _ _ (T36.setTop (mkF m 286 #[.val (.int p0), .val (.int p1), .val (.int y1), .val (.int y2), .val (.ref b3), .val (.long x33_0), .second, .val (.long x33_1), .second, .val (.long ((y2.toInt64) - x33_1)), .second] [(.int (0 : Int32))]))
        subst hx38_0
        exact k52 _ _ X36 e36 ((if_pos hc195_35).trans (if_neg hc215_39)).symm
    · refine Goes.step (fun t k => XS.ifYes X34.here hx rfl (pc0 := 195) (pc' := 285) rfl (hb hby at_195) rfl ((if0 _ _).trans (feq (fun q => hc195_35 ((lw_eq _ _).mp q))).2) (by decide) (by decide) k) ?_
      show Goes _ _ _ _ _ _ _ (T34.setTop (mkF m 285 #[.val (.int p0), .val (.int p1), .val (.int y1), .val (.int y2), .val (.ref b3), .val (.long x33_0), .second, .val (.long x33_1), .second, .val (.long ((y2.toInt64) - x33_1)), .second] []))
      refine Goes.step (fun t k => XS.iconst X34.here hx rfl (hb hby at_285) k) ?_
      show Goes _ _ _ _ _ _ _ (T34.setTop (mkF m 286 #[.val (.int p0), .val (.int p1), .val (.int y1), .val (.int y2), .val (.ref b3), .val (.long x33_0), .second, .val (.long x33_1), .second, .val (.long ((y2.toInt64) - x33_1)), .second] [(.int (0 : Int32))]))
      exact k52 _ _ X34 e34 (if_neg hc195_35).symm
  intro T52 x52_0 X52 e52 hx52_0
  exact Goes.retZ X52 hx Bd.notSynchronized (r := (1 : Int32)) Bd.returns (by simp) (hb hby at_286) (own_plain p0 p1 y1 y2 x11_0 x11_1 x14_0 x14_1 x17_0 x17_1 x20_0 x20_1 x23_0 x23_1 x26_0 x26_1 x29_0 x29_1 x33_0 x33_1 x52_0 hy1 hy2 hx11_0 hx11_1 hx14_0 hx14_1 hx17_0 hx17_1 hx20_0 hx20_1 hx23_0 hx23_1 hx26_0 hx26_1 hx29_0 hx29_1 hx33_0 hx33_1 hx52_0) ⟨rfl, N29⟩ (by decide) (by decide)
set_option maxRecDepth 65536 in
set_option maxHeartbeats 40000000 in
theorem comes_1 {Post : Tables → Env → Array Value → State → Outcome → State → Prop} (hpost : ∀ tb e args s v u, (limb_1_1.after args s (.returned v) u = true ∧ limb_1_2.after args s (.returned v) u = true ∧ True) → FrameEnd s (.returned v) u (Jvm.fieldLocs frame_1_writes args s ++ Jvm.arrayLocs frame_1_arrays args s ++ Jvm.staticLocs frame_1_statics s) 16 128 → Post tb e args s (.returned v) u) :
    ArmFor flags0 classFile x code maxLocals ret World_1 tables_1 room_1 Calls_1 rest_1 Pre_1 Post := by
  intro l hfl _ _ p e ha hc hk s m args below hf hA hF happ hP
  obtain ⟨hcalls, hrest, hpre⟩ := hP
  obtain ⟨-, -, -, hnamed, -, -, -, hat⟩ := (Spec.applies_iff hf).mp happ
  obtain ⟨hg, hn⟩ := and_e (Cond.before_iff.mp (show (Jvm.Cond.and given_1 narrow_1).before args s = true from hpre))
  obtain ⟨g0, gr0⟩ := and_e hg
  obtain ⟨ga0, gr1⟩ := and_e gr0
  have ga1 := gr1
  obtain ⟨w0, w1, rfl⟩ : ∃ w0 w1 : Value, args = #[w0, w1] := by
    have hs : args.size = 2 := by simpa [Cond.value, given_1] using g0
    obtain ⟨L⟩ := args
    match L, hs with
    | [w0, w1], _ => exact ⟨w0, w1, rfl⟩
  have hw := fun d (hd : d ∈ tables_1) => atoms_spec (ws := Jvm.Cond.code x code maxLocals ret :: tables_1) hat d (List.mem_cons_of_mem _ hd)
  have hfit : Fit s := fun {y c} hc i hi => by
    obtain ⟨ha, rfl⟩ := Array.getElem?_eq_some_iff.mp hc
    have q := List.all_eq_true.mp ((Array.all_eq_true_iff_forall_mem.mp hF) _ (Array.getElem_mem ha)) i (List.mem_range.mpr hi)
    simpa [Array.getElem?_eq_getElem hi] using q
  obtain ⟨i0, ei0⟩ := is_v ga0
  obtain rfl : w0 = (.int i0) := Option.some.inj ei0
  obtain ⟨i1, ei1⟩ := is_v ga1
  obtain rfl : w1 = (.int i1) := Option.some.inj ei1
  obtain ⟨n, o, h1, h2, h3, _, L, rfl, ⟨rfl, N⟩, hq⟩ := rm0 l s _ hw tables_1 i0 i1  s.heap s.heap.size (Nat.le_refl _)  p e ha hc hk s m _ below hf ((Spec.applies_iff_loose hf).mp happ).1 ⟨rfl, State.Warmed39.refl s, rfl⟩ trivial
  refine ⟨n, _, h1, h2, h3, hpost _ _ _ _ _ _ ⟨Cond.after_iff.mpr rfl, Cond.after_iff.mpr (eq_i res_at (Term.int_eval (1)) rfl), trivial⟩ ⟨hq.1, hq.2.1, (hq.2.2.sift fun y hy => Or.inr (N y hy)).mono (by decide) (by decide)⟩⟩
theorem main_1_1 : Claimed_1_1 := comes_1 fun _ _ _ _ _ _ h hF => ⟨h.1, hF⟩
theorem main_1_2 : Claimed_1_2 := comes_1 fun _ _ _ _ _ _ h hF => ⟨h.2.1, hF⟩
end Jvm.Pilot.@@N@@
namespace Jvm.Pilot.@@N@@
open Jvm Jvm.ClassFile Sem Op Lib Jvm.Free Jvm.Stand Jvm.Pilot.@@N@@.Jvm.D
/-! MADE BY PROGRAM (witnessworld.py) out of the Statement's table words and the real class files: 9 classes; the members and pool entries that the words name. The judged class is class 1, her method 1. -/
namespace start1
open Jvm.ClassFile
def u (s : String) : CpInfo := .utf8 (stringToUtf16 s)
/-- a pool by its gaps: so many unusable entries, then the entry; so many at the end -/
def gap : Nat → List CpInfo → List CpInfo
  | 0, r => r
  | n + 1, r => .unusable :: gap n r
def poolList (es : List (Nat × CpInfo)) (last : Nat) : List CpInfo := es.foldr (fun e r => gap e.1 (e.2 :: r)) (gap last [])
def pool (es : List (Nat × CpInfo)) (last : Nat) : Array CpInfo := ⟨poolList es last⟩
def fileOf (pool : Array CpInfo) (this : Nat) (attrs : Array Attribute := #[]) (ms : Array MethodInfo := #[]) (fl : Nat := 33) (sup : Nat := 0) (ifs : Array Nat := #[]) (fds : Array FieldInfo := #[]) : ClassFile where
  minorVersion := 0
  majorVersion := 65
  constantPool := pool
  accessFlags := fl
  thisClass := this
  superClass := sup
  interfaces := ifs
  fields := fds
  methods := ms
  attributes := attrs
def plain (name : String) (sup : Option ClassId) : Class where
  name := name
  kind := .ordinary
  loader := none
  accessFlags := 33
  super := sup
  interfaces := #[]
  cf := none
  fields := #[]
  methods := #[]
  instanceTypes := #[]
  staticTypes := #[]
  resolved := #[]
  callSites := []
  init := .initialized
  statics := none
  mirror := none

def pool0 : Array CpInfo := pool [(5, u "<init>"), (0, u "()V"), (1, .class_ 10), (1, u "java/lang/Object")] 113

def k0c0 : Code := { maxStack := 0, maxLocals := 1, code := object_method_1_code, exceptionTable := #[], attributes := #[] }
def k0m0 : Method := { name := "<init>", desc := "()V", sig := { parameters := [], returnType := none }, accessFlags := 1, code := some k0c0 }
/-- java/lang/Object -/
def k0 : Class := { plain "java/lang/Object" none with
  accessFlags := 33
  interfaces := #[]
  cf := some (fileOf pool0 8 #[] #[{ accessFlags := 1, nameIndex := 5, descriptorIndex := 6, attributes := #[] }] 33 0 #[] #[])
  fields := #[]
  methods := #[k0m0]
  instanceTypes := #[]
  staticTypes := #[]
  resolved := Array.replicate 124 none
  statics := none }

def pool1 : Array CpInfo := pool [(2, .class_ 4), (1, u "java/lang/Object"), (0, u "<init>"), (0, u "()V"), (0, .class_ 8), (0, u "com/example/chernoff/chernoff/monitor/Rounds"), (0, .methodref 7 10), (0, .nameAndType 5 11), (0, u "(I)V"), (0, .methodref 7 13), (0, .nameAndType 14 6), (0, u "next"), (0, .long 3), (1, .long 2), (1, .long 6), (1, .long 4), (1, .methodref 7 24), (0, .nameAndType 25 26), (0, u "number"), (0, u "()J"), (0, .methodref 7 28), (0, .nameAndType 29 30), (0, u "opened"), (0, u "()Z"), (0, .methodref 7 32), (0, .nameAndType 33 30), (0, u "closed"), (0, .methodref 7 35), (0, .nameAndType 36 37), (0, u "stretch"), (0, u "()I"), (0, .methodref 7 39), (0, .nameAndType 40 30), (0, u "stretchClosed"), (0, .class_ 42), (0, u "com/example/chernoff/chernoff/monitor/RoundsNextPinLaw"), (2, u "law"), (0, u "(II)Z")] 3

def k1m0 : Method := { name := "<init>", desc := "()V", sig := { parameters := [], returnType := none }, accessFlags := 1, code := none }
def k1c1 : Code := { maxStack := 7, maxLocals := 11, code := code, exceptionTable := #[], attributes := #[] }
def k1m1 : Method := { name := "law", desc := "(II)Z", sig := { parameters := [.int, .int], returnType := some .boolean }, accessFlags := 9, code := some k1c1 }
/-- com/example/chernoff/chernoff/monitor/RoundsNextPinLaw -/
def k1 : Class := { plain "com/example/chernoff/chernoff/monitor/RoundsNextPinLaw" (some 0) with
  accessFlags := 49
  interfaces := #[]
  cf := some (fileOf pool1 41 #[] #[{ accessFlags := 1, nameIndex := 5, descriptorIndex := 6, attributes := #[] }, { accessFlags := 9, nameIndex := 45, descriptorIndex := 46, attributes := #[] }] 49 2 #[] #[])
  fields := #[]
  methods := #[k1m0, k1m1]
  instanceTypes := #[]
  staticTypes := #[]
  resolved := Array.replicate 50 none
  statics := none }

def pool2 : Array CpInfo := pool [(1, .methodref 2 3), (0, .class_ 4), (0, .nameAndType 5 6), (0, u "java/lang/Object"), (0, u "<init>"), (0, u "()V"), (0, .fieldref 8 9), (0, .class_ 10), (0, .nameAndType 11 12), (0, u "com/example/chernoff/chernoff/monitor/Rounds"), (0, u "stretches"), (0, u "J"), (0, .fieldref 8 14), (0, .nameAndType 15 12), (0, u "position"), (0, .fieldref 8 17), (0, .nameAndType 18 12), (0, u "number"), (0, u "COUNTERS"), (0, u "I"), (2, u "(I)V"), (2, u "next"), (1, u "()J"), (0, u "opened"), (0, u "()Z"), (0, u "closed"), (0, u "stretch"), (0, u "()I"), (0, u "stretchClosed")] 2

def k2c0 : Code := { maxStack := 3, maxLocals := 2, code := prog_65_method_1_code, exceptionTable := #[], attributes := #[] }
def k2m0 : Method := { name := "<init>", desc := "(I)V", sig := { parameters := [.int], returnType := none }, accessFlags := 0, code := some k2c0 }
def k2c1 : Code := { maxStack := 6, maxLocals := 1, code := prog_65_method_2_code, exceptionTable := #[], attributes := #[] }
def k2m1 : Method := { name := "next", desc := "()V", sig := { parameters := [], returnType := none }, accessFlags := 0, code := some k2c1 }
def k2c2 : Code := { maxStack := 2, maxLocals := 1, code := prog_65_method_3_code, exceptionTable := #[], attributes := #[] }
def k2m2 : Method := { name := "number", desc := "()J", sig := { parameters := [], returnType := some .long }, accessFlags := 0, code := some k2c2 }
def k2c3 : Code := { maxStack := 4, maxLocals := 1, code := prog_65_method_4_code, exceptionTable := #[], attributes := #[] }
def k2m3 : Method := { name := "opened", desc := "()Z", sig := { parameters := [], returnType := some .boolean }, accessFlags := 0, code := some k2c3 }
def k2c4 : Code := { maxStack := 6, maxLocals := 1, code := prog_65_method_5_code, exceptionTable := #[], attributes := #[] }
def k2m4 : Method := { name := "closed", desc := "()Z", sig := { parameters := [], returnType := some .boolean }, accessFlags := 0, code := some k2c4 }
def k2c5 : Code := { maxStack := 4, maxLocals := 1, code := prog_65_method_6_code, exceptionTable := #[], attributes := #[] }
def k2m5 : Method := { name := "stretch", desc := "()I", sig := { parameters := [], returnType := some .int }, accessFlags := 0, code := some k2c5 }
def k2c6 : Code := { maxStack := 4, maxLocals := 1, code := prog_65_method_7_code, exceptionTable := #[], attributes := #[] }
def k2m6 : Method := { name := "stretchClosed", desc := "()Z", sig := { parameters := [], returnType := some .boolean }, accessFlags := 0, code := some k2c6 }
/-- com/example/chernoff/chernoff/monitor/Rounds -/
def k2 : Class := { plain "com/example/chernoff/chernoff/monitor/Rounds" (some 0) with
  accessFlags := 48
  interfaces := #[]
  cf := some (fileOf pool2 8 #[] #[{ accessFlags := 0, nameIndex := 5, descriptorIndex := 23, attributes := #[] }, { accessFlags := 0, nameIndex := 26, descriptorIndex := 6, attributes := #[] }, { accessFlags := 0, nameIndex := 18, descriptorIndex := 28, attributes := #[] }, { accessFlags := 0, nameIndex := 29, descriptorIndex := 30, attributes := #[] }, { accessFlags := 0, nameIndex := 31, descriptorIndex := 30, attributes := #[] }, { accessFlags := 0, nameIndex := 32, descriptorIndex := 33, attributes := #[] }, { accessFlags := 0, nameIndex := 34, descriptorIndex := 30, attributes := #[] }] 48 2 #[] #[{ accessFlags := 24, nameIndex := 19, descriptorIndex := 20, attributes := #[] }, { accessFlags := 18, nameIndex := 11, descriptorIndex := 12, attributes := #[] }, { accessFlags := 2, nameIndex := 18, descriptorIndex := 12, attributes := #[] }, { accessFlags := 2, nameIndex := 15, descriptorIndex := 12, attributes := #[] }])
  fields := #[{ name := "COUNTERS", type := .int, accessFlags := 24, slot := 0, constantValue := 0 }, { name := "stretches", type := .long, accessFlags := 18, slot := 0, constantValue := 0 }, { name := "number", type := .long, accessFlags := 2, slot := 1, constantValue := 0 }, { name := "position", type := .long, accessFlags := 2, slot := 2, constantValue := 0 }]
  methods := #[k2m0, k2m1, k2m2, k2m3, k2m4, k2m5, k2m6]
  instanceTypes := #[.long, .long, .long]
  staticTypes := #[.int]
  resolved := Array.replicate 37 none
  statics := none }

def pool3 : Array CpInfo := pool [(1, u "java/lang/Cloneable"), (0, .class_ 1), (0, u "java/lang/Object"), (0, .class_ 3)] 3

/-- java/lang/Cloneable -/
def k3 : Class := { plain "java/lang/Cloneable" (some 0) with
  accessFlags := 1537
  interfaces := #[]
  cf := some (fileOf pool3 2 #[] #[] 1537 4 #[] #[])
  fields := #[]
  methods := #[]
  instanceTypes := #[]
  staticTypes := #[]
  resolved := Array.replicate 8 none
  statics := none }

def pool4 : Array CpInfo := pool [(1, u "java/io/Serializable"), (0, .class_ 1), (0, u "java/lang/Object"), (0, .class_ 3)] 3

/-- java/io/Serializable -/
def k4 : Class := { plain "java/io/Serializable" (some 0) with
  accessFlags := 1537
  interfaces := #[]
  cf := some (fileOf pool4 2 #[] #[] 1537 4 #[] #[])
  fields := #[]
  methods := #[]
  instanceTypes := #[]
  staticTypes := #[]
  resolved := Array.replicate 8 none
  statics := none }

/-- the primitive byte -/
def k5 : Class := { plain "byte" none with kind := .primitive 'B', accessFlags := 0x411 }
/-- [B -/
def k6 : Class := { plain "[B" (some 0) with kind := .array 5 .byte, interfaces := #[3, 4], accessFlags := 1041 }

/-- the primitive int -/
def k7 : Class := { plain "int" none with kind := .primitive 'I', accessFlags := 0x411 }
/-- [I -/
def k8 : Class := { plain "[I" (some 0) with kind := .array 7 .int, interfaces := #[3, 4], accessFlags := 1041 }

def heap : Heap := #[]
def classes : Array Class := #[k0, k1, k2, k3, k4, k5, k6, k7, k8]
def interned : List (Array UInt16 × Addr) := []
def slotsUsed : Nat := 0
def theMethod : MethodId := ⟨1, 1⟩
def args0 : Array Value := #[.int 5, .int 7]
def aboutOver (below : List Frame) : State where
  vm := { classes := classes, interned := interned.toArray }
  heap := heap
  slotsUsed := slotsUsed
  threads := #[{ frames := .invoking theMethod args0 :: below }]
def below0 : List Frame := [.native { method := ⟨0, 0⟩, args := #[] }]
def about1 : State := aboutOver below0
def p0 : Program := .bare "" "" ""
def e0 : Env := launch0.env 0 0 0
theorem w_frames : about1.frames = Frame.invoking theMethod args0 :: below0 := rfl
set_option maxRecDepth 65536 in
theorem w_args : argsFit about1.vm theMethod args0 = true := by decide +kernel
set_option maxRecDepth 65536 in
theorem w_heap : heapFits about1 = true := by decide +kernel
set_option maxRecDepth 65536 in
theorem w_runnable : about1.curStatus? = some .runnable := by decide +kernel
set_option maxRecDepth 65536 in
theorem w_alone : about1.alone = true := by decide +kernel
set_option maxRecDepth 65536 in
theorem w_named : about1.methodNamed? x = some theMethod := by decide +kernel
set_option maxRecDepth 65536 in
theorem w_hears : about1.hears theMethod below0 = true := by decide +kernel
set_option maxRecDepth 65536 in
theorem w_ripe : about1.ripe theMethod args0 below0 = true := by decide +kernel
theorem w_running : about1.status = .running := rfl
set_option maxRecDepth 65536 in
theorem w_room : about1.hasRoom e0.platform room_1 = true :=
  launch0.hasRoom_least _ room_1 (by decide +kernel) (by decide +kernel) (by decide +kernel) (by decide +kernel) (by decide +kernel) (by decide +kernel)
theorem allAtoms_all (ts : List Jvm.Cond) (a : Array Jvm.Value) (st : Jvm.State) : (allAtoms ts).before a st = ts.all (fun c => c.before a st) := by
  induction ts with
  | nil => rfl
  | cons c t ih =>
    show (Jvm.Cond.and c (allAtoms t)).before a st = _
    rw [Jvm.Cond.before_and, ih, List.all_cons]
def words1 : List Jvm.Cond := Jvm.Cond.code x code maxLocals ret :: tables_1
/-- a 'code' word, met by the world's own term for the bytes: nothing is compared byte by byte -/
theorem code_word {y : MethodName} {bytes : ByteArray} {mx : Nat} {rt : Option FieldType} {a : Array Value} {s : State} {m : MethodId} {meth : Method} {c : Code} (h1 : s.methodNamed? y = some m) (h2 : s.vm.method? m = some meth) (h3 : meth.code = some c) (h4 : c.code = bytes)
    (h5 : (c.maxLocals == mx && c.exceptionTable.isEmpty && decide (c.maxStack ≤ mostOperands) && decide (meth.sig.returnType = rt) && !meth.locks && decide (parseMethodDescriptor y.desc = some meth.sig)) = true) : (Jvm.Cond.code y bytes mx rt).before a s = true := by
  simp only [Bool.and_eq_true, beq_iff_eq, Bool.not_eq_true', decide_eq_true_eq] at h5
  obtain ⟨⟨⟨⟨⟨g1, g2⟩, g3⟩, g4⟩, g5⟩, g6⟩ := h5
  simp [Cond.before, Cond.holds, Cond.value, h1, h2, h3, h4, g1, g2, g3, g4, g5, g6]
def isCode : Jvm.Cond → Bool
  | .code _ _ _ _ => true
  | _ => false
theorem all_split {L : List Jvm.Cond} {P : Jvm.Cond → Bool} (h1 : L.all (fun c => isCode c || P c) = true) (h2 : ∀ c ∈ L.filter isCode, P c = true) : L.all P = true := by
  refine List.all_eq_true.mpr fun c hc => ?_
  have h := List.all_eq_true.mp h1 c hc
  rcases Bool.eq_false_or_eq_true (isCode c) with hi | hi
  · exact h2 c (List.mem_filter.mpr ⟨hc, hi⟩)
  · simpa [hi] using h
set_option maxRecDepth 65536 in
theorem w_c0 : (Jvm.Cond.code x code maxLocals ret).before args0 about1 = true := code_word (m := ⟨1, 1⟩) (meth := k1m1) (c := k1c1) (by decide +kernel) rfl rfl rfl (by decide +kernel)
set_option maxRecDepth 65536 in
theorem w_c1 : (Jvm.Cond.code ({ cls := "com/example/chernoff/chernoff/monitor/Rounds", name := "<init>", desc := "(I)V" } : Jvm.MethodName) prog_65_method_1_code (2 : Nat) (Option.none : Option Jvm.ClassFile.FieldType)).before args0 about1 = true := code_word (m := ⟨2, 0⟩) (meth := k2m0) (c := k2c0) (by decide +kernel) rfl rfl rfl (by decide +kernel)
set_option maxRecDepth 65536 in
theorem w_c2 : (Jvm.Cond.code ({ cls := "java/lang/Object", name := "<init>", desc := "()V" } : Jvm.MethodName) object_method_1_code (1 : Nat) (Option.none : Option Jvm.ClassFile.FieldType)).before args0 about1 = true := code_word (m := ⟨0, 0⟩) (meth := k0m0) (c := k0c0) (by decide +kernel) rfl rfl rfl (by decide +kernel)
set_option maxRecDepth 65536 in
theorem w_c3 : (Jvm.Cond.code ({ cls := "com/example/chernoff/chernoff/monitor/Rounds", name := "next", desc := "()V" } : Jvm.MethodName) prog_65_method_2_code (1 : Nat) (Option.none : Option Jvm.ClassFile.FieldType)).before args0 about1 = true := code_word (m := ⟨2, 1⟩) (meth := k2m1) (c := k2c1) (by decide +kernel) rfl rfl rfl (by decide +kernel)
set_option maxRecDepth 65536 in
theorem w_c4 : (Jvm.Cond.code ({ cls := "com/example/chernoff/chernoff/monitor/Rounds", name := "number", desc := "()J" } : Jvm.MethodName) prog_65_method_3_code (1 : Nat) (Option.some Jvm.ClassFile.FieldType.long)).before args0 about1 = true := code_word (m := ⟨2, 2⟩) (meth := k2m2) (c := k2c2) (by decide +kernel) rfl rfl rfl (by decide +kernel)
set_option maxRecDepth 65536 in
theorem w_c5 : (Jvm.Cond.code ({ cls := "com/example/chernoff/chernoff/monitor/Rounds", name := "opened", desc := "()Z" } : Jvm.MethodName) prog_65_method_4_code (1 : Nat) (Option.some Jvm.ClassFile.FieldType.boolean)).before args0 about1 = true := code_word (m := ⟨2, 3⟩) (meth := k2m3) (c := k2c3) (by decide +kernel) rfl rfl rfl (by decide +kernel)
set_option maxRecDepth 65536 in
theorem w_c6 : (Jvm.Cond.code ({ cls := "com/example/chernoff/chernoff/monitor/Rounds", name := "closed", desc := "()Z" } : Jvm.MethodName) prog_65_method_5_code (1 : Nat) (Option.some Jvm.ClassFile.FieldType.boolean)).before args0 about1 = true := code_word (m := ⟨2, 4⟩) (meth := k2m4) (c := k2c4) (by decide +kernel) rfl rfl rfl (by decide +kernel)
set_option maxRecDepth 65536 in
theorem w_c7 : (Jvm.Cond.code ({ cls := "com/example/chernoff/chernoff/monitor/Rounds", name := "stretch", desc := "()I" } : Jvm.MethodName) prog_65_method_6_code (1 : Nat) (Option.some Jvm.ClassFile.FieldType.int)).before args0 about1 = true := code_word (m := ⟨2, 5⟩) (meth := k2m5) (c := k2c5) (by decide +kernel) rfl rfl rfl (by decide +kernel)
set_option maxRecDepth 65536 in
theorem w_c8 : (Jvm.Cond.code ({ cls := "com/example/chernoff/chernoff/monitor/Rounds", name := "stretchClosed", desc := "()Z" } : Jvm.MethodName) prog_65_method_7_code (1 : Nat) (Option.some Jvm.ClassFile.FieldType.boolean)).before args0 about1 = true := code_word (m := ⟨2, 6⟩) (meth := k2m6) (c := k2c6) (by decide +kernel) rfl rfl rfl (by decide +kernel)
def codes1 : List Jvm.Cond := [Jvm.Cond.code x code maxLocals ret, Jvm.Cond.code ({ cls := "com/example/chernoff/chernoff/monitor/Rounds", name := "<init>", desc := "(I)V" } : Jvm.MethodName) prog_65_method_1_code (2 : Nat) (Option.none : Option Jvm.ClassFile.FieldType), Jvm.Cond.code ({ cls := "java/lang/Object", name := "<init>", desc := "()V" } : Jvm.MethodName) object_method_1_code (1 : Nat) (Option.none : Option Jvm.ClassFile.FieldType), Jvm.Cond.code ({ cls := "com/example/chernoff/chernoff/monitor/Rounds", name := "next", desc := "()V" } : Jvm.MethodName) prog_65_method_2_code (1 : Nat) (Option.none : Option Jvm.ClassFile.FieldType), Jvm.Cond.code ({ cls := "com/example/chernoff/chernoff/monitor/Rounds", name := "number", desc := "()J" } : Jvm.MethodName) prog_65_method_3_code (1 : Nat) (Option.some Jvm.ClassFile.FieldType.long), Jvm.Cond.code ({ cls := "com/example/chernoff/chernoff/monitor/Rounds", name := "opened", desc := "()Z" } : Jvm.MethodName) prog_65_method_4_code (1 : Nat) (Option.some Jvm.ClassFile.FieldType.boolean), Jvm.Cond.code ({ cls := "com/example/chernoff/chernoff/monitor/Rounds", name := "closed", desc := "()Z" } : Jvm.MethodName) prog_65_method_5_code (1 : Nat) (Option.some Jvm.ClassFile.FieldType.boolean), Jvm.Cond.code ({ cls := "com/example/chernoff/chernoff/monitor/Rounds", name := "stretch", desc := "()I" } : Jvm.MethodName) prog_65_method_6_code (1 : Nat) (Option.some Jvm.ClassFile.FieldType.int), Jvm.Cond.code ({ cls := "com/example/chernoff/chernoff/monitor/Rounds", name := "stretchClosed", desc := "()Z" } : Jvm.MethodName) prog_65_method_7_code (1 : Nat) (Option.some Jvm.ClassFile.FieldType.boolean)]
set_option maxRecDepth 65536 in
theorem codes_eq : words1.filter isCode = codes1 := rfl
theorem w_codes : ∀ c ∈ words1.filter isCode, c.before args0 about1 = true := by
  rw [codes_eq]
  intro c hc
  simp only [codes1, List.mem_cons, List.not_mem_nil, or_false] at hc
  rcases hc with rfl | rfl | rfl | rfl | rfl | rfl | rfl | rfl | rfl
  · exact w_c0
  · exact w_c1
  · exact w_c2
  · exact w_c3
  · exact w_c4
  · exact w_c5
  · exact w_c6
  · exact w_c7
  · exact w_c8
set_option maxRecDepth 65536 in
theorem w_t1 : (words1.take 24).all (fun c => isCode c || c.before args0 about1) = true := by decide +kernel
set_option maxRecDepth 65536 in
theorem w_t2 : ((words1.drop 24).take 24).all (fun c => isCode c || c.before args0 about1) = true := by decide +kernel
set_option maxRecDepth 65536 in
theorem w_t3 : ((words1.drop 24).drop 24).all (fun c => isCode c || c.before args0 about1) = true := by decide +kernel
theorem w_tables : (allAtoms (Jvm.Cond.code x code maxLocals ret :: tables_1)).before args0 about1 = true := by
  rw [allAtoms_all]
  show words1.all (fun c => c.before args0 about1) = true
  refine all_split ?_ w_codes
  rw [← List.take_append_drop 24 words1, List.all_append, w_t1, ← List.take_append_drop 24 (words1.drop 24), List.all_append, w_t2, w_t3]
  rfl
set_option maxRecDepth 65536 in
theorem w_case : (Jvm.Cond.and given_1 narrow_1).before args0 about1 = true := by decide +kernel
theorem w_applies : (headSpec (Jvm.Cond.code x code maxLocals ret :: tables_1) room_1).applies x e0.platform about1 = true :=
  (Spec.applies_iff w_frames).mpr ⟨w_running, w_runnable, w_alone, w_named, w_hears, w_ripe, w_room, w_tables⟩
theorem atStart : AtStart classFile x code maxLocals ret World_1 tables_1 room_1 Calls_1 rest_1 Pre_1 launch0 p0 e0 about1 theMethod args0 below0 :=
  ⟨lists_1, trivial, launch0.admits_env _ _ _, launch0.least_env, fairChoices_fair.cas, fairChoices_fair.clock, w_frames, w_args, w_heap, w_applies, trivial, trivial, w_case⟩
end start1
theorem witness_1 : WitnessClaimed_1 := ⟨start1.p0, start1.e0, start1.about1, start1.theMethod, start1.args0, start1.below0, start1.atStart⟩
end Jvm.Pilot.@@N@@
