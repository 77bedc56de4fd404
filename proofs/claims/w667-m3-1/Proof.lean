import JvmDerived
import JvmDerived.Pilot.@@N@@Statement
import JvmDerived.Pilot.@@N@@Code
set_option linter.unusedVariables false
set_option linter.unusedSimpArgs false
namespace Jvm.Pilot.@@N@@
open Jvm Jvm.ClassFile Sem Op Lib Jvm.Free Jvm.Stand Jvm.LawKit Jvm.RoadKit Bundle Jvm.Pilot.@@N@@.Jvm.D
section Own0
theorem own_fld_to {Z : State} {h : Heap} {a : Addr} {C n d : String} {v v' : Value} (F : Fld Z h a C n d v) (q : v = v') : Fld Z h a C n d v' := q ▸ F
theorem own_sta_keep {Z : State} {h h' : Heap} {C n d : String} {v : Value} {ws : List Addr} (F : Sta Z h C n d v) (K : Keep h h' ws) (q : ∀ x ∈ ws, ∀ c : Cell, h[x]? = some c → c.vm.isStatics = false) : Sta Z h' C n d v := by
  obtain ⟨cf, i, k, f, st, cell, h1, h2, h3, h4, h5, h6, h7⟩ := F
  exact ⟨cf, i, k, f, st, cell, h1, h2, h3, h4, K.2.1 st cell h5 (fun y => by rw [q st y cell h5] at h6; cases h6), h6, h7⟩
theorem own_ins_keep {Z : State} {h h' : Heap} {a : Addr} {C : String} {bo : Bool} {ws : List Addr} (F : Ins Z h a C bo) (K : Keep h h' ws) : Ins Z h' a C bo := by
  obtain ⟨cell, cT, h1, h2, h3⟩ := F
  obtain ⟨c', e1, e2, e3, -⟩ := K.2.2 a cell h1
  exact ⟨c', cT, e1, h2, by rw [e2, e3]; exact h3⟩
theorem notsta_exa {Z : State} {h : Heap} {a : Addr} {C : String} (F : Exa Z h a C) : ∀ c : Cell, h[a]? = some c → c.vm.isStatics = false := fun c hc => by
  obtain ⟨cell, _, h1, -, -, h4, -⟩ := F
  cases hc.symm.trans h1; exact h4
theorem eqi_v {args : Array Value} {first s : State} {o : Option Outcome} {idx : List Nat} {a : Term} {k : Int32} (h : (Cond.eq a (.int k)).value args first o s idx = some true) : a.eval args first o idx s = some (.int k) := by
  obtain ⟨x, y, e1, e2, k1, k2⟩ := cmp_v (Or.inl h)
  have e3 : (Term.int k).eval args first o idx s = some (.int k) := rfl
  cases e3.symm.trans e2
  cases x <;> simp [Cond.value, e1, e3] at h
  rw [e1, h]
end Own0
section Own
variable {p : Program} {l : Launch} {e : Env} {R : Room} {s : State} {m : MethodId} {args : Array Value} {below : List Frame} {meth : Method} {c : Code} {T T' : State} {locs : List Loc} {cells slots : Nat} {Z : State} {h h' : Heap} {Q : Option Value → Heap → List Loc → Prop} {kc ks : Nat} {a b : Addr}
/-- from T the method comes to its end, and Q holds of what it returns, of the heap and of the written places -/
def Goes (p : Program) (e : Env) (below : List Frame) (s : State) (Q : Option Value → Heap → List Loc → Prop) (kc ks : Nat) (T : State) : Prop :=
  ∃ s₂ o, Steps p.tables e below T s₂ ∧ s₂.status = .running ∧ Ended s₂ below o ∧ ∃ v L, o = .returned v ∧ Q v s₂.heap L ∧ FrameEnd s o s₂ L kc ks
theorem Goes.step (st : ∀ t, Steps p.tables e below T' t → Steps p.tables e below T t) (k : Goes p e below s Q kc ks T') : Goes p e below s Q kc ks T := by
  obtain ⟨s₂, o, h1, h2⟩ := k; exact ⟨s₂, o, st _ h1, h2⟩
theorem Goes.ret (X : Stand p l e R s m args below meth c T locs cells slots) {v : Option Value} (hv : meth.sig.returnType = none → v = none) (hlocks : meth.locks = false) {T₀ : State}
    (st : ∀ fs, (∀ (f : JFrame) (acts : List Action), f.method = m → f.locked = none → f.entered = [] → (doReturn e (T.setTop f) acts v).1 = T.setFrames fs) → Steps p.tables e below T₀ (T.setFrames fs))
    (hq : Q v T.heap locs) (hc : cells ≤ kc) (hs : slots ≤ ks) : Goes p e below s Q kc ks T₀ := by
  obtain ⟨fs, hr, hrun, hended, hW, hsame⟩ := X.leave (v := v) hv hlocks
  exact ⟨_, _, st fs hr, hrun, hended, _, _, rfl, hq, ⟨_, rfl⟩, hW, hsame.mono hc hs⟩
theorem Goes.retZ (X : Stand p l e R s m args below meth c T locs cells slots) (hx : p.tables.exec = Jvm.exec) (hlocks : meth.locks = false) {pc : Nat} {Ls : Array Slot} {z r : Int32} {t : FieldType} {rest : List Value} (hret : meth.sig.returnType = some t) (ht : t = .boolean ∨ t = .byte ∨ t = .char ∨ t = .short)
    (hd : decode c.code pc = .ok (.ireturn, 1)) (hz : nar t z = r) (hq : Q (some (.int r)) T.heap locs) (hc : cells ≤ kc) (hs : slots ≤ ks) : Goes p e below s Q kc ks (T.setTop (mkF m pc Ls (.int z :: rest))) := by
  subst hz
  exact Goes.ret X (fun h => by rw [hret] at h; cases h) hlocks (fun fs hr => retN X hx hret ht hd hr) hq hc hs
theorem Goes.retI (X : Stand p l e R s m args below meth c T locs cells slots) (hx : p.tables.exec = Jvm.exec) (hlocks : meth.locks = false) {pc : Nat} {Ls : Array Slot} {z r : Int32} {rest : List Value} (hret : meth.sig.returnType = some .int)
    (hd : decode c.code pc = .ok (.ireturn, 1)) (hz : z = r) (hq : Q (some (.int r)) T.heap locs) (hc : cells ≤ kc) (hs : slots ≤ ks) : Goes p e below s Q kc ks (T.setTop (mkF m pc Ls (.int z :: rest))) := by
  subst hz
  exact Goes.ret X (fun h => by rw [hret] at h; cases h) hlocks (fun fs hr => retOut X hx hret rfl (Or.inl ⟨rfl, Or.inl rfl, z, rfl⟩) hd hr) hq hc hs
theorem Goes.retJ (X : Stand p l e R s m args below meth c T locs cells slots) (hx : p.tables.exec = Jvm.exec) (hlocks : meth.locks = false) {pc : Nat} {Ls : Array Slot} {z r : Int64} {rest : List Value} (hret : meth.sig.returnType = some .long)
    (hd : decode c.code pc = .ok (.lreturn, 1)) (hz : z = r) (hq : Q (some (.long r)) T.heap locs) (hc : cells ≤ kc) (hs : slots ≤ ks) : Goes p e below s Q kc ks (T.setTop (mkF m pc Ls (.long z :: rest))) := by
  subst hz
  exact Goes.ret X (fun h => by rw [hret] at h; cases h) hlocks (fun fs hr => retOut X hx hret rfl (Or.inr (Or.inl ⟨rfl, rfl, z, rfl⟩)) hd hr) hq hc hs
theorem Goes.retR (X : Stand p l e R s m args below meth c T locs cells slots) (hx : p.tables.exec = Jvm.exec) (hlocks : meth.locks = false) {pc : Nat} {Ls : Array Slot} {z r : Value} {t : FieldType} {rest : List Value} (hret : meth.sig.returnType = some t) (ht : t.isReference = true) (hn : narrow t z = z) (hw : z.isRef = true)
    (hd : decode c.code pc = .ok (.areturn, 1)) (hz : z = r) (hq : Q (some r) T.heap locs) (hc : cells ≤ kc) (hs : slots ≤ ks) : Goes p e below s Q kc ks (T.setTop (mkF m pc Ls (z :: rest))) := by
  subst hz
  exact Goes.ret X (fun h => by rw [hret] at h; cases h) hlocks (fun fs hr => retOut X hx hret hn (Or.inr (Or.inr (Or.inr (Or.inr ⟨rfl, ht, hw⟩)))) hd hr) hq hc hs
theorem Goes.retV (X : Stand p l e R s m args below meth c T locs cells slots) (hx : p.tables.exec = Jvm.exec) (hlocks : meth.locks = false) {pc : Nat} {Ls : Array Slot} (hret : meth.sig.returnType = none)
    (hd : decode c.code pc = .ok (.return_, 1)) (hq : Q none T.heap locs) (hc : cells ≤ kc) (hs : slots ≤ ks) : Goes p e below s Q kc ks (T.setTop (mkF m pc Ls [])) :=
  Goes.ret X (fun _ => rfl) hlocks (fun fs hr => X.returnOut hx hret hd hr) hq hc hs
/-- the array at a holds vs -/
def Ara (Z : State) (h : Heap) (a : Addr) (ty : FieldType) (vs : List Value) : Prop := ∃ cl : Cell, Arr Z h a cl ty ∧ cl.slots.toList = vs ∧ vs.length < 2 ^ 31 ∧ (∀ v ∈ vs, fits ty v = true) ∧ ∀ C, ty = .object C → Ovr Z cl.cls C
variable {ty : FieldType} {vs : List Value} {sl : Nat} {v : Value} {ws : List Addr}
theorem Ara.lt (F : Ara Z h a ty vs) : a < h.size := by obtain ⟨c, A, -⟩ := F; exact A.lt
theorem Ara.ext (F : Ara Z h a ty vs) (E : Ext h h') : Ara Z h' a ty vs := by obtain ⟨c, A, r⟩ := F; exact ⟨c, A.ext E, r⟩
theorem Ara.other (F : Ara Z h b ty vs) (W : Wr h h' a sl v) (q : b ≠ a) : Ara Z h' b ty vs := by obtain ⟨c, A, r⟩ := F; exact ⟨c, A.other W q, r⟩
theorem Ara.keep (F : Ara Z h a ty vs) (K : Keep h h' ws) (q : a ∉ ws) : Ara Z h' a ty vs := by obtain ⟨c, A, r⟩ := F; exact ⟨c, ⟨K.2.1 a c A.1 q, A.2⟩, r⟩
theorem fits_dflt (ty : FieldType) : fits ty (defaultValue ty) = true := by cases ty <;> rfl
theorem Ara.new {k : ClassId} {z : Int32} (A : Arr Z h a (newA k ty z) ty) (q : ¬ z < 0) (e : List.replicate z.toNatClampNeg (defaultValue ty) = vs) (O : ∀ C, ty = .object C → Ovr Z k C) : Ara Z h a ty vs := by
  subst e
  refine ⟨_, A, by simp [newA], by simpa using (back32 q).2, fun v hv => ?_, O⟩
  rw [(List.mem_replicate.mp hv).2]; exact fits_dflt ty
theorem Ara.same {j : Int32} {cl : Cell} (A : Arr Z h a cl ty) (e : cl.slots.toList = vs) (hl : vs.length < 2 ^ 31) (hf : ∀ v ∈ vs, fits ty v = true) (O : ∀ C, ty = .object C → Ovr Z cl.cls C) (hv : fits ty v = true) (W : Wr h h' a j.toNatClampNeg v) : Ara Z h' a ty (vs.set j.toNatClampNeg v) := by
  refine ⟨_, A.same W, by simp [Cell.setSlot, ← e], by simpa using hl, fun u hu => ?_, O⟩
  rcases List.mem_or_eq_of_mem_set hu with q | q
  · exact hf u q
  · rw [q]; exact hv
theorem inb {j : Int32} {cl : Cell} (e : cl.slots.toList = vs) (h0 : ¬ j < 0) (hj : j.toNatClampNeg < vs.length) : ¬ (j < 0 ∨ cl.slots.size ≤ j.toNatClampNeg) := by
  rintro (q | q)
  · exact h0 q
  · rw [← e] at hj; simp at hj; omega
theorem getb {j : Int32} {cl : Cell} (e : cl.slots.toList = vs) (hv : vs[j.toNatClampNeg]? = some v) : cl.slots[j.toNatClampNeg]? = some v := by rw [← e] at hv; simpa using hv
theorem ltb {n : Nat} (hv : vs[n]? = some v) : n < vs.length := (List.getElem?_eq_some_iff.mp hv).1
theorem lenb {cl : Cell} (e : cl.slots.toList = vs) : cl.slots.size = vs.length := by rw [← e]; simp
theorem notsta_ara (F : Ara Z h a ty vs) : ∀ c : Cell, h[a]? = some c → c.vm.isStatics = false := fun c hc => by
  obtain ⟨cl, A, -⟩ := F
  cases hc.symm.trans A.1; exact A.plain
theorem Ara.to {vs' : List Value} (F : Ara Z h a ty vs) (q : vs = vs') : Ara Z h a ty vs' := q ▸ F
end Own
theorem own_pn0 : plainName "com/example/double_prior/doubleprior/index/ReaderReadLongPinLaw" = true := by first | (simp [plainName, overriddenIn]; done) | decide +kernel
theorem own_pn1 : plainName "com/example/double_prior/doubleprior/index/IndexFile$Reader" = true := by first | (simp [plainName, overriddenIn]; done) | decide +kernel
theorem own_pd0 : parseMethodDescriptor "(JI)B" = some ⟨[.long, .int], some .byte⟩ := by decide +kernel
theorem own_pd1 : parseMethodDescriptor "(JI)I" = some ⟨[.long, .int], some .int⟩ := by decide +kernel
theorem own_pd2 : parseMethodDescriptor "([BIIII)V" = some ⟨[(.array .byte), .int, .int, .int, .int], none⟩ := by decide +kernel
theorem own_pd3 : parseMethodDescriptor "([BI)V" = some ⟨[(.array .byte), .int], none⟩ := by decide +kernel
theorem own_pd4 : parseMethodDescriptor "()J" = some ⟨[], some .long⟩ := by decide +kernel
theorem own_pd5 : parseMethodDescriptor "()I" = some ⟨[], some .int⟩ := by decide +kernel
def f1 (q0 : Int64) (p1 : Int32) : Int32 := (nar .byte ((((q0.toUInt64 >>> (((8 : Int32) * (p1 &&& (7 : Int32))) &&& 0x3f).toInt64.toUInt64).toInt64).toInt32).toInt8.toInt32))
theorem own_d1_0 : decode method_2_code 0 = .ok (.lload_n 0, 1) := by decide +kernel
theorem own_d1_1 : decode method_2_code 1 = .ok (.bipush 8, 2) := by decide +kernel
theorem own_d1_3 : decode method_2_code 3 = .ok (.iload_n 2, 1) := by decide +kernel
theorem own_d1_4 : decode method_2_code 4 = .ok (.bipush 7, 2) := by decide +kernel
theorem own_d1_6 : decode method_2_code 6 = .ok (.iand, 1) := by decide +kernel
theorem own_d1_7 : decode method_2_code 7 = .ok (.imul, 1) := by decide +kernel
theorem own_d1_8 : decode method_2_code 8 = .ok (.lushr, 1) := by decide +kernel
theorem own_d1_9 : decode method_2_code 9 = .ok (.l2i, 1) := by decide +kernel
theorem own_d1_10 : decode method_2_code 10 = .ok (.i2b, 1) := by decide +kernel
theorem own_d1_11 : decode method_2_code 11 = .ok (.ireturn, 1) := by decide +kernel
theorem own_ef1 (m : MethodId) (q0 : Int64) (p1 : Int32) : entryFrame m #[(.long q0), (.int p1)] 3 = mkF m 0 #[.val (.long q0), .second, .val (.int p1)] [] := by first | (simp [entryFrame, mkF, argsToLocals, Value.category, maxLocals]; done) | rfl
abbrev RM1 : Room := ({ frames := 0, cells := 0, slots := 0, locals := 0 } : Room)
abbrev kC1 : Nat := 0
abbrev kS1 : Nat := 0
def Q1 (Z : State) (q0 : Int64) (p1 : Int32) (h0 : Heap) (v : Option Value) (h : Heap) (L : List Loc) : Prop := v = some (.int (f1 q0 p1)) ∧ L = [] ∧ h = h0
set_option maxRecDepth 65536 in
set_option maxHeartbeats 40000000 in
theorem rm1 (l : Launch) (Z : State) (tA : Array Value) (hw : ∀ d ∈ tables_1, d.before tA Z = true) (ws : List Jvm.Cond) (q0 : Int64) (p1 : Int32) (h0 : Heap)  :
    MetFree l (⟨"com/example/double_prior/doubleprior/index/ReaderReadLongPinLaw", "j", "(JI)B"⟩ : MethodName) (head1 (Jvm.Cond.code (⟨"com/example/double_prior/doubleprior/index/ReaderReadLongPinLaw", "j", "(JI)B"⟩ : MethodName) method_2_code 3 (some .byte) :: ws) RM1) (fun a U => a = #[(.long q0), (.int p1)] ∧ Z.Warmed39 U.vm ∧ U.heap = h0) (fun _ _ _ _ _ => True) (fun _ U o U' => ∃ v L, o = .returned v ∧ Q1 Z q0 p1 h0 v U'.heap L ∧ FrameEnd U o U' L RM1.cells RM1.slots) := by
  refine MetFree.of_bodySF (plainFor_of_name own_pn0) hisR ?_
  intro p e s m args below meth c s₁ Bd hml0 hP hK
  obtain ⟨rfl, hZ, hh⟩ := hP
  have hx := Bd.exec
  have hby := Bd.bytes
  have hml : c.maxLocals = 3 := hml0
  have hown : s.vm.findClass "com/example/double_prior/doubleprior/index/ReaderReadLongPinLaw" = some m.cls := findClass_of_methodNamed Bd.named
  have hnm := (name_of_methodNamed Bd.named Bd.method).1
  have X0 : Stand p l e RM1 s m #[(.long q0), (.int p1)] below meth c s₁ [] 0 0 := Stand.of_body Bd
  have e0 : s₁.heap = h0 := by rw [← hh, Bd.state]; rfl
  show Goes p e below s (Q1 Z q0 p1 h0) kC1 kS1 (s₁.setTop (entryFrame m #[(.long q0), (.int p1)] 3))
  refine Goes.step (fun t k => castTop (own_ef1 m q0 p1) k) ?_
  show Goes _ _ _ _ _ _ _ (s₁.setTop (mkF m 0 #[.val (.long q0), .second, .val (.int p1)] []))
  refine Goes.step (fun t k => XS.lloadN X0.here hx rfl (hb hby own_d1_0) rfl k) ?_
  show Goes _ _ _ _ _ _ _ (s₁.setTop (mkF m 1 #[.val (.long q0), .second, .val (.int p1)] [(.long q0)]))
  refine Goes.step (fun t k => XS.bipush X0.here hx rfl (hb hby own_d1_1) k) ?_
  show Goes _ _ _ _ _ _ _ (s₁.setTop (mkF m 3 #[.val (.long q0), .second, .val (.int p1)] [(.int (8 : Int32)), (.long q0)]))
  refine Goes.step (fun t k => XS.iloadN X0.here hx rfl (hb hby own_d1_3) rfl k) ?_
  show Goes _ _ _ _ _ _ _ (s₁.setTop (mkF m 4 #[.val (.long q0), .second, .val (.int p1)] [(.int p1), (.int (8 : Int32)), (.long q0)]))
  refine Goes.step (fun t k => XS.bipush X0.here hx rfl (hb hby own_d1_4) k) ?_
  show Goes _ _ _ _ _ _ _ (s₁.setTop (mkF m 6 #[.val (.long q0), .second, .val (.int p1)] [(.int (7 : Int32)), (.int p1), (.int (8 : Int32)), (.long q0)]))
  refine Goes.step (fun t k => XS.iand X0.here hx rfl (hb hby own_d1_6) rfl k) ?_
  show Goes _ _ _ _ _ _ _ (s₁.setTop (mkF m 7 #[.val (.long q0), .second, .val (.int p1)] [(.int (p1 &&& (7 : Int32))), (.int (8 : Int32)), (.long q0)]))
  refine Goes.step (fun t k => XS.imul X0.here hx rfl (hb hby own_d1_7) rfl k) ?_
  show Goes _ _ _ _ _ _ _ (s₁.setTop (mkF m 8 #[.val (.long q0), .second, .val (.int p1)] [(.int ((8 : Int32) * (p1 &&& (7 : Int32)))), (.long q0)]))
  refine Goes.step (fun t k => XS.lushr X0.here hx rfl (hb hby own_d1_8) rfl k) ?_
  show Goes _ _ _ _ _ _ _ (s₁.setTop (mkF m 9 #[.val (.long q0), .second, .val (.int p1)] [(.long ((q0.toUInt64 >>> (((8 : Int32) * (p1 &&& (7 : Int32))) &&& 0x3f).toInt64.toUInt64).toInt64))]))
  refine Goes.step (fun t k => XS.l2i X0.here hx rfl (hb hby own_d1_9) rfl k) ?_
  show Goes _ _ _ _ _ _ _ (s₁.setTop (mkF m 10 #[.val (.long q0), .second, .val (.int p1)] [(.int (((q0.toUInt64 >>> (((8 : Int32) * (p1 &&& (7 : Int32))) &&& 0x3f).toInt64.toUInt64).toInt64).toInt32))]))
  refine Goes.step (fun t k => XS.i2b X0.here hx rfl (hb hby own_d1_10) rfl k) ?_
  show Goes _ _ _ _ _ _ _ (s₁.setTop (mkF m 11 #[.val (.long q0), .second, .val (.int p1)] [(.int ((((q0.toUInt64 >>> (((8 : Int32) * (p1 &&& (7 : Int32))) &&& 0x3f).toInt64.toUInt64).toInt64).toInt32).toInt8.toInt32))]))
  exact Goes.retZ X0 hx Bd.notSynchronized (r := (f1 q0 p1)) Bd.returns (by simp) (hb hby own_d1_11) rfl ⟨rfl, rfl, e0⟩ (by decide) (by decide)
def f2 (q0 : Int64) (p1 : Int32) : Int32 := ((((q0.toUInt64 >>> (((7 : Int32) * p1) &&& 0x3f).toInt64.toUInt64).toInt64) &&& (127 : Int64)).toInt32)
theorem own_d2_0 : decode method_3_code 0 = .ok (.lload_n 0, 1) := by decide +kernel
theorem own_d2_1 : decode method_3_code 1 = .ok (.bipush 7, 2) := by decide +kernel
theorem own_d2_3 : decode method_3_code 3 = .ok (.iload_n 2, 1) := by decide +kernel
theorem own_d2_4 : decode method_3_code 4 = .ok (.imul, 1) := by decide +kernel
theorem own_d2_5 : decode method_3_code 5 = .ok (.lushr, 1) := by decide +kernel
theorem own_d2_6 : decode method_3_code 6 = .ok (.ldc2_w 7, 3) := by decide +kernel
theorem own_d2_9 : decode method_3_code 9 = .ok (.land, 1) := by decide +kernel
theorem own_d2_10 : decode method_3_code 10 = .ok (.l2i, 1) := by decide +kernel
theorem own_d2_11 : decode method_3_code 11 = .ok (.ireturn, 1) := by decide +kernel
theorem own_ef2 (m : MethodId) (q0 : Int64) (p1 : Int32) : entryFrame m #[(.long q0), (.int p1)] 3 = mkF m 0 #[.val (.long q0), .second, .val (.int p1)] [] := by first | (simp [entryFrame, mkF, argsToLocals, Value.category, maxLocals]; done) | rfl
abbrev RM2 : Room := ({ frames := 0, cells := 0, slots := 0, locals := 0 } : Room)
abbrev kC2 : Nat := 0
abbrev kS2 : Nat := 0
def Q2 (Z : State) (q0 : Int64) (p1 : Int32) (h0 : Heap) (v : Option Value) (h : Heap) (L : List Loc) : Prop := v = some (.int (f2 q0 p1)) ∧ L = [] ∧ h = h0
set_option maxRecDepth 65536 in
set_option maxHeartbeats 40000000 in
theorem rm2 (l : Launch) (Z : State) (tA : Array Value) (hw : ∀ d ∈ tables_1, d.before tA Z = true) (ws : List Jvm.Cond) (q0 : Int64) (p1 : Int32) (h0 : Heap)  :
    MetFree l (⟨"com/example/double_prior/doubleprior/index/ReaderReadLongPinLaw", "pay", "(JI)I"⟩ : MethodName) (head1 (Jvm.Cond.code (⟨"com/example/double_prior/doubleprior/index/ReaderReadLongPinLaw", "pay", "(JI)I"⟩ : MethodName) method_3_code 3 (some .int) :: ws) RM2) (fun a U => a = #[(.long q0), (.int p1)] ∧ Z.Warmed39 U.vm ∧ U.heap = h0) (fun _ _ _ _ _ => True) (fun _ U o U' => ∃ v L, o = .returned v ∧ Q2 Z q0 p1 h0 v U'.heap L ∧ FrameEnd U o U' L RM2.cells RM2.slots) := by
  refine MetFree.of_bodySF (plainFor_of_name own_pn0) hisR ?_
  intro p e s m args below meth c s₁ Bd hml0 hP hK
  obtain ⟨rfl, hZ, hh⟩ := hP
  have hx := Bd.exec
  have hby := Bd.bytes
  have hml : c.maxLocals = 3 := hml0
  have hown : s.vm.findClass "com/example/double_prior/doubleprior/index/ReaderReadLongPinLaw" = some m.cls := findClass_of_methodNamed Bd.named
  have hnm := (name_of_methodNamed Bd.named Bd.method).1
  have X0 : Stand p l e RM2 s m #[(.long q0), (.int p1)] below meth c s₁ [] 0 0 := Stand.of_body Bd
  have e0 : s₁.heap = h0 := by rw [← hh, Bd.state]; rfl
  show Goes p e below s (Q2 Z q0 p1 h0) kC2 kS2 (s₁.setTop (entryFrame m #[(.long q0), (.int p1)] 3))
  refine Goes.step (fun t k => castTop (own_ef2 m q0 p1) k) ?_
  show Goes _ _ _ _ _ _ _ (s₁.setTop (mkF m 0 #[.val (.long q0), .second, .val (.int p1)] []))
  refine Goes.step (fun t k => XS.lloadN X0.here hx rfl (hb hby own_d2_0) rfl k) ?_
  show Goes _ _ _ _ _ _ _ (s₁.setTop (mkF m 1 #[.val (.long q0), .second, .val (.int p1)] [(.long q0)]))
  refine Goes.step (fun t k => XS.bipush X0.here hx rfl (hb hby own_d2_1) k) ?_
  show Goes _ _ _ _ _ _ _ (s₁.setTop (mkF m 3 #[.val (.long q0), .second, .val (.int p1)] [(.int (7 : Int32)), (.long q0)]))
  refine Goes.step (fun t k => XS.iloadN X0.here hx rfl (hb hby own_d2_3) rfl k) ?_
  show Goes _ _ _ _ _ _ _ (s₁.setTop (mkF m 4 #[.val (.long q0), .second, .val (.int p1)] [(.int p1), (.int (7 : Int32)), (.long q0)]))
  refine Goes.step (fun t k => XS.imul X0.here hx rfl (hb hby own_d2_4) rfl k) ?_
  show Goes _ _ _ _ _ _ _ (s₁.setTop (mkF m 5 #[.val (.long q0), .second, .val (.int p1)] [(.int ((7 : Int32) * p1)), (.long q0)]))
  refine Goes.step (fun t k => XS.lushr X0.here hx rfl (hb hby own_d2_5) rfl k) ?_
  show Goes _ _ _ _ _ _ _ (s₁.setTop (mkF m 6 #[.val (.long q0), .second, .val (.int p1)] [(.long ((q0.toUInt64 >>> (((7 : Int32) * p1) &&& 0x3f).toInt64.toUInt64).toInt64))]))
  refine Goes.step (fun t k => X0.ldc2Long hx hown (mvT hZ (hw _ (List.mem_of_getElem? (i := 9) rfl))) (g := (mkF m 6 #[.val (.long q0), .second, .val (.int p1)] [(.long ((q0.toUInt64 >>> (((7 : Int32) * p1) &&& 0x3f).toInt64.toUInt64).toInt64))])) rfl (hb hby own_d2_6) _ k) ?_
  show Goes _ _ _ _ _ _ _ (s₁.setTop (mkF m 9 #[.val (.long q0), .second, .val (.int p1)] [(.long (127 : Int64)), (.long ((q0.toUInt64 >>> (((7 : Int32) * p1) &&& 0x3f).toInt64.toUInt64).toInt64))]))
  refine Goes.step (fun t k => XS.land X0.here hx rfl (hb hby own_d2_9) rfl k) ?_
  show Goes _ _ _ _ _ _ _ (s₁.setTop (mkF m 10 #[.val (.long q0), .second, .val (.int p1)] [(.long (((q0.toUInt64 >>> (((7 : Int32) * p1) &&& 0x3f).toInt64.toUInt64).toInt64) &&& (127 : Int64)))]))
  refine Goes.step (fun t k => XS.l2i X0.here hx rfl (hb hby own_d2_10) rfl k) ?_
  show Goes _ _ _ _ _ _ _ (s₁.setTop (mkF m 11 #[.val (.long q0), .second, .val (.int p1)] [(.int ((((q0.toUInt64 >>> (((7 : Int32) * p1) &&& 0x3f).toInt64.toUInt64).toInt64) &&& (127 : Int64)).toInt32))]))
  exact Goes.retI X0 hx Bd.notSynchronized (r := (f2 q0 p1)) Bd.returns (hb hby own_d2_11) rfl ⟨rfl, rfl, e0⟩ (by decide) (by decide)
def g3_0 (p1 : Int32) (p2 : Int32) (p3 : Int32) (p4 : Int32) (vs : List Value) : List Value := (if p2 < p3 then (vs.set ((p1 + p2)).toNatClampNeg (.int (((if p2 < (p3 - (1 : Int32)) then (p4 ||| (128 : Int32)) else p4).toInt8.toInt32).toInt8.toInt32))) else vs)
theorem own_d3_0 : decode method_4_code 0 = .ok (.iload_n 2, 1) := by decide +kernel
theorem own_d3_1 : decode method_4_code 1 = .ok (.iload_n 3, 1) := by decide +kernel
theorem own_d3_2 : decode method_4_code 2 = .ok (.if_icmp .ge 30, 3) := by decide +kernel
theorem own_d3_5 : decode method_4_code 5 = .ok (.iload 4, 2) := by decide +kernel
theorem own_d3_7 : decode method_4_code 7 = .ok (.istore 5, 2) := by decide +kernel
theorem own_d3_9 : decode method_4_code 9 = .ok (.iload_n 2, 1) := by decide +kernel
theorem own_d3_10 : decode method_4_code 10 = .ok (.iload_n 3, 1) := by decide +kernel
theorem own_d3_11 : decode method_4_code 11 = .ok (.iconst 1, 1) := by decide +kernel
theorem own_d3_12 : decode method_4_code 12 = .ok (.isub, 1) := by decide +kernel
theorem own_d3_13 : decode method_4_code 13 = .ok (.if_icmp .ge 11, 3) := by decide +kernel
theorem own_d3_16 : decode method_4_code 16 = .ok (.iload 5, 2) := by decide +kernel
theorem own_d3_18 : decode method_4_code 18 = .ok (.sipush 128, 3) := by decide +kernel
theorem own_d3_21 : decode method_4_code 21 = .ok (.ior, 1) := by decide +kernel
theorem own_d3_22 : decode method_4_code 22 = .ok (.istore 5, 2) := by decide +kernel
theorem own_d3_24 : decode method_4_code 24 = .ok (.aload_n 0, 1) := by decide +kernel
theorem own_d3_25 : decode method_4_code 25 = .ok (.iload_n 1, 1) := by decide +kernel
theorem own_d3_26 : decode method_4_code 26 = .ok (.iload_n 2, 1) := by decide +kernel
theorem own_d3_27 : decode method_4_code 27 = .ok (.iadd, 1) := by decide +kernel
theorem own_d3_28 : decode method_4_code 28 = .ok (.iload 5, 2) := by decide +kernel
theorem own_d3_30 : decode method_4_code 30 = .ok (.i2b, 1) := by decide +kernel
theorem own_d3_31 : decode method_4_code 31 = .ok (.bastore, 1) := by decide +kernel
theorem own_d3_32 : decode method_4_code 32 = .ok (.return_, 1) := by decide +kernel
theorem own_ef3 (m : MethodId) (a0 : Addr) (p1 : Int32) (p2 : Int32) (p3 : Int32) (p4 : Int32) : entryFrame m #[(.ref a0), (.int p1), (.int p2), (.int p3), (.int p4)] 6 = mkF m 0 #[.val (.ref a0), .val (.int p1), .val (.int p2), .val (.int p3), .val (.int p4), .unset] [] := by first | (simp [entryFrame, mkF, argsToLocals, Value.category, maxLocals]; done) | rfl
abbrev RM3 : Room := ({ frames := 0, cells := 0, slots := 0, locals := 0 } : Room)
abbrev kC3 : Nat := 0
abbrev kS3 : Nat := 0
def Q3 (Z : State) (a0 : Addr) (p1 : Int32) (p2 : Int32) (p3 : Int32) (p4 : Int32) (vs : List Value) (h0 : Heap) (n0 : Nat) (v : Option Value) (h : Heap) (L : List Loc) : Prop := v = none ∧ Fr n0 L ∧ Keep h0 h [a0] ∧ Ara Z h a0 .byte (g3_0 p1 p2 p3 p4 vs)
set_option maxRecDepth 65536 in
set_option maxHeartbeats 40000000 in
theorem rm3 (l : Launch) (Z : State) (tA : Array Value) (hw : ∀ d ∈ tables_1, d.before tA Z = true) (ws : List Jvm.Cond) (a0 : Addr) (p1 : Int32) (p2 : Int32) (p3 : Int32) (p4 : Int32) (vs : List Value) (h0 : Heap) (n0 : Nat) (Z0 : n0 ≤ h0.size) (H0 : Ara Z h0 a0 .byte vs) (g_a0 : n0 ≤ a0) (hx' : p2 < p3 → ¬ (p1 + p2) < 0 ∧ (p1 + p2).toNatClampNeg < vs.length) :
    MetFree l (⟨"com/example/double_prior/doubleprior/index/ReaderReadLongPinLaw", "put", "([BIIII)V"⟩ : MethodName) (head1 (Jvm.Cond.code (⟨"com/example/double_prior/doubleprior/index/ReaderReadLongPinLaw", "put", "([BIIII)V"⟩ : MethodName) method_4_code 6 none :: ws) RM3) (fun a U => a = #[(.ref a0), (.int p1), (.int p2), (.int p3), (.int p4)] ∧ Z.Warmed39 U.vm ∧ U.heap = h0) (fun _ _ _ _ _ => True) (fun _ U o U' => ∃ v L, o = .returned v ∧ Q3 Z a0 p1 p2 p3 p4 vs h0 n0 v U'.heap L ∧ FrameEnd U o U' L RM3.cells RM3.slots) := by
  refine MetFree.of_bodySF (plainFor_of_name own_pn0) hisR ?_
  intro p e s m args below meth c s₁ Bd hml0 hP hK
  obtain ⟨rfl, hZ, hh⟩ := hP
  have hx := Bd.exec
  have hby := Bd.bytes
  have hml : c.maxLocals = 6 := hml0
  have hown : s.vm.findClass "com/example/double_prior/doubleprior/index/ReaderReadLongPinLaw" = some m.cls := findClass_of_methodNamed Bd.named
  have hnm := (name_of_methodNamed Bd.named Bd.method).1
  have X0 : Stand p l e RM3 s m #[(.ref a0), (.int p1), (.int p2), (.int p3), (.int p4)] below meth c s₁ [] 0 0 := Stand.of_body Bd
  have e0 : s₁.heap = h0 := by rw [← hh, Bd.state]; rfl
  have N0 := Fr.nil n0
  show Goes p e below s (Q3 Z a0 p1 p2 p3 p4 vs h0 n0) kC3 kS3 (s₁.setTop (entryFrame m #[(.ref a0), (.int p1), (.int p2), (.int p3), (.int p4)] 6))
  refine Goes.step (fun t k => castTop (own_ef3 m a0 p1 p2 p3 p4) k) ?_
  show Goes _ _ _ _ _ _ _ (s₁.setTop (mkF m 0 #[.val (.ref a0), .val (.int p1), .val (.int p2), .val (.int p3), .val (.int p4), .unset] []))
  refine Goes.step (fun t k => XS.iloadN X0.here hx rfl (hb hby own_d3_0) rfl k) ?_
  show Goes _ _ _ _ _ _ _ (s₁.setTop (mkF m 1 #[.val (.ref a0), .val (.int p1), .val (.int p2), .val (.int p3), .val (.int p4), .unset] [(.int p2)]))
  refine Goes.step (fun t k => XS.iloadN X0.here hx rfl (hb hby own_d3_1) rfl k) ?_
  show Goes _ _ _ _ _ _ _ (s₁.setTop (mkF m 2 #[.val (.ref a0), .val (.int p1), .val (.int p2), .val (.int p3), .val (.int p4), .unset] [(.int p3), (.int p2)]))
  by_cases hc2_1 : p2 < p3
  · refine Goes.step (fun t k => XS.icmpNo X0.here hx rfl (hb hby own_d3_2) rfl (tlt hc2_1).2.1 k) ?_
    show Goes _ _ _ _ _ _ _ (s₁.setTop (mkF m 5 #[.val (.ref a0), .val (.int p1), .val (.int p2), .val (.int p3), .val (.int p4), .unset] []))
    refine Goes.step (fun t k => XS.iload X0.here hx rfl (hb hby own_d3_5) rfl k) ?_
    show Goes _ _ _ _ _ _ _ (s₁.setTop (mkF m 7 #[.val (.ref a0), .val (.int p1), .val (.int p2), .val (.int p3), .val (.int p4), .unset] [(.int p4)]))
    refine Goes.step (fun t k => XS.istore X0.here hx rfl (hb hby own_d3_7) rfl (l' := #[.val (.ref a0), .val (.int p1), .val (.int p2), .val (.int p3), .val (.int p4), .val (.int p4)]) rfl k) ?_
    show Goes _ _ _ _ _ _ _ (s₁.setTop (mkF m 9 #[.val (.ref a0), .val (.int p1), .val (.int p2), .val (.int p3), .val (.int p4), .val (.int p4)] []))
    refine Goes.step (fun t k => XS.iloadN X0.here hx rfl (hb hby own_d3_9) rfl k) ?_
    show Goes _ _ _ _ _ _ _ (s₁.setTop (mkF m 10 #[.val (.ref a0), .val (.int p1), .val (.int p2), .val (.int p3), .val (.int p4), .val (.int p4)] [(.int p2)]))
    refine Goes.step (fun t k => XS.iloadN X0.here hx rfl (hb hby own_d3_10) rfl k) ?_
    show Goes _ _ _ _ _ _ _ (s₁.setTop (mkF m 11 #[.val (.ref a0), .val (.int p1), .val (.int p2), .val (.int p3), .val (.int p4), .val (.int p4)] [(.int p3), (.int p2)]))
    refine Goes.step (fun t k => XS.iconst X0.here hx rfl (hb hby own_d3_11) k) ?_
    show Goes _ _ _ _ _ _ _ (s₁.setTop (mkF m 12 #[.val (.ref a0), .val (.int p1), .val (.int p2), .val (.int p3), .val (.int p4), .val (.int p4)] [(.int (1 : Int32)), (.int p3), (.int p2)]))
    refine Goes.step (fun t k => XS.isub X0.here hx rfl (hb hby own_d3_12) rfl k) ?_
    show Goes _ _ _ _ _ _ _ (s₁.setTop (mkF m 13 #[.val (.ref a0), .val (.int p1), .val (.int p2), .val (.int p3), .val (.int p4), .val (.int p4)] [(.int (p3 - (1 : Int32))), (.int p2)]))
    suffices k3 : ∀ (x3_0 : Int32), x3_0 = (if p2 < (p3 - (1 : Int32)) then (p4 ||| (128 : Int32)) else p4) → Goes p e below s (Q3 Z a0 p1 p2 p3 p4 vs h0 n0) kC3 kS3 (s₁.setTop (mkF m 24 #[.val (.ref a0), .val (.int p1), .val (.int p2), .val (.int p3), .val (.int p4), .val (.int x3_0)] [])) by
      by_cases hc13_2 : p2 < (p3 - (1 : Int32))
      · refine Goes.step (fun t k => XS.icmpNo X0.here hx rfl (hb hby own_d3_13) rfl (tlt hc13_2).2.1 k) ?_
        show Goes _ _ _ _ _ _ _ (s₁.setTop (mkF m 16 #[.val (.ref a0), .val (.int p1), .val (.int p2), .val (.int p3), .val (.int p4), .val (.int p4)] []))
        refine Goes.step (fun t k => XS.iload X0.here hx rfl (hb hby own_d3_16) rfl k) ?_
        show Goes _ _ _ _ _ _ _ (s₁.setTop (mkF m 18 #[.val (.ref a0), .val (.int p1), .val (.int p2), .val (.int p3), .val (.int p4), .val (.int p4)] [(.int p4)]))
        refine Goes.step (fun t k => XS.sipush X0.here hx rfl (hb hby own_d3_18) k) ?_
        show Goes _ _ _ _ _ _ _ (s₁.setTop (mkF m 21 #[.val (.ref a0), .val (.int p1), .val (.int p2), .val (.int p3), .val (.int p4), .val (.int p4)] [(.int (128 : Int32)), (.int p4)]))
        refine Goes.step (fun t k => XS.ior X0.here hx rfl (hb hby own_d3_21) rfl k) ?_
        show Goes _ _ _ _ _ _ _ (s₁.setTop (mkF m 22 #[.val (.ref a0), .val (.int p1), .val (.int p2), .val (.int p3), .val (.int p4), .val (.int p4)] [(.int (p4 ||| (128 : Int32)))]))
        refine Goes.step (fun t k => XS.istore X0.here hx rfl (hb hby own_d3_22) rfl (l' := #[.val (.ref a0), .val (.int p1), .val (.int p2), .val (.int p3), .val (.int p4), .val (.int (p4 ||| (128 : Int32)))]) rfl k) ?_
        show Goes _ _ _ _ _ _ _ (s₁.setTop (mkF m 24 #[.val (.ref a0), .val (.int p1), .val (.int p2), .val (.int p3), .val (.int p4), .val (.int (p4 ||| (128 : Int32)))] []))
        exact k3 _ (if_pos hc13_2).symm
      · refine Goes.step (fun t k => XS.icmpYes X0.here hx rfl (pc0 := 13) (pc' := 24) rfl (hb hby own_d3_13) rfl (flt hc13_2).2.1 (by decide) (by decide) k) ?_
        show Goes _ _ _ _ _ _ _ (s₁.setTop (mkF m 24 #[.val (.ref a0), .val (.int p1), .val (.int p2), .val (.int p3), .val (.int p4), .val (.int p4)] []))
        exact k3 _ (if_neg hc13_2).symm
    intro x3_0 hx3_0
    refine Goes.step (fun t k => XS.aloadN X0.here hx rfl (hb hby own_d3_24) rfl rfl k) ?_
    show Goes _ _ _ _ _ _ _ (s₁.setTop (mkF m 25 #[.val (.ref a0), .val (.int p1), .val (.int p2), .val (.int p3), .val (.int p4), .val (.int x3_0)] [(.ref a0)]))
    refine Goes.step (fun t k => XS.iloadN X0.here hx rfl (hb hby own_d3_25) rfl k) ?_
    show Goes _ _ _ _ _ _ _ (s₁.setTop (mkF m 26 #[.val (.ref a0), .val (.int p1), .val (.int p2), .val (.int p3), .val (.int p4), .val (.int x3_0)] [(.int p1), (.ref a0)]))
    refine Goes.step (fun t k => XS.iloadN X0.here hx rfl (hb hby own_d3_26) rfl k) ?_
    show Goes _ _ _ _ _ _ _ (s₁.setTop (mkF m 27 #[.val (.ref a0), .val (.int p1), .val (.int p2), .val (.int p3), .val (.int p4), .val (.int x3_0)] [(.int p2), (.int p1), (.ref a0)]))
    refine Goes.step (fun t k => XS.iadd X0.here hx rfl (hb hby own_d3_27) rfl k) ?_
    show Goes _ _ _ _ _ _ _ (s₁.setTop (mkF m 28 #[.val (.ref a0), .val (.int p1), .val (.int p2), .val (.int p3), .val (.int p4), .val (.int x3_0)] [(.int (p1 + p2)), (.ref a0)]))
    refine Goes.step (fun t k => XS.iload X0.here hx rfl (hb hby own_d3_28) rfl k) ?_
    show Goes _ _ _ _ _ _ _ (s₁.setTop (mkF m 30 #[.val (.ref a0), .val (.int p1), .val (.int p2), .val (.int p3), .val (.int p4), .val (.int x3_0)] [(.int x3_0), (.int (p1 + p2)), (.ref a0)]))
    refine Goes.step (fun t k => XS.i2b X0.here hx rfl (hb hby own_d3_30) rfl k) ?_
    show Goes _ _ _ _ _ _ _ (s₁.setTop (mkF m 31 #[.val (.ref a0), .val (.int p1), .val (.int p2), .val (.int p3), .val (.int p4), .val (.int x3_0)] [(.int (x3_0.toInt8.toInt32)), (.int (p1 + p2)), (.ref a0)]))
    obtain ⟨cl4, Ar4, q4, ll4, ff4, oo4⟩ := id H0
    have hn4 : ¬ (p1 + p2) < 0 := by exact (hx' hc2_1).1
    have hl4 : ((p1 + p2)).toNatClampNeg < (vs : List Value).length := by exact (hx' hc2_1).2
    obtain ⟨T4, h4, X4, e4, W4, st4⟩ := stB X0 hx hZ e0 Ar4 (j := (p1 + p2)) (inb q4 hn4 hl4) (g := (mkF m 31 #[.val (.ref a0), .val (.int p1), .val (.int p2), .val (.int p3), .val (.int p4), .val (.int x3_0)] [(.int (x3_0.toInt8.toInt32)), (.int (p1 + p2)), (.ref a0)])) rfl rfl (hb hby own_d3_31)
    have V4 : Ara Z h4 a0 .byte (vs.set ((p1 + p2)).toNatClampNeg (.int ((x3_0.toInt8.toInt32).toInt8.toInt32))) := Ara.same (j := (p1 + p2)) Ar4 q4 ll4 ff4 oo4 (fits_nar_byte _) W4
    have K4 := (Keep.refl h0 [a0]).wr W4 (Or.inl (List.mem_of_getElem? (i := 0) rfl))
    have N4 := Fr.snoc X4 N0 g_a0
    have Z4 := Nat.le_trans Z0 (Nat.le_of_eq W4.size.symm)
    refine Goes.step (fun t k => st4 t k) ?_
    show Goes _ _ _ _ _ _ _ (T4.setTop (mkF m 32 #[.val (.ref a0), .val (.int p1), .val (.int p2), .val (.int p3), .val (.int p4), .val (.int x3_0)] []))
    subst hx3_0
    exact Goes.retV X4 hx Bd.notSynchronized Bd.returns (hb hby own_d3_32) (by rw [e4]; exact ⟨rfl, N4, K4, (V4.to (if_pos hc2_1).symm)⟩) (by decide) (by decide)
  · refine Goes.step (fun t k => XS.icmpYes X0.here hx rfl (pc0 := 2) (pc' := 32) rfl (hb hby own_d3_2) rfl (flt hc2_1).2.1 (by decide) (by decide) k) ?_
    show Goes _ _ _ _ _ _ _ (s₁.setTop (mkF m 32 #[.val (.ref a0), .val (.int p1), .val (.int p2), .val (.int p3), .val (.int p4), .unset] []))
    exact Goes.retV X0 hx Bd.notSynchronized Bd.returns (hb hby own_d3_32) (by rw [e0]; exact ⟨rfl, N0, (Keep.refl h0 [a0]), (H0.to (if_neg hc2_1).symm)⟩) (by decide) (by decide)
theorem own_glen (p1 p2 p3 p4 : Int32) (vs : List Value) : (g3_0 p1 p2 p3 p4 vs).length = vs.length := by
  unfold g3_0; split <;> simp
theorem own_g16 {p1 p2 p3 p4 : Int32} {vs : List Value} (h : vs.length = 16) : (g3_0 p1 p2 p3 p4 vs).length = 16 := (own_glen _ _ _ _ _).trans h
theorem own_d4_0 : decode prog_14_method_1_code 0 = .ok (.aload_n 0, 1) := by decide +kernel
theorem own_d4_1 : decode prog_14_method_1_code 1 = .ok (.invokespecial 3, 3) := by decide +kernel
theorem own_d4_4 : decode prog_14_method_1_code 4 = .ok (.aload_n 0, 1) := by decide +kernel
theorem own_d4_5 : decode prog_14_method_1_code 5 = .ok (.aload_n 1, 1) := by decide +kernel
theorem own_d4_6 : decode prog_14_method_1_code 6 = .ok (.putfield 9, 3) := by decide +kernel
theorem own_d4_9 : decode prog_14_method_1_code 9 = .ok (.aload_n 0, 1) := by decide +kernel
theorem own_d4_10 : decode prog_14_method_1_code 10 = .ok (.iload_n 2, 1) := by decide +kernel
theorem own_d4_11 : decode prog_14_method_1_code 11 = .ok (.putfield 15, 3) := by decide +kernel
theorem own_d4_14 : decode prog_14_method_1_code 14 = .ok (.return_, 1) := by decide +kernel
theorem own_ef4 (m : MethodId) (a0 : Addr) (a1 : Addr) (p2 : Int32) : entryFrame m #[(.ref a0), (.ref a1), (.int p2)] 3 = mkF m 0 #[.val (.ref a0), .val (.ref a1), .val (.int p2)] [] := by first | (simp [entryFrame, mkF, argsToLocals, Value.category, maxLocals]; done) | rfl
abbrev RM4 : Room := ({ frames := 1, cells := 0, slots := 0, locals := 12 } : Room)
abbrev kC4 : Nat := 0
abbrev kS4 : Nat := 0
def Q4 (Z : State) (a0 : Addr) (a1 : Addr) (p2 : Int32) (h0 : Heap) (n0 : Nat) (v : Option Value) (h : Heap) (L : List Loc) : Prop := v = none ∧ Fr n0 L ∧ Keep h0 h [a0] ∧ Exa Z h a0 "com/example/double_prior/doubleprior/index/IndexFile$Reader" ∧ Fld Z h a0 "com/example/double_prior/doubleprior/index/IndexFile$Reader" "bytes" "[B" (.ref a1) ∧ Fld Z h a0 "com/example/double_prior/doubleprior/index/IndexFile$Reader" "position" "I" (.int p2)
set_option maxRecDepth 65536 in
set_option maxHeartbeats 40000000 in
theorem rm4 (l : Launch) (Z : State) (tA : Array Value) (hw : ∀ d ∈ tables_1, d.before tA Z = true) (ws : List Jvm.Cond) (a0 : Addr) (a1 : Addr) (p2 : Int32) (h0 : Heap) (n0 : Nat) (Z0 : n0 ≤ h0.size) (H0 : Exa Z h0 a0 "com/example/double_prior/doubleprior/index/IndexFile$Reader") (H1 : Fld Z h0 a0 "com/example/double_prior/doubleprior/index/IndexFile$Reader" "bytes" "[B" .null) (H2 : Fld Z h0 a0 "com/example/double_prior/doubleprior/index/IndexFile$Reader" "position" "I" (.int (0 : Int32))) (g_a0 : n0 ≤ a0) :
    MetFree l (⟨"com/example/double_prior/doubleprior/index/IndexFile$Reader", "<init>", "([BI)V"⟩ : MethodName) (head1 (Jvm.Cond.code (⟨"com/example/double_prior/doubleprior/index/IndexFile$Reader", "<init>", "([BI)V"⟩ : MethodName) prog_14_method_1_code 3 none :: ws) RM4) (fun a U => a = #[(.ref a0), (.ref a1), (.int p2)] ∧ Z.Warmed39 U.vm ∧ U.heap = h0) (fun _ _ _ _ _ => True) (fun _ U o U' => ∃ v L, o = .returned v ∧ Q4 Z a0 a1 p2 h0 n0 v U'.heap L ∧ FrameEnd U o U' L RM4.cells RM4.slots) := by
  refine MetFree.of_bodySF (plainFor_of_name own_pn1) hisR ?_
  intro p e s m args below meth c s₁ Bd hml0 hP hK
  obtain ⟨rfl, hZ, hh⟩ := hP
  have hx := Bd.exec
  have hby := Bd.bytes
  have hml : c.maxLocals = 3 := hml0
  have hown : s.vm.findClass "com/example/double_prior/doubleprior/index/IndexFile$Reader" = some m.cls := findClass_of_methodNamed Bd.named
  have hnm := (name_of_methodNamed Bd.named Bd.method).1
  have X0 : Stand p l e RM4 s m #[(.ref a0), (.ref a1), (.int p2)] below meth c s₁ [] 0 0 := Stand.of_body Bd
  have e0 : s₁.heap = h0 := by rw [← hh, Bd.state]; rfl
  have N0 := Fr.nil n0
  show Goes p e below s (Q4 Z a0 a1 p2 h0 n0) kC4 kS4 (s₁.setTop (entryFrame m #[(.ref a0), (.ref a1), (.int p2)] 3))
  refine Goes.step (fun t k => castTop (own_ef4 m a0 a1 p2) k) ?_
  show Goes _ _ _ _ _ _ _ (s₁.setTop (mkF m 0 #[.val (.ref a0), .val (.ref a1), .val (.int p2)] []))
  refine Goes.step (fun t k => XS.aloadN X0.here hx rfl (hb hby own_d4_0) rfl rfl k) ?_
  show Goes _ _ _ _ _ _ _ (s₁.setTop (mkF m 1 #[.val (.ref a0), .val (.ref a1), .val (.int p2)] [(.ref a0)]))
  obtain ⟨T1, X1, e1, st1⟩ := initO X0 hx hZ hown (hw _ (List.mem_of_getElem? (i := 19) rfl)) (hw _ (List.mem_of_getElem? (i := 20) rfl)) (hw _ (List.mem_of_getElem? (i := 21) rfl)) e0 (g := (mkF m 1 #[.val (.ref a0), .val (.ref a1), .val (.int p2)] [(.ref a0)])) rfl (by rw [hml]; rfl) rfl (hb hby own_d4_1) (by decide) (W := 0) (by show 2 * 0 + _ ≤ _; exact Nat.le_of_eq rfl) (by decide)
  refine Goes.step (fun t k => st1 t k) ?_
  show Goes _ _ _ _ _ _ _ (T1.setTop (mkF m 4 #[.val (.ref a0), .val (.ref a1), .val (.int p2)] []))
  refine Goes.step (fun t k => XS.aloadN X1.here hx rfl (hb hby own_d4_4) rfl rfl k) ?_
  show Goes _ _ _ _ _ _ _ (T1.setTop (mkF m 5 #[.val (.ref a0), .val (.ref a1), .val (.int p2)] [(.ref a0)]))
  refine Goes.step (fun t k => XS.aloadN X1.here hx rfl (hb hby own_d4_5) rfl rfl k) ?_
  show Goes _ _ _ _ _ _ _ (T1.setTop (mkF m 6 #[.val (.ref a0), .val (.ref a1), .val (.int p2)] [(.ref a1), (.ref a0)]))
  obtain ⟨T2, h2, X2, e2, W2, st2⟩ := putF X1 hx hZ hown (host := "") (Or.inl (hw _ (List.mem_of_getElem? (i := 22) rfl))) Via.refl e1 H1 H0 (Or.inr ⟨(hw _ (List.mem_of_getElem? (i := 23) rfl)), rfl, hnm⟩) (hw _ (List.mem_of_getElem? (i := 14) rfl)) (ty := (.array .byte)) (by decide) rfl rfl (g := (mkF m 6 #[.val (.ref a0), .val (.ref a1), .val (.int p2)] [(.ref a1), (.ref a0)])) rfl rfl (hb hby own_d4_6)
  have Fw2 := H1.same W2
  have F3 := H0.wr W2
  have F4 := H2.other W2 (Or.inr (slot_ne (Or.inl (hw _ (List.mem_of_getElem? (i := 25) rfl))) (Or.inr (hw _ (List.mem_of_getElem? (i := 23) rfl))) (by decide) (t := .int) (t' := (.array .byte)) (by decide) (by decide)))
  have K2 := (Keep.refl h0 [a0]).wr W2 (Or.inl (List.mem_of_getElem? (i := 0) rfl))
  have N2 := Fr.snoc X2 N0 g_a0
  have Z2 := Nat.le_trans Z0 (Nat.le_of_eq W2.size.symm)
  refine Goes.step (fun t k => st2 t k) ?_
  show Goes _ _ _ _ _ _ _ (T2.setTop (mkF m 9 #[.val (.ref a0), .val (.ref a1), .val (.int p2)] []))
  refine Goes.step (fun t k => XS.aloadN X2.here hx rfl (hb hby own_d4_9) rfl rfl k) ?_
  show Goes _ _ _ _ _ _ _ (T2.setTop (mkF m 10 #[.val (.ref a0), .val (.ref a1), .val (.int p2)] [(.ref a0)]))
  refine Goes.step (fun t k => XS.iloadN X2.here hx rfl (hb hby own_d4_10) rfl k) ?_
  show Goes _ _ _ _ _ _ _ (T2.setTop (mkF m 11 #[.val (.ref a0), .val (.ref a1), .val (.int p2)] [(.int p2), (.ref a0)]))
  obtain ⟨T5, h5, X5, e5, W5, st5⟩ := putF X2 hx hZ hown (host := "") (Or.inl (hw _ (List.mem_of_getElem? (i := 24) rfl))) Via.refl e2 F4 F3 (Or.inl (hw _ (List.mem_of_getElem? (i := 25) rfl))) (hw _ (List.mem_of_getElem? (i := 14) rfl)) (ty := .int) (by decide) rfl rfl (g := (mkF m 11 #[.val (.ref a0), .val (.ref a1), .val (.int p2)] [(.int p2), (.ref a0)])) rfl rfl (hb hby own_d4_11)
  have Fw5 := F4.same W5
  have F6 := F3.wr W5
  have F7 := Fw2.other W5 (Or.inr (slot_ne (Or.inr (hw _ (List.mem_of_getElem? (i := 23) rfl))) (Or.inl (hw _ (List.mem_of_getElem? (i := 25) rfl))) (by decide) (t := (.array .byte)) (t' := .int) (by decide) (by decide)))
  have K5 := K2.wr W5 (Or.inl (List.mem_of_getElem? (i := 0) rfl))
  have N5 := Fr.snoc X5 N2 g_a0
  have Z5 := Nat.le_trans Z2 (Nat.le_of_eq W5.size.symm)
  refine Goes.step (fun t k => st5 t k) ?_
  show Goes _ _ _ _ _ _ _ (T5.setTop (mkF m 14 #[.val (.ref a0), .val (.ref a1), .val (.int p2)] []))
  exact Goes.retV X5 hx Bd.notSynchronized Bd.returns (hb hby own_d4_14) (by rw [e5]; exact ⟨rfl, N5, K5, F6, F7, Fw5⟩) (by decide) (by decide)
def rd (vs : List Value) (j : Nat) : Int32 := match vs[j]? with | some (.int x) => x | _ => 0
def acc (vs : List Value) (p : Nat) : Nat → Int64
  | 0 => 0
  | i + 1 => acc vs p i ||| (((rd vs (p + i) &&& (127 : Int32)).toInt64) <<< ((Int32.ofNat (7 * i)) &&& 0x3f).toInt64)
theorem own_get {Z : State} {h : Heap} {a : Addr} {vs : List Value} {j : Nat} (F : Ara Z h a .byte vs) (hj : j < vs.length) : vs[j]? = some (.int (rd vs j)) := by
  obtain ⟨cl, -, -, -, hf, -⟩ := F
  have e : vs[j]? = some vs[j] := List.getElem?_eq_getElem hj
  have := hf _ (List.getElem_mem hj)
  cases hv : vs[j] with
  | int x => rw [e, hv]; simp [rd, e, hv]
  | _ => rw [hv] at this; cases this
theorem own_seven (i : Nat) : Int32.ofNat (7 * i) + 7 = Int32.ofNat (7 * (i + 1)) := by
  rw [show 7 * (i + 1) = 7 * i + 7 from by omega, Int32.ofNat_add]; rfl
theorem own_next (w : Int32) (i : Nat) : w + Int32.ofNat i + 1 = w + Int32.ofNat (i + 1) := by
  rw [Int32.ofNat_add, Int32.add_assoc]; rfl
theorem own_zero (w : Int32) : w = w + Int32.ofNat 0 := by
  show w = w + 0
  rw [Int32.add_zero]
theorem own_bd (w : Int32) (i n : Nat) (h0 : ¬ w < 0) (hB : w.toNatClampNeg + n < 2 ^ 31) (hi : i < n) : ¬ (w + Int32.ofNat i) < 0 ∧ (w + Int32.ofNat i).toNatClampNeg = w.toNatClampNeg + i := by
  have q := nat_of h0
  have e : (Int32.ofNat i).toInt = i := Int32.toInt_ofNat_small (by omega)
  have s := c_iadd w (Int32.ofNat i)
  have r := rng32 (w + Int32.ofNat i)
  rw [e, q] at s
  have t : (w + Int32.ofNat i).toInt = w.toNatClampNeg + i := by omega
  have p : ¬ (w + Int32.ofNat i) < 0 := by rw [Int32.lt_iff_toInt_lt, (by decide : (0 : Int32).toInt = 0)]; omega
  have u := nat_of p
  exact ⟨p, by omega⟩
theorem own_d6_0 : decode prog_14_method_5_code 0 = .ok (.lconst 0, 1) := by decide +kernel
theorem own_d6_1 : decode prog_14_method_5_code 1 = .ok (.lstore_n 1, 1) := by decide +kernel
theorem own_d6_2 : decode prog_14_method_5_code 2 = .ok (.iconst 0, 1) := by decide +kernel
theorem own_d6_3 : decode prog_14_method_5_code 3 = .ok (.istore_n 3, 1) := by decide +kernel
theorem own_d6_4 : decode prog_14_method_5_code 4 = .ok (.aload_n 0, 1) := by decide +kernel
theorem own_d6_5 : decode prog_14_method_5_code 5 = .ok (.getfield 9, 3) := by decide +kernel
theorem own_d6_8 : decode prog_14_method_5_code 8 = .ok (.aload_n 0, 1) := by decide +kernel
theorem own_d6_9 : decode prog_14_method_5_code 9 = .ok (.dup, 1) := by decide +kernel
theorem own_d6_10 : decode prog_14_method_5_code 10 = .ok (.getfield 15, 3) := by decide +kernel
theorem own_d6_13 : decode prog_14_method_5_code 13 = .ok (.dup_x1, 1) := by decide +kernel
theorem own_d6_14 : decode prog_14_method_5_code 14 = .ok (.iconst 1, 1) := by decide +kernel
theorem own_d6_15 : decode prog_14_method_5_code 15 = .ok (.iadd, 1) := by decide +kernel
theorem own_d6_16 : decode prog_14_method_5_code 16 = .ok (.putfield 15, 3) := by decide +kernel
theorem own_d6_19 : decode prog_14_method_5_code 19 = .ok (.baload, 1) := by decide +kernel
theorem own_d6_20 : decode prog_14_method_5_code 20 = .ok (.istore 4, 2) := by decide +kernel
theorem own_d6_22 : decode prog_14_method_5_code 22 = .ok (.lload_n 1, 1) := by decide +kernel
theorem own_d6_23 : decode prog_14_method_5_code 23 = .ok (.iload 4, 2) := by decide +kernel
theorem own_d6_25 : decode prog_14_method_5_code 25 = .ok (.bipush 127, 2) := by decide +kernel
theorem own_d6_27 : decode prog_14_method_5_code 27 = .ok (.iand, 1) := by decide +kernel
theorem own_d6_28 : decode prog_14_method_5_code 28 = .ok (.i2l, 1) := by decide +kernel
theorem own_d6_29 : decode prog_14_method_5_code 29 = .ok (.iload_n 3, 1) := by decide +kernel
theorem own_d6_30 : decode prog_14_method_5_code 30 = .ok (.lshl, 1) := by decide +kernel
theorem own_d6_31 : decode prog_14_method_5_code 31 = .ok (.lor, 1) := by decide +kernel
theorem own_d6_32 : decode prog_14_method_5_code 32 = .ok (.lstore_n 1, 1) := by decide +kernel
theorem own_d6_33 : decode prog_14_method_5_code 33 = .ok (.iinc 3 7, 3) := by decide +kernel
theorem own_d6_36 : decode prog_14_method_5_code 36 = .ok (.iload 4, 2) := by decide +kernel
theorem own_d6_38 : decode prog_14_method_5_code 38 = .ok (.ifCond .lt (-34), 3) := by decide +kernel
theorem own_d6_41 : decode prog_14_method_5_code 41 = .ok (.lload_n 1, 1) := by decide +kernel
theorem own_d6_42 : decode prog_14_method_5_code 42 = .ok (.lreturn, 1) := by decide +kernel
theorem own_ef6 (m : MethodId) (a0 : Addr) : entryFrame m #[(.ref a0)] 5 = mkF m 0 #[.val (.ref a0), .unset, .unset, .unset, .unset] [] := by first | (simp [entryFrame, mkF, argsToLocals, Value.category, maxLocals]; done) | rfl
abbrev RM6 : Room := ({ frames := 0, cells := 0, slots := 0, locals := 0 } : Room)
abbrev kC6 : Nat := 0
abbrev kS6 : Nat := 0
def Q6 (Z : State) (a0 : Addr) (wB : Addr) (wP : Int32) (vs : List Value) (nn : Nat) (h0 : Heap) (n0 : Nat) (v : Option Value) (h : Heap) (L : List Loc) : Prop := v = some (.long (acc vs wP.toNatClampNeg nn)) ∧ Fr n0 L ∧ Keep h0 h [a0] ∧ Exa Z h a0 "com/example/double_prior/doubleprior/index/IndexFile$Reader" ∧ Fld Z h a0 "com/example/double_prior/doubleprior/index/IndexFile$Reader" "bytes" "[B" (.ref wB) ∧ Fld Z h a0 "com/example/double_prior/doubleprior/index/IndexFile$Reader" "position" "I" (.int (wP + Int32.ofNat nn)) ∧ Ara Z h wB .byte vs
set_option maxRecDepth 65536 in
set_option maxHeartbeats 40000000 in
theorem rm6 (l : Launch) (Z : State) (tA : Array Value) (hw : ∀ d ∈ tables_1, d.before tA Z = true) (ws : List Jvm.Cond) (a0 : Addr) (wB : Addr) (wP : Int32) (vs : List Value) (nn : Nat) (h0 : Heap) (n0 : Nat) (Z0 : n0 ≤ h0.size) (H0 : Exa Z h0 a0 "com/example/double_prior/doubleprior/index/IndexFile$Reader") (H1 : Fld Z h0 a0 "com/example/double_prior/doubleprior/index/IndexFile$Reader" "bytes" "[B" (.ref wB)) (H2 : Fld Z h0 a0 "com/example/double_prior/doubleprior/index/IndexFile$Reader" "position" "I" (.int wP)) (H3 : Ara Z h0 wB .byte vs) (g_a0 : n0 ≤ a0) (n1 : a0 ≠ wB) (hP : ¬ wP < 0) (hN : 0 < nn) (hL : wP.toNatClampNeg + nn ≤ vs.length) (hB : wP.toNatClampNeg + nn < 2 ^ 31) (hneg : ∀ i, i + 1 < nn → rd vs (wP.toNatClampNeg + i) < 0) (hlast : ∀ i, i + 1 = nn → ¬ rd vs (wP.toNatClampNeg + i) < 0) :
    MetFree l (⟨"com/example/double_prior/doubleprior/index/IndexFile$Reader", "readLong", "()J"⟩ : MethodName) (head1 (Jvm.Cond.code (⟨"com/example/double_prior/doubleprior/index/IndexFile$Reader", "readLong", "()J"⟩ : MethodName) prog_14_method_5_code 5 (some .long) :: ws) RM6) (fun a U => a = #[(.ref a0)] ∧ Z.Warmed39 U.vm ∧ U.heap = h0) (fun _ _ _ _ _ => True) (fun _ U o U' => ∃ v L, o = .returned v ∧ Q6 Z a0 wB wP vs nn h0 n0 v U'.heap L ∧ FrameEnd U o U' L RM6.cells RM6.slots) := by
  refine MetFree.of_bodySF (plainFor_of_name own_pn1) hisR ?_
  intro p e s m args below meth c s₁ Bd hml0 hP hK
  obtain ⟨rfl, hZ, hh⟩ := hP
  have hx := Bd.exec
  have hby := Bd.bytes
  have hml : c.maxLocals = 5 := hml0
  have hown : s.vm.findClass "com/example/double_prior/doubleprior/index/IndexFile$Reader" = some m.cls := findClass_of_methodNamed Bd.named
  have hnm := (name_of_methodNamed Bd.named Bd.method).1
  have X0 : Stand p l e RM6 s m #[(.ref a0)] below meth c s₁ [] 0 0 := Stand.of_body Bd
  have e0 : s₁.heap = h0 := by rw [← hh, Bd.state]; rfl
  have N0 := Fr.nil n0
  show Goes p e below s (Q6 Z a0 wB wP vs nn h0 n0) kC6 kS6 (s₁.setTop (entryFrame m #[(.ref a0)] 5))
  refine Goes.step (fun t k => castTop (own_ef6 m a0) k) ?_
  show Goes _ _ _ _ _ _ _ (s₁.setTop (mkF m 0 #[.val (.ref a0), .unset, .unset, .unset, .unset] []))
  refine Goes.step (fun t k => XS.lconst X0.here hx rfl (hb hby own_d6_0) k) ?_
  show Goes _ _ _ _ _ _ _ (s₁.setTop (mkF m 1 #[.val (.ref a0), .unset, .unset, .unset, .unset] [(.long (0 : Int64))]))
  refine Goes.step (fun t k => XS.lstoreN X0.here hx rfl (hb hby own_d6_1) rfl (l' := #[.val (.ref a0), .val (.long (0 : Int64)), .second, .unset, .unset]) rfl k) ?_
  show Goes _ _ _ _ _ _ _ (s₁.setTop (mkF m 2 #[.val (.ref a0), .val (.long (0 : Int64)), .second, .unset, .unset] []))
  refine Goes.step (fun t k => XS.iconst X0.here hx rfl (hb hby own_d6_2) k) ?_
  show Goes _ _ _ _ _ _ _ (s₁.setTop (mkF m 3 #[.val (.ref a0), .val (.long (0 : Int64)), .second, .unset, .unset] [(.int (0 : Int32))]))
  refine Goes.step (fun t k => XS.istoreN X0.here hx rfl (hb hby own_d6_3) rfl (l' := #[.val (.ref a0), .val (.long (0 : Int64)), .second, .val (.int (0 : Int32)), .unset]) rfl k) ?_
  show Goes _ _ _ _ _ _ _ (s₁.setTop (mkF m 4 #[.val (.ref a0), .val (.long (0 : Int64)), .second, .val (.int (0 : Int32)), .unset] []))
  suffices loop : ∀ (k i : Nat) (Tl : State) (hl : Heap) (Ll : List Loc) (s4 : Slot), i + (k + 1) = nn → Stand p l e RM6 s m #[(.ref a0)] below meth c Tl Ll 0 0 → Tl.heap = hl → Fr n0 Ll → Keep h0 hl [a0] → n0 ≤ hl.size → Exa Z hl a0 "com/example/double_prior/doubleprior/index/IndexFile$Reader" → Fld Z hl a0 "com/example/double_prior/doubleprior/index/IndexFile$Reader" "bytes" "[B" (.ref wB) → Fld Z hl a0 "com/example/double_prior/doubleprior/index/IndexFile$Reader" "position" "I" (.int (wP + Int32.ofNat i)) → Ara Z hl wB .byte vs → One s4 → Goes p e below s (Q6 Z a0 wB wP vs nn h0 n0) kC6 kS6 (Tl.setTop (mkF m 4 #[.val (.ref a0), .val (.long (acc vs wP.toNatClampNeg i)), .second, .val (.int (Int32.ofNat (7 * i))), s4] [])) by
    exact loop (nn - 1) 0 _ _ _ _ (by omega) X0 e0 N0 (Keep.refl h0 [a0]) Z0 H0 H1 (own_fld_to H2 (congrArg Value.int (own_zero wP))) H3 One.u
  intro k
  induction k with
  | zero =>
    intro i Tl hl Ll s4 hik Xl el Nl Kl Zl Ha Hb Hc Hd hs4
    refine Goes.step (fun t k => XS.aloadN Xl.here hx rfl (hb hby own_d6_4) rfl rfl k) ?_
    show Goes _ _ _ _ _ _ _ (Tl.setTop (mkF m 5 #[.val (.ref a0), .val (.long (acc vs wP.toNatClampNeg i)), .second, .val (.int (Int32.ofNat (7 * i))), s4] [(.ref a0)]))
    obtain ⟨T1, X1, e1, st1⟩ := getF Xl hx hZ hown (host := "") (Or.inl (hw _ (List.mem_of_getElem? (i := 22) rfl))) Via.refl el Hb (g := (mkF m 5 #[.val (.ref a0), .val (.long (acc vs wP.toNatClampNeg i)), .second, .val (.int (Int32.ofNat (7 * i))), s4] [(.ref a0)])) rfl rfl (hb hby own_d6_5)
    refine Goes.step (fun t k => st1 t k) ?_
    show Goes _ _ _ _ _ _ _ (T1.setTop (mkF m 8 #[.val (.ref a0), .val (.long (acc vs wP.toNatClampNeg i)), .second, .val (.int (Int32.ofNat (7 * i))), s4] [(.ref wB)]))
    refine Goes.step (fun t k => XS.aloadN X1.here hx rfl (hb hby own_d6_8) rfl rfl k) ?_
    show Goes _ _ _ _ _ _ _ (T1.setTop (mkF m 9 #[.val (.ref a0), .val (.long (acc vs wP.toNatClampNeg i)), .second, .val (.int (Int32.ofNat (7 * i))), s4] [(.ref a0), (.ref wB)]))
    refine Goes.step (fun t k => XS.dup X1.here hx rfl (hb hby own_d6_9) rfl rfl k) ?_
    show Goes _ _ _ _ _ _ _ (T1.setTop (mkF m 10 #[.val (.ref a0), .val (.long (acc vs wP.toNatClampNeg i)), .second, .val (.int (Int32.ofNat (7 * i))), s4] [(.ref a0), (.ref a0), (.ref wB)]))
    obtain ⟨T2, X2, e2, st2⟩ := getF X1 hx hZ hown (host := "") (Or.inl (hw _ (List.mem_of_getElem? (i := 24) rfl))) Via.refl e1 Hc (g := (mkF m 10 #[.val (.ref a0), .val (.long (acc vs wP.toNatClampNeg i)), .second, .val (.int (Int32.ofNat (7 * i))), s4] [(.ref a0), (.ref a0), (.ref wB)])) rfl rfl (hb hby own_d6_10)
    refine Goes.step (fun t k => st2 t k) ?_
    show Goes _ _ _ _ _ _ _ (T2.setTop (mkF m 13 #[.val (.ref a0), .val (.long (acc vs wP.toNatClampNeg i)), .second, .val (.int (Int32.ofNat (7 * i))), s4] [(.int (wP + Int32.ofNat i)), (.ref a0), (.ref wB)]))
    refine Goes.step (fun t k => XS.dupX1 X2.here hx rfl (hb hby own_d6_13) rfl rfl rfl k) ?_
    show Goes _ _ _ _ _ _ _ (T2.setTop (mkF m 14 #[.val (.ref a0), .val (.long (acc vs wP.toNatClampNeg i)), .second, .val (.int (Int32.ofNat (7 * i))), s4] [(.int (wP + Int32.ofNat i)), (.ref a0), (.int (wP + Int32.ofNat i)), (.ref wB)]))
    refine Goes.step (fun t k => XS.iconst X2.here hx rfl (hb hby own_d6_14) k) ?_
    show Goes _ _ _ _ _ _ _ (T2.setTop (mkF m 15 #[.val (.ref a0), .val (.long (acc vs wP.toNatClampNeg i)), .second, .val (.int (Int32.ofNat (7 * i))), s4] [(.int (1 : Int32)), (.int (wP + Int32.ofNat i)), (.ref a0), (.int (wP + Int32.ofNat i)), (.ref wB)]))
    refine Goes.step (fun t k => XS.iadd X2.here hx rfl (hb hby own_d6_15) rfl k) ?_
    show Goes _ _ _ _ _ _ _ (T2.setTop (mkF m 16 #[.val (.ref a0), .val (.long (acc vs wP.toNatClampNeg i)), .second, .val (.int (Int32.ofNat (7 * i))), s4] [(.int ((wP + Int32.ofNat i) + (1 : Int32))), (.ref a0), (.int (wP + Int32.ofNat i)), (.ref wB)]))
    obtain ⟨T3, h3, X3, e3, W3, st3⟩ := putF X2 hx hZ hown (host := "") (Or.inl (hw _ (List.mem_of_getElem? (i := 24) rfl))) Via.refl e2 Hc Ha (Or.inl (hw _ (List.mem_of_getElem? (i := 25) rfl))) (hw _ (List.mem_of_getElem? (i := 14) rfl)) (ty := .int) (by decide) rfl rfl (g := (mkF m 16 #[.val (.ref a0), .val (.long (acc vs wP.toNatClampNeg i)), .second, .val (.int (Int32.ofNat (7 * i))), s4] [(.int ((wP + Int32.ofNat i) + (1 : Int32))), (.ref a0), (.int (wP + Int32.ofNat i)), (.ref wB)])) rfl rfl (hb hby own_d6_16)
    have Fw3 := Hc.same W3
    have F4 := Ha.wr W3
    have F5 := Hb.other W3 (Or.inr (slot_ne (Or.inr (hw _ (List.mem_of_getElem? (i := 23) rfl))) (Or.inl (hw _ (List.mem_of_getElem? (i := 25) rfl))) (by decide) (t := (.array .byte)) (t' := .int) (by decide) (by decide)))
    have F6 := Hd.other W3 (Ne.symm n1)
    have K3 := Kl.wr W3 (Or.inl (List.mem_of_getElem? (i := 0) rfl))
    have N3 := Fr.snoc X3 Nl g_a0
    have Z3 := Nat.le_trans Zl (Nat.le_of_eq W3.size.symm)
    refine Goes.step (fun t k => st3 t k) ?_
    show Goes _ _ _ _ _ _ _ (T3.setTop (mkF m 19 #[.val (.ref a0), .val (.long (acc vs wP.toNatClampNeg i)), .second, .val (.int (Int32.ofNat (7 * i))), s4] [(.int (wP + Int32.ofNat i)), (.ref wB)]))
    obtain ⟨cl7, Ar7, q7, ll7, ff7, oo7⟩ := id F6
    have hn7 : ¬ (wP + Int32.ofNat i) < 0 := by exact (own_bd wP i nn hP hB (by omega)).1
    have hv7 : (vs : List Value)[((wP + Int32.ofNat i)).toNatClampNeg]? = some (.int (rd vs (wP.toNatClampNeg + i))) := by rw [(own_bd wP i nn hP hB (by omega)).2]; exact own_get Hd (by omega)
    refine Goes.step (fun t k => X3.baloadBytes hx (j := (wP + Int32.ofNat i)) (v := (.int (rd vs (wP.toNatClampNeg + i)))) (by rw [e3]; exact Ar7.1) (State.isArrayOf_alike hZ.alike Ar7.2.1) Ar7.2.2 (inb q7 hn7 (ltb hv7)) (getb q7 hv7) (g := (mkF m 19 #[.val (.ref a0), .val (.long (acc vs wP.toNatClampNeg i)), .second, .val (.int (Int32.ofNat (7 * i))), s4] [(.int (wP + Int32.ofNat i)), (.ref wB)])) rfl rfl (hb hby own_d6_19) t k) ?_
    show Goes _ _ _ _ _ _ _ (T3.setTop (mkF m 20 #[.val (.ref a0), .val (.long (acc vs wP.toNatClampNeg i)), .second, .val (.int (Int32.ofNat (7 * i))), s4] [(.int (rd vs (wP.toNatClampNeg + i)))]))
    refine Goes.step (fun t k => XS.istoreS X3.here hx rfl (hb hby own_d6_20) rfl rfl hs4 k) ?_
    show Goes _ _ _ _ _ _ _ (T3.setTop (mkF m 22 #[.val (.ref a0), .val (.long (acc vs wP.toNatClampNeg i)), .second, .val (.int (Int32.ofNat (7 * i))), .val (.int (rd vs (wP.toNatClampNeg + i)))] []))
    refine Goes.step (fun t k => XS.lloadN X3.here hx rfl (hb hby own_d6_22) rfl k) ?_
    show Goes _ _ _ _ _ _ _ (T3.setTop (mkF m 23 #[.val (.ref a0), .val (.long (acc vs wP.toNatClampNeg i)), .second, .val (.int (Int32.ofNat (7 * i))), .val (.int (rd vs (wP.toNatClampNeg + i)))] [(.long (acc vs wP.toNatClampNeg i))]))
    refine Goes.step (fun t k => XS.iload X3.here hx rfl (hb hby own_d6_23) rfl k) ?_
    show Goes _ _ _ _ _ _ _ (T3.setTop (mkF m 25 #[.val (.ref a0), .val (.long (acc vs wP.toNatClampNeg i)), .second, .val (.int (Int32.ofNat (7 * i))), .val (.int (rd vs (wP.toNatClampNeg + i)))] [(.int (rd vs (wP.toNatClampNeg + i))), (.long (acc vs wP.toNatClampNeg i))]))
    refine Goes.step (fun t k => XS.bipush X3.here hx rfl (hb hby own_d6_25) k) ?_
    show Goes _ _ _ _ _ _ _ (T3.setTop (mkF m 27 #[.val (.ref a0), .val (.long (acc vs wP.toNatClampNeg i)), .second, .val (.int (Int32.ofNat (7 * i))), .val (.int (rd vs (wP.toNatClampNeg + i)))] [(.int (127 : Int32)), (.int (rd vs (wP.toNatClampNeg + i))), (.long (acc vs wP.toNatClampNeg i))]))
    refine Goes.step (fun t k => XS.iand X3.here hx rfl (hb hby own_d6_27) rfl k) ?_
    show Goes _ _ _ _ _ _ _ (T3.setTop (mkF m 28 #[.val (.ref a0), .val (.long (acc vs wP.toNatClampNeg i)), .second, .val (.int (Int32.ofNat (7 * i))), .val (.int (rd vs (wP.toNatClampNeg + i)))] [(.int ((rd vs (wP.toNatClampNeg + i)) &&& (127 : Int32))), (.long (acc vs wP.toNatClampNeg i))]))
    refine Goes.step (fun t k => XS.i2l X3.here hx rfl (hb hby own_d6_28) rfl k) ?_
    show Goes _ _ _ _ _ _ _ (T3.setTop (mkF m 29 #[.val (.ref a0), .val (.long (acc vs wP.toNatClampNeg i)), .second, .val (.int (Int32.ofNat (7 * i))), .val (.int (rd vs (wP.toNatClampNeg + i)))] [(.long (((rd vs (wP.toNatClampNeg + i)) &&& (127 : Int32)).toInt64)), (.long (acc vs wP.toNatClampNeg i))]))
    refine Goes.step (fun t k => XS.iloadN X3.here hx rfl (hb hby own_d6_29) rfl k) ?_
    show Goes _ _ _ _ _ _ _ (T3.setTop (mkF m 30 #[.val (.ref a0), .val (.long (acc vs wP.toNatClampNeg i)), .second, .val (.int (Int32.ofNat (7 * i))), .val (.int (rd vs (wP.toNatClampNeg + i)))] [(.int (Int32.ofNat (7 * i))), (.long (((rd vs (wP.toNatClampNeg + i)) &&& (127 : Int32)).toInt64)), (.long (acc vs wP.toNatClampNeg i))]))
    refine Goes.step (fun t k => XS.lshl X3.here hx rfl (hb hby own_d6_30) rfl k) ?_
    show Goes _ _ _ _ _ _ _ (T3.setTop (mkF m 31 #[.val (.ref a0), .val (.long (acc vs wP.toNatClampNeg i)), .second, .val (.int (Int32.ofNat (7 * i))), .val (.int (rd vs (wP.toNatClampNeg + i)))] [(.long ((((rd vs (wP.toNatClampNeg + i)) &&& (127 : Int32)).toInt64) <<< ((Int32.ofNat (7 * i)) &&& 0x3f).toInt64)), (.long (acc vs wP.toNatClampNeg i))]))
    refine Goes.step (fun t k => XS.lor X3.here hx rfl (hb hby own_d6_31) rfl k) ?_
    show Goes _ _ _ _ _ _ _ (T3.setTop (mkF m 32 #[.val (.ref a0), .val (.long (acc vs wP.toNatClampNeg i)), .second, .val (.int (Int32.ofNat (7 * i))), .val (.int (rd vs (wP.toNatClampNeg + i)))] [(.long ((acc vs wP.toNatClampNeg i) ||| ((((rd vs (wP.toNatClampNeg + i)) &&& (127 : Int32)).toInt64) <<< ((Int32.ofNat (7 * i)) &&& 0x3f).toInt64)))]))
    refine Goes.step (fun t k => XS.lstoreN X3.here hx rfl (hb hby own_d6_32) rfl (l' := #[.val (.ref a0), .val (.long ((acc vs wP.toNatClampNeg i) ||| ((((rd vs (wP.toNatClampNeg + i)) &&& (127 : Int32)).toInt64) <<< ((Int32.ofNat (7 * i)) &&& 0x3f).toInt64))), .second, .val (.int (Int32.ofNat (7 * i))), .val (.int (rd vs (wP.toNatClampNeg + i)))]) rfl k) ?_
    show Goes _ _ _ _ _ _ _ (T3.setTop (mkF m 33 #[.val (.ref a0), .val (.long ((acc vs wP.toNatClampNeg i) ||| ((((rd vs (wP.toNatClampNeg + i)) &&& (127 : Int32)).toInt64) <<< ((Int32.ofNat (7 * i)) &&& 0x3f).toInt64))), .second, .val (.int (Int32.ofNat (7 * i))), .val (.int (rd vs (wP.toNatClampNeg + i)))] []))
    refine Goes.step (fun t k => XS.iinc X3.here hx rfl (hb hby own_d6_33) rfl (l' := #[.val (.ref a0), .val (.long ((acc vs wP.toNatClampNeg i) ||| ((((rd vs (wP.toNatClampNeg + i)) &&& (127 : Int32)).toInt64) <<< ((Int32.ofNat (7 * i)) &&& 0x3f).toInt64))), .second, .val (.int ((Int32.ofNat (7 * i)) + (7 : Int32))), .val (.int (rd vs (wP.toNatClampNeg + i)))]) rfl k) ?_
    show Goes _ _ _ _ _ _ _ (T3.setTop (mkF m 36 #[.val (.ref a0), .val (.long ((acc vs wP.toNatClampNeg i) ||| ((((rd vs (wP.toNatClampNeg + i)) &&& (127 : Int32)).toInt64) <<< ((Int32.ofNat (7 * i)) &&& 0x3f).toInt64))), .second, .val (.int ((Int32.ofNat (7 * i)) + (7 : Int32))), .val (.int (rd vs (wP.toNatClampNeg + i)))] []))
    refine Goes.step (fun t k => XS.iload X3.here hx rfl (hb hby own_d6_36) rfl k) ?_
    show Goes _ _ _ _ _ _ _ (T3.setTop (mkF m 38 #[.val (.ref a0), .val (.long ((acc vs wP.toNatClampNeg i) ||| ((((rd vs (wP.toNatClampNeg + i)) &&& (127 : Int32)).toInt64) <<< ((Int32.ofNat (7 * i)) &&& 0x3f).toInt64))), .second, .val (.int ((Int32.ofNat (7 * i)) + (7 : Int32))), .val (.int (rd vs (wP.toNatClampNeg + i)))] [(.int (rd vs (wP.toNatClampNeg + i)))]))
    have hc38_8 : ¬ ((rd vs (wP.toNatClampNeg + i)) < (0 : Int32)) := by exact hlast i (by omega)
    refine Goes.step (fun t k => XS.ifNo X3.here hx rfl (hb hby own_d6_38) rfl ((if0 _ _).trans (flt hc38_8).1) k) ?_
    show Goes _ _ _ _ _ _ _ (T3.setTop (mkF m 41 #[.val (.ref a0), .val (.long ((acc vs wP.toNatClampNeg i) ||| ((((rd vs (wP.toNatClampNeg + i)) &&& (127 : Int32)).toInt64) <<< ((Int32.ofNat (7 * i)) &&& 0x3f).toInt64))), .second, .val (.int ((Int32.ofNat (7 * i)) + (7 : Int32))), .val (.int (rd vs (wP.toNatClampNeg + i)))] []))
    refine Goes.step (fun t k => XS.lloadN X3.here hx rfl (hb hby own_d6_41) rfl k) ?_
    show Goes _ _ _ _ _ _ _ (T3.setTop (mkF m 42 #[.val (.ref a0), .val (.long ((acc vs wP.toNatClampNeg i) ||| ((((rd vs (wP.toNatClampNeg + i)) &&& (127 : Int32)).toInt64) <<< ((Int32.ofNat (7 * i)) &&& 0x3f).toInt64))), .second, .val (.int ((Int32.ofNat (7 * i)) + (7 : Int32))), .val (.int (rd vs (wP.toNatClampNeg + i)))] [(.long ((acc vs wP.toNatClampNeg i) ||| ((((rd vs (wP.toNatClampNeg + i)) &&& (127 : Int32)).toInt64) <<< ((Int32.ofNat (7 * i)) &&& 0x3f).toInt64)))]))
    exact Goes.retJ X3 hx Bd.notSynchronized (r := (acc vs wP.toNatClampNeg nn)) Bd.returns (hb hby own_d6_42) (by rw [← hik]; rfl) (by rw [e3]; exact ⟨rfl, N3, K3, F4, F5, own_fld_to Fw3 (congrArg Value.int (by rw [← hik]; exact own_next wP i)), F6⟩) (by decide) (by decide)
  | succ k ih =>
    intro i Tl hl Ll s4 hik Xl el Nl Kl Zl Ha Hb Hc Hd hs4
    refine Goes.step (fun t k => XS.aloadN Xl.here hx rfl (hb hby own_d6_4) rfl rfl k) ?_
    show Goes _ _ _ _ _ _ _ (Tl.setTop (mkF m 5 #[.val (.ref a0), .val (.long (acc vs wP.toNatClampNeg i)), .second, .val (.int (Int32.ofNat (7 * i))), s4] [(.ref a0)]))
    obtain ⟨T9, X9, e9, st9⟩ := getF Xl hx hZ hown (host := "") (Or.inl (hw _ (List.mem_of_getElem? (i := 22) rfl))) Via.refl el Hb (g := (mkF m 5 #[.val (.ref a0), .val (.long (acc vs wP.toNatClampNeg i)), .second, .val (.int (Int32.ofNat (7 * i))), s4] [(.ref a0)])) rfl rfl (hb hby own_d6_5)
    refine Goes.step (fun t k => st9 t k) ?_
    show Goes _ _ _ _ _ _ _ (T9.setTop (mkF m 8 #[.val (.ref a0), .val (.long (acc vs wP.toNatClampNeg i)), .second, .val (.int (Int32.ofNat (7 * i))), s4] [(.ref wB)]))
    refine Goes.step (fun t k => XS.aloadN X9.here hx rfl (hb hby own_d6_8) rfl rfl k) ?_
    show Goes _ _ _ _ _ _ _ (T9.setTop (mkF m 9 #[.val (.ref a0), .val (.long (acc vs wP.toNatClampNeg i)), .second, .val (.int (Int32.ofNat (7 * i))), s4] [(.ref a0), (.ref wB)]))
    refine Goes.step (fun t k => XS.dup X9.here hx rfl (hb hby own_d6_9) rfl rfl k) ?_
    show Goes _ _ _ _ _ _ _ (T9.setTop (mkF m 10 #[.val (.ref a0), .val (.long (acc vs wP.toNatClampNeg i)), .second, .val (.int (Int32.ofNat (7 * i))), s4] [(.ref a0), (.ref a0), (.ref wB)]))
    obtain ⟨T10, X10, e10, st10⟩ := getF X9 hx hZ hown (host := "") (Or.inl (hw _ (List.mem_of_getElem? (i := 24) rfl))) Via.refl e9 Hc (g := (mkF m 10 #[.val (.ref a0), .val (.long (acc vs wP.toNatClampNeg i)), .second, .val (.int (Int32.ofNat (7 * i))), s4] [(.ref a0), (.ref a0), (.ref wB)])) rfl rfl (hb hby own_d6_10)
    refine Goes.step (fun t k => st10 t k) ?_
    show Goes _ _ _ _ _ _ _ (T10.setTop (mkF m 13 #[.val (.ref a0), .val (.long (acc vs wP.toNatClampNeg i)), .second, .val (.int (Int32.ofNat (7 * i))), s4] [(.int (wP + Int32.ofNat i)), (.ref a0), (.ref wB)]))
    refine Goes.step (fun t k => XS.dupX1 X10.here hx rfl (hb hby own_d6_13) rfl rfl rfl k) ?_
    show Goes _ _ _ _ _ _ _ (T10.setTop (mkF m 14 #[.val (.ref a0), .val (.long (acc vs wP.toNatClampNeg i)), .second, .val (.int (Int32.ofNat (7 * i))), s4] [(.int (wP + Int32.ofNat i)), (.ref a0), (.int (wP + Int32.ofNat i)), (.ref wB)]))
    refine Goes.step (fun t k => XS.iconst X10.here hx rfl (hb hby own_d6_14) k) ?_
    show Goes _ _ _ _ _ _ _ (T10.setTop (mkF m 15 #[.val (.ref a0), .val (.long (acc vs wP.toNatClampNeg i)), .second, .val (.int (Int32.ofNat (7 * i))), s4] [(.int (1 : Int32)), (.int (wP + Int32.ofNat i)), (.ref a0), (.int (wP + Int32.ofNat i)), (.ref wB)]))
    refine Goes.step (fun t k => XS.iadd X10.here hx rfl (hb hby own_d6_15) rfl k) ?_
    show Goes _ _ _ _ _ _ _ (T10.setTop (mkF m 16 #[.val (.ref a0), .val (.long (acc vs wP.toNatClampNeg i)), .second, .val (.int (Int32.ofNat (7 * i))), s4] [(.int ((wP + Int32.ofNat i) + (1 : Int32))), (.ref a0), (.int (wP + Int32.ofNat i)), (.ref wB)]))
    obtain ⟨T11, h11, X11, e11, W11, st11⟩ := putF X10 hx hZ hown (host := "") (Or.inl (hw _ (List.mem_of_getElem? (i := 24) rfl))) Via.refl e10 Hc Ha (Or.inl (hw _ (List.mem_of_getElem? (i := 25) rfl))) (hw _ (List.mem_of_getElem? (i := 14) rfl)) (ty := .int) (by decide) rfl rfl (g := (mkF m 16 #[.val (.ref a0), .val (.long (acc vs wP.toNatClampNeg i)), .second, .val (.int (Int32.ofNat (7 * i))), s4] [(.int ((wP + Int32.ofNat i) + (1 : Int32))), (.ref a0), (.int (wP + Int32.ofNat i)), (.ref wB)])) rfl rfl (hb hby own_d6_16)
    have Fw11 := Hc.same W11
    have F12 := Ha.wr W11
    have F13 := Hb.other W11 (Or.inr (slot_ne (Or.inr (hw _ (List.mem_of_getElem? (i := 23) rfl))) (Or.inl (hw _ (List.mem_of_getElem? (i := 25) rfl))) (by decide) (t := (.array .byte)) (t' := .int) (by decide) (by decide)))
    have F14 := Hd.other W11 (Ne.symm n1)
    have K11 := Kl.wr W11 (Or.inl (List.mem_of_getElem? (i := 0) rfl))
    have N11 := Fr.snoc X11 Nl g_a0
    have Z11 := Nat.le_trans Zl (Nat.le_of_eq W11.size.symm)
    refine Goes.step (fun t k => st11 t k) ?_
    show Goes _ _ _ _ _ _ _ (T11.setTop (mkF m 19 #[.val (.ref a0), .val (.long (acc vs wP.toNatClampNeg i)), .second, .val (.int (Int32.ofNat (7 * i))), s4] [(.int (wP + Int32.ofNat i)), (.ref wB)]))
    obtain ⟨cl15, Ar15, q15, ll15, ff15, oo15⟩ := id F14
    have hn15 : ¬ (wP + Int32.ofNat i) < 0 := by exact (own_bd wP i nn hP hB (by omega)).1
    have hv15 : (vs : List Value)[((wP + Int32.ofNat i)).toNatClampNeg]? = some (.int (rd vs (wP.toNatClampNeg + i))) := by rw [(own_bd wP i nn hP hB (by omega)).2]; exact own_get Hd (by omega)
    refine Goes.step (fun t k => X11.baloadBytes hx (j := (wP + Int32.ofNat i)) (v := (.int (rd vs (wP.toNatClampNeg + i)))) (by rw [e11]; exact Ar15.1) (State.isArrayOf_alike hZ.alike Ar15.2.1) Ar15.2.2 (inb q15 hn15 (ltb hv15)) (getb q15 hv15) (g := (mkF m 19 #[.val (.ref a0), .val (.long (acc vs wP.toNatClampNeg i)), .second, .val (.int (Int32.ofNat (7 * i))), s4] [(.int (wP + Int32.ofNat i)), (.ref wB)])) rfl rfl (hb hby own_d6_19) t k) ?_
    show Goes _ _ _ _ _ _ _ (T11.setTop (mkF m 20 #[.val (.ref a0), .val (.long (acc vs wP.toNatClampNeg i)), .second, .val (.int (Int32.ofNat (7 * i))), s4] [(.int (rd vs (wP.toNatClampNeg + i)))]))
    refine Goes.step (fun t k => XS.istoreS X11.here hx rfl (hb hby own_d6_20) rfl rfl hs4 k) ?_
    show Goes _ _ _ _ _ _ _ (T11.setTop (mkF m 22 #[.val (.ref a0), .val (.long (acc vs wP.toNatClampNeg i)), .second, .val (.int (Int32.ofNat (7 * i))), .val (.int (rd vs (wP.toNatClampNeg + i)))] []))
    refine Goes.step (fun t k => XS.lloadN X11.here hx rfl (hb hby own_d6_22) rfl k) ?_
    show Goes _ _ _ _ _ _ _ (T11.setTop (mkF m 23 #[.val (.ref a0), .val (.long (acc vs wP.toNatClampNeg i)), .second, .val (.int (Int32.ofNat (7 * i))), .val (.int (rd vs (wP.toNatClampNeg + i)))] [(.long (acc vs wP.toNatClampNeg i))]))
    refine Goes.step (fun t k => XS.iload X11.here hx rfl (hb hby own_d6_23) rfl k) ?_
    show Goes _ _ _ _ _ _ _ (T11.setTop (mkF m 25 #[.val (.ref a0), .val (.long (acc vs wP.toNatClampNeg i)), .second, .val (.int (Int32.ofNat (7 * i))), .val (.int (rd vs (wP.toNatClampNeg + i)))] [(.int (rd vs (wP.toNatClampNeg + i))), (.long (acc vs wP.toNatClampNeg i))]))
    refine Goes.step (fun t k => XS.bipush X11.here hx rfl (hb hby own_d6_25) k) ?_
    show Goes _ _ _ _ _ _ _ (T11.setTop (mkF m 27 #[.val (.ref a0), .val (.long (acc vs wP.toNatClampNeg i)), .second, .val (.int (Int32.ofNat (7 * i))), .val (.int (rd vs (wP.toNatClampNeg + i)))] [(.int (127 : Int32)), (.int (rd vs (wP.toNatClampNeg + i))), (.long (acc vs wP.toNatClampNeg i))]))
    refine Goes.step (fun t k => XS.iand X11.here hx rfl (hb hby own_d6_27) rfl k) ?_
    show Goes _ _ _ _ _ _ _ (T11.setTop (mkF m 28 #[.val (.ref a0), .val (.long (acc vs wP.toNatClampNeg i)), .second, .val (.int (Int32.ofNat (7 * i))), .val (.int (rd vs (wP.toNatClampNeg + i)))] [(.int ((rd vs (wP.toNatClampNeg + i)) &&& (127 : Int32))), (.long (acc vs wP.toNatClampNeg i))]))
    refine Goes.step (fun t k => XS.i2l X11.here hx rfl (hb hby own_d6_28) rfl k) ?_
    show Goes _ _ _ _ _ _ _ (T11.setTop (mkF m 29 #[.val (.ref a0), .val (.long (acc vs wP.toNatClampNeg i)), .second, .val (.int (Int32.ofNat (7 * i))), .val (.int (rd vs (wP.toNatClampNeg + i)))] [(.long (((rd vs (wP.toNatClampNeg + i)) &&& (127 : Int32)).toInt64)), (.long (acc vs wP.toNatClampNeg i))]))
    refine Goes.step (fun t k => XS.iloadN X11.here hx rfl (hb hby own_d6_29) rfl k) ?_
    show Goes _ _ _ _ _ _ _ (T11.setTop (mkF m 30 #[.val (.ref a0), .val (.long (acc vs wP.toNatClampNeg i)), .second, .val (.int (Int32.ofNat (7 * i))), .val (.int (rd vs (wP.toNatClampNeg + i)))] [(.int (Int32.ofNat (7 * i))), (.long (((rd vs (wP.toNatClampNeg + i)) &&& (127 : Int32)).toInt64)), (.long (acc vs wP.toNatClampNeg i))]))
    refine Goes.step (fun t k => XS.lshl X11.here hx rfl (hb hby own_d6_30) rfl k) ?_
    show Goes _ _ _ _ _ _ _ (T11.setTop (mkF m 31 #[.val (.ref a0), .val (.long (acc vs wP.toNatClampNeg i)), .second, .val (.int (Int32.ofNat (7 * i))), .val (.int (rd vs (wP.toNatClampNeg + i)))] [(.long ((((rd vs (wP.toNatClampNeg + i)) &&& (127 : Int32)).toInt64) <<< ((Int32.ofNat (7 * i)) &&& 0x3f).toInt64)), (.long (acc vs wP.toNatClampNeg i))]))
    refine Goes.step (fun t k => XS.lor X11.here hx rfl (hb hby own_d6_31) rfl k) ?_
    show Goes _ _ _ _ _ _ _ (T11.setTop (mkF m 32 #[.val (.ref a0), .val (.long (acc vs wP.toNatClampNeg i)), .second, .val (.int (Int32.ofNat (7 * i))), .val (.int (rd vs (wP.toNatClampNeg + i)))] [(.long ((acc vs wP.toNatClampNeg i) ||| ((((rd vs (wP.toNatClampNeg + i)) &&& (127 : Int32)).toInt64) <<< ((Int32.ofNat (7 * i)) &&& 0x3f).toInt64)))]))
    refine Goes.step (fun t k => XS.lstoreN X11.here hx rfl (hb hby own_d6_32) rfl (l' := #[.val (.ref a0), .val (.long ((acc vs wP.toNatClampNeg i) ||| ((((rd vs (wP.toNatClampNeg + i)) &&& (127 : Int32)).toInt64) <<< ((Int32.ofNat (7 * i)) &&& 0x3f).toInt64))), .second, .val (.int (Int32.ofNat (7 * i))), .val (.int (rd vs (wP.toNatClampNeg + i)))]) rfl k) ?_
    show Goes _ _ _ _ _ _ _ (T11.setTop (mkF m 33 #[.val (.ref a0), .val (.long ((acc vs wP.toNatClampNeg i) ||| ((((rd vs (wP.toNatClampNeg + i)) &&& (127 : Int32)).toInt64) <<< ((Int32.ofNat (7 * i)) &&& 0x3f).toInt64))), .second, .val (.int (Int32.ofNat (7 * i))), .val (.int (rd vs (wP.toNatClampNeg + i)))] []))
    refine Goes.step (fun t k => XS.iinc X11.here hx rfl (hb hby own_d6_33) rfl (l' := #[.val (.ref a0), .val (.long ((acc vs wP.toNatClampNeg i) ||| ((((rd vs (wP.toNatClampNeg + i)) &&& (127 : Int32)).toInt64) <<< ((Int32.ofNat (7 * i)) &&& 0x3f).toInt64))), .second, .val (.int ((Int32.ofNat (7 * i)) + (7 : Int32))), .val (.int (rd vs (wP.toNatClampNeg + i)))]) rfl k) ?_
    show Goes _ _ _ _ _ _ _ (T11.setTop (mkF m 36 #[.val (.ref a0), .val (.long ((acc vs wP.toNatClampNeg i) ||| ((((rd vs (wP.toNatClampNeg + i)) &&& (127 : Int32)).toInt64) <<< ((Int32.ofNat (7 * i)) &&& 0x3f).toInt64))), .second, .val (.int ((Int32.ofNat (7 * i)) + (7 : Int32))), .val (.int (rd vs (wP.toNatClampNeg + i)))] []))
    refine Goes.step (fun t k => XS.iload X11.here hx rfl (hb hby own_d6_36) rfl k) ?_
    show Goes _ _ _ _ _ _ _ (T11.setTop (mkF m 38 #[.val (.ref a0), .val (.long ((acc vs wP.toNatClampNeg i) ||| ((((rd vs (wP.toNatClampNeg + i)) &&& (127 : Int32)).toInt64) <<< ((Int32.ofNat (7 * i)) &&& 0x3f).toInt64))), .second, .val (.int ((Int32.ofNat (7 * i)) + (7 : Int32))), .val (.int (rd vs (wP.toNatClampNeg + i)))] [(.int (rd vs (wP.toNatClampNeg + i)))]))
    have hc38_16 : (rd vs (wP.toNatClampNeg + i)) < (0 : Int32) := by exact hneg i (by omega)
    refine Goes.step (fun t k => XS.ifYes X11.here hx rfl (pc0 := 38) (pc' := 4) rfl (hb hby own_d6_38) rfl ((if0 _ _).trans (tlt hc38_16).1) (by decide) (by decide) k) ?_
    show Goes _ _ _ _ _ _ _ (T11.setTop (mkF m 4 #[.val (.ref a0), .val (.long ((acc vs wP.toNatClampNeg i) ||| ((((rd vs (wP.toNatClampNeg + i)) &&& (127 : Int32)).toInt64) <<< ((Int32.ofNat (7 * i)) &&& 0x3f).toInt64))), .second, .val (.int ((Int32.ofNat (7 * i)) + (7 : Int32))), .val (.int (rd vs (wP.toNatClampNeg + i)))] []))
    rw [own_seven i]
    exact ih (i + 1) _ _ _ _ (by omega) X11 e11 N11 K11 Z11 F12 F13 (own_fld_to Fw11 (congrArg Value.int (own_next wP i))) F14 (One.val rfl)
def f7 (wP : Int32) : Int32 := wP
theorem own_d7_0 : decode prog_14_method_2_code 0 = .ok (.aload_n 0, 1) := by decide +kernel
theorem own_d7_1 : decode prog_14_method_2_code 1 = .ok (.getfield 15, 3) := by decide +kernel
theorem own_d7_4 : decode prog_14_method_2_code 4 = .ok (.ireturn, 1) := by decide +kernel
theorem own_ef7 (m : MethodId) (a0 : Addr) : entryFrame m #[(.ref a0)] 1 = mkF m 0 #[.val (.ref a0)] [] := by first | (simp [entryFrame, mkF, argsToLocals, Value.category, maxLocals]; done) | rfl
abbrev RM7 : Room := ({ frames := 0, cells := 0, slots := 0, locals := 0 } : Room)
abbrev kC7 : Nat := 0
abbrev kS7 : Nat := 0
def Q7 (Z : State) (a0 : Addr) (wP : Int32) (h0 : Heap) (v : Option Value) (h : Heap) (L : List Loc) : Prop := v = some (.int (f7 wP)) ∧ L = [] ∧ h = h0
set_option maxRecDepth 65536 in
set_option maxHeartbeats 40000000 in
theorem rm7 (l : Launch) (Z : State) (tA : Array Value) (hw : ∀ d ∈ tables_1, d.before tA Z = true) (ws : List Jvm.Cond) (a0 : Addr) (wP : Int32) (h0 : Heap) (H0 : Fld Z h0 a0 "com/example/double_prior/doubleprior/index/IndexFile$Reader" "position" "I" (.int wP)) :
    MetFree l (⟨"com/example/double_prior/doubleprior/index/IndexFile$Reader", "position", "()I"⟩ : MethodName) (head1 (Jvm.Cond.code (⟨"com/example/double_prior/doubleprior/index/IndexFile$Reader", "position", "()I"⟩ : MethodName) prog_14_method_2_code 1 (some .int) :: ws) RM7) (fun a U => a = #[(.ref a0)] ∧ Z.Warmed39 U.vm ∧ U.heap = h0) (fun _ _ _ _ _ => True) (fun _ U o U' => ∃ v L, o = .returned v ∧ Q7 Z a0 wP h0 v U'.heap L ∧ FrameEnd U o U' L RM7.cells RM7.slots) := by
  refine MetFree.of_bodySF (plainFor_of_name own_pn1) hisR ?_
  intro p e s m args below meth c s₁ Bd hml0 hP hK
  obtain ⟨rfl, hZ, hh⟩ := hP
  have hx := Bd.exec
  have hby := Bd.bytes
  have hml : c.maxLocals = 1 := hml0
  have hown : s.vm.findClass "com/example/double_prior/doubleprior/index/IndexFile$Reader" = some m.cls := findClass_of_methodNamed Bd.named
  have hnm := (name_of_methodNamed Bd.named Bd.method).1
  have X0 : Stand p l e RM7 s m #[(.ref a0)] below meth c s₁ [] 0 0 := Stand.of_body Bd
  have e0 : s₁.heap = h0 := by rw [← hh, Bd.state]; rfl
  show Goes p e below s (Q7 Z a0 wP h0) kC7 kS7 (s₁.setTop (entryFrame m #[(.ref a0)] 1))
  refine Goes.step (fun t k => castTop (own_ef7 m a0) k) ?_
  show Goes _ _ _ _ _ _ _ (s₁.setTop (mkF m 0 #[.val (.ref a0)] []))
  refine Goes.step (fun t k => XS.aloadN X0.here hx rfl (hb hby own_d7_0) rfl rfl k) ?_
  show Goes _ _ _ _ _ _ _ (s₁.setTop (mkF m 1 #[.val (.ref a0)] [(.ref a0)]))
  obtain ⟨T1, X1, e1, st1⟩ := getF X0 hx hZ hown (host := "") (Or.inl (hw _ (List.mem_of_getElem? (i := 24) rfl))) Via.refl e0 H0 (g := (mkF m 1 #[.val (.ref a0)] [(.ref a0)])) rfl rfl (hb hby own_d7_1)
  refine Goes.step (fun t k => st1 t k) ?_
  show Goes _ _ _ _ _ _ _ (T1.setTop (mkF m 4 #[.val (.ref a0)] [(.int wP)]))
  exact Goes.retI X1 hx Bd.notSynchronized (r := (f7 wP)) Bd.returns (hb hby own_d7_4) rfl ⟨rfl, rfl, e1⟩ (by decide) (by decide)
def VSof (q0 q4 : Int64) (p1 ys yn : Int32) : List Value := (g3_0 ys (9 : Int32) yn (p1 &&& (1 : Int32)) (g3_0 ys (8 : Int32) yn (f2 q0 (8 : Int32)) (g3_0 ys (7 : Int32) yn (f2 q0 (7 : Int32)) (g3_0 ys (6 : Int32) yn (f2 q0 (6 : Int32)) (g3_0 ys (5 : Int32) yn (f2 q0 (5 : Int32)) (g3_0 ys (4 : Int32) yn (f2 q0 (4 : Int32)) (g3_0 ys (3 : Int32) yn (f2 q0 (3 : Int32)) (g3_0 ys (2 : Int32) yn (f2 q0 (2 : Int32)) (g3_0 ys (1 : Int32) yn (f2 q0 (1 : Int32)) (g3_0 ys (0 : Int32) yn (f2 q0 (0 : Int32)) [(.int ((f1 q4 (0 : Int32)).toInt8.toInt32)), (.int ((f1 q4 (1 : Int32)).toInt8.toInt32)), (.int ((f1 q4 (2 : Int32)).toInt8.toInt32)), (.int ((f1 q4 (3 : Int32)).toInt8.toInt32)), (.int ((f1 q4 (4 : Int32)).toInt8.toInt32)), (.int ((f1 q4 (5 : Int32)).toInt8.toInt32)), (.int ((f1 q4 (6 : Int32)).toInt8.toInt32)), (.int ((f1 q4 (7 : Int32)).toInt8.toInt32)), (.int ((f1 q4 (8 : Int32)).toInt8.toInt32)), (.int ((f1 q4 (9 : Int32)).toInt8.toInt32)), (.int ((f1 q4 (10 : Int32)).toInt8.toInt32)), (.int ((f1 q4 (11 : Int32)).toInt8.toInt32)), (.int ((f1 q4 (12 : Int32)).toInt8.toInt32)), (.int ((f1 q4 (13 : Int32)).toInt8.toInt32)), (.int ((f1 q4 (14 : Int32)).toInt8.toInt32)), (.int ((f1 q4 (15 : Int32)).toInt8.toInt32))]))))))))))

theorem own_ix (s i n : Int32) (hs : 0 ≤ s.toInt ∧ s.toInt < 4) (hi : 0 ≤ i.toInt ∧ i.toInt < 10) {vs : List Value} (hl : vs.length = 16) : i < n → ¬ (s + i) < 0 ∧ (s + i).toNatClampNeg < vs.length := fun _ => by
  have e := c_iadd s i
  have r := rng32 (s + i)
  have t : (s + i).toInt = s.toInt + i.toInt := by omega
  have p : ¬ (s + i) < 0 := by rw [Int32.lt_iff_toInt_lt, (by decide : (0 : Int32).toInt = 0)]; omega
  have u := nat_of p
  exact ⟨p, by rw [hl]; omega⟩
theorem own_S (p y : Int32) (h : p &&& 3 = y) : 0 ≤ y.toInt ∧ y.toInt < 4 := by
  have q := c_mask p 3 2 (by decide) (by decide)
  rw [h] at q; omega
theorem own_N (p y : Int32) (h : (p &&& 2147483647) % 10 + 1 = y) : 1 ≤ y.toInt ∧ y.toInt ≤ 10 := by
  have h1 := c_mask p 2147483647 31 (by decide) (by decide)
  have h2 := (c_irem (p &&& 2147483647) 10 10 (by decide)).1 (by omega)
  have h3 := c_iadd ((p &&& 2147483647) % 10) 1
  have h4 := rng32 ((p &&& 2147483647) % 10 + 1)
  rw [(by decide : (1 : Int32).toInt = 1)] at h3
  rw [h] at h3 h4; omega
theorem own_nat (y : Int32) (h : 0 ≤ y.toInt) : ¬ y < 0 ∧ y.toInt = (y.toNatClampNeg : Int) := by
  have p : ¬ y < 0 := by rw [Int32.lt_iff_toInt_lt, (by decide : (0 : Int32).toInt = 0)]; omega
  exact ⟨p, nat_of p⟩
theorem own_r1 (y : Int32) (h : 0 ≤ y.toInt ∧ y.toInt < 4) : ¬ y < 0 := (own_nat y h.1).1
theorem own_r2 (y : Int32) (h : 1 ≤ y.toInt ∧ y.toInt ≤ 10) : 0 < y.toNatClampNeg := by
  have := (own_nat y (by omega)).2; omega
theorem own_r4 (s n : Int32) (hs : 0 ≤ s.toInt ∧ s.toInt < 4) (hn : 1 ≤ n.toInt ∧ n.toInt ≤ 10) : s.toNatClampNeg + n.toNatClampNeg < 2 ^ 31 := by
  have := (own_nat s hs.1).2; have := (own_nat n (by omega)).2; omega
def pay (a : Int64) (top : Int32) (i : Nat) : Int32 := if i < 9 then f2 a (Int32.ofNat i) else top &&& 1
def base (junk : Int64) : List Value := [(.int ((f1 junk (0 : Int32)).toInt8.toInt32)), (.int ((f1 junk (1 : Int32)).toInt8.toInt32)), (.int ((f1 junk (2 : Int32)).toInt8.toInt32)), (.int ((f1 junk (3 : Int32)).toInt8.toInt32)), (.int ((f1 junk (4 : Int32)).toInt8.toInt32)), (.int ((f1 junk (5 : Int32)).toInt8.toInt32)), (.int ((f1 junk (6 : Int32)).toInt8.toInt32)), (.int ((f1 junk (7 : Int32)).toInt8.toInt32)), (.int ((f1 junk (8 : Int32)).toInt8.toInt32)), (.int ((f1 junk (9 : Int32)).toInt8.toInt32)), (.int ((f1 junk (10 : Int32)).toInt8.toInt32)), (.int ((f1 junk (11 : Int32)).toInt8.toInt32)), (.int ((f1 junk (12 : Int32)).toInt8.toInt32)), (.int ((f1 junk (13 : Int32)).toInt8.toInt32)), (.int ((f1 junk (14 : Int32)).toInt8.toInt32)), (.int ((f1 junk (15 : Int32)).toInt8.toInt32))]
def VSk (a junk : Int64) (top s n : Int32) : Nat → List Value
  | 0 => base junk
  | m + 1 => g3_0 s (Int32.ofNat m) n (pay a top m) (VSk a junk top s n m)
theorem VS_eq (a junk : Int64) (top s n : Int32) : VSof a junk top s n = VSk a junk top s n 10 := rfl
theorem VSk_len (a junk : Int64) (top s n : Int32) (m : Nat) : (VSk a junk top s n m).length = 16 := by
  induction m with
  | zero => rfl
  | succ m ih => show (g3_0 _ _ _ _ _).length = _; rw [own_glen]; exact ih
def PV (i n v : Int32) : Int32 := ((if i < (n - (1 : Int32)) then (v ||| (128 : Int32)) else v).toInt8.toInt32).toInt8.toInt32
theorem rd_put (s i n v : Int32) (vs : List Value) (j : Nat) (hj : j < vs.length) : rd (g3_0 s i n v vs) j = if i < n ∧ (s + i).toNatClampNeg = j then PV i n v else rd vs j := by
  unfold g3_0 rd
  by_cases h : i < n
  · rw [if_pos h, List.getElem?_set]
    by_cases e : (s + i).toNatClampNeg = j
    · rw [if_pos e, if_pos (by rw [e]; exact hj)]; exact (if_pos (c := i < n ∧ (s + i).toNatClampNeg = j) ⟨h, e⟩).symm
    · rw [if_neg e]; exact (if_neg (c := i < n ∧ (s + i).toNatClampNeg = j) (fun q => e q.2)).symm
  · rw [if_neg h]; exact (if_neg (c := i < n ∧ (s + i).toNatClampNeg = j) (fun q => h q.1)).symm
theorem rd_VSk (a junk : Int64) (top s n : Int32) (hs : 0 ≤ s.toInt ∧ s.toInt < 4) (hn : 1 ≤ n.toInt ∧ n.toInt ≤ 10) (i : Nat) (hi : i < n.toNatClampNeg) (m : Nat) (hm : m ≤ 10) :
    rd (VSk a junk top s n m) (s.toNatClampNeg + i) = if i < m then PV (Int32.ofNat i) n (pay a top i) else rd (base junk) (s.toNatClampNeg + i) := by
  have e1 := (own_nat s hs.1).2
  have e2 := (own_nat n (by omega)).2
  induction m with
  | zero => rw [if_neg (by omega)]; rfl
  | succ m ih =>
    show rd (g3_0 _ _ _ _ _) _ = _
    rw [rd_put _ _ _ _ _ _ (by rw [VSk_len]; omega), ih (by omega)]
    have em := (own_bd s m (m + 1) (own_nat s hs.1).1 (by omega) (by omega)).2
    have ei : (Int32.ofNat m).toInt = m := Int32.toInt_ofNat_small (by omega)
    rw [em]
    by_cases q : i = m
    · subst q
      rw [if_pos ⟨by rw [Int32.lt_iff_toInt_lt]; omega, rfl⟩, if_pos (by omega)]
    · rw [if_neg (fun z => q (by omega))]
      by_cases q2 : i < m
      · rw [if_pos q2, if_pos (by omega)]
      · rw [if_neg q2, if_neg (by omega)]
theorem pay_rng (a : Int64) (top : Int32) (i : Nat) : 0 ≤ (pay a top i).toInt ∧ (pay a top i).toInt < 128 := by
  unfold pay
  split
  · unfold f2
    generalize ((a.toUInt64 >>> (((7 : Int32) * Int32.ofNat i) &&& 0x3f).toInt64.toUInt64).toInt64) = z
    have h1 := c_maskL z 127 7 (by decide) (by decide)
    have h2 := c_l2i (z &&& 127)
    have h3 := rng32 (z &&& 127).toInt32
    omega
  · have h1 := c_mask top 1 1 (by decide) (by decide)
    omega
theorem PV_neg (i n v : Int32) (h : i < n - 1) (hv : 0 ≤ v.toInt ∧ v.toInt < 128) : (PV i n v).toInt = v.toInt - 128 := by
  unfold PV
  rw [if_pos h]
  have h1 := c_or' v 128 7 (by decide) 128 rfl (by decide) hv.1 hv.2
  have h2 := rng32 (v ||| 128)
  rw [(by decide : (128 : Int32).toInt = 128)] at h1
  have h3 := c_i2b (v ||| 128)
  have h4 := c_i2b ((v ||| 128).toInt8.toInt32)
  omega
theorem PV_pos (i n v : Int32) (h : ¬ i < n - 1) (hv : 0 ≤ v.toInt ∧ v.toInt < 128) : (PV i n v).toInt = v.toInt := by
  unfold PV
  rw [if_neg h]
  have h3 := c_i2b v
  have h4 := c_i2b (v.toInt8.toInt32)
  omega
theorem own_n1 (n : Int32) (hn : 1 ≤ n.toInt ∧ n.toInt ≤ 10) : (n - 1).toInt = n.toInt - 1 := by
  have h := c_isub n 1
  rw [(by decide : (1 : Int32).toInt = 1)] at h
  have := rng32 (n - 1); omega
theorem own_lt1 (n : Int32) (hn : 1 ≤ n.toInt ∧ n.toInt ≤ 10) (i : Nat) (hi : i < n.toNatClampNeg) : Int32.ofNat i < n - 1 ↔ i + 1 < n.toNatClampNeg := by
  have e2 := (own_nat n (by omega)).2
  have ei : (Int32.ofNat i).toInt = i := Int32.toInt_ofNat_small (by omega)
  rw [Int32.lt_iff_toInt_lt, own_n1 n hn, ei]; omega
theorem rdV (a junk : Int64) (top s n : Int32) (hs : 0 ≤ s.toInt ∧ s.toInt < 4) (hn : 1 ≤ n.toInt ∧ n.toInt ≤ 10) (i : Nat) (hi : i < n.toNatClampNeg) : rd (VSof a junk top s n) (s.toNatClampNeg + i) = PV (Int32.ofNat i) n (pay a top i) := by
  have e2 := (own_nat n (by omega)).2
  rw [VS_eq, rd_VSk a junk top s n hs hn i hi 10 (by omega), if_pos (by omega)]
theorem own_r3 (a junk : Int64) (top s n : Int32) (hs : 0 ≤ s.toInt ∧ s.toInt < 4) (hn : 1 ≤ n.toInt ∧ n.toInt ≤ 10) : s.toNatClampNeg + n.toNatClampNeg ≤ (VSof a junk top s n).length := by
  rw [VS_eq, VSk_len]
  have := (own_nat s hs.1).2; have := (own_nat n (by omega)).2; omega
theorem own_r5 (a junk : Int64) (top s n : Int32) (hs : 0 ≤ s.toInt ∧ s.toInt < 4) (hn : 1 ≤ n.toInt ∧ n.toInt ≤ 10) : ∀ i, i + 1 < n.toNatClampNeg → rd (VSof a junk top s n) (s.toNatClampNeg + i) < 0 := fun i hi => by
  rw [rdV a junk top s n hs hn i (by omega), Int32.lt_iff_toInt_lt, PV_neg _ _ _ ((own_lt1 n hn i (by omega)).mpr hi) (pay_rng a top i), (by decide : (0 : Int32).toInt = 0)]
  have := pay_rng a top i; omega
theorem own_r6 (a junk : Int64) (top s n : Int32) (hs : 0 ≤ s.toInt ∧ s.toInt < 4) (hn : 1 ≤ n.toInt ∧ n.toInt ≤ 10) : ∀ i, i + 1 = n.toNatClampNeg → ¬ rd (VSof a junk top s n) (s.toNatClampNeg + i) < 0 := fun i hi => by
  rw [rdV a junk top s n hs hn i (by omega), Int32.lt_iff_toInt_lt, PV_pos _ _ _ (fun q => by have := (own_lt1 n hn i (by omega)).mp q; omega) (pay_rng a top i), (by decide : (0 : Int32).toInt = 0)]
  have := pay_rng a top i; omega
theorem rd_and (a junk : Int64) (top s n : Int32) (hs : 0 ≤ s.toInt ∧ s.toInt < 4) (hn : 1 ≤ n.toInt ∧ n.toInt ≤ 10) (i : Nat) (hi : i < n.toNatClampNeg) : rd (VSof a junk top s n) (s.toNatClampNeg + i) &&& (127 : Int32) = pay a top i := by
  rw [rdV a junk top s n hs hn i hi, ← Int32.toInt_inj, c_mask _ 127 7 (by decide) (by decide)]
  have hp := pay_rng a top i
  by_cases q : Int32.ofNat i < n - 1
  · rw [PV_neg _ _ _ q hp]; omega
  · rw [PV_pos _ _ _ q hp]; omega
def accP (a : Int64) (top : Int32) : Nat → Int64
  | 0 => 0
  | i + 1 => accP a top i ||| ((pay a top i).toInt64 <<< ((Int32.ofNat (7 * i)) &&& 0x3f).toInt64)
theorem acc_eq (a junk : Int64) (top s n : Int32) (hs : 0 ≤ s.toInt ∧ s.toInt < 4) (hn : 1 ≤ n.toInt ∧ n.toInt ≤ 10) (i : Nat) (hi : i ≤ n.toNatClampNeg) : acc (VSof a junk top s n) s.toNatClampNeg i = accP a top i := by
  induction i with
  | zero => rfl
  | succ i ih =>
    show acc _ _ i ||| _ = accP _ _ i ||| _
    rw [ih (by omega), rd_and a junk top s n hs hn i (by omega)]
def bt (q : Int64) (j : Nat) : Bool := q.toBitVec.getLsbD j
theorem i64_ext {a b : Int64} (h : a.toBitVec = b.toBitVec) : a = b := Int64.toBitVec_inj.mp h
theorem bt_and (a b : Int64) (j : Nat) : bt (a &&& b) j = (bt a j && bt b j) := by simp [bt]
theorem bt_or (a b : Int64) (j : Nat) : bt (a ||| b) j = (bt a j || bt b j) := by simp [bt]
theorem bt_ushr (q : Int64) (n : Int32) (k j : Nat) (hk : n.toBitVec.toNat % 64 = k) : bt ((q.toUInt64 >>> (n &&& 0x3f).toInt64.toUInt64).toInt64) j = bt q (k + j) := by
  obtain ⟨h1, h2⟩ := sm64 n k hk
  show ((q.toUInt64 >>> (n &&& 0x3f).toInt64.toUInt64).toBitVec).getLsbD j = _
  rw [UInt64.toBitVec_shiftRight]
  have h3 : (n &&& 0x3f).toInt64.toUInt64.toBitVec = BitVec.ofNat 64 k := h1
  rw [h3]
  have h4 : (BitVec.ofNat 64 k % 64).toNat = k := by simp [BitVec.toNat_umod]; omega
  rw [BitVec.ushiftRight_eq', h4, BitVec.getLsbD_ushiftRight]
  rfl
theorem bt_shl (q : Int64) (n : Int32) (k j : Nat) (hk : n.toBitVec.toNat % 64 = k) : bt (q <<< (n &&& 0x3f).toInt64) j = (decide (j < 64) && !decide (j < k) && bt q (j - k)) := by
  obtain ⟨h1, h2⟩ := sm64 n k hk
  show ((q <<< (n &&& 0x3f).toInt64).toBitVec).getLsbD j = _
  rw [Int64.toBitVec_shiftLeft, h1]
  have h4 : ((BitVec.ofNat 64 k).smod 64).toNat = k := smod64 k h2
  rw [BitVec.shiftLeft_eq', h4, BitVec.getLsbD_shiftLeft]
  rfl
theorem bt_far (q : Int64) (j : Nat) (h : 64 ≤ j) : bt q j = false := BitVec.getLsbD_of_ge _ _ h
theorem sh7 : ∀ i : Fin 9, ((7 : Int32) * Int32.ofNat i.1).toBitVec.toNat % 64 = 7 * i.1 := by decide +kernel
theorem sh7' : ∀ i : Fin 10, (Int32.ofNat (7 * i.1)).toBitVec.toNat % 64 = 7 * i.1 := by decide +kernel
theorem bt127 (m : Nat) : bt 127 m = decide (m < 7) := by
  rcases Nat.lt_or_ge m 64 with h | h
  · have : ∀ m : Fin 64, bt 127 m.1 = decide (m.1 < 7) := by decide +kernel
    exact this ⟨m, h⟩
  · rw [bt_far _ _ h]; simp; omega
theorem bt_pay (a : Int64) (top : Int32) (i m : Nat) (hi : i < 9) : bt (pay a top i).toInt64 m = (bt a (7 * i + m) && decide (m < 7)) := by
  unfold pay
  rw [if_pos hi]
  unfold f2
  rw [XT.narrowOk, bt_and, bt127, bt_ushr a _ (7 * i) m (sh7 ⟨i, hi⟩)]
  generalize ((a.toUInt64 >>> (((7 : Int32) * Int32.ofNat i) &&& 0x3f).toInt64.toUInt64).toInt64) = z
  have h1 := c_maskL z 127 7 (by decide) (by decide)
  constructor <;> omega
theorem bt_accP (a : Int64) (top : Int32) (i : Nat) (hi : i ≤ 9) (j : Nat) (hj : j < 64) : bt (accP a top i) j = (decide (j < 7 * i) && bt a j) := by
  induction i with
  | zero => simp [accP, bt]
  | succ i ih =>
    show bt (accP a top i ||| _) j = _
    rw [bt_or, ih (by omega), bt_shl _ _ (7 * i) j (sh7' ⟨i, by omega⟩), bt_pay a top i _ (by omega)]
    have h1 : decide (j < 64) = true := by simpa using hj
    rw [h1]
    by_cases q : j < 7 * i
    · have : decide (j < 7 * (i + 1)) = true := by simp; omega
      simp [q, this]
    · by_cases q2 : j < 7 * (i + 1)
      · have e : 7 * i + (j - 7 * i) = j := by omega
        have : decide (j - 7 * i < 7) = true := by simp; omega
        simp [q, q2, e, this]
      · have : decide (j - 7 * i < 7) = false := by simp; omega
        simp [q, q2, this]
theorem mask_all : ∀ n : Fin 10, ∀ j : Fin 64, bt (((1 : Int64) <<< (((7 : Int32) * Int32.ofNat n.1) &&& 0x3f).toInt64) - (1 : Int64)) j.1 = decide (j.1 < 7 * n.1) := by decide +kernel
theorem max_all : ∀ j : Fin 64, bt (9223372036854775807 : Int64) j.1 = decide (j.1 < 63) := by decide +kernel
theorem i64_bits {x y : Int64} (h : ∀ j, j < 64 → bt x j = bt y j) : x = y := by
  apply i64_ext; apply BitVec.eq_of_getLsbD_eq; intro i hi; exact h i hi
theorem acc_lo (a : Int64) (top : Int32) (n : Nat) (hn : n ≤ 9) : accP a top n = a &&& (((1 : Int64) <<< (((7 : Int32) * Int32.ofNat n) &&& 0x3f).toInt64) - (1 : Int64)) := by
  apply i64_bits; intro j hj
  rw [bt_accP a top n hn j hj, bt_and, mask_all ⟨n, by omega⟩ ⟨j, hj⟩, Bool.and_comm]
theorem acc_hi (a : Int64) (top : Int32) : accP a top 10 = (a &&& (9223372036854775807 : Int64)) ||| ((top &&& (1 : Int32)).toInt64 <<< ((63 : Int32) &&& 0x3f).toInt64) := by
  show accP a top 9 ||| _ = _
  have : accP a top 9 = a &&& (9223372036854775807 : Int64) := by
    apply i64_bits; intro j hj
    rw [bt_accP a top 9 (by omega) j hj, bt_and, max_all ⟨j, hj⟩, Bool.and_comm]
  rw [this]; rfl
theorem own_of (n : Int32) (h : 0 ≤ n.toInt) : Int32.ofNat n.toNatClampNeg = n := (back32 (own_nat n h).1).1
set_option maxRecDepth 65536 in
set_option maxHeartbeats 4000000 in
theorem own_s38 (p3 : Int32) (y3 : Int32) (hy3 : (p3 &&& (3 : Int32)) = y3) : 0 ≤ y3.toInt ∧ y3.toInt < 4 := by
  have h := c_mask p3 3 2 (by decide) (by decide)
  rw [hy3] at h
  omega
set_option maxRecDepth 65536 in
set_option maxHeartbeats 4000000 in
theorem own_s40 (p3 : Int32) (y3 : Int32) (hy3 : (p3 &&& (3 : Int32)) = y3) : 0 ≤ y3.toInt ∧ y3.toInt < 4 := by
  have h := c_mask p3 3 2 (by decide) (by decide)
  rw [hy3] at h
  omega
set_option maxRecDepth 65536 in
set_option maxHeartbeats 4000000 in
theorem own_s42 (p3 : Int32) (y3 : Int32) (hy3 : (p3 &&& (3 : Int32)) = y3) : 0 ≤ y3.toInt ∧ y3.toInt < 4 := by
  have h := c_mask p3 3 2 (by decide) (by decide)
  rw [hy3] at h
  omega
set_option maxRecDepth 65536 in
set_option maxHeartbeats 4000000 in
theorem own_s44 (p3 : Int32) (y3 : Int32) (hy3 : (p3 &&& (3 : Int32)) = y3) : 0 ≤ y3.toInt ∧ y3.toInt < 4 := by
  have h := c_mask p3 3 2 (by decide) (by decide)
  rw [hy3] at h
  omega
set_option maxRecDepth 65536 in
set_option maxHeartbeats 4000000 in
theorem own_s46 (p3 : Int32) (y3 : Int32) (hy3 : (p3 &&& (3 : Int32)) = y3) : 0 ≤ y3.toInt ∧ y3.toInt < 4 := by
  have h := c_mask p3 3 2 (by decide) (by decide)
  rw [hy3] at h
  omega
set_option maxRecDepth 65536 in
set_option maxHeartbeats 4000000 in
theorem own_s48 (p3 : Int32) (y3 : Int32) (hy3 : (p3 &&& (3 : Int32)) = y3) : 0 ≤ y3.toInt ∧ y3.toInt < 4 := by
  have h := c_mask p3 3 2 (by decide) (by decide)
  rw [hy3] at h
  omega
set_option maxRecDepth 65536 in
set_option maxHeartbeats 4000000 in
theorem own_s50 (p3 : Int32) (y3 : Int32) (hy3 : (p3 &&& (3 : Int32)) = y3) : 0 ≤ y3.toInt ∧ y3.toInt < 4 := by
  have h := c_mask p3 3 2 (by decide) (by decide)
  rw [hy3] at h
  omega
set_option maxRecDepth 65536 in
set_option maxHeartbeats 4000000 in
theorem own_s52 (p3 : Int32) (y3 : Int32) (hy3 : (p3 &&& (3 : Int32)) = y3) : 0 ≤ y3.toInt ∧ y3.toInt < 4 := by
  have h := c_mask p3 3 2 (by decide) (by decide)
  rw [hy3] at h
  omega
set_option maxRecDepth 65536 in
set_option maxHeartbeats 4000000 in
theorem own_s54 (p3 : Int32) (y3 : Int32) (hy3 : (p3 &&& (3 : Int32)) = y3) : 0 ≤ y3.toInt ∧ y3.toInt < 4 := by
  have h := c_mask p3 3 2 (by decide) (by decide)
  rw [hy3] at h
  omega
set_option maxRecDepth 65536 in
set_option maxHeartbeats 4000000 in
theorem own_s55 (p3 : Int32) (y3 : Int32) (hy3 : (p3 &&& (3 : Int32)) = y3) : 0 ≤ y3.toInt ∧ y3.toInt < 4 := by
  have h := c_mask p3 3 2 (by decide) (by decide)
  rw [hy3] at h
  omega
set_option maxRecDepth 65536 in
set_option maxHeartbeats 4000000 in
theorem own_plain (q0 : Int64) (p1 : Int32) (p2 : Int32) (p3 : Int32) (q4 : Int64) (y2 : Int32) (y3 : Int32) (y63 : Int64) (x67_0 : Int64) (x72_0 : Int32) (hy2 : (((p2 &&& (2147483647 : Int32)) % (10 : Int32)) + (1 : Int32)) = y2) (hy3 : (p3 &&& (3 : Int32)) = y3) (hy63 : (acc (g3_0 y3 (9 : Int32) y2 (p1 &&& (1 : Int32)) (g3_0 y3 (8 : Int32) y2 (f2 q0 (8 : Int32)) (g3_0 y3 (7 : Int32) y2 (f2 q0 (7 : Int32)) (g3_0 y3 (6 : Int32) y2 (f2 q0 (6 : Int32)) (g3_0 y3 (5 : Int32) y2 (f2 q0 (5 : Int32)) (g3_0 y3 (4 : Int32) y2 (f2 q0 (4 : Int32)) (g3_0 y3 (3 : Int32) y2 (f2 q0 (3 : Int32)) (g3_0 y3 (2 : Int32) y2 (f2 q0 (2 : Int32)) (g3_0 y3 (1 : Int32) y2 (f2 q0 (1 : Int32)) (g3_0 y3 (0 : Int32) y2 (f2 q0 (0 : Int32)) [(.int ((f1 q4 (0 : Int32)).toInt8.toInt32)), (.int ((f1 q4 (1 : Int32)).toInt8.toInt32)), (.int ((f1 q4 (2 : Int32)).toInt8.toInt32)), (.int ((f1 q4 (3 : Int32)).toInt8.toInt32)), (.int ((f1 q4 (4 : Int32)).toInt8.toInt32)), (.int ((f1 q4 (5 : Int32)).toInt8.toInt32)), (.int ((f1 q4 (6 : Int32)).toInt8.toInt32)), (.int ((f1 q4 (7 : Int32)).toInt8.toInt32)), (.int ((f1 q4 (8 : Int32)).toInt8.toInt32)), (.int ((f1 q4 (9 : Int32)).toInt8.toInt32)), (.int ((f1 q4 (10 : Int32)).toInt8.toInt32)), (.int ((f1 q4 (11 : Int32)).toInt8.toInt32)), (.int ((f1 q4 (12 : Int32)).toInt8.toInt32)), (.int ((f1 q4 (13 : Int32)).toInt8.toInt32)), (.int ((f1 q4 (14 : Int32)).toInt8.toInt32)), (.int ((f1 q4 (15 : Int32)).toInt8.toInt32))])))))))))) y3.toNatClampNeg y2.toNatClampNeg) = y63) (hx67_0 : x67_0 = (if y2 < (10 : Int32) then (q0 &&& (((1 : Int64) <<< (((7 : Int32) * y2) &&& 0x3f).toInt64) - (1 : Int64))) else ((q0 &&& (9223372036854775807 : Int64)) ||| (((p1 &&& (1 : Int32)).toInt64) <<< ((63 : Int32) &&& 0x3f).toInt64)))) (hx72_0 : x72_0 = (if y63 = x67_0 then (if (f7 (y3 + Int32.ofNat y2.toNatClampNeg)) = (y3 + y2) then (1 : Int32) else (0 : Int32)) else (0 : Int32))) : nar .boolean x72_0 = (1 : Int32) := by
  have hs := own_S _ _ hy3
  have hn := own_N _ _ hy2
  have e := acc_eq q0 q4 p1 y3 y2 hs hn y2.toNatClampNeg (Nat.le_refl _)
  have h63 : y63 = accP q0 p1 y2.toNatClampNeg := hy63.symm.trans e
  have e2 := (own_nat y2 (by omega)).2
  have hex : x67_0 = y63 := by
    rw [hx67_0, h63]
    by_cases q : y2 < 10
    · rw [if_pos q]
      rw [Int32.lt_iff_toInt_lt, (by decide : (10 : Int32).toInt = 10)] at q
      rw [acc_lo q0 p1 _ (by omega), own_of y2 (by omega)]
    · rw [if_neg q]
      rw [Int32.lt_iff_toInt_lt, (by decide : (10 : Int32).toInt = 10)] at q
      have : y2.toNatClampNeg = 10 := by omega
      rw [this, acc_hi]
  rw [hx72_0, if_pos hex.symm, own_of y2 (by omega), if_pos (show f7 (y3 + y2) = y3 + y2 from rfl)]
  rfl
theorem own_ef0 (m : MethodId) (q0 : Int64) (p1 : Int32) (p2 : Int32) (p3 : Int32) (q4 : Int64) : entryFrame m #[(.long q0), (.int p1), (.int p2), (.int p3), (.long q4)] maxLocals = mkF m 0 #[.val (.long q0), .second, .val (.int p1), .val (.int p2), .val (.int p3), .val (.long q4), .second, .unset, .unset, .unset, .unset, .unset, .unset, .unset, .unset] [] := by first | (simp [entryFrame, mkF, argsToLocals, Value.category, maxLocals]; done) | rfl
abbrev kC0 : Nat := 2
abbrev kS0 : Nat := 18
def Q0 (Z : State) (q0 : Int64) (p1 : Int32) (p2 : Int32) (p3 : Int32) (q4 : Int64) (h0 : Heap) (n0 : Nat) (v : Option Value) (h : Heap) (L : List Loc) : Prop := v = some (.int 1) ∧ Fr n0 L
set_option maxRecDepth 65536 in
set_option maxHeartbeats 40000000 in
theorem rm0 (l : Launch) (Z : State) (tA : Array Value) (hw : ∀ d ∈ tables_1, d.before tA Z = true) (ws : List Jvm.Cond) (q0 : Int64) (p1 : Int32) (p2 : Int32) (p3 : Int32) (q4 : Int64) (h0 : Heap) (n0 : Nat) (Z0 : n0 ≤ h0.size)  :
    MetFree l x (head1 (Jvm.Cond.code x code maxLocals ret :: ws) room_1) (fun a U => a = #[(.long q0), (.int p1), (.int p2), (.int p3), (.long q4)] ∧ Z.Warmed39 U.vm ∧ U.heap = h0) (fun _ _ _ _ _ => True) (fun _ U o U' => ∃ v L, o = .returned v ∧ Q0 Z q0 p1 p2 p3 q4 h0 n0 v U'.heap L ∧ FrameEnd U o U' L kC0 kS0) := by
  refine MetFree.of_bodySF (plainFor_of_name own_pn0) hisR ?_
  intro p e s m args below meth c s₁ Bd hml0 hP hK
  obtain ⟨rfl, hZ, hh⟩ := hP
  have hx := Bd.exec
  have hby := Bd.bytes
  have hml : c.maxLocals = 15 := hml0
  have hown : s.vm.findClass "com/example/double_prior/doubleprior/index/ReaderReadLongPinLaw" = some m.cls := findClass_of_methodNamed Bd.named
  have hnm := (name_of_methodNamed Bd.named Bd.method).1
  have X0 : Stand p l e room_1 s m #[(.long q0), (.int p1), (.int p2), (.int p3), (.long q4)] below meth c s₁ [] 0 0 := Stand.of_body Bd
  have e0 : s₁.heap = h0 := by rw [← hh, Bd.state]; rfl
  have N0 := Fr.nil n0
  show Goes p e below s (Q0 Z q0 p1 p2 p3 q4 h0 n0) kC0 kS0 (s₁.setTop (entryFrame m #[(.long q0), (.int p1), (.int p2), (.int p3), (.long q4)] maxLocals))
  refine Goes.step (fun t k => castTop (own_ef0 m q0 p1 p2 p3 q4) k) ?_
  show Goes _ _ _ _ _ _ _ (s₁.setTop (mkF m 0 #[.val (.long q0), .second, .val (.int p1), .val (.int p2), .val (.int p3), .val (.long q4), .second, .unset, .unset, .unset, .unset, .unset, .unset, .unset, .unset] []))
  refine Goes.step (fun t k => XS.iloadN X0.here hx rfl (hb hby at_0) rfl k) ?_
  show Goes _ _ _ _ _ _ _ (s₁.setTop (mkF m 1 #[.val (.long q0), .second, .val (.int p1), .val (.int p2), .val (.int p3), .val (.long q4), .second, .unset, .unset, .unset, .unset, .unset, .unset, .unset, .unset] [(.int p2)]))
  refine Goes.step (fun t k => X0.ldcInt hx hown (mvT hZ (hw _ (List.mem_of_getElem? (i := 0) rfl))) (g := (mkF m 1 #[.val (.long q0), .second, .val (.int p1), .val (.int p2), .val (.int p3), .val (.long q4), .second, .unset, .unset, .unset, .unset, .unset, .unset, .unset, .unset] [(.int p2)])) rfl (hb hby at_1) _ k) ?_
  show Goes _ _ _ _ _ _ _ (s₁.setTop (mkF m 3 #[.val (.long q0), .second, .val (.int p1), .val (.int p2), .val (.int p3), .val (.long q4), .second, .unset, .unset, .unset, .unset, .unset, .unset, .unset, .unset] [(.int (2147483647 : Int32)), (.int p2)]))
  refine Goes.step (fun t k => XS.iand X0.here hx rfl (hb hby at_3) rfl k) ?_
  show Goes _ _ _ _ _ _ _ (s₁.setTop (mkF m 4 #[.val (.long q0), .second, .val (.int p1), .val (.int p2), .val (.int p3), .val (.long q4), .second, .unset, .unset, .unset, .unset, .unset, .unset, .unset, .unset] [(.int (p2 &&& (2147483647 : Int32)))]))
  refine Goes.step (fun t k => XS.bipush X0.here hx rfl (hb hby at_4) k) ?_
  show Goes _ _ _ _ _ _ _ (s₁.setTop (mkF m 6 #[.val (.long q0), .second, .val (.int p1), .val (.int p2), .val (.int p3), .val (.long q4), .second, .unset, .unset, .unset, .unset, .unset, .unset, .unset, .unset] [(.int (10 : Int32)), (.int (p2 &&& (2147483647 : Int32)))]))
  have hnz1 : ¬ ((10 : Int32) = (0 : Int32)) := by decide
  refine Goes.step (fun t k => iremM X0 hx rfl (hb hby at_6) rfl hnz1 k) ?_
  show Goes _ _ _ _ _ _ _ (s₁.setTop (mkF m 7 #[.val (.long q0), .second, .val (.int p1), .val (.int p2), .val (.int p3), .val (.long q4), .second, .unset, .unset, .unset, .unset, .unset, .unset, .unset, .unset] [(.int ((p2 &&& (2147483647 : Int32)) % (10 : Int32)))]))
  refine Goes.step (fun t k => XS.iconst X0.here hx rfl (hb hby at_7) k) ?_
  show Goes _ _ _ _ _ _ _ (s₁.setTop (mkF m 8 #[.val (.long q0), .second, .val (.int p1), .val (.int p2), .val (.int p3), .val (.long q4), .second, .unset, .unset, .unset, .unset, .unset, .unset, .unset, .unset] [(.int (1 : Int32)), (.int ((p2 &&& (2147483647 : Int32)) % (10 : Int32)))]))
  refine Goes.step (fun t k => XS.iadd X0.here hx rfl (hb hby at_8) rfl k) ?_
  show Goes _ _ _ _ _ _ _ (s₁.setTop (mkF m 9 #[.val (.long q0), .second, .val (.int p1), .val (.int p2), .val (.int p3), .val (.long q4), .second, .unset, .unset, .unset, .unset, .unset, .unset, .unset, .unset] [(.int (((p2 &&& (2147483647 : Int32)) % (10 : Int32)) + (1 : Int32)))]))
  refine Goes.step (fun t k => XS.istore X0.here hx rfl (hb hby at_9) rfl (l' := #[.val (.long q0), .second, .val (.int p1), .val (.int p2), .val (.int p3), .val (.long q4), .second, .val (.int (((p2 &&& (2147483647 : Int32)) % (10 : Int32)) + (1 : Int32))), .unset, .unset, .unset, .unset, .unset, .unset, .unset]) rfl k) ?_
  show Goes _ _ _ _ _ _ _ (s₁.setTop (mkF m 11 #[.val (.long q0), .second, .val (.int p1), .val (.int p2), .val (.int p3), .val (.long q4), .second, .val (.int (((p2 &&& (2147483647 : Int32)) % (10 : Int32)) + (1 : Int32))), .unset, .unset, .unset, .unset, .unset, .unset, .unset] []))
  generalize hy2 : (((p2 &&& (2147483647 : Int32)) % (10 : Int32)) + (1 : Int32)) = y2
  refine Goes.step (fun t k => XS.iload X0.here hx rfl (hb hby at_11) rfl k) ?_
  show Goes _ _ _ _ _ _ _ (s₁.setTop (mkF m 13 #[.val (.long q0), .second, .val (.int p1), .val (.int p2), .val (.int p3), .val (.long q4), .second, .val (.int y2), .unset, .unset, .unset, .unset, .unset, .unset, .unset] [(.int p3)]))
  refine Goes.step (fun t k => XS.iconst X0.here hx rfl (hb hby at_13) k) ?_
  show Goes _ _ _ _ _ _ _ (s₁.setTop (mkF m 14 #[.val (.long q0), .second, .val (.int p1), .val (.int p2), .val (.int p3), .val (.long q4), .second, .val (.int y2), .unset, .unset, .unset, .unset, .unset, .unset, .unset] [(.int (3 : Int32)), (.int p3)]))
  refine Goes.step (fun t k => XS.iand X0.here hx rfl (hb hby at_14) rfl k) ?_
  show Goes _ _ _ _ _ _ _ (s₁.setTop (mkF m 15 #[.val (.long q0), .second, .val (.int p1), .val (.int p2), .val (.int p3), .val (.long q4), .second, .val (.int y2), .unset, .unset, .unset, .unset, .unset, .unset, .unset] [(.int (p3 &&& (3 : Int32)))]))
  refine Goes.step (fun t k => XS.istore X0.here hx rfl (hb hby at_15) rfl (l' := #[.val (.long q0), .second, .val (.int p1), .val (.int p2), .val (.int p3), .val (.long q4), .second, .val (.int y2), .val (.int (p3 &&& (3 : Int32))), .unset, .unset, .unset, .unset, .unset, .unset]) rfl k) ?_
  show Goes _ _ _ _ _ _ _ (s₁.setTop (mkF m 17 #[.val (.long q0), .second, .val (.int p1), .val (.int p2), .val (.int p3), .val (.long q4), .second, .val (.int y2), .val (.int (p3 &&& (3 : Int32))), .unset, .unset, .unset, .unset, .unset, .unset] []))
  generalize hy3 : (p3 &&& (3 : Int32)) = y3
  refine Goes.step (fun t k => XS.bipush X0.here hx rfl (hb hby at_17) k) ?_
  show Goes _ _ _ _ _ _ _ (s₁.setTop (mkF m 19 #[.val (.long q0), .second, .val (.int p1), .val (.int p2), .val (.int p3), .val (.long q4), .second, .val (.int y2), .val (.int y3), .unset, .unset, .unset, .unset, .unset, .unset] [(.int (16 : Int32))]))
  obtain ⟨T4, h4, k4, X4, e4, E4, A4, st4⟩ := newP X0 hx hZ (hw _ (List.mem_of_getElem? (i := 1) rfl)) e0 (g := (mkF m 19 #[.val (.long q0), .second, .val (.int p1), .val (.int p2), .val (.int p3), .val (.long q4), .second, .val (.int y2), .val (.int y3), .unset, .unset, .unset, .unset, .unset, .unset] [(.int (16 : Int32))])) rfl (hb hby at_19) rfl (by decide) (cap := 16) (by decide) (by decide) (by decide) (by decide)
  obtain ⟨b4, g4⟩ : ∃ z, z = h0.size := ⟨_, rfl⟩
  rw [← g4] at A4 st4
  have Zs4 : n0 ≤ b4 := Nat.le_trans Z0 (Nat.le_of_eq g4.symm)
  have Zh4 : h0.size ≤ b4 := Nat.le_trans (Keep.refl h0 []).1 (Nat.le_of_eq g4.symm)
  have K4 := (Keep.refl h0 []).ext E4
  have Z4 := Nat.le_trans Z0 E4.1
  have V4 : Ara Z h4 b4 .byte [(.int (0 : Int32)), (.int (0 : Int32)), (.int (0 : Int32)), (.int (0 : Int32)), (.int (0 : Int32)), (.int (0 : Int32)), (.int (0 : Int32)), (.int (0 : Int32)), (.int (0 : Int32)), (.int (0 : Int32)), (.int (0 : Int32)), (.int (0 : Int32)), (.int (0 : Int32)), (.int (0 : Int32)), (.int (0 : Int32)), (.int (0 : Int32))] := Ara.new A4 (by decide) rfl (fun _ q => nomatch q)
  refine Goes.step (fun t k => st4 t k) ?_
  show Goes _ _ _ _ _ _ _ (T4.setTop (mkF m 21 #[.val (.long q0), .second, .val (.int p1), .val (.int p2), .val (.int p3), .val (.long q4), .second, .val (.int y2), .val (.int y3), .unset, .unset, .unset, .unset, .unset, .unset] [(.ref b4)]))
  refine Goes.step (fun t k => XS.dup X4.here hx rfl (hb hby at_21) rfl rfl k) ?_
  show Goes _ _ _ _ _ _ _ (T4.setTop (mkF m 22 #[.val (.long q0), .second, .val (.int p1), .val (.int p2), .val (.int p3), .val (.long q4), .second, .val (.int y2), .val (.int y3), .unset, .unset, .unset, .unset, .unset, .unset] [(.ref b4), (.ref b4)]))
  refine Goes.step (fun t k => XS.iconst X4.here hx rfl (hb hby at_22) k) ?_
  show Goes _ _ _ _ _ _ _ (T4.setTop (mkF m 23 #[.val (.long q0), .second, .val (.int p1), .val (.int p2), .val (.int p3), .val (.long q4), .second, .val (.int y2), .val (.int y3), .unset, .unset, .unset, .unset, .unset, .unset] [(.int (0 : Int32)), (.ref b4), (.ref b4)]))
  refine Goes.step (fun t k => XS.lload X4.here hx rfl (hb hby at_23) rfl k) ?_
  show Goes _ _ _ _ _ _ _ (T4.setTop (mkF m 25 #[.val (.long q0), .second, .val (.int p1), .val (.int p2), .val (.int p3), .val (.long q4), .second, .val (.int y2), .val (.int y3), .unset, .unset, .unset, .unset, .unset, .unset] [(.long q4), (.int (0 : Int32)), (.ref b4), (.ref b4)]))
  refine Goes.step (fun t k => XS.iconst X4.here hx rfl (hb hby at_25) k) ?_
  show Goes _ _ _ _ _ _ _ (T4.setTop (mkF m 26 #[.val (.long q0), .second, .val (.int p1), .val (.int p2), .val (.int p3), .val (.long q4), .second, .val (.int y2), .val (.int y3), .unset, .unset, .unset, .unset, .unset, .unset] [(.int (0 : Int32)), (.long q4), (.int (0 : Int32)), (.ref b4), (.ref b4)]))
  obtain ⟨_, _, ⟨T5, L5, k5, n5⟩, -, X5, ⟨Lc5, hQ5, l5, y5, z5⟩, st5⟩ := Jvm.LawKit.callS X4 hx (y := (⟨"com/example/double_prior/doubleprior/index/ReaderReadLongPinLaw", "j", "(JI)B"⟩ : MethodName)) hown (mvT hZ (hw _ (List.mem_of_getElem? (i := 2) rfl))) (mvT hZ (hw _ (List.mem_of_getElem? (i := 3) rfl))) (mvT hZ (hw _ (List.mem_of_getElem? (i := 4) rfl))) (mvT hZ (hw _ (List.mem_of_getElem? (i := 5) rfl))) (by decide) (backOf (W := 3) (rm1 l Z tA hw [] q4 (0 : Int32) h4) hZ (hw _ (List.mem_of_getElem? (i := 5) rfl)) (hw _ (List.mem_of_getElem? (i := 4) rfl)) (by decide) (by decide)) (g := (mkF m 26 #[.val (.long q0), .second, .val (.int p1), .val (.int p2), .val (.int p3), .val (.long q4), .second, .val (.int y2), .val (.int y3), .unset, .unset, .unset, .unset, .unset, .unset] [(.int (0 : Int32)), (.long q4), (.int (0 : Int32)), (.ref b4), (.ref b4)])) rfl (by rw [hml]; rfl) (argsL := [(.long q4), (.int (0 : Int32))]) (rest := [(.int (0 : Int32)), (.ref b4), (.ref b4)]) (lenOf own_pd0 rfl) rfl (by show 2 * 0 + _ ≤ _; exact Nat.le_of_eq rfl) (hb hby at_26) (fun _ _ => ⟨rfl, e4, (by decide : 1 + 0 ≤ _), (by decide : 16 + 0 ≤ _)⟩)
  dsimp only [Pt.U, Pt.locs, Pt.cells, Pt.slots] at X5 l5 y5 z5 st5 hQ5
  rw [l5, y5, z5] at X5
  obtain ⟨rfl, rfl, e5⟩ := hQ5
  try rw [List.append_nil] at X5
  change Stand _ _ _ _ _ _ _ _ _ _ _ _ 1 16 at X5
  refine Goes.step (fun t k => st5 t k) ?_
  show Goes _ _ _ _ _ _ _ (T5.setTop (mkF m 29 #[.val (.long q0), .second, .val (.int p1), .val (.int p2), .val (.int p3), .val (.long q4), .second, .val (.int y2), .val (.int y3), .unset, .unset, .unset, .unset, .unset, .unset] [(.int (f1 q4 (0 : Int32))), (.int (0 : Int32)), (.ref b4), (.ref b4)]))
  obtain ⟨cl6, Ar6, q6, ll6, ff6, oo6⟩ := id V4
  have hn6 : ¬ (0 : Int32) < 0 := by decide
  have hl6 : ((0 : Int32)).toNatClampNeg < ([(.int (0 : Int32)), (.int (0 : Int32)), (.int (0 : Int32)), (.int (0 : Int32)), (.int (0 : Int32)), (.int (0 : Int32)), (.int (0 : Int32)), (.int (0 : Int32)), (.int (0 : Int32)), (.int (0 : Int32)), (.int (0 : Int32)), (.int (0 : Int32)), (.int (0 : Int32)), (.int (0 : Int32)), (.int (0 : Int32)), (.int (0 : Int32))] : List Value).length := by exact Nat.le_of_ble_eq_true rfl
  obtain ⟨T6, h6, X6, e6, W6, st6⟩ := stB X5 hx hZ e5 Ar6 (j := (0 : Int32)) (inb q6 hn6 hl6) (g := (mkF m 29 #[.val (.long q0), .second, .val (.int p1), .val (.int p2), .val (.int p3), .val (.long q4), .second, .val (.int y2), .val (.int y3), .unset, .unset, .unset, .unset, .unset, .unset] [(.int (f1 q4 (0 : Int32))), (.int (0 : Int32)), (.ref b4), (.ref b4)])) rfl rfl (hb hby at_29)
  have V6 : Ara Z h6 b4 .byte [(.int ((f1 q4 (0 : Int32)).toInt8.toInt32)), (.int (0 : Int32)), (.int (0 : Int32)), (.int (0 : Int32)), (.int (0 : Int32)), (.int (0 : Int32)), (.int (0 : Int32)), (.int (0 : Int32)), (.int (0 : Int32)), (.int (0 : Int32)), (.int (0 : Int32)), (.int (0 : Int32)), (.int (0 : Int32)), (.int (0 : Int32)), (.int (0 : Int32)), (.int (0 : Int32))] := Ara.same (j := (0 : Int32)) Ar6 q6 ll6 ff6 oo6 (fits_nar_byte _) W6
  have K6 := K4.wr W6 (Or.inr Zh4)
  have N6 := Fr.snoc X6 N0 Zs4
  have Z6 := Nat.le_trans Z4 (Nat.le_of_eq W6.size.symm)
  refine Goes.step (fun t k => st6 t k) ?_
  show Goes _ _ _ _ _ _ _ (T6.setTop (mkF m 30 #[.val (.long q0), .second, .val (.int p1), .val (.int p2), .val (.int p3), .val (.long q4), .second, .val (.int y2), .val (.int y3), .unset, .unset, .unset, .unset, .unset, .unset] [(.ref b4)]))
  refine Goes.step (fun t k => XS.dup X6.here hx rfl (hb hby at_30) rfl rfl k) ?_
  show Goes _ _ _ _ _ _ _ (T6.setTop (mkF m 31 #[.val (.long q0), .second, .val (.int p1), .val (.int p2), .val (.int p3), .val (.long q4), .second, .val (.int y2), .val (.int y3), .unset, .unset, .unset, .unset, .unset, .unset] [(.ref b4), (.ref b4)]))
  refine Goes.step (fun t k => XS.iconst X6.here hx rfl (hb hby at_31) k) ?_
  show Goes _ _ _ _ _ _ _ (T6.setTop (mkF m 32 #[.val (.long q0), .second, .val (.int p1), .val (.int p2), .val (.int p3), .val (.long q4), .second, .val (.int y2), .val (.int y3), .unset, .unset, .unset, .unset, .unset, .unset] [(.int (1 : Int32)), (.ref b4), (.ref b4)]))
  refine Goes.step (fun t k => XS.lload X6.here hx rfl (hb hby at_32) rfl k) ?_
  show Goes _ _ _ _ _ _ _ (T6.setTop (mkF m 34 #[.val (.long q0), .second, .val (.int p1), .val (.int p2), .val (.int p3), .val (.long q4), .second, .val (.int y2), .val (.int y3), .unset, .unset, .unset, .unset, .unset, .unset] [(.long q4), (.int (1 : Int32)), (.ref b4), (.ref b4)]))
  refine Goes.step (fun t k => XS.iconst X6.here hx rfl (hb hby at_34) k) ?_
  show Goes _ _ _ _ _ _ _ (T6.setTop (mkF m 35 #[.val (.long q0), .second, .val (.int p1), .val (.int p2), .val (.int p3), .val (.long q4), .second, .val (.int y2), .val (.int y3), .unset, .unset, .unset, .unset, .unset, .unset] [(.int (1 : Int32)), (.long q4), (.int (1 : Int32)), (.ref b4), (.ref b4)]))
  obtain ⟨_, _, ⟨T7, L7, k7, n7⟩, -, X7, ⟨Lc7, hQ7, l7, y7, z7⟩, st7⟩ := Jvm.LawKit.callS X6 hx (y := (⟨"com/example/double_prior/doubleprior/index/ReaderReadLongPinLaw", "j", "(JI)B"⟩ : MethodName)) hown (mvT hZ (hw _ (List.mem_of_getElem? (i := 2) rfl))) (mvT hZ (hw _ (List.mem_of_getElem? (i := 3) rfl))) (mvT hZ (hw _ (List.mem_of_getElem? (i := 4) rfl))) (mvT hZ (hw _ (List.mem_of_getElem? (i := 5) rfl))) (by decide) (backOf (W := 3) (rm1 l Z tA hw [] q4 (1 : Int32) h6) hZ (hw _ (List.mem_of_getElem? (i := 5) rfl)) (hw _ (List.mem_of_getElem? (i := 4) rfl)) (by decide) (by decide)) (g := (mkF m 35 #[.val (.long q0), .second, .val (.int p1), .val (.int p2), .val (.int p3), .val (.long q4), .second, .val (.int y2), .val (.int y3), .unset, .unset, .unset, .unset, .unset, .unset] [(.int (1 : Int32)), (.long q4), (.int (1 : Int32)), (.ref b4), (.ref b4)])) rfl (by rw [hml]; rfl) (argsL := [(.long q4), (.int (1 : Int32))]) (rest := [(.int (1 : Int32)), (.ref b4), (.ref b4)]) (lenOf own_pd0 rfl) rfl (by show 2 * 0 + _ ≤ _; exact Nat.le_of_eq rfl) (hb hby at_35) (fun _ _ => ⟨rfl, e6, (by decide : 1 + 0 ≤ _), (by decide : 16 + 0 ≤ _)⟩)
  dsimp only [Pt.U, Pt.locs, Pt.cells, Pt.slots] at X7 l7 y7 z7 st7 hQ7
  rw [l7, y7, z7] at X7
  obtain ⟨rfl, rfl, e7⟩ := hQ7
  try rw [List.append_nil] at X7
  change Stand _ _ _ _ _ _ _ _ _ _ _ _ 1 16 at X7
  refine Goes.step (fun t k => st7 t k) ?_
  show Goes _ _ _ _ _ _ _ (T7.setTop (mkF m 38 #[.val (.long q0), .second, .val (.int p1), .val (.int p2), .val (.int p3), .val (.long q4), .second, .val (.int y2), .val (.int y3), .unset, .unset, .unset, .unset, .unset, .unset] [(.int (f1 q4 (1 : Int32))), (.int (1 : Int32)), (.ref b4), (.ref b4)]))
  obtain ⟨cl8, Ar8, q8, ll8, ff8, oo8⟩ := id V6
  have hn8 : ¬ (1 : Int32) < 0 := by decide
  have hl8 : ((1 : Int32)).toNatClampNeg < ([(.int ((f1 q4 (0 : Int32)).toInt8.toInt32)), (.int (0 : Int32)), (.int (0 : Int32)), (.int (0 : Int32)), (.int (0 : Int32)), (.int (0 : Int32)), (.int (0 : Int32)), (.int (0 : Int32)), (.int (0 : Int32)), (.int (0 : Int32)), (.int (0 : Int32)), (.int (0 : Int32)), (.int (0 : Int32)), (.int (0 : Int32)), (.int (0 : Int32)), (.int (0 : Int32))] : List Value).length := by exact Nat.le_of_ble_eq_true rfl
  obtain ⟨T8, h8, X8, e8, W8, st8⟩ := stB X7 hx hZ e7 Ar8 (j := (1 : Int32)) (inb q8 hn8 hl8) (g := (mkF m 38 #[.val (.long q0), .second, .val (.int p1), .val (.int p2), .val (.int p3), .val (.long q4), .second, .val (.int y2), .val (.int y3), .unset, .unset, .unset, .unset, .unset, .unset] [(.int (f1 q4 (1 : Int32))), (.int (1 : Int32)), (.ref b4), (.ref b4)])) rfl rfl (hb hby at_38)
  have V8 : Ara Z h8 b4 .byte [(.int ((f1 q4 (0 : Int32)).toInt8.toInt32)), (.int ((f1 q4 (1 : Int32)).toInt8.toInt32)), (.int (0 : Int32)), (.int (0 : Int32)), (.int (0 : Int32)), (.int (0 : Int32)), (.int (0 : Int32)), (.int (0 : Int32)), (.int (0 : Int32)), (.int (0 : Int32)), (.int (0 : Int32)), (.int (0 : Int32)), (.int (0 : Int32)), (.int (0 : Int32)), (.int (0 : Int32)), (.int (0 : Int32))] := Ara.same (j := (1 : Int32)) Ar8 q8 ll8 ff8 oo8 (fits_nar_byte _) W8
  have K8 := K6.wr W8 (Or.inr Zh4)
  have N8 := Fr.snoc X8 N6 Zs4
  have Z8 := Nat.le_trans Z6 (Nat.le_of_eq W8.size.symm)
  refine Goes.step (fun t k => st8 t k) ?_
  show Goes _ _ _ _ _ _ _ (T8.setTop (mkF m 39 #[.val (.long q0), .second, .val (.int p1), .val (.int p2), .val (.int p3), .val (.long q4), .second, .val (.int y2), .val (.int y3), .unset, .unset, .unset, .unset, .unset, .unset] [(.ref b4)]))
  refine Goes.step (fun t k => XS.dup X8.here hx rfl (hb hby at_39) rfl rfl k) ?_
  show Goes _ _ _ _ _ _ _ (T8.setTop (mkF m 40 #[.val (.long q0), .second, .val (.int p1), .val (.int p2), .val (.int p3), .val (.long q4), .second, .val (.int y2), .val (.int y3), .unset, .unset, .unset, .unset, .unset, .unset] [(.ref b4), (.ref b4)]))
  refine Goes.step (fun t k => XS.iconst X8.here hx rfl (hb hby at_40) k) ?_
  show Goes _ _ _ _ _ _ _ (T8.setTop (mkF m 41 #[.val (.long q0), .second, .val (.int p1), .val (.int p2), .val (.int p3), .val (.long q4), .second, .val (.int y2), .val (.int y3), .unset, .unset, .unset, .unset, .unset, .unset] [(.int (2 : Int32)), (.ref b4), (.ref b4)]))
  refine Goes.step (fun t k => XS.lload X8.here hx rfl (hb hby at_41) rfl k) ?_
  show Goes _ _ _ _ _ _ _ (T8.setTop (mkF m 43 #[.val (.long q0), .second, .val (.int p1), .val (.int p2), .val (.int p3), .val (.long q4), .second, .val (.int y2), .val (.int y3), .unset, .unset, .unset, .unset, .unset, .unset] [(.long q4), (.int (2 : Int32)), (.ref b4), (.ref b4)]))
  refine Goes.step (fun t k => XS.iconst X8.here hx rfl (hb hby at_43) k) ?_
  show Goes _ _ _ _ _ _ _ (T8.setTop (mkF m 44 #[.val (.long q0), .second, .val (.int p1), .val (.int p2), .val (.int p3), .val (.long q4), .second, .val (.int y2), .val (.int y3), .unset, .unset, .unset, .unset, .unset, .unset] [(.int (2 : Int32)), (.long q4), (.int (2 : Int32)), (.ref b4), (.ref b4)]))
  obtain ⟨_, _, ⟨T9, L9, k9, n9⟩, -, X9, ⟨Lc9, hQ9, l9, y9, z9⟩, st9⟩ := Jvm.LawKit.callS X8 hx (y := (⟨"com/example/double_prior/doubleprior/index/ReaderReadLongPinLaw", "j", "(JI)B"⟩ : MethodName)) hown (mvT hZ (hw _ (List.mem_of_getElem? (i := 2) rfl))) (mvT hZ (hw _ (List.mem_of_getElem? (i := 3) rfl))) (mvT hZ (hw _ (List.mem_of_getElem? (i := 4) rfl))) (mvT hZ (hw _ (List.mem_of_getElem? (i := 5) rfl))) (by decide) (backOf (W := 3) (rm1 l Z tA hw [] q4 (2 : Int32) h8) hZ (hw _ (List.mem_of_getElem? (i := 5) rfl)) (hw _ (List.mem_of_getElem? (i := 4) rfl)) (by decide) (by decide)) (g := (mkF m 44 #[.val (.long q0), .second, .val (.int p1), .val (.int p2), .val (.int p3), .val (.long q4), .second, .val (.int y2), .val (.int y3), .unset, .unset, .unset, .unset, .unset, .unset] [(.int (2 : Int32)), (.long q4), (.int (2 : Int32)), (.ref b4), (.ref b4)])) rfl (by rw [hml]; rfl) (argsL := [(.long q4), (.int (2 : Int32))]) (rest := [(.int (2 : Int32)), (.ref b4), (.ref b4)]) (lenOf own_pd0 rfl) rfl (by show 2 * 0 + _ ≤ _; exact Nat.le_of_eq rfl) (hb hby at_44) (fun _ _ => ⟨rfl, e8, (by decide : 1 + 0 ≤ _), (by decide : 16 + 0 ≤ _)⟩)
  dsimp only [Pt.U, Pt.locs, Pt.cells, Pt.slots] at X9 l9 y9 z9 st9 hQ9
  rw [l9, y9, z9] at X9
  obtain ⟨rfl, rfl, e9⟩ := hQ9
  try rw [List.append_nil] at X9
  change Stand _ _ _ _ _ _ _ _ _ _ _ _ 1 16 at X9
  refine Goes.step (fun t k => st9 t k) ?_
  show Goes _ _ _ _ _ _ _ (T9.setTop (mkF m 47 #[.val (.long q0), .second, .val (.int p1), .val (.int p2), .val (.int p3), .val (.long q4), .second, .val (.int y2), .val (.int y3), .unset, .unset, .unset, .unset, .unset, .unset] [(.int (f1 q4 (2 : Int32))), (.int (2 : Int32)), (.ref b4), (.ref b4)]))
  obtain ⟨cl10, Ar10, q10, ll10, ff10, oo10⟩ := id V8
  have hn10 : ¬ (2 : Int32) < 0 := by decide
  have hl10 : ((2 : Int32)).toNatClampNeg < ([(.int ((f1 q4 (0 : Int32)).toInt8.toInt32)), (.int ((f1 q4 (1 : Int32)).toInt8.toInt32)), (.int (0 : Int32)), (.int (0 : Int32)), (.int (0 : Int32)), (.int (0 : Int32)), (.int (0 : Int32)), (.int (0 : Int32)), (.int (0 : Int32)), (.int (0 : Int32)), (.int (0 : Int32)), (.int (0 : Int32)), (.int (0 : Int32)), (.int (0 : Int32)), (.int (0 : Int32)), (.int (0 : Int32))] : List Value).length := by exact Nat.le_of_ble_eq_true rfl
  obtain ⟨T10, h10, X10, e10, W10, st10⟩ := stB X9 hx hZ e9 Ar10 (j := (2 : Int32)) (inb q10 hn10 hl10) (g := (mkF m 47 #[.val (.long q0), .second, .val (.int p1), .val (.int p2), .val (.int p3), .val (.long q4), .second, .val (.int y2), .val (.int y3), .unset, .unset, .unset, .unset, .unset, .unset] [(.int (f1 q4 (2 : Int32))), (.int (2 : Int32)), (.ref b4), (.ref b4)])) rfl rfl (hb hby at_47)
  have V10 : Ara Z h10 b4 .byte [(.int ((f1 q4 (0 : Int32)).toInt8.toInt32)), (.int ((f1 q4 (1 : Int32)).toInt8.toInt32)), (.int ((f1 q4 (2 : Int32)).toInt8.toInt32)), (.int (0 : Int32)), (.int (0 : Int32)), (.int (0 : Int32)), (.int (0 : Int32)), (.int (0 : Int32)), (.int (0 : Int32)), (.int (0 : Int32)), (.int (0 : Int32)), (.int (0 : Int32)), (.int (0 : Int32)), (.int (0 : Int32)), (.int (0 : Int32)), (.int (0 : Int32))] := Ara.same (j := (2 : Int32)) Ar10 q10 ll10 ff10 oo10 (fits_nar_byte _) W10
  have K10 := K8.wr W10 (Or.inr Zh4)
  have N10 := Fr.snoc X10 N8 Zs4
  have Z10 := Nat.le_trans Z8 (Nat.le_of_eq W10.size.symm)
  refine Goes.step (fun t k => st10 t k) ?_
  show Goes _ _ _ _ _ _ _ (T10.setTop (mkF m 48 #[.val (.long q0), .second, .val (.int p1), .val (.int p2), .val (.int p3), .val (.long q4), .second, .val (.int y2), .val (.int y3), .unset, .unset, .unset, .unset, .unset, .unset] [(.ref b4)]))
  refine Goes.step (fun t k => XS.dup X10.here hx rfl (hb hby at_48) rfl rfl k) ?_
  show Goes _ _ _ _ _ _ _ (T10.setTop (mkF m 49 #[.val (.long q0), .second, .val (.int p1), .val (.int p2), .val (.int p3), .val (.long q4), .second, .val (.int y2), .val (.int y3), .unset, .unset, .unset, .unset, .unset, .unset] [(.ref b4), (.ref b4)]))
  refine Goes.step (fun t k => XS.iconst X10.here hx rfl (hb hby at_49) k) ?_
  show Goes _ _ _ _ _ _ _ (T10.setTop (mkF m 50 #[.val (.long q0), .second, .val (.int p1), .val (.int p2), .val (.int p3), .val (.long q4), .second, .val (.int y2), .val (.int y3), .unset, .unset, .unset, .unset, .unset, .unset] [(.int (3 : Int32)), (.ref b4), (.ref b4)]))
  refine Goes.step (fun t k => XS.lload X10.here hx rfl (hb hby at_50) rfl k) ?_
  show Goes _ _ _ _ _ _ _ (T10.setTop (mkF m 52 #[.val (.long q0), .second, .val (.int p1), .val (.int p2), .val (.int p3), .val (.long q4), .second, .val (.int y2), .val (.int y3), .unset, .unset, .unset, .unset, .unset, .unset] [(.long q4), (.int (3 : Int32)), (.ref b4), (.ref b4)]))
  refine Goes.step (fun t k => XS.iconst X10.here hx rfl (hb hby at_52) k) ?_
  show Goes _ _ _ _ _ _ _ (T10.setTop (mkF m 53 #[.val (.long q0), .second, .val (.int p1), .val (.int p2), .val (.int p3), .val (.long q4), .second, .val (.int y2), .val (.int y3), .unset, .unset, .unset, .unset, .unset, .unset] [(.int (3 : Int32)), (.long q4), (.int (3 : Int32)), (.ref b4), (.ref b4)]))
  obtain ⟨_, _, ⟨T11, L11, k11, n11⟩, -, X11, ⟨Lc11, hQ11, l11, y11, z11⟩, st11⟩ := Jvm.LawKit.callS X10 hx (y := (⟨"com/example/double_prior/doubleprior/index/ReaderReadLongPinLaw", "j", "(JI)B"⟩ : MethodName)) hown (mvT hZ (hw _ (List.mem_of_getElem? (i := 2) rfl))) (mvT hZ (hw _ (List.mem_of_getElem? (i := 3) rfl))) (mvT hZ (hw _ (List.mem_of_getElem? (i := 4) rfl))) (mvT hZ (hw _ (List.mem_of_getElem? (i := 5) rfl))) (by decide) (backOf (W := 3) (rm1 l Z tA hw [] q4 (3 : Int32) h10) hZ (hw _ (List.mem_of_getElem? (i := 5) rfl)) (hw _ (List.mem_of_getElem? (i := 4) rfl)) (by decide) (by decide)) (g := (mkF m 53 #[.val (.long q0), .second, .val (.int p1), .val (.int p2), .val (.int p3), .val (.long q4), .second, .val (.int y2), .val (.int y3), .unset, .unset, .unset, .unset, .unset, .unset] [(.int (3 : Int32)), (.long q4), (.int (3 : Int32)), (.ref b4), (.ref b4)])) rfl (by rw [hml]; rfl) (argsL := [(.long q4), (.int (3 : Int32))]) (rest := [(.int (3 : Int32)), (.ref b4), (.ref b4)]) (lenOf own_pd0 rfl) rfl (by show 2 * 0 + _ ≤ _; exact Nat.le_of_eq rfl) (hb hby at_53) (fun _ _ => ⟨rfl, e10, (by decide : 1 + 0 ≤ _), (by decide : 16 + 0 ≤ _)⟩)
  dsimp only [Pt.U, Pt.locs, Pt.cells, Pt.slots] at X11 l11 y11 z11 st11 hQ11
  rw [l11, y11, z11] at X11
  obtain ⟨rfl, rfl, e11⟩ := hQ11
  try rw [List.append_nil] at X11
  change Stand _ _ _ _ _ _ _ _ _ _ _ _ 1 16 at X11
  refine Goes.step (fun t k => st11 t k) ?_
  show Goes _ _ _ _ _ _ _ (T11.setTop (mkF m 56 #[.val (.long q0), .second, .val (.int p1), .val (.int p2), .val (.int p3), .val (.long q4), .second, .val (.int y2), .val (.int y3), .unset, .unset, .unset, .unset, .unset, .unset] [(.int (f1 q4 (3 : Int32))), (.int (3 : Int32)), (.ref b4), (.ref b4)]))
  obtain ⟨cl12, Ar12, q12, ll12, ff12, oo12⟩ := id V10
  have hn12 : ¬ (3 : Int32) < 0 := by decide
  have hl12 : ((3 : Int32)).toNatClampNeg < ([(.int ((f1 q4 (0 : Int32)).toInt8.toInt32)), (.int ((f1 q4 (1 : Int32)).toInt8.toInt32)), (.int ((f1 q4 (2 : Int32)).toInt8.toInt32)), (.int (0 : Int32)), (.int (0 : Int32)), (.int (0 : Int32)), (.int (0 : Int32)), (.int (0 : Int32)), (.int (0 : Int32)), (.int (0 : Int32)), (.int (0 : Int32)), (.int (0 : Int32)), (.int (0 : Int32)), (.int (0 : Int32)), (.int (0 : Int32)), (.int (0 : Int32))] : List Value).length := by exact Nat.le_of_ble_eq_true rfl
  obtain ⟨T12, h12, X12, e12, W12, st12⟩ := stB X11 hx hZ e11 Ar12 (j := (3 : Int32)) (inb q12 hn12 hl12) (g := (mkF m 56 #[.val (.long q0), .second, .val (.int p1), .val (.int p2), .val (.int p3), .val (.long q4), .second, .val (.int y2), .val (.int y3), .unset, .unset, .unset, .unset, .unset, .unset] [(.int (f1 q4 (3 : Int32))), (.int (3 : Int32)), (.ref b4), (.ref b4)])) rfl rfl (hb hby at_56)
  have V12 : Ara Z h12 b4 .byte [(.int ((f1 q4 (0 : Int32)).toInt8.toInt32)), (.int ((f1 q4 (1 : Int32)).toInt8.toInt32)), (.int ((f1 q4 (2 : Int32)).toInt8.toInt32)), (.int ((f1 q4 (3 : Int32)).toInt8.toInt32)), (.int (0 : Int32)), (.int (0 : Int32)), (.int (0 : Int32)), (.int (0 : Int32)), (.int (0 : Int32)), (.int (0 : Int32)), (.int (0 : Int32)), (.int (0 : Int32)), (.int (0 : Int32)), (.int (0 : Int32)), (.int (0 : Int32)), (.int (0 : Int32))] := Ara.same (j := (3 : Int32)) Ar12 q12 ll12 ff12 oo12 (fits_nar_byte _) W12
  have K12 := K10.wr W12 (Or.inr Zh4)
  have N12 := Fr.snoc X12 N10 Zs4
  have Z12 := Nat.le_trans Z10 (Nat.le_of_eq W12.size.symm)
  refine Goes.step (fun t k => st12 t k) ?_
  show Goes _ _ _ _ _ _ _ (T12.setTop (mkF m 57 #[.val (.long q0), .second, .val (.int p1), .val (.int p2), .val (.int p3), .val (.long q4), .second, .val (.int y2), .val (.int y3), .unset, .unset, .unset, .unset, .unset, .unset] [(.ref b4)]))
  refine Goes.step (fun t k => XS.dup X12.here hx rfl (hb hby at_57) rfl rfl k) ?_
  show Goes _ _ _ _ _ _ _ (T12.setTop (mkF m 58 #[.val (.long q0), .second, .val (.int p1), .val (.int p2), .val (.int p3), .val (.long q4), .second, .val (.int y2), .val (.int y3), .unset, .unset, .unset, .unset, .unset, .unset] [(.ref b4), (.ref b4)]))
  refine Goes.step (fun t k => XS.iconst X12.here hx rfl (hb hby at_58) k) ?_
  show Goes _ _ _ _ _ _ _ (T12.setTop (mkF m 59 #[.val (.long q0), .second, .val (.int p1), .val (.int p2), .val (.int p3), .val (.long q4), .second, .val (.int y2), .val (.int y3), .unset, .unset, .unset, .unset, .unset, .unset] [(.int (4 : Int32)), (.ref b4), (.ref b4)]))
  refine Goes.step (fun t k => XS.lload X12.here hx rfl (hb hby at_59) rfl k) ?_
  show Goes _ _ _ _ _ _ _ (T12.setTop (mkF m 61 #[.val (.long q0), .second, .val (.int p1), .val (.int p2), .val (.int p3), .val (.long q4), .second, .val (.int y2), .val (.int y3), .unset, .unset, .unset, .unset, .unset, .unset] [(.long q4), (.int (4 : Int32)), (.ref b4), (.ref b4)]))
  refine Goes.step (fun t k => XS.iconst X12.here hx rfl (hb hby at_61) k) ?_
  show Goes _ _ _ _ _ _ _ (T12.setTop (mkF m 62 #[.val (.long q0), .second, .val (.int p1), .val (.int p2), .val (.int p3), .val (.long q4), .second, .val (.int y2), .val (.int y3), .unset, .unset, .unset, .unset, .unset, .unset] [(.int (4 : Int32)), (.long q4), (.int (4 : Int32)), (.ref b4), (.ref b4)]))
  obtain ⟨_, _, ⟨T13, L13, k13, n13⟩, -, X13, ⟨Lc13, hQ13, l13, y13, z13⟩, st13⟩ := Jvm.LawKit.callS X12 hx (y := (⟨"com/example/double_prior/doubleprior/index/ReaderReadLongPinLaw", "j", "(JI)B"⟩ : MethodName)) hown (mvT hZ (hw _ (List.mem_of_getElem? (i := 2) rfl))) (mvT hZ (hw _ (List.mem_of_getElem? (i := 3) rfl))) (mvT hZ (hw _ (List.mem_of_getElem? (i := 4) rfl))) (mvT hZ (hw _ (List.mem_of_getElem? (i := 5) rfl))) (by decide) (backOf (W := 3) (rm1 l Z tA hw [] q4 (4 : Int32) h12) hZ (hw _ (List.mem_of_getElem? (i := 5) rfl)) (hw _ (List.mem_of_getElem? (i := 4) rfl)) (by decide) (by decide)) (g := (mkF m 62 #[.val (.long q0), .second, .val (.int p1), .val (.int p2), .val (.int p3), .val (.long q4), .second, .val (.int y2), .val (.int y3), .unset, .unset, .unset, .unset, .unset, .unset] [(.int (4 : Int32)), (.long q4), (.int (4 : Int32)), (.ref b4), (.ref b4)])) rfl (by rw [hml]; rfl) (argsL := [(.long q4), (.int (4 : Int32))]) (rest := [(.int (4 : Int32)), (.ref b4), (.ref b4)]) (lenOf own_pd0 rfl) rfl (by show 2 * 0 + _ ≤ _; exact Nat.le_of_eq rfl) (hb hby at_62) (fun _ _ => ⟨rfl, e12, (by decide : 1 + 0 ≤ _), (by decide : 16 + 0 ≤ _)⟩)
  dsimp only [Pt.U, Pt.locs, Pt.cells, Pt.slots] at X13 l13 y13 z13 st13 hQ13
  rw [l13, y13, z13] at X13
  obtain ⟨rfl, rfl, e13⟩ := hQ13
  try rw [List.append_nil] at X13
  change Stand _ _ _ _ _ _ _ _ _ _ _ _ 1 16 at X13
  refine Goes.step (fun t k => st13 t k) ?_
  show Goes _ _ _ _ _ _ _ (T13.setTop (mkF m 65 #[.val (.long q0), .second, .val (.int p1), .val (.int p2), .val (.int p3), .val (.long q4), .second, .val (.int y2), .val (.int y3), .unset, .unset, .unset, .unset, .unset, .unset] [(.int (f1 q4 (4 : Int32))), (.int (4 : Int32)), (.ref b4), (.ref b4)]))
  obtain ⟨cl14, Ar14, q14, ll14, ff14, oo14⟩ := id V12
  have hn14 : ¬ (4 : Int32) < 0 := by decide
  have hl14 : ((4 : Int32)).toNatClampNeg < ([(.int ((f1 q4 (0 : Int32)).toInt8.toInt32)), (.int ((f1 q4 (1 : Int32)).toInt8.toInt32)), (.int ((f1 q4 (2 : Int32)).toInt8.toInt32)), (.int ((f1 q4 (3 : Int32)).toInt8.toInt32)), (.int (0 : Int32)), (.int (0 : Int32)), (.int (0 : Int32)), (.int (0 : Int32)), (.int (0 : Int32)), (.int (0 : Int32)), (.int (0 : Int32)), (.int (0 : Int32)), (.int (0 : Int32)), (.int (0 : Int32)), (.int (0 : Int32)), (.int (0 : Int32))] : List Value).length := by exact Nat.le_of_ble_eq_true rfl
  obtain ⟨T14, h14, X14, e14, W14, st14⟩ := stB X13 hx hZ e13 Ar14 (j := (4 : Int32)) (inb q14 hn14 hl14) (g := (mkF m 65 #[.val (.long q0), .second, .val (.int p1), .val (.int p2), .val (.int p3), .val (.long q4), .second, .val (.int y2), .val (.int y3), .unset, .unset, .unset, .unset, .unset, .unset] [(.int (f1 q4 (4 : Int32))), (.int (4 : Int32)), (.ref b4), (.ref b4)])) rfl rfl (hb hby at_65)
  have V14 : Ara Z h14 b4 .byte [(.int ((f1 q4 (0 : Int32)).toInt8.toInt32)), (.int ((f1 q4 (1 : Int32)).toInt8.toInt32)), (.int ((f1 q4 (2 : Int32)).toInt8.toInt32)), (.int ((f1 q4 (3 : Int32)).toInt8.toInt32)), (.int ((f1 q4 (4 : Int32)).toInt8.toInt32)), (.int (0 : Int32)), (.int (0 : Int32)), (.int (0 : Int32)), (.int (0 : Int32)), (.int (0 : Int32)), (.int (0 : Int32)), (.int (0 : Int32)), (.int (0 : Int32)), (.int (0 : Int32)), (.int (0 : Int32)), (.int (0 : Int32))] := Ara.same (j := (4 : Int32)) Ar14 q14 ll14 ff14 oo14 (fits_nar_byte _) W14
  have K14 := K12.wr W14 (Or.inr Zh4)
  have N14 := Fr.snoc X14 N12 Zs4
  have Z14 := Nat.le_trans Z12 (Nat.le_of_eq W14.size.symm)
  refine Goes.step (fun t k => st14 t k) ?_
  show Goes _ _ _ _ _ _ _ (T14.setTop (mkF m 66 #[.val (.long q0), .second, .val (.int p1), .val (.int p2), .val (.int p3), .val (.long q4), .second, .val (.int y2), .val (.int y3), .unset, .unset, .unset, .unset, .unset, .unset] [(.ref b4)]))
  refine Goes.step (fun t k => XS.dup X14.here hx rfl (hb hby at_66) rfl rfl k) ?_
  show Goes _ _ _ _ _ _ _ (T14.setTop (mkF m 67 #[.val (.long q0), .second, .val (.int p1), .val (.int p2), .val (.int p3), .val (.long q4), .second, .val (.int y2), .val (.int y3), .unset, .unset, .unset, .unset, .unset, .unset] [(.ref b4), (.ref b4)]))
  refine Goes.step (fun t k => XS.iconst X14.here hx rfl (hb hby at_67) k) ?_
  show Goes _ _ _ _ _ _ _ (T14.setTop (mkF m 68 #[.val (.long q0), .second, .val (.int p1), .val (.int p2), .val (.int p3), .val (.long q4), .second, .val (.int y2), .val (.int y3), .unset, .unset, .unset, .unset, .unset, .unset] [(.int (5 : Int32)), (.ref b4), (.ref b4)]))
  refine Goes.step (fun t k => XS.lload X14.here hx rfl (hb hby at_68) rfl k) ?_
  show Goes _ _ _ _ _ _ _ (T14.setTop (mkF m 70 #[.val (.long q0), .second, .val (.int p1), .val (.int p2), .val (.int p3), .val (.long q4), .second, .val (.int y2), .val (.int y3), .unset, .unset, .unset, .unset, .unset, .unset] [(.long q4), (.int (5 : Int32)), (.ref b4), (.ref b4)]))
  refine Goes.step (fun t k => XS.iconst X14.here hx rfl (hb hby at_70) k) ?_
  show Goes _ _ _ _ _ _ _ (T14.setTop (mkF m 71 #[.val (.long q0), .second, .val (.int p1), .val (.int p2), .val (.int p3), .val (.long q4), .second, .val (.int y2), .val (.int y3), .unset, .unset, .unset, .unset, .unset, .unset] [(.int (5 : Int32)), (.long q4), (.int (5 : Int32)), (.ref b4), (.ref b4)]))
  obtain ⟨_, _, ⟨T15, L15, k15, n15⟩, -, X15, ⟨Lc15, hQ15, l15, y15, z15⟩, st15⟩ := Jvm.LawKit.callS X14 hx (y := (⟨"com/example/double_prior/doubleprior/index/ReaderReadLongPinLaw", "j", "(JI)B"⟩ : MethodName)) hown (mvT hZ (hw _ (List.mem_of_getElem? (i := 2) rfl))) (mvT hZ (hw _ (List.mem_of_getElem? (i := 3) rfl))) (mvT hZ (hw _ (List.mem_of_getElem? (i := 4) rfl))) (mvT hZ (hw _ (List.mem_of_getElem? (i := 5) rfl))) (by decide) (backOf (W := 3) (rm1 l Z tA hw [] q4 (5 : Int32) h14) hZ (hw _ (List.mem_of_getElem? (i := 5) rfl)) (hw _ (List.mem_of_getElem? (i := 4) rfl)) (by decide) (by decide)) (g := (mkF m 71 #[.val (.long q0), .second, .val (.int p1), .val (.int p2), .val (.int p3), .val (.long q4), .second, .val (.int y2), .val (.int y3), .unset, .unset, .unset, .unset, .unset, .unset] [(.int (5 : Int32)), (.long q4), (.int (5 : Int32)), (.ref b4), (.ref b4)])) rfl (by rw [hml]; rfl) (argsL := [(.long q4), (.int (5 : Int32))]) (rest := [(.int (5 : Int32)), (.ref b4), (.ref b4)]) (lenOf own_pd0 rfl) rfl (by show 2 * 0 + _ ≤ _; exact Nat.le_of_eq rfl) (hb hby at_71) (fun _ _ => ⟨rfl, e14, (by decide : 1 + 0 ≤ _), (by decide : 16 + 0 ≤ _)⟩)
  dsimp only [Pt.U, Pt.locs, Pt.cells, Pt.slots] at X15 l15 y15 z15 st15 hQ15
  rw [l15, y15, z15] at X15
  obtain ⟨rfl, rfl, e15⟩ := hQ15
  try rw [List.append_nil] at X15
  change Stand _ _ _ _ _ _ _ _ _ _ _ _ 1 16 at X15
  refine Goes.step (fun t k => st15 t k) ?_
  show Goes _ _ _ _ _ _ _ (T15.setTop (mkF m 74 #[.val (.long q0), .second, .val (.int p1), .val (.int p2), .val (.int p3), .val (.long q4), .second, .val (.int y2), .val (.int y3), .unset, .unset, .unset, .unset, .unset, .unset] [(.int (f1 q4 (5 : Int32))), (.int (5 : Int32)), (.ref b4), (.ref b4)]))
  obtain ⟨cl16, Ar16, q16, ll16, ff16, oo16⟩ := id V14
  have hn16 : ¬ (5 : Int32) < 0 := by decide
  have hl16 : ((5 : Int32)).toNatClampNeg < ([(.int ((f1 q4 (0 : Int32)).toInt8.toInt32)), (.int ((f1 q4 (1 : Int32)).toInt8.toInt32)), (.int ((f1 q4 (2 : Int32)).toInt8.toInt32)), (.int ((f1 q4 (3 : Int32)).toInt8.toInt32)), (.int ((f1 q4 (4 : Int32)).toInt8.toInt32)), (.int (0 : Int32)), (.int (0 : Int32)), (.int (0 : Int32)), (.int (0 : Int32)), (.int (0 : Int32)), (.int (0 : Int32)), (.int (0 : Int32)), (.int (0 : Int32)), (.int (0 : Int32)), (.int (0 : Int32)), (.int (0 : Int32))] : List Value).length := by exact Nat.le_of_ble_eq_true rfl
  obtain ⟨T16, h16, X16, e16, W16, st16⟩ := stB X15 hx hZ e15 Ar16 (j := (5 : Int32)) (inb q16 hn16 hl16) (g := (mkF m 74 #[.val (.long q0), .second, .val (.int p1), .val (.int p2), .val (.int p3), .val (.long q4), .second, .val (.int y2), .val (.int y3), .unset, .unset, .unset, .unset, .unset, .unset] [(.int (f1 q4 (5 : Int32))), (.int (5 : Int32)), (.ref b4), (.ref b4)])) rfl rfl (hb hby at_74)
  have V16 : Ara Z h16 b4 .byte [(.int ((f1 q4 (0 : Int32)).toInt8.toInt32)), (.int ((f1 q4 (1 : Int32)).toInt8.toInt32)), (.int ((f1 q4 (2 : Int32)).toInt8.toInt32)), (.int ((f1 q4 (3 : Int32)).toInt8.toInt32)), (.int ((f1 q4 (4 : Int32)).toInt8.toInt32)), (.int ((f1 q4 (5 : Int32)).toInt8.toInt32)), (.int (0 : Int32)), (.int (0 : Int32)), (.int (0 : Int32)), (.int (0 : Int32)), (.int (0 : Int32)), (.int (0 : Int32)), (.int (0 : Int32)), (.int (0 : Int32)), (.int (0 : Int32)), (.int (0 : Int32))] := Ara.same (j := (5 : Int32)) Ar16 q16 ll16 ff16 oo16 (fits_nar_byte _) W16
  have K16 := K14.wr W16 (Or.inr Zh4)
  have N16 := Fr.snoc X16 N14 Zs4
  have Z16 := Nat.le_trans Z14 (Nat.le_of_eq W16.size.symm)
  refine Goes.step (fun t k => st16 t k) ?_
  show Goes _ _ _ _ _ _ _ (T16.setTop (mkF m 75 #[.val (.long q0), .second, .val (.int p1), .val (.int p2), .val (.int p3), .val (.long q4), .second, .val (.int y2), .val (.int y3), .unset, .unset, .unset, .unset, .unset, .unset] [(.ref b4)]))
  refine Goes.step (fun t k => XS.dup X16.here hx rfl (hb hby at_75) rfl rfl k) ?_
  show Goes _ _ _ _ _ _ _ (T16.setTop (mkF m 76 #[.val (.long q0), .second, .val (.int p1), .val (.int p2), .val (.int p3), .val (.long q4), .second, .val (.int y2), .val (.int y3), .unset, .unset, .unset, .unset, .unset, .unset] [(.ref b4), (.ref b4)]))
  refine Goes.step (fun t k => XS.bipush X16.here hx rfl (hb hby at_76) k) ?_
  show Goes _ _ _ _ _ _ _ (T16.setTop (mkF m 78 #[.val (.long q0), .second, .val (.int p1), .val (.int p2), .val (.int p3), .val (.long q4), .second, .val (.int y2), .val (.int y3), .unset, .unset, .unset, .unset, .unset, .unset] [(.int (6 : Int32)), (.ref b4), (.ref b4)]))
  refine Goes.step (fun t k => XS.lload X16.here hx rfl (hb hby at_78) rfl k) ?_
  show Goes _ _ _ _ _ _ _ (T16.setTop (mkF m 80 #[.val (.long q0), .second, .val (.int p1), .val (.int p2), .val (.int p3), .val (.long q4), .second, .val (.int y2), .val (.int y3), .unset, .unset, .unset, .unset, .unset, .unset] [(.long q4), (.int (6 : Int32)), (.ref b4), (.ref b4)]))
  refine Goes.step (fun t k => XS.bipush X16.here hx rfl (hb hby at_80) k) ?_
  show Goes _ _ _ _ _ _ _ (T16.setTop (mkF m 82 #[.val (.long q0), .second, .val (.int p1), .val (.int p2), .val (.int p3), .val (.long q4), .second, .val (.int y2), .val (.int y3), .unset, .unset, .unset, .unset, .unset, .unset] [(.int (6 : Int32)), (.long q4), (.int (6 : Int32)), (.ref b4), (.ref b4)]))
  obtain ⟨_, _, ⟨T17, L17, k17, n17⟩, -, X17, ⟨Lc17, hQ17, l17, y17, z17⟩, st17⟩ := Jvm.LawKit.callS X16 hx (y := (⟨"com/example/double_prior/doubleprior/index/ReaderReadLongPinLaw", "j", "(JI)B"⟩ : MethodName)) hown (mvT hZ (hw _ (List.mem_of_getElem? (i := 2) rfl))) (mvT hZ (hw _ (List.mem_of_getElem? (i := 3) rfl))) (mvT hZ (hw _ (List.mem_of_getElem? (i := 4) rfl))) (mvT hZ (hw _ (List.mem_of_getElem? (i := 5) rfl))) (by decide) (backOf (W := 3) (rm1 l Z tA hw [] q4 (6 : Int32) h16) hZ (hw _ (List.mem_of_getElem? (i := 5) rfl)) (hw _ (List.mem_of_getElem? (i := 4) rfl)) (by decide) (by decide)) (g := (mkF m 82 #[.val (.long q0), .second, .val (.int p1), .val (.int p2), .val (.int p3), .val (.long q4), .second, .val (.int y2), .val (.int y3), .unset, .unset, .unset, .unset, .unset, .unset] [(.int (6 : Int32)), (.long q4), (.int (6 : Int32)), (.ref b4), (.ref b4)])) rfl (by rw [hml]; rfl) (argsL := [(.long q4), (.int (6 : Int32))]) (rest := [(.int (6 : Int32)), (.ref b4), (.ref b4)]) (lenOf own_pd0 rfl) rfl (by show 2 * 0 + _ ≤ _; exact Nat.le_of_eq rfl) (hb hby at_82) (fun _ _ => ⟨rfl, e16, (by decide : 1 + 0 ≤ _), (by decide : 16 + 0 ≤ _)⟩)
  dsimp only [Pt.U, Pt.locs, Pt.cells, Pt.slots] at X17 l17 y17 z17 st17 hQ17
  rw [l17, y17, z17] at X17
  obtain ⟨rfl, rfl, e17⟩ := hQ17
  try rw [List.append_nil] at X17
  change Stand _ _ _ _ _ _ _ _ _ _ _ _ 1 16 at X17
  refine Goes.step (fun t k => st17 t k) ?_
  show Goes _ _ _ _ _ _ _ (T17.setTop (mkF m 85 #[.val (.long q0), .second, .val (.int p1), .val (.int p2), .val (.int p3), .val (.long q4), .second, .val (.int y2), .val (.int y3), .unset, .unset, .unset, .unset, .unset, .unset] [(.int (f1 q4 (6 : Int32))), (.int (6 : Int32)), (.ref b4), (.ref b4)]))
  obtain ⟨cl18, Ar18, q18, ll18, ff18, oo18⟩ := id V16
  have hn18 : ¬ (6 : Int32) < 0 := by decide
  have hl18 : ((6 : Int32)).toNatClampNeg < ([(.int ((f1 q4 (0 : Int32)).toInt8.toInt32)), (.int ((f1 q4 (1 : Int32)).toInt8.toInt32)), (.int ((f1 q4 (2 : Int32)).toInt8.toInt32)), (.int ((f1 q4 (3 : Int32)).toInt8.toInt32)), (.int ((f1 q4 (4 : Int32)).toInt8.toInt32)), (.int ((f1 q4 (5 : Int32)).toInt8.toInt32)), (.int (0 : Int32)), (.int (0 : Int32)), (.int (0 : Int32)), (.int (0 : Int32)), (.int (0 : Int32)), (.int (0 : Int32)), (.int (0 : Int32)), (.int (0 : Int32)), (.int (0 : Int32)), (.int (0 : Int32))] : List Value).length := by exact Nat.le_of_ble_eq_true rfl
  obtain ⟨T18, h18, X18, e18, W18, st18⟩ := stB X17 hx hZ e17 Ar18 (j := (6 : Int32)) (inb q18 hn18 hl18) (g := (mkF m 85 #[.val (.long q0), .second, .val (.int p1), .val (.int p2), .val (.int p3), .val (.long q4), .second, .val (.int y2), .val (.int y3), .unset, .unset, .unset, .unset, .unset, .unset] [(.int (f1 q4 (6 : Int32))), (.int (6 : Int32)), (.ref b4), (.ref b4)])) rfl rfl (hb hby at_85)
  have V18 : Ara Z h18 b4 .byte [(.int ((f1 q4 (0 : Int32)).toInt8.toInt32)), (.int ((f1 q4 (1 : Int32)).toInt8.toInt32)), (.int ((f1 q4 (2 : Int32)).toInt8.toInt32)), (.int ((f1 q4 (3 : Int32)).toInt8.toInt32)), (.int ((f1 q4 (4 : Int32)).toInt8.toInt32)), (.int ((f1 q4 (5 : Int32)).toInt8.toInt32)), (.int ((f1 q4 (6 : Int32)).toInt8.toInt32)), (.int (0 : Int32)), (.int (0 : Int32)), (.int (0 : Int32)), (.int (0 : Int32)), (.int (0 : Int32)), (.int (0 : Int32)), (.int (0 : Int32)), (.int (0 : Int32)), (.int (0 : Int32))] := Ara.same (j := (6 : Int32)) Ar18 q18 ll18 ff18 oo18 (fits_nar_byte _) W18
  have K18 := K16.wr W18 (Or.inr Zh4)
  have N18 := Fr.snoc X18 N16 Zs4
  have Z18 := Nat.le_trans Z16 (Nat.le_of_eq W18.size.symm)
  refine Goes.step (fun t k => st18 t k) ?_
  show Goes _ _ _ _ _ _ _ (T18.setTop (mkF m 86 #[.val (.long q0), .second, .val (.int p1), .val (.int p2), .val (.int p3), .val (.long q4), .second, .val (.int y2), .val (.int y3), .unset, .unset, .unset, .unset, .unset, .unset] [(.ref b4)]))
  refine Goes.step (fun t k => XS.dup X18.here hx rfl (hb hby at_86) rfl rfl k) ?_
  show Goes _ _ _ _ _ _ _ (T18.setTop (mkF m 87 #[.val (.long q0), .second, .val (.int p1), .val (.int p2), .val (.int p3), .val (.long q4), .second, .val (.int y2), .val (.int y3), .unset, .unset, .unset, .unset, .unset, .unset] [(.ref b4), (.ref b4)]))
  refine Goes.step (fun t k => XS.bipush X18.here hx rfl (hb hby at_87) k) ?_
  show Goes _ _ _ _ _ _ _ (T18.setTop (mkF m 89 #[.val (.long q0), .second, .val (.int p1), .val (.int p2), .val (.int p3), .val (.long q4), .second, .val (.int y2), .val (.int y3), .unset, .unset, .unset, .unset, .unset, .unset] [(.int (7 : Int32)), (.ref b4), (.ref b4)]))
  refine Goes.step (fun t k => XS.lload X18.here hx rfl (hb hby at_89) rfl k) ?_
  show Goes _ _ _ _ _ _ _ (T18.setTop (mkF m 91 #[.val (.long q0), .second, .val (.int p1), .val (.int p2), .val (.int p3), .val (.long q4), .second, .val (.int y2), .val (.int y3), .unset, .unset, .unset, .unset, .unset, .unset] [(.long q4), (.int (7 : Int32)), (.ref b4), (.ref b4)]))
  refine Goes.step (fun t k => XS.bipush X18.here hx rfl (hb hby at_91) k) ?_
  show Goes _ _ _ _ _ _ _ (T18.setTop (mkF m 93 #[.val (.long q0), .second, .val (.int p1), .val (.int p2), .val (.int p3), .val (.long q4), .second, .val (.int y2), .val (.int y3), .unset, .unset, .unset, .unset, .unset, .unset] [(.int (7 : Int32)), (.long q4), (.int (7 : Int32)), (.ref b4), (.ref b4)]))
  obtain ⟨_, _, ⟨T19, L19, k19, n19⟩, -, X19, ⟨Lc19, hQ19, l19, y19, z19⟩, st19⟩ := Jvm.LawKit.callS X18 hx (y := (⟨"com/example/double_prior/doubleprior/index/ReaderReadLongPinLaw", "j", "(JI)B"⟩ : MethodName)) hown (mvT hZ (hw _ (List.mem_of_getElem? (i := 2) rfl))) (mvT hZ (hw _ (List.mem_of_getElem? (i := 3) rfl))) (mvT hZ (hw _ (List.mem_of_getElem? (i := 4) rfl))) (mvT hZ (hw _ (List.mem_of_getElem? (i := 5) rfl))) (by decide) (backOf (W := 3) (rm1 l Z tA hw [] q4 (7 : Int32) h18) hZ (hw _ (List.mem_of_getElem? (i := 5) rfl)) (hw _ (List.mem_of_getElem? (i := 4) rfl)) (by decide) (by decide)) (g := (mkF m 93 #[.val (.long q0), .second, .val (.int p1), .val (.int p2), .val (.int p3), .val (.long q4), .second, .val (.int y2), .val (.int y3), .unset, .unset, .unset, .unset, .unset, .unset] [(.int (7 : Int32)), (.long q4), (.int (7 : Int32)), (.ref b4), (.ref b4)])) rfl (by rw [hml]; rfl) (argsL := [(.long q4), (.int (7 : Int32))]) (rest := [(.int (7 : Int32)), (.ref b4), (.ref b4)]) (lenOf own_pd0 rfl) rfl (by show 2 * 0 + _ ≤ _; exact Nat.le_of_eq rfl) (hb hby at_93) (fun _ _ => ⟨rfl, e18, (by decide : 1 + 0 ≤ _), (by decide : 16 + 0 ≤ _)⟩)
  dsimp only [Pt.U, Pt.locs, Pt.cells, Pt.slots] at X19 l19 y19 z19 st19 hQ19
  rw [l19, y19, z19] at X19
  obtain ⟨rfl, rfl, e19⟩ := hQ19
  try rw [List.append_nil] at X19
  change Stand _ _ _ _ _ _ _ _ _ _ _ _ 1 16 at X19
  refine Goes.step (fun t k => st19 t k) ?_
  show Goes _ _ _ _ _ _ _ (T19.setTop (mkF m 96 #[.val (.long q0), .second, .val (.int p1), .val (.int p2), .val (.int p3), .val (.long q4), .second, .val (.int y2), .val (.int y3), .unset, .unset, .unset, .unset, .unset, .unset] [(.int (f1 q4 (7 : Int32))), (.int (7 : Int32)), (.ref b4), (.ref b4)]))
  obtain ⟨cl20, Ar20, q20, ll20, ff20, oo20⟩ := id V18
  have hn20 : ¬ (7 : Int32) < 0 := by decide
  have hl20 : ((7 : Int32)).toNatClampNeg < ([(.int ((f1 q4 (0 : Int32)).toInt8.toInt32)), (.int ((f1 q4 (1 : Int32)).toInt8.toInt32)), (.int ((f1 q4 (2 : Int32)).toInt8.toInt32)), (.int ((f1 q4 (3 : Int32)).toInt8.toInt32)), (.int ((f1 q4 (4 : Int32)).toInt8.toInt32)), (.int ((f1 q4 (5 : Int32)).toInt8.toInt32)), (.int ((f1 q4 (6 : Int32)).toInt8.toInt32)), (.int (0 : Int32)), (.int (0 : Int32)), (.int (0 : Int32)), (.int (0 : Int32)), (.int (0 : Int32)), (.int (0 : Int32)), (.int (0 : Int32)), (.int (0 : Int32)), (.int (0 : Int32))] : List Value).length := by exact Nat.le_of_ble_eq_true rfl
  obtain ⟨T20, h20, X20, e20, W20, st20⟩ := stB X19 hx hZ e19 Ar20 (j := (7 : Int32)) (inb q20 hn20 hl20) (g := (mkF m 96 #[.val (.long q0), .second, .val (.int p1), .val (.int p2), .val (.int p3), .val (.long q4), .second, .val (.int y2), .val (.int y3), .unset, .unset, .unset, .unset, .unset, .unset] [(.int (f1 q4 (7 : Int32))), (.int (7 : Int32)), (.ref b4), (.ref b4)])) rfl rfl (hb hby at_96)
  have V20 : Ara Z h20 b4 .byte [(.int ((f1 q4 (0 : Int32)).toInt8.toInt32)), (.int ((f1 q4 (1 : Int32)).toInt8.toInt32)), (.int ((f1 q4 (2 : Int32)).toInt8.toInt32)), (.int ((f1 q4 (3 : Int32)).toInt8.toInt32)), (.int ((f1 q4 (4 : Int32)).toInt8.toInt32)), (.int ((f1 q4 (5 : Int32)).toInt8.toInt32)), (.int ((f1 q4 (6 : Int32)).toInt8.toInt32)), (.int ((f1 q4 (7 : Int32)).toInt8.toInt32)), (.int (0 : Int32)), (.int (0 : Int32)), (.int (0 : Int32)), (.int (0 : Int32)), (.int (0 : Int32)), (.int (0 : Int32)), (.int (0 : Int32)), (.int (0 : Int32))] := Ara.same (j := (7 : Int32)) Ar20 q20 ll20 ff20 oo20 (fits_nar_byte _) W20
  have K20 := K18.wr W20 (Or.inr Zh4)
  have N20 := Fr.snoc X20 N18 Zs4
  have Z20 := Nat.le_trans Z18 (Nat.le_of_eq W20.size.symm)
  refine Goes.step (fun t k => st20 t k) ?_
  show Goes _ _ _ _ _ _ _ (T20.setTop (mkF m 97 #[.val (.long q0), .second, .val (.int p1), .val (.int p2), .val (.int p3), .val (.long q4), .second, .val (.int y2), .val (.int y3), .unset, .unset, .unset, .unset, .unset, .unset] [(.ref b4)]))
  refine Goes.step (fun t k => XS.dup X20.here hx rfl (hb hby at_97) rfl rfl k) ?_
  show Goes _ _ _ _ _ _ _ (T20.setTop (mkF m 98 #[.val (.long q0), .second, .val (.int p1), .val (.int p2), .val (.int p3), .val (.long q4), .second, .val (.int y2), .val (.int y3), .unset, .unset, .unset, .unset, .unset, .unset] [(.ref b4), (.ref b4)]))
  refine Goes.step (fun t k => XS.bipush X20.here hx rfl (hb hby at_98) k) ?_
  show Goes _ _ _ _ _ _ _ (T20.setTop (mkF m 100 #[.val (.long q0), .second, .val (.int p1), .val (.int p2), .val (.int p3), .val (.long q4), .second, .val (.int y2), .val (.int y3), .unset, .unset, .unset, .unset, .unset, .unset] [(.int (8 : Int32)), (.ref b4), (.ref b4)]))
  refine Goes.step (fun t k => XS.lload X20.here hx rfl (hb hby at_100) rfl k) ?_
  show Goes _ _ _ _ _ _ _ (T20.setTop (mkF m 102 #[.val (.long q0), .second, .val (.int p1), .val (.int p2), .val (.int p3), .val (.long q4), .second, .val (.int y2), .val (.int y3), .unset, .unset, .unset, .unset, .unset, .unset] [(.long q4), (.int (8 : Int32)), (.ref b4), (.ref b4)]))
  refine Goes.step (fun t k => XS.bipush X20.here hx rfl (hb hby at_102) k) ?_
  show Goes _ _ _ _ _ _ _ (T20.setTop (mkF m 104 #[.val (.long q0), .second, .val (.int p1), .val (.int p2), .val (.int p3), .val (.long q4), .second, .val (.int y2), .val (.int y3), .unset, .unset, .unset, .unset, .unset, .unset] [(.int (8 : Int32)), (.long q4), (.int (8 : Int32)), (.ref b4), (.ref b4)]))
  obtain ⟨_, _, ⟨T21, L21, k21, n21⟩, -, X21, ⟨Lc21, hQ21, l21, y21, z21⟩, st21⟩ := Jvm.LawKit.callS X20 hx (y := (⟨"com/example/double_prior/doubleprior/index/ReaderReadLongPinLaw", "j", "(JI)B"⟩ : MethodName)) hown (mvT hZ (hw _ (List.mem_of_getElem? (i := 2) rfl))) (mvT hZ (hw _ (List.mem_of_getElem? (i := 3) rfl))) (mvT hZ (hw _ (List.mem_of_getElem? (i := 4) rfl))) (mvT hZ (hw _ (List.mem_of_getElem? (i := 5) rfl))) (by decide) (backOf (W := 3) (rm1 l Z tA hw [] q4 (8 : Int32) h20) hZ (hw _ (List.mem_of_getElem? (i := 5) rfl)) (hw _ (List.mem_of_getElem? (i := 4) rfl)) (by decide) (by decide)) (g := (mkF m 104 #[.val (.long q0), .second, .val (.int p1), .val (.int p2), .val (.int p3), .val (.long q4), .second, .val (.int y2), .val (.int y3), .unset, .unset, .unset, .unset, .unset, .unset] [(.int (8 : Int32)), (.long q4), (.int (8 : Int32)), (.ref b4), (.ref b4)])) rfl (by rw [hml]; rfl) (argsL := [(.long q4), (.int (8 : Int32))]) (rest := [(.int (8 : Int32)), (.ref b4), (.ref b4)]) (lenOf own_pd0 rfl) rfl (by show 2 * 0 + _ ≤ _; exact Nat.le_of_eq rfl) (hb hby at_104) (fun _ _ => ⟨rfl, e20, (by decide : 1 + 0 ≤ _), (by decide : 16 + 0 ≤ _)⟩)
  dsimp only [Pt.U, Pt.locs, Pt.cells, Pt.slots] at X21 l21 y21 z21 st21 hQ21
  rw [l21, y21, z21] at X21
  obtain ⟨rfl, rfl, e21⟩ := hQ21
  try rw [List.append_nil] at X21
  change Stand _ _ _ _ _ _ _ _ _ _ _ _ 1 16 at X21
  refine Goes.step (fun t k => st21 t k) ?_
  show Goes _ _ _ _ _ _ _ (T21.setTop (mkF m 107 #[.val (.long q0), .second, .val (.int p1), .val (.int p2), .val (.int p3), .val (.long q4), .second, .val (.int y2), .val (.int y3), .unset, .unset, .unset, .unset, .unset, .unset] [(.int (f1 q4 (8 : Int32))), (.int (8 : Int32)), (.ref b4), (.ref b4)]))
  obtain ⟨cl22, Ar22, q22, ll22, ff22, oo22⟩ := id V20
  have hn22 : ¬ (8 : Int32) < 0 := by decide
  have hl22 : ((8 : Int32)).toNatClampNeg < ([(.int ((f1 q4 (0 : Int32)).toInt8.toInt32)), (.int ((f1 q4 (1 : Int32)).toInt8.toInt32)), (.int ((f1 q4 (2 : Int32)).toInt8.toInt32)), (.int ((f1 q4 (3 : Int32)).toInt8.toInt32)), (.int ((f1 q4 (4 : Int32)).toInt8.toInt32)), (.int ((f1 q4 (5 : Int32)).toInt8.toInt32)), (.int ((f1 q4 (6 : Int32)).toInt8.toInt32)), (.int ((f1 q4 (7 : Int32)).toInt8.toInt32)), (.int (0 : Int32)), (.int (0 : Int32)), (.int (0 : Int32)), (.int (0 : Int32)), (.int (0 : Int32)), (.int (0 : Int32)), (.int (0 : Int32)), (.int (0 : Int32))] : List Value).length := by exact Nat.le_of_ble_eq_true rfl
  obtain ⟨T22, h22, X22, e22, W22, st22⟩ := stB X21 hx hZ e21 Ar22 (j := (8 : Int32)) (inb q22 hn22 hl22) (g := (mkF m 107 #[.val (.long q0), .second, .val (.int p1), .val (.int p2), .val (.int p3), .val (.long q4), .second, .val (.int y2), .val (.int y3), .unset, .unset, .unset, .unset, .unset, .unset] [(.int (f1 q4 (8 : Int32))), (.int (8 : Int32)), (.ref b4), (.ref b4)])) rfl rfl (hb hby at_107)
  have V22 : Ara Z h22 b4 .byte [(.int ((f1 q4 (0 : Int32)).toInt8.toInt32)), (.int ((f1 q4 (1 : Int32)).toInt8.toInt32)), (.int ((f1 q4 (2 : Int32)).toInt8.toInt32)), (.int ((f1 q4 (3 : Int32)).toInt8.toInt32)), (.int ((f1 q4 (4 : Int32)).toInt8.toInt32)), (.int ((f1 q4 (5 : Int32)).toInt8.toInt32)), (.int ((f1 q4 (6 : Int32)).toInt8.toInt32)), (.int ((f1 q4 (7 : Int32)).toInt8.toInt32)), (.int ((f1 q4 (8 : Int32)).toInt8.toInt32)), (.int (0 : Int32)), (.int (0 : Int32)), (.int (0 : Int32)), (.int (0 : Int32)), (.int (0 : Int32)), (.int (0 : Int32)), (.int (0 : Int32))] := Ara.same (j := (8 : Int32)) Ar22 q22 ll22 ff22 oo22 (fits_nar_byte _) W22
  have K22 := K20.wr W22 (Or.inr Zh4)
  have N22 := Fr.snoc X22 N20 Zs4
  have Z22 := Nat.le_trans Z20 (Nat.le_of_eq W22.size.symm)
  refine Goes.step (fun t k => st22 t k) ?_
  show Goes _ _ _ _ _ _ _ (T22.setTop (mkF m 108 #[.val (.long q0), .second, .val (.int p1), .val (.int p2), .val (.int p3), .val (.long q4), .second, .val (.int y2), .val (.int y3), .unset, .unset, .unset, .unset, .unset, .unset] [(.ref b4)]))
  refine Goes.step (fun t k => XS.dup X22.here hx rfl (hb hby at_108) rfl rfl k) ?_
  show Goes _ _ _ _ _ _ _ (T22.setTop (mkF m 109 #[.val (.long q0), .second, .val (.int p1), .val (.int p2), .val (.int p3), .val (.long q4), .second, .val (.int y2), .val (.int y3), .unset, .unset, .unset, .unset, .unset, .unset] [(.ref b4), (.ref b4)]))
  refine Goes.step (fun t k => XS.bipush X22.here hx rfl (hb hby at_109) k) ?_
  show Goes _ _ _ _ _ _ _ (T22.setTop (mkF m 111 #[.val (.long q0), .second, .val (.int p1), .val (.int p2), .val (.int p3), .val (.long q4), .second, .val (.int y2), .val (.int y3), .unset, .unset, .unset, .unset, .unset, .unset] [(.int (9 : Int32)), (.ref b4), (.ref b4)]))
  refine Goes.step (fun t k => XS.lload X22.here hx rfl (hb hby at_111) rfl k) ?_
  show Goes _ _ _ _ _ _ _ (T22.setTop (mkF m 113 #[.val (.long q0), .second, .val (.int p1), .val (.int p2), .val (.int p3), .val (.long q4), .second, .val (.int y2), .val (.int y3), .unset, .unset, .unset, .unset, .unset, .unset] [(.long q4), (.int (9 : Int32)), (.ref b4), (.ref b4)]))
  refine Goes.step (fun t k => XS.bipush X22.here hx rfl (hb hby at_113) k) ?_
  show Goes _ _ _ _ _ _ _ (T22.setTop (mkF m 115 #[.val (.long q0), .second, .val (.int p1), .val (.int p2), .val (.int p3), .val (.long q4), .second, .val (.int y2), .val (.int y3), .unset, .unset, .unset, .unset, .unset, .unset] [(.int (9 : Int32)), (.long q4), (.int (9 : Int32)), (.ref b4), (.ref b4)]))
  obtain ⟨_, _, ⟨T23, L23, k23, n23⟩, -, X23, ⟨Lc23, hQ23, l23, y23, z23⟩, st23⟩ := Jvm.LawKit.callS X22 hx (y := (⟨"com/example/double_prior/doubleprior/index/ReaderReadLongPinLaw", "j", "(JI)B"⟩ : MethodName)) hown (mvT hZ (hw _ (List.mem_of_getElem? (i := 2) rfl))) (mvT hZ (hw _ (List.mem_of_getElem? (i := 3) rfl))) (mvT hZ (hw _ (List.mem_of_getElem? (i := 4) rfl))) (mvT hZ (hw _ (List.mem_of_getElem? (i := 5) rfl))) (by decide) (backOf (W := 3) (rm1 l Z tA hw [] q4 (9 : Int32) h22) hZ (hw _ (List.mem_of_getElem? (i := 5) rfl)) (hw _ (List.mem_of_getElem? (i := 4) rfl)) (by decide) (by decide)) (g := (mkF m 115 #[.val (.long q0), .second, .val (.int p1), .val (.int p2), .val (.int p3), .val (.long q4), .second, .val (.int y2), .val (.int y3), .unset, .unset, .unset, .unset, .unset, .unset] [(.int (9 : Int32)), (.long q4), (.int (9 : Int32)), (.ref b4), (.ref b4)])) rfl (by rw [hml]; rfl) (argsL := [(.long q4), (.int (9 : Int32))]) (rest := [(.int (9 : Int32)), (.ref b4), (.ref b4)]) (lenOf own_pd0 rfl) rfl (by show 2 * 0 + _ ≤ _; exact Nat.le_of_eq rfl) (hb hby at_115) (fun _ _ => ⟨rfl, e22, (by decide : 1 + 0 ≤ _), (by decide : 16 + 0 ≤ _)⟩)
  dsimp only [Pt.U, Pt.locs, Pt.cells, Pt.slots] at X23 l23 y23 z23 st23 hQ23
  rw [l23, y23, z23] at X23
  obtain ⟨rfl, rfl, e23⟩ := hQ23
  try rw [List.append_nil] at X23
  change Stand _ _ _ _ _ _ _ _ _ _ _ _ 1 16 at X23
  refine Goes.step (fun t k => st23 t k) ?_
  show Goes _ _ _ _ _ _ _ (T23.setTop (mkF m 118 #[.val (.long q0), .second, .val (.int p1), .val (.int p2), .val (.int p3), .val (.long q4), .second, .val (.int y2), .val (.int y3), .unset, .unset, .unset, .unset, .unset, .unset] [(.int (f1 q4 (9 : Int32))), (.int (9 : Int32)), (.ref b4), (.ref b4)]))
  obtain ⟨cl24, Ar24, q24, ll24, ff24, oo24⟩ := id V22
  have hn24 : ¬ (9 : Int32) < 0 := by decide
  have hl24 : ((9 : Int32)).toNatClampNeg < ([(.int ((f1 q4 (0 : Int32)).toInt8.toInt32)), (.int ((f1 q4 (1 : Int32)).toInt8.toInt32)), (.int ((f1 q4 (2 : Int32)).toInt8.toInt32)), (.int ((f1 q4 (3 : Int32)).toInt8.toInt32)), (.int ((f1 q4 (4 : Int32)).toInt8.toInt32)), (.int ((f1 q4 (5 : Int32)).toInt8.toInt32)), (.int ((f1 q4 (6 : Int32)).toInt8.toInt32)), (.int ((f1 q4 (7 : Int32)).toInt8.toInt32)), (.int ((f1 q4 (8 : Int32)).toInt8.toInt32)), (.int (0 : Int32)), (.int (0 : Int32)), (.int (0 : Int32)), (.int (0 : Int32)), (.int (0 : Int32)), (.int (0 : Int32)), (.int (0 : Int32))] : List Value).length := by exact Nat.le_of_ble_eq_true rfl
  obtain ⟨T24, h24, X24, e24, W24, st24⟩ := stB X23 hx hZ e23 Ar24 (j := (9 : Int32)) (inb q24 hn24 hl24) (g := (mkF m 118 #[.val (.long q0), .second, .val (.int p1), .val (.int p2), .val (.int p3), .val (.long q4), .second, .val (.int y2), .val (.int y3), .unset, .unset, .unset, .unset, .unset, .unset] [(.int (f1 q4 (9 : Int32))), (.int (9 : Int32)), (.ref b4), (.ref b4)])) rfl rfl (hb hby at_118)
  have V24 : Ara Z h24 b4 .byte [(.int ((f1 q4 (0 : Int32)).toInt8.toInt32)), (.int ((f1 q4 (1 : Int32)).toInt8.toInt32)), (.int ((f1 q4 (2 : Int32)).toInt8.toInt32)), (.int ((f1 q4 (3 : Int32)).toInt8.toInt32)), (.int ((f1 q4 (4 : Int32)).toInt8.toInt32)), (.int ((f1 q4 (5 : Int32)).toInt8.toInt32)), (.int ((f1 q4 (6 : Int32)).toInt8.toInt32)), (.int ((f1 q4 (7 : Int32)).toInt8.toInt32)), (.int ((f1 q4 (8 : Int32)).toInt8.toInt32)), (.int ((f1 q4 (9 : Int32)).toInt8.toInt32)), (.int (0 : Int32)), (.int (0 : Int32)), (.int (0 : Int32)), (.int (0 : Int32)), (.int (0 : Int32)), (.int (0 : Int32))] := Ara.same (j := (9 : Int32)) Ar24 q24 ll24 ff24 oo24 (fits_nar_byte _) W24
  have K24 := K22.wr W24 (Or.inr Zh4)
  have N24 := Fr.snoc X24 N22 Zs4
  have Z24 := Nat.le_trans Z22 (Nat.le_of_eq W24.size.symm)
  refine Goes.step (fun t k => st24 t k) ?_
  show Goes _ _ _ _ _ _ _ (T24.setTop (mkF m 119 #[.val (.long q0), .second, .val (.int p1), .val (.int p2), .val (.int p3), .val (.long q4), .second, .val (.int y2), .val (.int y3), .unset, .unset, .unset, .unset, .unset, .unset] [(.ref b4)]))
  refine Goes.step (fun t k => XS.dup X24.here hx rfl (hb hby at_119) rfl rfl k) ?_
  show Goes _ _ _ _ _ _ _ (T24.setTop (mkF m 120 #[.val (.long q0), .second, .val (.int p1), .val (.int p2), .val (.int p3), .val (.long q4), .second, .val (.int y2), .val (.int y3), .unset, .unset, .unset, .unset, .unset, .unset] [(.ref b4), (.ref b4)]))
  refine Goes.step (fun t k => XS.bipush X24.here hx rfl (hb hby at_120) k) ?_
  show Goes _ _ _ _ _ _ _ (T24.setTop (mkF m 122 #[.val (.long q0), .second, .val (.int p1), .val (.int p2), .val (.int p3), .val (.long q4), .second, .val (.int y2), .val (.int y3), .unset, .unset, .unset, .unset, .unset, .unset] [(.int (10 : Int32)), (.ref b4), (.ref b4)]))
  refine Goes.step (fun t k => XS.lload X24.here hx rfl (hb hby at_122) rfl k) ?_
  show Goes _ _ _ _ _ _ _ (T24.setTop (mkF m 124 #[.val (.long q0), .second, .val (.int p1), .val (.int p2), .val (.int p3), .val (.long q4), .second, .val (.int y2), .val (.int y3), .unset, .unset, .unset, .unset, .unset, .unset] [(.long q4), (.int (10 : Int32)), (.ref b4), (.ref b4)]))
  refine Goes.step (fun t k => XS.bipush X24.here hx rfl (hb hby at_124) k) ?_
  show Goes _ _ _ _ _ _ _ (T24.setTop (mkF m 126 #[.val (.long q0), .second, .val (.int p1), .val (.int p2), .val (.int p3), .val (.long q4), .second, .val (.int y2), .val (.int y3), .unset, .unset, .unset, .unset, .unset, .unset] [(.int (10 : Int32)), (.long q4), (.int (10 : Int32)), (.ref b4), (.ref b4)]))
  obtain ⟨_, _, ⟨T25, L25, k25, n25⟩, -, X25, ⟨Lc25, hQ25, l25, y25, z25⟩, st25⟩ := Jvm.LawKit.callS X24 hx (y := (⟨"com/example/double_prior/doubleprior/index/ReaderReadLongPinLaw", "j", "(JI)B"⟩ : MethodName)) hown (mvT hZ (hw _ (List.mem_of_getElem? (i := 2) rfl))) (mvT hZ (hw _ (List.mem_of_getElem? (i := 3) rfl))) (mvT hZ (hw _ (List.mem_of_getElem? (i := 4) rfl))) (mvT hZ (hw _ (List.mem_of_getElem? (i := 5) rfl))) (by decide) (backOf (W := 3) (rm1 l Z tA hw [] q4 (10 : Int32) h24) hZ (hw _ (List.mem_of_getElem? (i := 5) rfl)) (hw _ (List.mem_of_getElem? (i := 4) rfl)) (by decide) (by decide)) (g := (mkF m 126 #[.val (.long q0), .second, .val (.int p1), .val (.int p2), .val (.int p3), .val (.long q4), .second, .val (.int y2), .val (.int y3), .unset, .unset, .unset, .unset, .unset, .unset] [(.int (10 : Int32)), (.long q4), (.int (10 : Int32)), (.ref b4), (.ref b4)])) rfl (by rw [hml]; rfl) (argsL := [(.long q4), (.int (10 : Int32))]) (rest := [(.int (10 : Int32)), (.ref b4), (.ref b4)]) (lenOf own_pd0 rfl) rfl (by show 2 * 0 + _ ≤ _; exact Nat.le_of_eq rfl) (hb hby at_126) (fun _ _ => ⟨rfl, e24, (by decide : 1 + 0 ≤ _), (by decide : 16 + 0 ≤ _)⟩)
  dsimp only [Pt.U, Pt.locs, Pt.cells, Pt.slots] at X25 l25 y25 z25 st25 hQ25
  rw [l25, y25, z25] at X25
  obtain ⟨rfl, rfl, e25⟩ := hQ25
  try rw [List.append_nil] at X25
  change Stand _ _ _ _ _ _ _ _ _ _ _ _ 1 16 at X25
  refine Goes.step (fun t k => st25 t k) ?_
  show Goes _ _ _ _ _ _ _ (T25.setTop (mkF m 129 #[.val (.long q0), .second, .val (.int p1), .val (.int p2), .val (.int p3), .val (.long q4), .second, .val (.int y2), .val (.int y3), .unset, .unset, .unset, .unset, .unset, .unset] [(.int (f1 q4 (10 : Int32))), (.int (10 : Int32)), (.ref b4), (.ref b4)]))
  obtain ⟨cl26, Ar26, q26, ll26, ff26, oo26⟩ := id V24
  have hn26 : ¬ (10 : Int32) < 0 := by decide
  have hl26 : ((10 : Int32)).toNatClampNeg < ([(.int ((f1 q4 (0 : Int32)).toInt8.toInt32)), (.int ((f1 q4 (1 : Int32)).toInt8.toInt32)), (.int ((f1 q4 (2 : Int32)).toInt8.toInt32)), (.int ((f1 q4 (3 : Int32)).toInt8.toInt32)), (.int ((f1 q4 (4 : Int32)).toInt8.toInt32)), (.int ((f1 q4 (5 : Int32)).toInt8.toInt32)), (.int ((f1 q4 (6 : Int32)).toInt8.toInt32)), (.int ((f1 q4 (7 : Int32)).toInt8.toInt32)), (.int ((f1 q4 (8 : Int32)).toInt8.toInt32)), (.int ((f1 q4 (9 : Int32)).toInt8.toInt32)), (.int (0 : Int32)), (.int (0 : Int32)), (.int (0 : Int32)), (.int (0 : Int32)), (.int (0 : Int32)), (.int (0 : Int32))] : List Value).length := by exact Nat.le_of_ble_eq_true rfl
  obtain ⟨T26, h26, X26, e26, W26, st26⟩ := stB X25 hx hZ e25 Ar26 (j := (10 : Int32)) (inb q26 hn26 hl26) (g := (mkF m 129 #[.val (.long q0), .second, .val (.int p1), .val (.int p2), .val (.int p3), .val (.long q4), .second, .val (.int y2), .val (.int y3), .unset, .unset, .unset, .unset, .unset, .unset] [(.int (f1 q4 (10 : Int32))), (.int (10 : Int32)), (.ref b4), (.ref b4)])) rfl rfl (hb hby at_129)
  have V26 : Ara Z h26 b4 .byte [(.int ((f1 q4 (0 : Int32)).toInt8.toInt32)), (.int ((f1 q4 (1 : Int32)).toInt8.toInt32)), (.int ((f1 q4 (2 : Int32)).toInt8.toInt32)), (.int ((f1 q4 (3 : Int32)).toInt8.toInt32)), (.int ((f1 q4 (4 : Int32)).toInt8.toInt32)), (.int ((f1 q4 (5 : Int32)).toInt8.toInt32)), (.int ((f1 q4 (6 : Int32)).toInt8.toInt32)), (.int ((f1 q4 (7 : Int32)).toInt8.toInt32)), (.int ((f1 q4 (8 : Int32)).toInt8.toInt32)), (.int ((f1 q4 (9 : Int32)).toInt8.toInt32)), (.int ((f1 q4 (10 : Int32)).toInt8.toInt32)), (.int (0 : Int32)), (.int (0 : Int32)), (.int (0 : Int32)), (.int (0 : Int32)), (.int (0 : Int32))] := Ara.same (j := (10 : Int32)) Ar26 q26 ll26 ff26 oo26 (fits_nar_byte _) W26
  have K26 := K24.wr W26 (Or.inr Zh4)
  have N26 := Fr.snoc X26 N24 Zs4
  have Z26 := Nat.le_trans Z24 (Nat.le_of_eq W26.size.symm)
  refine Goes.step (fun t k => st26 t k) ?_
  show Goes _ _ _ _ _ _ _ (T26.setTop (mkF m 130 #[.val (.long q0), .second, .val (.int p1), .val (.int p2), .val (.int p3), .val (.long q4), .second, .val (.int y2), .val (.int y3), .unset, .unset, .unset, .unset, .unset, .unset] [(.ref b4)]))
  refine Goes.step (fun t k => XS.dup X26.here hx rfl (hb hby at_130) rfl rfl k) ?_
  show Goes _ _ _ _ _ _ _ (T26.setTop (mkF m 131 #[.val (.long q0), .second, .val (.int p1), .val (.int p2), .val (.int p3), .val (.long q4), .second, .val (.int y2), .val (.int y3), .unset, .unset, .unset, .unset, .unset, .unset] [(.ref b4), (.ref b4)]))
  refine Goes.step (fun t k => XS.bipush X26.here hx rfl (hb hby at_131) k) ?_
  show Goes _ _ _ _ _ _ _ (T26.setTop (mkF m 133 #[.val (.long q0), .second, .val (.int p1), .val (.int p2), .val (.int p3), .val (.long q4), .second, .val (.int y2), .val (.int y3), .unset, .unset, .unset, .unset, .unset, .unset] [(.int (11 : Int32)), (.ref b4), (.ref b4)]))
  refine Goes.step (fun t k => XS.lload X26.here hx rfl (hb hby at_133) rfl k) ?_
  show Goes _ _ _ _ _ _ _ (T26.setTop (mkF m 135 #[.val (.long q0), .second, .val (.int p1), .val (.int p2), .val (.int p3), .val (.long q4), .second, .val (.int y2), .val (.int y3), .unset, .unset, .unset, .unset, .unset, .unset] [(.long q4), (.int (11 : Int32)), (.ref b4), (.ref b4)]))
  refine Goes.step (fun t k => XS.bipush X26.here hx rfl (hb hby at_135) k) ?_
  show Goes _ _ _ _ _ _ _ (T26.setTop (mkF m 137 #[.val (.long q0), .second, .val (.int p1), .val (.int p2), .val (.int p3), .val (.long q4), .second, .val (.int y2), .val (.int y3), .unset, .unset, .unset, .unset, .unset, .unset] [(.int (11 : Int32)), (.long q4), (.int (11 : Int32)), (.ref b4), (.ref b4)]))
  obtain ⟨_, _, ⟨T27, L27, k27, n27⟩, -, X27, ⟨Lc27, hQ27, l27, y27, z27⟩, st27⟩ := Jvm.LawKit.callS X26 hx (y := (⟨"com/example/double_prior/doubleprior/index/ReaderReadLongPinLaw", "j", "(JI)B"⟩ : MethodName)) hown (mvT hZ (hw _ (List.mem_of_getElem? (i := 2) rfl))) (mvT hZ (hw _ (List.mem_of_getElem? (i := 3) rfl))) (mvT hZ (hw _ (List.mem_of_getElem? (i := 4) rfl))) (mvT hZ (hw _ (List.mem_of_getElem? (i := 5) rfl))) (by decide) (backOf (W := 3) (rm1 l Z tA hw [] q4 (11 : Int32) h26) hZ (hw _ (List.mem_of_getElem? (i := 5) rfl)) (hw _ (List.mem_of_getElem? (i := 4) rfl)) (by decide) (by decide)) (g := (mkF m 137 #[.val (.long q0), .second, .val (.int p1), .val (.int p2), .val (.int p3), .val (.long q4), .second, .val (.int y2), .val (.int y3), .unset, .unset, .unset, .unset, .unset, .unset] [(.int (11 : Int32)), (.long q4), (.int (11 : Int32)), (.ref b4), (.ref b4)])) rfl (by rw [hml]; rfl) (argsL := [(.long q4), (.int (11 : Int32))]) (rest := [(.int (11 : Int32)), (.ref b4), (.ref b4)]) (lenOf own_pd0 rfl) rfl (by show 2 * 0 + _ ≤ _; exact Nat.le_of_eq rfl) (hb hby at_137) (fun _ _ => ⟨rfl, e26, (by decide : 1 + 0 ≤ _), (by decide : 16 + 0 ≤ _)⟩)
  dsimp only [Pt.U, Pt.locs, Pt.cells, Pt.slots] at X27 l27 y27 z27 st27 hQ27
  rw [l27, y27, z27] at X27
  obtain ⟨rfl, rfl, e27⟩ := hQ27
  try rw [List.append_nil] at X27
  change Stand _ _ _ _ _ _ _ _ _ _ _ _ 1 16 at X27
  refine Goes.step (fun t k => st27 t k) ?_
  show Goes _ _ _ _ _ _ _ (T27.setTop (mkF m 140 #[.val (.long q0), .second, .val (.int p1), .val (.int p2), .val (.int p3), .val (.long q4), .second, .val (.int y2), .val (.int y3), .unset, .unset, .unset, .unset, .unset, .unset] [(.int (f1 q4 (11 : Int32))), (.int (11 : Int32)), (.ref b4), (.ref b4)]))
  obtain ⟨cl28, Ar28, q28, ll28, ff28, oo28⟩ := id V26
  have hn28 : ¬ (11 : Int32) < 0 := by decide
  have hl28 : ((11 : Int32)).toNatClampNeg < ([(.int ((f1 q4 (0 : Int32)).toInt8.toInt32)), (.int ((f1 q4 (1 : Int32)).toInt8.toInt32)), (.int ((f1 q4 (2 : Int32)).toInt8.toInt32)), (.int ((f1 q4 (3 : Int32)).toInt8.toInt32)), (.int ((f1 q4 (4 : Int32)).toInt8.toInt32)), (.int ((f1 q4 (5 : Int32)).toInt8.toInt32)), (.int ((f1 q4 (6 : Int32)).toInt8.toInt32)), (.int ((f1 q4 (7 : Int32)).toInt8.toInt32)), (.int ((f1 q4 (8 : Int32)).toInt8.toInt32)), (.int ((f1 q4 (9 : Int32)).toInt8.toInt32)), (.int ((f1 q4 (10 : Int32)).toInt8.toInt32)), (.int (0 : Int32)), (.int (0 : Int32)), (.int (0 : Int32)), (.int (0 : Int32)), (.int (0 : Int32))] : List Value).length := by exact Nat.le_of_ble_eq_true rfl
  obtain ⟨T28, h28, X28, e28, W28, st28⟩ := stB X27 hx hZ e27 Ar28 (j := (11 : Int32)) (inb q28 hn28 hl28) (g := (mkF m 140 #[.val (.long q0), .second, .val (.int p1), .val (.int p2), .val (.int p3), .val (.long q4), .second, .val (.int y2), .val (.int y3), .unset, .unset, .unset, .unset, .unset, .unset] [(.int (f1 q4 (11 : Int32))), (.int (11 : Int32)), (.ref b4), (.ref b4)])) rfl rfl (hb hby at_140)
  have V28 : Ara Z h28 b4 .byte [(.int ((f1 q4 (0 : Int32)).toInt8.toInt32)), (.int ((f1 q4 (1 : Int32)).toInt8.toInt32)), (.int ((f1 q4 (2 : Int32)).toInt8.toInt32)), (.int ((f1 q4 (3 : Int32)).toInt8.toInt32)), (.int ((f1 q4 (4 : Int32)).toInt8.toInt32)), (.int ((f1 q4 (5 : Int32)).toInt8.toInt32)), (.int ((f1 q4 (6 : Int32)).toInt8.toInt32)), (.int ((f1 q4 (7 : Int32)).toInt8.toInt32)), (.int ((f1 q4 (8 : Int32)).toInt8.toInt32)), (.int ((f1 q4 (9 : Int32)).toInt8.toInt32)), (.int ((f1 q4 (10 : Int32)).toInt8.toInt32)), (.int ((f1 q4 (11 : Int32)).toInt8.toInt32)), (.int (0 : Int32)), (.int (0 : Int32)), (.int (0 : Int32)), (.int (0 : Int32))] := Ara.same (j := (11 : Int32)) Ar28 q28 ll28 ff28 oo28 (fits_nar_byte _) W28
  have K28 := K26.wr W28 (Or.inr Zh4)
  have N28 := Fr.snoc X28 N26 Zs4
  have Z28 := Nat.le_trans Z26 (Nat.le_of_eq W28.size.symm)
  refine Goes.step (fun t k => st28 t k) ?_
  show Goes _ _ _ _ _ _ _ (T28.setTop (mkF m 141 #[.val (.long q0), .second, .val (.int p1), .val (.int p2), .val (.int p3), .val (.long q4), .second, .val (.int y2), .val (.int y3), .unset, .unset, .unset, .unset, .unset, .unset] [(.ref b4)]))
  refine Goes.step (fun t k => XS.dup X28.here hx rfl (hb hby at_141) rfl rfl k) ?_
  show Goes _ _ _ _ _ _ _ (T28.setTop (mkF m 142 #[.val (.long q0), .second, .val (.int p1), .val (.int p2), .val (.int p3), .val (.long q4), .second, .val (.int y2), .val (.int y3), .unset, .unset, .unset, .unset, .unset, .unset] [(.ref b4), (.ref b4)]))
  refine Goes.step (fun t k => XS.bipush X28.here hx rfl (hb hby at_142) k) ?_
  show Goes _ _ _ _ _ _ _ (T28.setTop (mkF m 144 #[.val (.long q0), .second, .val (.int p1), .val (.int p2), .val (.int p3), .val (.long q4), .second, .val (.int y2), .val (.int y3), .unset, .unset, .unset, .unset, .unset, .unset] [(.int (12 : Int32)), (.ref b4), (.ref b4)]))
  refine Goes.step (fun t k => XS.lload X28.here hx rfl (hb hby at_144) rfl k) ?_
  show Goes _ _ _ _ _ _ _ (T28.setTop (mkF m 146 #[.val (.long q0), .second, .val (.int p1), .val (.int p2), .val (.int p3), .val (.long q4), .second, .val (.int y2), .val (.int y3), .unset, .unset, .unset, .unset, .unset, .unset] [(.long q4), (.int (12 : Int32)), (.ref b4), (.ref b4)]))
  refine Goes.step (fun t k => XS.bipush X28.here hx rfl (hb hby at_146) k) ?_
  show Goes _ _ _ _ _ _ _ (T28.setTop (mkF m 148 #[.val (.long q0), .second, .val (.int p1), .val (.int p2), .val (.int p3), .val (.long q4), .second, .val (.int y2), .val (.int y3), .unset, .unset, .unset, .unset, .unset, .unset] [(.int (12 : Int32)), (.long q4), (.int (12 : Int32)), (.ref b4), (.ref b4)]))
  obtain ⟨_, _, ⟨T29, L29, k29, n29⟩, -, X29, ⟨Lc29, hQ29, l29, y29, z29⟩, st29⟩ := Jvm.LawKit.callS X28 hx (y := (⟨"com/example/double_prior/doubleprior/index/ReaderReadLongPinLaw", "j", "(JI)B"⟩ : MethodName)) hown (mvT hZ (hw _ (List.mem_of_getElem? (i := 2) rfl))) (mvT hZ (hw _ (List.mem_of_getElem? (i := 3) rfl))) (mvT hZ (hw _ (List.mem_of_getElem? (i := 4) rfl))) (mvT hZ (hw _ (List.mem_of_getElem? (i := 5) rfl))) (by decide) (backOf (W := 3) (rm1 l Z tA hw [] q4 (12 : Int32) h28) hZ (hw _ (List.mem_of_getElem? (i := 5) rfl)) (hw _ (List.mem_of_getElem? (i := 4) rfl)) (by decide) (by decide)) (g := (mkF m 148 #[.val (.long q0), .second, .val (.int p1), .val (.int p2), .val (.int p3), .val (.long q4), .second, .val (.int y2), .val (.int y3), .unset, .unset, .unset, .unset, .unset, .unset] [(.int (12 : Int32)), (.long q4), (.int (12 : Int32)), (.ref b4), (.ref b4)])) rfl (by rw [hml]; rfl) (argsL := [(.long q4), (.int (12 : Int32))]) (rest := [(.int (12 : Int32)), (.ref b4), (.ref b4)]) (lenOf own_pd0 rfl) rfl (by show 2 * 0 + _ ≤ _; exact Nat.le_of_eq rfl) (hb hby at_148) (fun _ _ => ⟨rfl, e28, (by decide : 1 + 0 ≤ _), (by decide : 16 + 0 ≤ _)⟩)
  dsimp only [Pt.U, Pt.locs, Pt.cells, Pt.slots] at X29 l29 y29 z29 st29 hQ29
  rw [l29, y29, z29] at X29
  obtain ⟨rfl, rfl, e29⟩ := hQ29
  try rw [List.append_nil] at X29
  change Stand _ _ _ _ _ _ _ _ _ _ _ _ 1 16 at X29
  refine Goes.step (fun t k => st29 t k) ?_
  show Goes _ _ _ _ _ _ _ (T29.setTop (mkF m 151 #[.val (.long q0), .second, .val (.int p1), .val (.int p2), .val (.int p3), .val (.long q4), .second, .val (.int y2), .val (.int y3), .unset, .unset, .unset, .unset, .unset, .unset] [(.int (f1 q4 (12 : Int32))), (.int (12 : Int32)), (.ref b4), (.ref b4)]))
  obtain ⟨cl30, Ar30, q30, ll30, ff30, oo30⟩ := id V28
  have hn30 : ¬ (12 : Int32) < 0 := by decide
  have hl30 : ((12 : Int32)).toNatClampNeg < ([(.int ((f1 q4 (0 : Int32)).toInt8.toInt32)), (.int ((f1 q4 (1 : Int32)).toInt8.toInt32)), (.int ((f1 q4 (2 : Int32)).toInt8.toInt32)), (.int ((f1 q4 (3 : Int32)).toInt8.toInt32)), (.int ((f1 q4 (4 : Int32)).toInt8.toInt32)), (.int ((f1 q4 (5 : Int32)).toInt8.toInt32)), (.int ((f1 q4 (6 : Int32)).toInt8.toInt32)), (.int ((f1 q4 (7 : Int32)).toInt8.toInt32)), (.int ((f1 q4 (8 : Int32)).toInt8.toInt32)), (.int ((f1 q4 (9 : Int32)).toInt8.toInt32)), (.int ((f1 q4 (10 : Int32)).toInt8.toInt32)), (.int ((f1 q4 (11 : Int32)).toInt8.toInt32)), (.int (0 : Int32)), (.int (0 : Int32)), (.int (0 : Int32)), (.int (0 : Int32))] : List Value).length := by exact Nat.le_of_ble_eq_true rfl
  obtain ⟨T30, h30, X30, e30, W30, st30⟩ := stB X29 hx hZ e29 Ar30 (j := (12 : Int32)) (inb q30 hn30 hl30) (g := (mkF m 151 #[.val (.long q0), .second, .val (.int p1), .val (.int p2), .val (.int p3), .val (.long q4), .second, .val (.int y2), .val (.int y3), .unset, .unset, .unset, .unset, .unset, .unset] [(.int (f1 q4 (12 : Int32))), (.int (12 : Int32)), (.ref b4), (.ref b4)])) rfl rfl (hb hby at_151)
  have V30 : Ara Z h30 b4 .byte [(.int ((f1 q4 (0 : Int32)).toInt8.toInt32)), (.int ((f1 q4 (1 : Int32)).toInt8.toInt32)), (.int ((f1 q4 (2 : Int32)).toInt8.toInt32)), (.int ((f1 q4 (3 : Int32)).toInt8.toInt32)), (.int ((f1 q4 (4 : Int32)).toInt8.toInt32)), (.int ((f1 q4 (5 : Int32)).toInt8.toInt32)), (.int ((f1 q4 (6 : Int32)).toInt8.toInt32)), (.int ((f1 q4 (7 : Int32)).toInt8.toInt32)), (.int ((f1 q4 (8 : Int32)).toInt8.toInt32)), (.int ((f1 q4 (9 : Int32)).toInt8.toInt32)), (.int ((f1 q4 (10 : Int32)).toInt8.toInt32)), (.int ((f1 q4 (11 : Int32)).toInt8.toInt32)), (.int ((f1 q4 (12 : Int32)).toInt8.toInt32)), (.int (0 : Int32)), (.int (0 : Int32)), (.int (0 : Int32))] := Ara.same (j := (12 : Int32)) Ar30 q30 ll30 ff30 oo30 (fits_nar_byte _) W30
  have K30 := K28.wr W30 (Or.inr Zh4)
  have N30 := Fr.snoc X30 N28 Zs4
  have Z30 := Nat.le_trans Z28 (Nat.le_of_eq W30.size.symm)
  refine Goes.step (fun t k => st30 t k) ?_
  show Goes _ _ _ _ _ _ _ (T30.setTop (mkF m 152 #[.val (.long q0), .second, .val (.int p1), .val (.int p2), .val (.int p3), .val (.long q4), .second, .val (.int y2), .val (.int y3), .unset, .unset, .unset, .unset, .unset, .unset] [(.ref b4)]))
  refine Goes.step (fun t k => XS.dup X30.here hx rfl (hb hby at_152) rfl rfl k) ?_
  show Goes _ _ _ _ _ _ _ (T30.setTop (mkF m 153 #[.val (.long q0), .second, .val (.int p1), .val (.int p2), .val (.int p3), .val (.long q4), .second, .val (.int y2), .val (.int y3), .unset, .unset, .unset, .unset, .unset, .unset] [(.ref b4), (.ref b4)]))
  refine Goes.step (fun t k => XS.bipush X30.here hx rfl (hb hby at_153) k) ?_
  show Goes _ _ _ _ _ _ _ (T30.setTop (mkF m 155 #[.val (.long q0), .second, .val (.int p1), .val (.int p2), .val (.int p3), .val (.long q4), .second, .val (.int y2), .val (.int y3), .unset, .unset, .unset, .unset, .unset, .unset] [(.int (13 : Int32)), (.ref b4), (.ref b4)]))
  refine Goes.step (fun t k => XS.lload X30.here hx rfl (hb hby at_155) rfl k) ?_
  show Goes _ _ _ _ _ _ _ (T30.setTop (mkF m 157 #[.val (.long q0), .second, .val (.int p1), .val (.int p2), .val (.int p3), .val (.long q4), .second, .val (.int y2), .val (.int y3), .unset, .unset, .unset, .unset, .unset, .unset] [(.long q4), (.int (13 : Int32)), (.ref b4), (.ref b4)]))
  refine Goes.step (fun t k => XS.bipush X30.here hx rfl (hb hby at_157) k) ?_
  show Goes _ _ _ _ _ _ _ (T30.setTop (mkF m 159 #[.val (.long q0), .second, .val (.int p1), .val (.int p2), .val (.int p3), .val (.long q4), .second, .val (.int y2), .val (.int y3), .unset, .unset, .unset, .unset, .unset, .unset] [(.int (13 : Int32)), (.long q4), (.int (13 : Int32)), (.ref b4), (.ref b4)]))
  obtain ⟨_, _, ⟨T31, L31, k31, n31⟩, -, X31, ⟨Lc31, hQ31, l31, y31, z31⟩, st31⟩ := Jvm.LawKit.callS X30 hx (y := (⟨"com/example/double_prior/doubleprior/index/ReaderReadLongPinLaw", "j", "(JI)B"⟩ : MethodName)) hown (mvT hZ (hw _ (List.mem_of_getElem? (i := 2) rfl))) (mvT hZ (hw _ (List.mem_of_getElem? (i := 3) rfl))) (mvT hZ (hw _ (List.mem_of_getElem? (i := 4) rfl))) (mvT hZ (hw _ (List.mem_of_getElem? (i := 5) rfl))) (by decide) (backOf (W := 3) (rm1 l Z tA hw [] q4 (13 : Int32) h30) hZ (hw _ (List.mem_of_getElem? (i := 5) rfl)) (hw _ (List.mem_of_getElem? (i := 4) rfl)) (by decide) (by decide)) (g := (mkF m 159 #[.val (.long q0), .second, .val (.int p1), .val (.int p2), .val (.int p3), .val (.long q4), .second, .val (.int y2), .val (.int y3), .unset, .unset, .unset, .unset, .unset, .unset] [(.int (13 : Int32)), (.long q4), (.int (13 : Int32)), (.ref b4), (.ref b4)])) rfl (by rw [hml]; rfl) (argsL := [(.long q4), (.int (13 : Int32))]) (rest := [(.int (13 : Int32)), (.ref b4), (.ref b4)]) (lenOf own_pd0 rfl) rfl (by show 2 * 0 + _ ≤ _; exact Nat.le_of_eq rfl) (hb hby at_159) (fun _ _ => ⟨rfl, e30, (by decide : 1 + 0 ≤ _), (by decide : 16 + 0 ≤ _)⟩)
  dsimp only [Pt.U, Pt.locs, Pt.cells, Pt.slots] at X31 l31 y31 z31 st31 hQ31
  rw [l31, y31, z31] at X31
  obtain ⟨rfl, rfl, e31⟩ := hQ31
  try rw [List.append_nil] at X31
  change Stand _ _ _ _ _ _ _ _ _ _ _ _ 1 16 at X31
  refine Goes.step (fun t k => st31 t k) ?_
  show Goes _ _ _ _ _ _ _ (T31.setTop (mkF m 162 #[.val (.long q0), .second, .val (.int p1), .val (.int p2), .val (.int p3), .val (.long q4), .second, .val (.int y2), .val (.int y3), .unset, .unset, .unset, .unset, .unset, .unset] [(.int (f1 q4 (13 : Int32))), (.int (13 : Int32)), (.ref b4), (.ref b4)]))
  obtain ⟨cl32, Ar32, q32, ll32, ff32, oo32⟩ := id V30
  have hn32 : ¬ (13 : Int32) < 0 := by decide
  have hl32 : ((13 : Int32)).toNatClampNeg < ([(.int ((f1 q4 (0 : Int32)).toInt8.toInt32)), (.int ((f1 q4 (1 : Int32)).toInt8.toInt32)), (.int ((f1 q4 (2 : Int32)).toInt8.toInt32)), (.int ((f1 q4 (3 : Int32)).toInt8.toInt32)), (.int ((f1 q4 (4 : Int32)).toInt8.toInt32)), (.int ((f1 q4 (5 : Int32)).toInt8.toInt32)), (.int ((f1 q4 (6 : Int32)).toInt8.toInt32)), (.int ((f1 q4 (7 : Int32)).toInt8.toInt32)), (.int ((f1 q4 (8 : Int32)).toInt8.toInt32)), (.int ((f1 q4 (9 : Int32)).toInt8.toInt32)), (.int ((f1 q4 (10 : Int32)).toInt8.toInt32)), (.int ((f1 q4 (11 : Int32)).toInt8.toInt32)), (.int ((f1 q4 (12 : Int32)).toInt8.toInt32)), (.int (0 : Int32)), (.int (0 : Int32)), (.int (0 : Int32))] : List Value).length := by exact Nat.le_of_ble_eq_true rfl
  obtain ⟨T32, h32, X32, e32, W32, st32⟩ := stB X31 hx hZ e31 Ar32 (j := (13 : Int32)) (inb q32 hn32 hl32) (g := (mkF m 162 #[.val (.long q0), .second, .val (.int p1), .val (.int p2), .val (.int p3), .val (.long q4), .second, .val (.int y2), .val (.int y3), .unset, .unset, .unset, .unset, .unset, .unset] [(.int (f1 q4 (13 : Int32))), (.int (13 : Int32)), (.ref b4), (.ref b4)])) rfl rfl (hb hby at_162)
  have V32 : Ara Z h32 b4 .byte [(.int ((f1 q4 (0 : Int32)).toInt8.toInt32)), (.int ((f1 q4 (1 : Int32)).toInt8.toInt32)), (.int ((f1 q4 (2 : Int32)).toInt8.toInt32)), (.int ((f1 q4 (3 : Int32)).toInt8.toInt32)), (.int ((f1 q4 (4 : Int32)).toInt8.toInt32)), (.int ((f1 q4 (5 : Int32)).toInt8.toInt32)), (.int ((f1 q4 (6 : Int32)).toInt8.toInt32)), (.int ((f1 q4 (7 : Int32)).toInt8.toInt32)), (.int ((f1 q4 (8 : Int32)).toInt8.toInt32)), (.int ((f1 q4 (9 : Int32)).toInt8.toInt32)), (.int ((f1 q4 (10 : Int32)).toInt8.toInt32)), (.int ((f1 q4 (11 : Int32)).toInt8.toInt32)), (.int ((f1 q4 (12 : Int32)).toInt8.toInt32)), (.int ((f1 q4 (13 : Int32)).toInt8.toInt32)), (.int (0 : Int32)), (.int (0 : Int32))] := Ara.same (j := (13 : Int32)) Ar32 q32 ll32 ff32 oo32 (fits_nar_byte _) W32
  have K32 := K30.wr W32 (Or.inr Zh4)
  have N32 := Fr.snoc X32 N30 Zs4
  have Z32 := Nat.le_trans Z30 (Nat.le_of_eq W32.size.symm)
  refine Goes.step (fun t k => st32 t k) ?_
  show Goes _ _ _ _ _ _ _ (T32.setTop (mkF m 163 #[.val (.long q0), .second, .val (.int p1), .val (.int p2), .val (.int p3), .val (.long q4), .second, .val (.int y2), .val (.int y3), .unset, .unset, .unset, .unset, .unset, .unset] [(.ref b4)]))
  refine Goes.step (fun t k => XS.dup X32.here hx rfl (hb hby at_163) rfl rfl k) ?_
  show Goes _ _ _ _ _ _ _ (T32.setTop (mkF m 164 #[.val (.long q0), .second, .val (.int p1), .val (.int p2), .val (.int p3), .val (.long q4), .second, .val (.int y2), .val (.int y3), .unset, .unset, .unset, .unset, .unset, .unset] [(.ref b4), (.ref b4)]))
  refine Goes.step (fun t k => XS.bipush X32.here hx rfl (hb hby at_164) k) ?_
  show Goes _ _ _ _ _ _ _ (T32.setTop (mkF m 166 #[.val (.long q0), .second, .val (.int p1), .val (.int p2), .val (.int p3), .val (.long q4), .second, .val (.int y2), .val (.int y3), .unset, .unset, .unset, .unset, .unset, .unset] [(.int (14 : Int32)), (.ref b4), (.ref b4)]))
  refine Goes.step (fun t k => XS.lload X32.here hx rfl (hb hby at_166) rfl k) ?_
  show Goes _ _ _ _ _ _ _ (T32.setTop (mkF m 168 #[.val (.long q0), .second, .val (.int p1), .val (.int p2), .val (.int p3), .val (.long q4), .second, .val (.int y2), .val (.int y3), .unset, .unset, .unset, .unset, .unset, .unset] [(.long q4), (.int (14 : Int32)), (.ref b4), (.ref b4)]))
  refine Goes.step (fun t k => XS.bipush X32.here hx rfl (hb hby at_168) k) ?_
  show Goes _ _ _ _ _ _ _ (T32.setTop (mkF m 170 #[.val (.long q0), .second, .val (.int p1), .val (.int p2), .val (.int p3), .val (.long q4), .second, .val (.int y2), .val (.int y3), .unset, .unset, .unset, .unset, .unset, .unset] [(.int (14 : Int32)), (.long q4), (.int (14 : Int32)), (.ref b4), (.ref b4)]))
  obtain ⟨_, _, ⟨T33, L33, k33, n33⟩, -, X33, ⟨Lc33, hQ33, l33, y33, z33⟩, st33⟩ := Jvm.LawKit.callS X32 hx (y := (⟨"com/example/double_prior/doubleprior/index/ReaderReadLongPinLaw", "j", "(JI)B"⟩ : MethodName)) hown (mvT hZ (hw _ (List.mem_of_getElem? (i := 2) rfl))) (mvT hZ (hw _ (List.mem_of_getElem? (i := 3) rfl))) (mvT hZ (hw _ (List.mem_of_getElem? (i := 4) rfl))) (mvT hZ (hw _ (List.mem_of_getElem? (i := 5) rfl))) (by decide) (backOf (W := 3) (rm1 l Z tA hw [] q4 (14 : Int32) h32) hZ (hw _ (List.mem_of_getElem? (i := 5) rfl)) (hw _ (List.mem_of_getElem? (i := 4) rfl)) (by decide) (by decide)) (g := (mkF m 170 #[.val (.long q0), .second, .val (.int p1), .val (.int p2), .val (.int p3), .val (.long q4), .second, .val (.int y2), .val (.int y3), .unset, .unset, .unset, .unset, .unset, .unset] [(.int (14 : Int32)), (.long q4), (.int (14 : Int32)), (.ref b4), (.ref b4)])) rfl (by rw [hml]; rfl) (argsL := [(.long q4), (.int (14 : Int32))]) (rest := [(.int (14 : Int32)), (.ref b4), (.ref b4)]) (lenOf own_pd0 rfl) rfl (by show 2 * 0 + _ ≤ _; exact Nat.le_of_eq rfl) (hb hby at_170) (fun _ _ => ⟨rfl, e32, (by decide : 1 + 0 ≤ _), (by decide : 16 + 0 ≤ _)⟩)
  dsimp only [Pt.U, Pt.locs, Pt.cells, Pt.slots] at X33 l33 y33 z33 st33 hQ33
  rw [l33, y33, z33] at X33
  obtain ⟨rfl, rfl, e33⟩ := hQ33
  try rw [List.append_nil] at X33
  change Stand _ _ _ _ _ _ _ _ _ _ _ _ 1 16 at X33
  refine Goes.step (fun t k => st33 t k) ?_
  show Goes _ _ _ _ _ _ _ (T33.setTop (mkF m 173 #[.val (.long q0), .second, .val (.int p1), .val (.int p2), .val (.int p3), .val (.long q4), .second, .val (.int y2), .val (.int y3), .unset, .unset, .unset, .unset, .unset, .unset] [(.int (f1 q4 (14 : Int32))), (.int (14 : Int32)), (.ref b4), (.ref b4)]))
  obtain ⟨cl34, Ar34, q34, ll34, ff34, oo34⟩ := id V32
  have hn34 : ¬ (14 : Int32) < 0 := by decide
  have hl34 : ((14 : Int32)).toNatClampNeg < ([(.int ((f1 q4 (0 : Int32)).toInt8.toInt32)), (.int ((f1 q4 (1 : Int32)).toInt8.toInt32)), (.int ((f1 q4 (2 : Int32)).toInt8.toInt32)), (.int ((f1 q4 (3 : Int32)).toInt8.toInt32)), (.int ((f1 q4 (4 : Int32)).toInt8.toInt32)), (.int ((f1 q4 (5 : Int32)).toInt8.toInt32)), (.int ((f1 q4 (6 : Int32)).toInt8.toInt32)), (.int ((f1 q4 (7 : Int32)).toInt8.toInt32)), (.int ((f1 q4 (8 : Int32)).toInt8.toInt32)), (.int ((f1 q4 (9 : Int32)).toInt8.toInt32)), (.int ((f1 q4 (10 : Int32)).toInt8.toInt32)), (.int ((f1 q4 (11 : Int32)).toInt8.toInt32)), (.int ((f1 q4 (12 : Int32)).toInt8.toInt32)), (.int ((f1 q4 (13 : Int32)).toInt8.toInt32)), (.int (0 : Int32)), (.int (0 : Int32))] : List Value).length := by exact Nat.le_of_ble_eq_true rfl
  obtain ⟨T34, h34, X34, e34, W34, st34⟩ := stB X33 hx hZ e33 Ar34 (j := (14 : Int32)) (inb q34 hn34 hl34) (g := (mkF m 173 #[.val (.long q0), .second, .val (.int p1), .val (.int p2), .val (.int p3), .val (.long q4), .second, .val (.int y2), .val (.int y3), .unset, .unset, .unset, .unset, .unset, .unset] [(.int (f1 q4 (14 : Int32))), (.int (14 : Int32)), (.ref b4), (.ref b4)])) rfl rfl (hb hby at_173)
  have V34 : Ara Z h34 b4 .byte [(.int ((f1 q4 (0 : Int32)).toInt8.toInt32)), (.int ((f1 q4 (1 : Int32)).toInt8.toInt32)), (.int ((f1 q4 (2 : Int32)).toInt8.toInt32)), (.int ((f1 q4 (3 : Int32)).toInt8.toInt32)), (.int ((f1 q4 (4 : Int32)).toInt8.toInt32)), (.int ((f1 q4 (5 : Int32)).toInt8.toInt32)), (.int ((f1 q4 (6 : Int32)).toInt8.toInt32)), (.int ((f1 q4 (7 : Int32)).toInt8.toInt32)), (.int ((f1 q4 (8 : Int32)).toInt8.toInt32)), (.int ((f1 q4 (9 : Int32)).toInt8.toInt32)), (.int ((f1 q4 (10 : Int32)).toInt8.toInt32)), (.int ((f1 q4 (11 : Int32)).toInt8.toInt32)), (.int ((f1 q4 (12 : Int32)).toInt8.toInt32)), (.int ((f1 q4 (13 : Int32)).toInt8.toInt32)), (.int ((f1 q4 (14 : Int32)).toInt8.toInt32)), (.int (0 : Int32))] := Ara.same (j := (14 : Int32)) Ar34 q34 ll34 ff34 oo34 (fits_nar_byte _) W34
  have K34 := K32.wr W34 (Or.inr Zh4)
  have N34 := Fr.snoc X34 N32 Zs4
  have Z34 := Nat.le_trans Z32 (Nat.le_of_eq W34.size.symm)
  refine Goes.step (fun t k => st34 t k) ?_
  show Goes _ _ _ _ _ _ _ (T34.setTop (mkF m 174 #[.val (.long q0), .second, .val (.int p1), .val (.int p2), .val (.int p3), .val (.long q4), .second, .val (.int y2), .val (.int y3), .unset, .unset, .unset, .unset, .unset, .unset] [(.ref b4)]))
  refine Goes.step (fun t k => XS.dup X34.here hx rfl (hb hby at_174) rfl rfl k) ?_
  show Goes _ _ _ _ _ _ _ (T34.setTop (mkF m 175 #[.val (.long q0), .second, .val (.int p1), .val (.int p2), .val (.int p3), .val (.long q4), .second, .val (.int y2), .val (.int y3), .unset, .unset, .unset, .unset, .unset, .unset] [(.ref b4), (.ref b4)]))
  refine Goes.step (fun t k => XS.bipush X34.here hx rfl (hb hby at_175) k) ?_
  show Goes _ _ _ _ _ _ _ (T34.setTop (mkF m 177 #[.val (.long q0), .second, .val (.int p1), .val (.int p2), .val (.int p3), .val (.long q4), .second, .val (.int y2), .val (.int y3), .unset, .unset, .unset, .unset, .unset, .unset] [(.int (15 : Int32)), (.ref b4), (.ref b4)]))
  refine Goes.step (fun t k => XS.lload X34.here hx rfl (hb hby at_177) rfl k) ?_
  show Goes _ _ _ _ _ _ _ (T34.setTop (mkF m 179 #[.val (.long q0), .second, .val (.int p1), .val (.int p2), .val (.int p3), .val (.long q4), .second, .val (.int y2), .val (.int y3), .unset, .unset, .unset, .unset, .unset, .unset] [(.long q4), (.int (15 : Int32)), (.ref b4), (.ref b4)]))
  refine Goes.step (fun t k => XS.bipush X34.here hx rfl (hb hby at_179) k) ?_
  show Goes _ _ _ _ _ _ _ (T34.setTop (mkF m 181 #[.val (.long q0), .second, .val (.int p1), .val (.int p2), .val (.int p3), .val (.long q4), .second, .val (.int y2), .val (.int y3), .unset, .unset, .unset, .unset, .unset, .unset] [(.int (15 : Int32)), (.long q4), (.int (15 : Int32)), (.ref b4), (.ref b4)]))
  obtain ⟨_, _, ⟨T35, L35, k35, n35⟩, -, X35, ⟨Lc35, hQ35, l35, y35, z35⟩, st35⟩ := Jvm.LawKit.callS X34 hx (y := (⟨"com/example/double_prior/doubleprior/index/ReaderReadLongPinLaw", "j", "(JI)B"⟩ : MethodName)) hown (mvT hZ (hw _ (List.mem_of_getElem? (i := 2) rfl))) (mvT hZ (hw _ (List.mem_of_getElem? (i := 3) rfl))) (mvT hZ (hw _ (List.mem_of_getElem? (i := 4) rfl))) (mvT hZ (hw _ (List.mem_of_getElem? (i := 5) rfl))) (by decide) (backOf (W := 3) (rm1 l Z tA hw [] q4 (15 : Int32) h34) hZ (hw _ (List.mem_of_getElem? (i := 5) rfl)) (hw _ (List.mem_of_getElem? (i := 4) rfl)) (by decide) (by decide)) (g := (mkF m 181 #[.val (.long q0), .second, .val (.int p1), .val (.int p2), .val (.int p3), .val (.long q4), .second, .val (.int y2), .val (.int y3), .unset, .unset, .unset, .unset, .unset, .unset] [(.int (15 : Int32)), (.long q4), (.int (15 : Int32)), (.ref b4), (.ref b4)])) rfl (by rw [hml]; rfl) (argsL := [(.long q4), (.int (15 : Int32))]) (rest := [(.int (15 : Int32)), (.ref b4), (.ref b4)]) (lenOf own_pd0 rfl) rfl (by show 2 * 0 + _ ≤ _; exact Nat.le_of_eq rfl) (hb hby at_181) (fun _ _ => ⟨rfl, e34, (by decide : 1 + 0 ≤ _), (by decide : 16 + 0 ≤ _)⟩)
  dsimp only [Pt.U, Pt.locs, Pt.cells, Pt.slots] at X35 l35 y35 z35 st35 hQ35
  rw [l35, y35, z35] at X35
  obtain ⟨rfl, rfl, e35⟩ := hQ35
  try rw [List.append_nil] at X35
  change Stand _ _ _ _ _ _ _ _ _ _ _ _ 1 16 at X35
  refine Goes.step (fun t k => st35 t k) ?_
  show Goes _ _ _ _ _ _ _ (T35.setTop (mkF m 184 #[.val (.long q0), .second, .val (.int p1), .val (.int p2), .val (.int p3), .val (.long q4), .second, .val (.int y2), .val (.int y3), .unset, .unset, .unset, .unset, .unset, .unset] [(.int (f1 q4 (15 : Int32))), (.int (15 : Int32)), (.ref b4), (.ref b4)]))
  obtain ⟨cl36, Ar36, q36, ll36, ff36, oo36⟩ := id V34
  have hn36 : ¬ (15 : Int32) < 0 := by decide
  have hl36 : ((15 : Int32)).toNatClampNeg < ([(.int ((f1 q4 (0 : Int32)).toInt8.toInt32)), (.int ((f1 q4 (1 : Int32)).toInt8.toInt32)), (.int ((f1 q4 (2 : Int32)).toInt8.toInt32)), (.int ((f1 q4 (3 : Int32)).toInt8.toInt32)), (.int ((f1 q4 (4 : Int32)).toInt8.toInt32)), (.int ((f1 q4 (5 : Int32)).toInt8.toInt32)), (.int ((f1 q4 (6 : Int32)).toInt8.toInt32)), (.int ((f1 q4 (7 : Int32)).toInt8.toInt32)), (.int ((f1 q4 (8 : Int32)).toInt8.toInt32)), (.int ((f1 q4 (9 : Int32)).toInt8.toInt32)), (.int ((f1 q4 (10 : Int32)).toInt8.toInt32)), (.int ((f1 q4 (11 : Int32)).toInt8.toInt32)), (.int ((f1 q4 (12 : Int32)).toInt8.toInt32)), (.int ((f1 q4 (13 : Int32)).toInt8.toInt32)), (.int ((f1 q4 (14 : Int32)).toInt8.toInt32)), (.int (0 : Int32))] : List Value).length := by exact Nat.le_of_ble_eq_true rfl
  obtain ⟨T36, h36, X36, e36, W36, st36⟩ := stB X35 hx hZ e35 Ar36 (j := (15 : Int32)) (inb q36 hn36 hl36) (g := (mkF m 184 #[.val (.long q0), .second, .val (.int p1), .val (.int p2), .val (.int p3), .val (.long q4), .second, .val (.int y2), .val (.int y3), .unset, .unset, .unset, .unset, .unset, .unset] [(.int (f1 q4 (15 : Int32))), (.int (15 : Int32)), (.ref b4), (.ref b4)])) rfl rfl (hb hby at_184)
  have V36 : Ara Z h36 b4 .byte [(.int ((f1 q4 (0 : Int32)).toInt8.toInt32)), (.int ((f1 q4 (1 : Int32)).toInt8.toInt32)), (.int ((f1 q4 (2 : Int32)).toInt8.toInt32)), (.int ((f1 q4 (3 : Int32)).toInt8.toInt32)), (.int ((f1 q4 (4 : Int32)).toInt8.toInt32)), (.int ((f1 q4 (5 : Int32)).toInt8.toInt32)), (.int ((f1 q4 (6 : Int32)).toInt8.toInt32)), (.int ((f1 q4 (7 : Int32)).toInt8.toInt32)), (.int ((f1 q4 (8 : Int32)).toInt8.toInt32)), (.int ((f1 q4 (9 : Int32)).toInt8.toInt32)), (.int ((f1 q4 (10 : Int32)).toInt8.toInt32)), (.int ((f1 q4 (11 : Int32)).toInt8.toInt32)), (.int ((f1 q4 (12 : Int32)).toInt8.toInt32)), (.int ((f1 q4 (13 : Int32)).toInt8.toInt32)), (.int ((f1 q4 (14 : Int32)).toInt8.toInt32)), (.int ((f1 q4 (15 : Int32)).toInt8.toInt32))] := Ara.same (j := (15 : Int32)) Ar36 q36 ll36 ff36 oo36 (fits_nar_byte _) W36
  have K36 := K34.wr W36 (Or.inr Zh4)
  have N36 := Fr.snoc X36 N34 Zs4
  have Z36 := Nat.le_trans Z34 (Nat.le_of_eq W36.size.symm)
  refine Goes.step (fun t k => st36 t k) ?_
  show Goes _ _ _ _ _ _ _ (T36.setTop (mkF m 185 #[.val (.long q0), .second, .val (.int p1), .val (.int p2), .val (.int p3), .val (.long q4), .second, .val (.int y2), .val (.int y3), .unset, .unset, .unset, .unset, .unset, .unset] [(.ref b4)]))
  refine Goes.step (fun t k => XS.astore X36.here hx rfl (hb hby at_185) rfl rfl (l' := #[.val (.long q0), .second, .val (.int p1), .val (.int p2), .val (.int p3), .val (.long q4), .second, .val (.int y2), .val (.int y3), .val (.ref b4), .unset, .unset, .unset, .unset, .unset]) rfl k) ?_
  show Goes _ _ _ _ _ _ _ (T36.setTop (mkF m 187 #[.val (.long q0), .second, .val (.int p1), .val (.int p2), .val (.int p3), .val (.long q4), .second, .val (.int y2), .val (.int y3), .val (.ref b4), .unset, .unset, .unset, .unset, .unset] []))
  refine Goes.step (fun t k => XS.aload X36.here hx rfl (hb hby at_187) rfl rfl k) ?_
  show Goes _ _ _ _ _ _ _ (T36.setTop (mkF m 189 #[.val (.long q0), .second, .val (.int p1), .val (.int p2), .val (.int p3), .val (.long q4), .second, .val (.int y2), .val (.int y3), .val (.ref b4), .unset, .unset, .unset, .unset, .unset] [(.ref b4)]))
  refine Goes.step (fun t k => XS.iload X36.here hx rfl (hb hby at_189) rfl k) ?_
  show Goes _ _ _ _ _ _ _ (T36.setTop (mkF m 191 #[.val (.long q0), .second, .val (.int p1), .val (.int p2), .val (.int p3), .val (.long q4), .second, .val (.int y2), .val (.int y3), .val (.ref b4), .unset, .unset, .unset, .unset, .unset] [(.int y3), (.ref b4)]))
  refine Goes.step (fun t k => XS.iconst X36.here hx rfl (hb hby at_191) k) ?_
  show Goes _ _ _ _ _ _ _ (T36.setTop (mkF m 192 #[.val (.long q0), .second, .val (.int p1), .val (.int p2), .val (.int p3), .val (.long q4), .second, .val (.int y2), .val (.int y3), .val (.ref b4), .unset, .unset, .unset, .unset, .unset] [(.int (0 : Int32)), (.int y3), (.ref b4)]))
  refine Goes.step (fun t k => XS.iload X36.here hx rfl (hb hby at_192) rfl k) ?_
  show Goes _ _ _ _ _ _ _ (T36.setTop (mkF m 194 #[.val (.long q0), .second, .val (.int p1), .val (.int p2), .val (.int p3), .val (.long q4), .second, .val (.int y2), .val (.int y3), .val (.ref b4), .unset, .unset, .unset, .unset, .unset] [(.int y2), (.int (0 : Int32)), (.int y3), (.ref b4)]))
  refine Goes.step (fun t k => XS.lloadN X36.here hx rfl (hb hby at_194) rfl k) ?_
  show Goes _ _ _ _ _ _ _ (T36.setTop (mkF m 195 #[.val (.long q0), .second, .val (.int p1), .val (.int p2), .val (.int p3), .val (.long q4), .second, .val (.int y2), .val (.int y3), .val (.ref b4), .unset, .unset, .unset, .unset, .unset] [(.long q0), (.int y2), (.int (0 : Int32)), (.int y3), (.ref b4)]))
  refine Goes.step (fun t k => XS.iconst X36.here hx rfl (hb hby at_195) k) ?_
  show Goes _ _ _ _ _ _ _ (T36.setTop (mkF m 196 #[.val (.long q0), .second, .val (.int p1), .val (.int p2), .val (.int p3), .val (.long q4), .second, .val (.int y2), .val (.int y3), .val (.ref b4), .unset, .unset, .unset, .unset, .unset] [(.int (0 : Int32)), (.long q0), (.int y2), (.int (0 : Int32)), (.int y3), (.ref b4)]))
  obtain ⟨_, _, ⟨T37, L37, k37, n37⟩, -, X37, ⟨Lc37, hQ37, l37, y37, z37⟩, st37⟩ := Jvm.LawKit.callS X36 hx (y := (⟨"com/example/double_prior/doubleprior/index/ReaderReadLongPinLaw", "pay", "(JI)I"⟩ : MethodName)) hown (mvT hZ (hw _ (List.mem_of_getElem? (i := 6) rfl))) (mvT hZ (hw _ (List.mem_of_getElem? (i := 7) rfl))) (mvT hZ (hw _ (List.mem_of_getElem? (i := 4) rfl))) (mvT hZ (hw _ (List.mem_of_getElem? (i := 8) rfl))) (by decide) (backOf (W := 4) (rm2 l Z tA hw [] q0 (0 : Int32) h36) hZ (hw _ (List.mem_of_getElem? (i := 8) rfl)) (hw _ (List.mem_of_getElem? (i := 4) rfl)) (by decide) (by decide)) (g := (mkF m 196 #[.val (.long q0), .second, .val (.int p1), .val (.int p2), .val (.int p3), .val (.long q4), .second, .val (.int y2), .val (.int y3), .val (.ref b4), .unset, .unset, .unset, .unset, .unset] [(.int (0 : Int32)), (.long q0), (.int y2), (.int (0 : Int32)), (.int y3), (.ref b4)])) rfl (by rw [hml]; rfl) (argsL := [(.long q0), (.int (0 : Int32))]) (rest := [(.int y2), (.int (0 : Int32)), (.int y3), (.ref b4)]) (lenOf own_pd1 rfl) rfl (by show 2 * 0 + _ ≤ _; exact Nat.le_of_eq rfl) (hb hby at_196) (fun _ _ => ⟨rfl, e36, (by decide : 1 + 0 ≤ _), (by decide : 16 + 0 ≤ _)⟩)
  dsimp only [Pt.U, Pt.locs, Pt.cells, Pt.slots] at X37 l37 y37 z37 st37 hQ37
  rw [l37, y37, z37] at X37
  obtain ⟨rfl, rfl, e37⟩ := hQ37
  try rw [List.append_nil] at X37
  change Stand _ _ _ _ _ _ _ _ _ _ _ _ 1 16 at X37
  refine Goes.step (fun t k => st37 t k) ?_
  show Goes _ _ _ _ _ _ _ (T37.setTop (mkF m 199 #[.val (.long q0), .second, .val (.int p1), .val (.int p2), .val (.int p3), .val (.long q4), .second, .val (.int y2), .val (.int y3), .val (.ref b4), .unset, .unset, .unset, .unset, .unset] [(.int (f2 q0 (0 : Int32))), (.int y2), (.int (0 : Int32)), (.int y3), (.ref b4)]))
  obtain ⟨_, _, ⟨T38, L38, k38, n38⟩, -, X38, ⟨Lc38, hQ38, l38, y38, z38⟩, st38⟩ := Jvm.LawKit.callS X37 hx (y := (⟨"com/example/double_prior/doubleprior/index/ReaderReadLongPinLaw", "put", "([BIIII)V"⟩ : MethodName)) hown (mvT hZ (hw _ (List.mem_of_getElem? (i := 10) rfl))) (mvT hZ (hw _ (List.mem_of_getElem? (i := 11) rfl))) (mvT hZ (hw _ (List.mem_of_getElem? (i := 4) rfl))) (mvT hZ (hw _ (List.mem_of_getElem? (i := 12) rfl))) (by decide) (backOf (W := 0) (rm3 l Z tA hw [] b4 y3 (0 : Int32) y2 (f2 q0 (0 : Int32)) [(.int ((f1 q4 (0 : Int32)).toInt8.toInt32)), (.int ((f1 q4 (1 : Int32)).toInt8.toInt32)), (.int ((f1 q4 (2 : Int32)).toInt8.toInt32)), (.int ((f1 q4 (3 : Int32)).toInt8.toInt32)), (.int ((f1 q4 (4 : Int32)).toInt8.toInt32)), (.int ((f1 q4 (5 : Int32)).toInt8.toInt32)), (.int ((f1 q4 (6 : Int32)).toInt8.toInt32)), (.int ((f1 q4 (7 : Int32)).toInt8.toInt32)), (.int ((f1 q4 (8 : Int32)).toInt8.toInt32)), (.int ((f1 q4 (9 : Int32)).toInt8.toInt32)), (.int ((f1 q4 (10 : Int32)).toInt8.toInt32)), (.int ((f1 q4 (11 : Int32)).toInt8.toInt32)), (.int ((f1 q4 (12 : Int32)).toInt8.toInt32)), (.int ((f1 q4 (13 : Int32)).toInt8.toInt32)), (.int ((f1 q4 (14 : Int32)).toInt8.toInt32)), (.int ((f1 q4 (15 : Int32)).toInt8.toInt32))] h36 n0 Z36 V36 Zs4 (own_ix _ _ _ (own_s38 p3 y3 hy3) (by decide) rfl)) hZ (hw _ (List.mem_of_getElem? (i := 12) rfl)) (hw _ (List.mem_of_getElem? (i := 4) rfl)) (by decide) (by decide)) (g := (mkF m 199 #[.val (.long q0), .second, .val (.int p1), .val (.int p2), .val (.int p3), .val (.long q4), .second, .val (.int y2), .val (.int y3), .val (.ref b4), .unset, .unset, .unset, .unset, .unset] [(.int (f2 q0 (0 : Int32))), (.int y2), (.int (0 : Int32)), (.int y3), (.ref b4)])) rfl (by rw [hml]; rfl) (argsL := [(.ref b4), (.int y3), (.int (0 : Int32)), (.int y2), (.int (f2 q0 (0 : Int32)))]) (rest := []) (lenOf own_pd2 rfl) rfl (by show 2 * 0 + _ ≤ _; exact Nat.le_of_eq rfl) (hb hby at_199) (fun _ _ => ⟨rfl, e37, (by decide : 1 + 0 ≤ _), (by decide : 16 + 0 ≤ _)⟩)
  dsimp only [Pt.U, Pt.locs, Pt.cells, Pt.slots] at X38 l38 y38 z38 st38 hQ38
  rw [l38, y38, z38] at X38
  generalize e38 : T38.heap = h38 at hQ38
  obtain ⟨rfl, Nq38, Kq38, G38_0⟩ := hQ38
  have N38 := Fr.app N36 Nq38
  have K38 := K36.trans Kq38 (allS (Or.inr Zh4) all0)
  have Z38 := Nat.le_trans Z36 Kq38.1
  change Stand _ _ _ _ _ _ _ _ _ _ _ _ 1 16 at X38
  refine Goes.step (fun t k => st38 t k) ?_
  show Goes _ _ _ _ _ _ _ (T38.setTop (mkF m 202 #[.val (.long q0), .second, .val (.int p1), .val (.int p2), .val (.int p3), .val (.long q4), .second, .val (.int y2), .val (.int y3), .val (.ref b4), .unset, .unset, .unset, .unset, .unset] []))
  refine Goes.step (fun t k => XS.aload X38.here hx rfl (hb hby at_202) rfl rfl k) ?_
  show Goes _ _ _ _ _ _ _ (T38.setTop (mkF m 204 #[.val (.long q0), .second, .val (.int p1), .val (.int p2), .val (.int p3), .val (.long q4), .second, .val (.int y2), .val (.int y3), .val (.ref b4), .unset, .unset, .unset, .unset, .unset] [(.ref b4)]))
  refine Goes.step (fun t k => XS.iload X38.here hx rfl (hb hby at_204) rfl k) ?_
  show Goes _ _ _ _ _ _ _ (T38.setTop (mkF m 206 #[.val (.long q0), .second, .val (.int p1), .val (.int p2), .val (.int p3), .val (.long q4), .second, .val (.int y2), .val (.int y3), .val (.ref b4), .unset, .unset, .unset, .unset, .unset] [(.int y3), (.ref b4)]))
  refine Goes.step (fun t k => XS.iconst X38.here hx rfl (hb hby at_206) k) ?_
  show Goes _ _ _ _ _ _ _ (T38.setTop (mkF m 207 #[.val (.long q0), .second, .val (.int p1), .val (.int p2), .val (.int p3), .val (.long q4), .second, .val (.int y2), .val (.int y3), .val (.ref b4), .unset, .unset, .unset, .unset, .unset] [(.int (1 : Int32)), (.int y3), (.ref b4)]))
  refine Goes.step (fun t k => XS.iload X38.here hx rfl (hb hby at_207) rfl k) ?_
  show Goes _ _ _ _ _ _ _ (T38.setTop (mkF m 209 #[.val (.long q0), .second, .val (.int p1), .val (.int p2), .val (.int p3), .val (.long q4), .second, .val (.int y2), .val (.int y3), .val (.ref b4), .unset, .unset, .unset, .unset, .unset] [(.int y2), (.int (1 : Int32)), (.int y3), (.ref b4)]))
  refine Goes.step (fun t k => XS.lloadN X38.here hx rfl (hb hby at_209) rfl k) ?_
  show Goes _ _ _ _ _ _ _ (T38.setTop (mkF m 210 #[.val (.long q0), .second, .val (.int p1), .val (.int p2), .val (.int p3), .val (.long q4), .second, .val (.int y2), .val (.int y3), .val (.ref b4), .unset, .unset, .unset, .unset, .unset] [(.long q0), (.int y2), (.int (1 : Int32)), (.int y3), (.ref b4)]))
  refine Goes.step (fun t k => XS.iconst X38.here hx rfl (hb hby at_210) k) ?_
  show Goes _ _ _ _ _ _ _ (T38.setTop (mkF m 211 #[.val (.long q0), .second, .val (.int p1), .val (.int p2), .val (.int p3), .val (.long q4), .second, .val (.int y2), .val (.int y3), .val (.ref b4), .unset, .unset, .unset, .unset, .unset] [(.int (1 : Int32)), (.long q0), (.int y2), (.int (1 : Int32)), (.int y3), (.ref b4)]))
  obtain ⟨_, _, ⟨T39, L39, k39, n39⟩, -, X39, ⟨Lc39, hQ39, l39, y39, z39⟩, st39⟩ := Jvm.LawKit.callS X38 hx (y := (⟨"com/example/double_prior/doubleprior/index/ReaderReadLongPinLaw", "pay", "(JI)I"⟩ : MethodName)) hown (mvT hZ (hw _ (List.mem_of_getElem? (i := 6) rfl))) (mvT hZ (hw _ (List.mem_of_getElem? (i := 7) rfl))) (mvT hZ (hw _ (List.mem_of_getElem? (i := 4) rfl))) (mvT hZ (hw _ (List.mem_of_getElem? (i := 8) rfl))) (by decide) (backOf (W := 4) (rm2 l Z tA hw [] q0 (1 : Int32) h38) hZ (hw _ (List.mem_of_getElem? (i := 8) rfl)) (hw _ (List.mem_of_getElem? (i := 4) rfl)) (by decide) (by decide)) (g := (mkF m 211 #[.val (.long q0), .second, .val (.int p1), .val (.int p2), .val (.int p3), .val (.long q4), .second, .val (.int y2), .val (.int y3), .val (.ref b4), .unset, .unset, .unset, .unset, .unset] [(.int (1 : Int32)), (.long q0), (.int y2), (.int (1 : Int32)), (.int y3), (.ref b4)])) rfl (by rw [hml]; rfl) (argsL := [(.long q0), (.int (1 : Int32))]) (rest := [(.int y2), (.int (1 : Int32)), (.int y3), (.ref b4)]) (lenOf own_pd1 rfl) rfl (by show 2 * 0 + _ ≤ _; exact Nat.le_of_eq rfl) (hb hby at_211) (fun _ _ => ⟨rfl, e38, (by decide : 1 + 0 ≤ _), (by decide : 16 + 0 ≤ _)⟩)
  dsimp only [Pt.U, Pt.locs, Pt.cells, Pt.slots] at X39 l39 y39 z39 st39 hQ39
  rw [l39, y39, z39] at X39
  obtain ⟨rfl, rfl, e39⟩ := hQ39
  try rw [List.append_nil] at X39
  change Stand _ _ _ _ _ _ _ _ _ _ _ _ 1 16 at X39
  refine Goes.step (fun t k => st39 t k) ?_
  show Goes _ _ _ _ _ _ _ (T39.setTop (mkF m 214 #[.val (.long q0), .second, .val (.int p1), .val (.int p2), .val (.int p3), .val (.long q4), .second, .val (.int y2), .val (.int y3), .val (.ref b4), .unset, .unset, .unset, .unset, .unset] [(.int (f2 q0 (1 : Int32))), (.int y2), (.int (1 : Int32)), (.int y3), (.ref b4)]))
  obtain ⟨_, _, ⟨T40, L40, k40, n40⟩, -, X40, ⟨Lc40, hQ40, l40, y40, z40⟩, st40⟩ := Jvm.LawKit.callS X39 hx (y := (⟨"com/example/double_prior/doubleprior/index/ReaderReadLongPinLaw", "put", "([BIIII)V"⟩ : MethodName)) hown (mvT hZ (hw _ (List.mem_of_getElem? (i := 10) rfl))) (mvT hZ (hw _ (List.mem_of_getElem? (i := 11) rfl))) (mvT hZ (hw _ (List.mem_of_getElem? (i := 4) rfl))) (mvT hZ (hw _ (List.mem_of_getElem? (i := 12) rfl))) (by decide) (backOf (W := 0) (rm3 l Z tA hw [] b4 y3 (1 : Int32) y2 (f2 q0 (1 : Int32)) (g3_0 y3 (0 : Int32) y2 (f2 q0 (0 : Int32)) [(.int ((f1 q4 (0 : Int32)).toInt8.toInt32)), (.int ((f1 q4 (1 : Int32)).toInt8.toInt32)), (.int ((f1 q4 (2 : Int32)).toInt8.toInt32)), (.int ((f1 q4 (3 : Int32)).toInt8.toInt32)), (.int ((f1 q4 (4 : Int32)).toInt8.toInt32)), (.int ((f1 q4 (5 : Int32)).toInt8.toInt32)), (.int ((f1 q4 (6 : Int32)).toInt8.toInt32)), (.int ((f1 q4 (7 : Int32)).toInt8.toInt32)), (.int ((f1 q4 (8 : Int32)).toInt8.toInt32)), (.int ((f1 q4 (9 : Int32)).toInt8.toInt32)), (.int ((f1 q4 (10 : Int32)).toInt8.toInt32)), (.int ((f1 q4 (11 : Int32)).toInt8.toInt32)), (.int ((f1 q4 (12 : Int32)).toInt8.toInt32)), (.int ((f1 q4 (13 : Int32)).toInt8.toInt32)), (.int ((f1 q4 (14 : Int32)).toInt8.toInt32)), (.int ((f1 q4 (15 : Int32)).toInt8.toInt32))]) h38 n0 Z38 G38_0 Zs4 (own_ix _ _ _ (own_s40 p3 y3 hy3) (by decide) (own_g16 rfl))) hZ (hw _ (List.mem_of_getElem? (i := 12) rfl)) (hw _ (List.mem_of_getElem? (i := 4) rfl)) (by decide) (by decide)) (g := (mkF m 214 #[.val (.long q0), .second, .val (.int p1), .val (.int p2), .val (.int p3), .val (.long q4), .second, .val (.int y2), .val (.int y3), .val (.ref b4), .unset, .unset, .unset, .unset, .unset] [(.int (f2 q0 (1 : Int32))), (.int y2), (.int (1 : Int32)), (.int y3), (.ref b4)])) rfl (by rw [hml]; rfl) (argsL := [(.ref b4), (.int y3), (.int (1 : Int32)), (.int y2), (.int (f2 q0 (1 : Int32)))]) (rest := []) (lenOf own_pd2 rfl) rfl (by show 2 * 0 + _ ≤ _; exact Nat.le_of_eq rfl) (hb hby at_214) (fun _ _ => ⟨rfl, e39, (by decide : 1 + 0 ≤ _), (by decide : 16 + 0 ≤ _)⟩)
  dsimp only [Pt.U, Pt.locs, Pt.cells, Pt.slots] at X40 l40 y40 z40 st40 hQ40
  rw [l40, y40, z40] at X40
  generalize e40 : T40.heap = h40 at hQ40
  obtain ⟨rfl, Nq40, Kq40, G40_0⟩ := hQ40
  have N40 := Fr.app N38 Nq40
  have K40 := K38.trans Kq40 (allS (Or.inr Zh4) all0)
  have Z40 := Nat.le_trans Z38 Kq40.1
  change Stand _ _ _ _ _ _ _ _ _ _ _ _ 1 16 at X40
  refine Goes.step (fun t k => st40 t k) ?_
  show Goes _ _ _ _ _ _ _ (T40.setTop (mkF m 217 #[.val (.long q0), .second, .val (.int p1), .val (.int p2), .val (.int p3), .val (.long q4), .second, .val (.int y2), .val (.int y3), .val (.ref b4), .unset, .unset, .unset, .unset, .unset] []))
  refine Goes.step (fun t k => XS.aload X40.here hx rfl (hb hby at_217) rfl rfl k) ?_
  show Goes _ _ _ _ _ _ _ (T40.setTop (mkF m 219 #[.val (.long q0), .second, .val (.int p1), .val (.int p2), .val (.int p3), .val (.long q4), .second, .val (.int y2), .val (.int y3), .val (.ref b4), .unset, .unset, .unset, .unset, .unset] [(.ref b4)]))
  refine Goes.step (fun t k => XS.iload X40.here hx rfl (hb hby at_219) rfl k) ?_
  show Goes _ _ _ _ _ _ _ (T40.setTop (mkF m 221 #[.val (.long q0), .second, .val (.int p1), .val (.int p2), .val (.int p3), .val (.long q4), .second, .val (.int y2), .val (.int y3), .val (.ref b4), .unset, .unset, .unset, .unset, .unset] [(.int y3), (.ref b4)]))
  refine Goes.step (fun t k => XS.iconst X40.here hx rfl (hb hby at_221) k) ?_
  show Goes _ _ _ _ _ _ _ (T40.setTop (mkF m 222 #[.val (.long q0), .second, .val (.int p1), .val (.int p2), .val (.int p3), .val (.long q4), .second, .val (.int y2), .val (.int y3), .val (.ref b4), .unset, .unset, .unset, .unset, .unset] [(.int (2 : Int32)), (.int y3), (.ref b4)]))
  refine Goes.step (fun t k => XS.iload X40.here hx rfl (hb hby at_222) rfl k) ?_
  show Goes _ _ _ _ _ _ _ (T40.setTop (mkF m 224 #[.val (.long q0), .second, .val (.int p1), .val (.int p2), .val (.int p3), .val (.long q4), .second, .val (.int y2), .val (.int y3), .val (.ref b4), .unset, .unset, .unset, .unset, .unset] [(.int y2), (.int (2 : Int32)), (.int y3), (.ref b4)]))
  refine Goes.step (fun t k => XS.lloadN X40.here hx rfl (hb hby at_224) rfl k) ?_
  show Goes _ _ _ _ _ _ _ (T40.setTop (mkF m 225 #[.val (.long q0), .second, .val (.int p1), .val (.int p2), .val (.int p3), .val (.long q4), .second, .val (.int y2), .val (.int y3), .val (.ref b4), .unset, .unset, .unset, .unset, .unset] [(.long q0), (.int y2), (.int (2 : Int32)), (.int y3), (.ref b4)]))
  refine Goes.step (fun t k => XS.iconst X40.here hx rfl (hb hby at_225) k) ?_
  show Goes _ _ _ _ _ _ _ (T40.setTop (mkF m 226 #[.val (.long q0), .second, .val (.int p1), .val (.int p2), .val (.int p3), .val (.long q4), .second, .val (.int y2), .val (.int y3), .val (.ref b4), .unset, .unset, .unset, .unset, .unset] [(.int (2 : Int32)), (.long q0), (.int y2), (.int (2 : Int32)), (.int y3), (.ref b4)]))
  obtain ⟨_, _, ⟨T41, L41, k41, n41⟩, -, X41, ⟨Lc41, hQ41, l41, y41, z41⟩, st41⟩ := Jvm.LawKit.callS X40 hx (y := (⟨"com/example/double_prior/doubleprior/index/ReaderReadLongPinLaw", "pay", "(JI)I"⟩ : MethodName)) hown (mvT hZ (hw _ (List.mem_of_getElem? (i := 6) rfl))) (mvT hZ (hw _ (List.mem_of_getElem? (i := 7) rfl))) (mvT hZ (hw _ (List.mem_of_getElem? (i := 4) rfl))) (mvT hZ (hw _ (List.mem_of_getElem? (i := 8) rfl))) (by decide) (backOf (W := 4) (rm2 l Z tA hw [] q0 (2 : Int32) h40) hZ (hw _ (List.mem_of_getElem? (i := 8) rfl)) (hw _ (List.mem_of_getElem? (i := 4) rfl)) (by decide) (by decide)) (g := (mkF m 226 #[.val (.long q0), .second, .val (.int p1), .val (.int p2), .val (.int p3), .val (.long q4), .second, .val (.int y2), .val (.int y3), .val (.ref b4), .unset, .unset, .unset, .unset, .unset] [(.int (2 : Int32)), (.long q0), (.int y2), (.int (2 : Int32)), (.int y3), (.ref b4)])) rfl (by rw [hml]; rfl) (argsL := [(.long q0), (.int (2 : Int32))]) (rest := [(.int y2), (.int (2 : Int32)), (.int y3), (.ref b4)]) (lenOf own_pd1 rfl) rfl (by show 2 * 0 + _ ≤ _; exact Nat.le_of_eq rfl) (hb hby at_226) (fun _ _ => ⟨rfl, e40, (by decide : 1 + 0 ≤ _), (by decide : 16 + 0 ≤ _)⟩)
  dsimp only [Pt.U, Pt.locs, Pt.cells, Pt.slots] at X41 l41 y41 z41 st41 hQ41
  rw [l41, y41, z41] at X41
  obtain ⟨rfl, rfl, e41⟩ := hQ41
  try rw [List.append_nil] at X41
  change Stand _ _ _ _ _ _ _ _ _ _ _ _ 1 16 at X41
  refine Goes.step (fun t k => st41 t k) ?_
  show Goes _ _ _ _ _ _ _ (T41.setTop (mkF m 229 #[.val (.long q0), .second, .val (.int p1), .val (.int p2), .val (.int p3), .val (.long q4), .second, .val (.int y2), .val (.int y3), .val (.ref b4), .unset, .unset, .unset, .unset, .unset] [(.int (f2 q0 (2 : Int32))), (.int y2), (.int (2 : Int32)), (.int y3), (.ref b4)]))
  obtain ⟨_, _, ⟨T42, L42, k42, n42⟩, -, X42, ⟨Lc42, hQ42, l42, y42, z42⟩, st42⟩ := Jvm.LawKit.callS X41 hx (y := (⟨"com/example/double_prior/doubleprior/index/ReaderReadLongPinLaw", "put", "([BIIII)V"⟩ : MethodName)) hown (mvT hZ (hw _ (List.mem_of_getElem? (i := 10) rfl))) (mvT hZ (hw _ (List.mem_of_getElem? (i := 11) rfl))) (mvT hZ (hw _ (List.mem_of_getElem? (i := 4) rfl))) (mvT hZ (hw _ (List.mem_of_getElem? (i := 12) rfl))) (by decide) (backOf (W := 0) (rm3 l Z tA hw [] b4 y3 (2 : Int32) y2 (f2 q0 (2 : Int32)) (g3_0 y3 (1 : Int32) y2 (f2 q0 (1 : Int32)) (g3_0 y3 (0 : Int32) y2 (f2 q0 (0 : Int32)) [(.int ((f1 q4 (0 : Int32)).toInt8.toInt32)), (.int ((f1 q4 (1 : Int32)).toInt8.toInt32)), (.int ((f1 q4 (2 : Int32)).toInt8.toInt32)), (.int ((f1 q4 (3 : Int32)).toInt8.toInt32)), (.int ((f1 q4 (4 : Int32)).toInt8.toInt32)), (.int ((f1 q4 (5 : Int32)).toInt8.toInt32)), (.int ((f1 q4 (6 : Int32)).toInt8.toInt32)), (.int ((f1 q4 (7 : Int32)).toInt8.toInt32)), (.int ((f1 q4 (8 : Int32)).toInt8.toInt32)), (.int ((f1 q4 (9 : Int32)).toInt8.toInt32)), (.int ((f1 q4 (10 : Int32)).toInt8.toInt32)), (.int ((f1 q4 (11 : Int32)).toInt8.toInt32)), (.int ((f1 q4 (12 : Int32)).toInt8.toInt32)), (.int ((f1 q4 (13 : Int32)).toInt8.toInt32)), (.int ((f1 q4 (14 : Int32)).toInt8.toInt32)), (.int ((f1 q4 (15 : Int32)).toInt8.toInt32))])) h40 n0 Z40 G40_0 Zs4 (own_ix _ _ _ (own_s42 p3 y3 hy3) (by decide) (own_g16 (own_g16 rfl)))) hZ (hw _ (List.mem_of_getElem? (i := 12) rfl)) (hw _ (List.mem_of_getElem? (i := 4) rfl)) (by decide) (by decide)) (g := (mkF m 229 #[.val (.long q0), .second, .val (.int p1), .val (.int p2), .val (.int p3), .val (.long q4), .second, .val (.int y2), .val (.int y3), .val (.ref b4), .unset, .unset, .unset, .unset, .unset] [(.int (f2 q0 (2 : Int32))), (.int y2), (.int (2 : Int32)), (.int y3), (.ref b4)])) rfl (by rw [hml]; rfl) (argsL := [(.ref b4), (.int y3), (.int (2 : Int32)), (.int y2), (.int (f2 q0 (2 : Int32)))]) (rest := []) (lenOf own_pd2 rfl) rfl (by show 2 * 0 + _ ≤ _; exact Nat.le_of_eq rfl) (hb hby at_229) (fun _ _ => ⟨rfl, e41, (by decide : 1 + 0 ≤ _), (by decide : 16 + 0 ≤ _)⟩)
  dsimp only [Pt.U, Pt.locs, Pt.cells, Pt.slots] at X42 l42 y42 z42 st42 hQ42
  rw [l42, y42, z42] at X42
  generalize e42 : T42.heap = h42 at hQ42
  obtain ⟨rfl, Nq42, Kq42, G42_0⟩ := hQ42
  have N42 := Fr.app N40 Nq42
  have K42 := K40.trans Kq42 (allS (Or.inr Zh4) all0)
  have Z42 := Nat.le_trans Z40 Kq42.1
  change Stand _ _ _ _ _ _ _ _ _ _ _ _ 1 16 at X42
  refine Goes.step (fun t k => st42 t k) ?_
  show Goes _ _ _ _ _ _ _ (T42.setTop (mkF m 232 #[.val (.long q0), .second, .val (.int p1), .val (.int p2), .val (.int p3), .val (.long q4), .second, .val (.int y2), .val (.int y3), .val (.ref b4), .unset, .unset, .unset, .unset, .unset] []))
  refine Goes.step (fun t k => XS.aload X42.here hx rfl (hb hby at_232) rfl rfl k) ?_
  show Goes _ _ _ _ _ _ _ (T42.setTop (mkF m 234 #[.val (.long q0), .second, .val (.int p1), .val (.int p2), .val (.int p3), .val (.long q4), .second, .val (.int y2), .val (.int y3), .val (.ref b4), .unset, .unset, .unset, .unset, .unset] [(.ref b4)]))
  refine Goes.step (fun t k => XS.iload X42.here hx rfl (hb hby at_234) rfl k) ?_
  show Goes _ _ _ _ _ _ _ (T42.setTop (mkF m 236 #[.val (.long q0), .second, .val (.int p1), .val (.int p2), .val (.int p3), .val (.long q4), .second, .val (.int y2), .val (.int y3), .val (.ref b4), .unset, .unset, .unset, .unset, .unset] [(.int y3), (.ref b4)]))
  refine Goes.step (fun t k => XS.iconst X42.here hx rfl (hb hby at_236) k) ?_
  show Goes _ _ _ _ _ _ _ (T42.setTop (mkF m 237 #[.val (.long q0), .second, .val (.int p1), .val (.int p2), .val (.int p3), .val (.long q4), .second, .val (.int y2), .val (.int y3), .val (.ref b4), .unset, .unset, .unset, .unset, .unset] [(.int (3 : Int32)), (.int y3), (.ref b4)]))
  refine Goes.step (fun t k => XS.iload X42.here hx rfl (hb hby at_237) rfl k) ?_
  show Goes _ _ _ _ _ _ _ (T42.setTop (mkF m 239 #[.val (.long q0), .second, .val (.int p1), .val (.int p2), .val (.int p3), .val (.long q4), .second, .val (.int y2), .val (.int y3), .val (.ref b4), .unset, .unset, .unset, .unset, .unset] [(.int y2), (.int (3 : Int32)), (.int y3), (.ref b4)]))
  refine Goes.step (fun t k => XS.lloadN X42.here hx rfl (hb hby at_239) rfl k) ?_
  show Goes _ _ _ _ _ _ _ (T42.setTop (mkF m 240 #[.val (.long q0), .second, .val (.int p1), .val (.int p2), .val (.int p3), .val (.long q4), .second, .val (.int y2), .val (.int y3), .val (.ref b4), .unset, .unset, .unset, .unset, .unset] [(.long q0), (.int y2), (.int (3 : Int32)), (.int y3), (.ref b4)]))
  refine Goes.step (fun t k => XS.iconst X42.here hx rfl (hb hby at_240) k) ?_
  show Goes _ _ _ _ _ _ _ (T42.setTop (mkF m 241 #[.val (.long q0), .second, .val (.int p1), .val (.int p2), .val (.int p3), .val (.long q4), .second, .val (.int y2), .val (.int y3), .val (.ref b4), .unset, .unset, .unset, .unset, .unset] [(.int (3 : Int32)), (.long q0), (.int y2), (.int (3 : Int32)), (.int y3), (.ref b4)]))
  obtain ⟨_, _, ⟨T43, L43, k43, n43⟩, -, X43, ⟨Lc43, hQ43, l43, y43, z43⟩, st43⟩ := Jvm.LawKit.callS X42 hx (y := (⟨"com/example/double_prior/doubleprior/index/ReaderReadLongPinLaw", "pay", "(JI)I"⟩ : MethodName)) hown (mvT hZ (hw _ (List.mem_of_getElem? (i := 6) rfl))) (mvT hZ (hw _ (List.mem_of_getElem? (i := 7) rfl))) (mvT hZ (hw _ (List.mem_of_getElem? (i := 4) rfl))) (mvT hZ (hw _ (List.mem_of_getElem? (i := 8) rfl))) (by decide) (backOf (W := 4) (rm2 l Z tA hw [] q0 (3 : Int32) h42) hZ (hw _ (List.mem_of_getElem? (i := 8) rfl)) (hw _ (List.mem_of_getElem? (i := 4) rfl)) (by decide) (by decide)) (g := (mkF m 241 #[.val (.long q0), .second, .val (.int p1), .val (.int p2), .val (.int p3), .val (.long q4), .second, .val (.int y2), .val (.int y3), .val (.ref b4), .unset, .unset, .unset, .unset, .unset] [(.int (3 : Int32)), (.long q0), (.int y2), (.int (3 : Int32)), (.int y3), (.ref b4)])) rfl (by rw [hml]; rfl) (argsL := [(.long q0), (.int (3 : Int32))]) (rest := [(.int y2), (.int (3 : Int32)), (.int y3), (.ref b4)]) (lenOf own_pd1 rfl) rfl (by show 2 * 0 + _ ≤ _; exact Nat.le_of_eq rfl) (hb hby at_241) (fun _ _ => ⟨rfl, e42, (by decide : 1 + 0 ≤ _), (by decide : 16 + 0 ≤ _)⟩)
  dsimp only [Pt.U, Pt.locs, Pt.cells, Pt.slots] at X43 l43 y43 z43 st43 hQ43
  rw [l43, y43, z43] at X43
  obtain ⟨rfl, rfl, e43⟩ := hQ43
  try rw [List.append_nil] at X43
  change Stand _ _ _ _ _ _ _ _ _ _ _ _ 1 16 at X43
  refine Goes.step (fun t k => st43 t k) ?_
  show Goes _ _ _ _ _ _ _ (T43.setTop (mkF m 244 #[.val (.long q0), .second, .val (.int p1), .val (.int p2), .val (.int p3), .val (.long q4), .second, .val (.int y2), .val (.int y3), .val (.ref b4), .unset, .unset, .unset, .unset, .unset] [(.int (f2 q0 (3 : Int32))), (.int y2), (.int (3 : Int32)), (.int y3), (.ref b4)]))
  obtain ⟨_, _, ⟨T44, L44, k44, n44⟩, -, X44, ⟨Lc44, hQ44, l44, y44, z44⟩, st44⟩ := Jvm.LawKit.callS X43 hx (y := (⟨"com/example/double_prior/doubleprior/index/ReaderReadLongPinLaw", "put", "([BIIII)V"⟩ : MethodName)) hown (mvT hZ (hw _ (List.mem_of_getElem? (i := 10) rfl))) (mvT hZ (hw _ (List.mem_of_getElem? (i := 11) rfl))) (mvT hZ (hw _ (List.mem_of_getElem? (i := 4) rfl))) (mvT hZ (hw _ (List.mem_of_getElem? (i := 12) rfl))) (by decide) (backOf (W := 0) (rm3 l Z tA hw [] b4 y3 (3 : Int32) y2 (f2 q0 (3 : Int32)) (g3_0 y3 (2 : Int32) y2 (f2 q0 (2 : Int32)) (g3_0 y3 (1 : Int32) y2 (f2 q0 (1 : Int32)) (g3_0 y3 (0 : Int32) y2 (f2 q0 (0 : Int32)) [(.int ((f1 q4 (0 : Int32)).toInt8.toInt32)), (.int ((f1 q4 (1 : Int32)).toInt8.toInt32)), (.int ((f1 q4 (2 : Int32)).toInt8.toInt32)), (.int ((f1 q4 (3 : Int32)).toInt8.toInt32)), (.int ((f1 q4 (4 : Int32)).toInt8.toInt32)), (.int ((f1 q4 (5 : Int32)).toInt8.toInt32)), (.int ((f1 q4 (6 : Int32)).toInt8.toInt32)), (.int ((f1 q4 (7 : Int32)).toInt8.toInt32)), (.int ((f1 q4 (8 : Int32)).toInt8.toInt32)), (.int ((f1 q4 (9 : Int32)).toInt8.toInt32)), (.int ((f1 q4 (10 : Int32)).toInt8.toInt32)), (.int ((f1 q4 (11 : Int32)).toInt8.toInt32)), (.int ((f1 q4 (12 : Int32)).toInt8.toInt32)), (.int ((f1 q4 (13 : Int32)).toInt8.toInt32)), (.int ((f1 q4 (14 : Int32)).toInt8.toInt32)), (.int ((f1 q4 (15 : Int32)).toInt8.toInt32))]))) h42 n0 Z42 G42_0 Zs4 (own_ix _ _ _ (own_s44 p3 y3 hy3) (by decide) (own_g16 (own_g16 (own_g16 rfl))))) hZ (hw _ (List.mem_of_getElem? (i := 12) rfl)) (hw _ (List.mem_of_getElem? (i := 4) rfl)) (by decide) (by decide)) (g := (mkF m 244 #[.val (.long q0), .second, .val (.int p1), .val (.int p2), .val (.int p3), .val (.long q4), .second, .val (.int y2), .val (.int y3), .val (.ref b4), .unset, .unset, .unset, .unset, .unset] [(.int (f2 q0 (3 : Int32))), (.int y2), (.int (3 : Int32)), (.int y3), (.ref b4)])) rfl (by rw [hml]; rfl) (argsL := [(.ref b4), (.int y3), (.int (3 : Int32)), (.int y2), (.int (f2 q0 (3 : Int32)))]) (rest := []) (lenOf own_pd2 rfl) rfl (by show 2 * 0 + _ ≤ _; exact Nat.le_of_eq rfl) (hb hby at_244) (fun _ _ => ⟨rfl, e43, (by decide : 1 + 0 ≤ _), (by decide : 16 + 0 ≤ _)⟩)
  dsimp only [Pt.U, Pt.locs, Pt.cells, Pt.slots] at X44 l44 y44 z44 st44 hQ44
  rw [l44, y44, z44] at X44
  generalize e44 : T44.heap = h44 at hQ44
  obtain ⟨rfl, Nq44, Kq44, G44_0⟩ := hQ44
  have N44 := Fr.app N42 Nq44
  have K44 := K42.trans Kq44 (allS (Or.inr Zh4) all0)
  have Z44 := Nat.le_trans Z42 Kq44.1
  change Stand _ _ _ _ _ _ _ _ _ _ _ _ 1 16 at X44
  refine Goes.step (fun t k => st44 t k) ?_
  show Goes _ _ _ _ _ _ _ (T44.setTop (mkF m 247 #[.val (.long q0), .second, .val (.int p1), .val (.int p2), .val (.int p3), .val (.long q4), .second, .val (.int y2), .val (.int y3), .val (.ref b4), .unset, .unset, .unset, .unset, .unset] []))
  refine Goes.step (fun t k => XS.aload X44.here hx rfl (hb hby at_247) rfl rfl k) ?_
  show Goes _ _ _ _ _ _ _ (T44.setTop (mkF m 249 #[.val (.long q0), .second, .val (.int p1), .val (.int p2), .val (.int p3), .val (.long q4), .second, .val (.int y2), .val (.int y3), .val (.ref b4), .unset, .unset, .unset, .unset, .unset] [(.ref b4)]))
  refine Goes.step (fun t k => XS.iload X44.here hx rfl (hb hby at_249) rfl k) ?_
  show Goes _ _ _ _ _ _ _ (T44.setTop (mkF m 251 #[.val (.long q0), .second, .val (.int p1), .val (.int p2), .val (.int p3), .val (.long q4), .second, .val (.int y2), .val (.int y3), .val (.ref b4), .unset, .unset, .unset, .unset, .unset] [(.int y3), (.ref b4)]))
  refine Goes.step (fun t k => XS.iconst X44.here hx rfl (hb hby at_251) k) ?_
  show Goes _ _ _ _ _ _ _ (T44.setTop (mkF m 252 #[.val (.long q0), .second, .val (.int p1), .val (.int p2), .val (.int p3), .val (.long q4), .second, .val (.int y2), .val (.int y3), .val (.ref b4), .unset, .unset, .unset, .unset, .unset] [(.int (4 : Int32)), (.int y3), (.ref b4)]))
  refine Goes.step (fun t k => XS.iload X44.here hx rfl (hb hby at_252) rfl k) ?_
  show Goes _ _ _ _ _ _ _ (T44.setTop (mkF m 254 #[.val (.long q0), .second, .val (.int p1), .val (.int p2), .val (.int p3), .val (.long q4), .second, .val (.int y2), .val (.int y3), .val (.ref b4), .unset, .unset, .unset, .unset, .unset] [(.int y2), (.int (4 : Int32)), (.int y3), (.ref b4)]))
  refine Goes.step (fun t k => XS.lloadN X44.here hx rfl (hb hby at_254) rfl k) ?_
  show Goes _ _ _ _ _ _ _ (T44.setTop (mkF m 255 #[.val (.long q0), .second, .val (.int p1), .val (.int p2), .val (.int p3), .val (.long q4), .second, .val (.int y2), .val (.int y3), .val (.ref b4), .unset, .unset, .unset, .unset, .unset] [(.long q0), (.int y2), (.int (4 : Int32)), (.int y3), (.ref b4)]))
  refine Goes.step (fun t k => XS.iconst X44.here hx rfl (hb hby at_255) k) ?_
  show Goes _ _ _ _ _ _ _ (T44.setTop (mkF m 256 #[.val (.long q0), .second, .val (.int p1), .val (.int p2), .val (.int p3), .val (.long q4), .second, .val (.int y2), .val (.int y3), .val (.ref b4), .unset, .unset, .unset, .unset, .unset] [(.int (4 : Int32)), (.long q0), (.int y2), (.int (4 : Int32)), (.int y3), (.ref b4)]))
  obtain ⟨_, _, ⟨T45, L45, k45, n45⟩, -, X45, ⟨Lc45, hQ45, l45, y45, z45⟩, st45⟩ := Jvm.LawKit.callS X44 hx (y := (⟨"com/example/double_prior/doubleprior/index/ReaderReadLongPinLaw", "pay", "(JI)I"⟩ : MethodName)) hown (mvT hZ (hw _ (List.mem_of_getElem? (i := 6) rfl))) (mvT hZ (hw _ (List.mem_of_getElem? (i := 7) rfl))) (mvT hZ (hw _ (List.mem_of_getElem? (i := 4) rfl))) (mvT hZ (hw _ (List.mem_of_getElem? (i := 8) rfl))) (by decide) (backOf (W := 4) (rm2 l Z tA hw [] q0 (4 : Int32) h44) hZ (hw _ (List.mem_of_getElem? (i := 8) rfl)) (hw _ (List.mem_of_getElem? (i := 4) rfl)) (by decide) (by decide)) (g := (mkF m 256 #[.val (.long q0), .second, .val (.int p1), .val (.int p2), .val (.int p3), .val (.long q4), .second, .val (.int y2), .val (.int y3), .val (.ref b4), .unset, .unset, .unset, .unset, .unset] [(.int (4 : Int32)), (.long q0), (.int y2), (.int (4 : Int32)), (.int y3), (.ref b4)])) rfl (by rw [hml]; rfl) (argsL := [(.long q0), (.int (4 : Int32))]) (rest := [(.int y2), (.int (4 : Int32)), (.int y3), (.ref b4)]) (lenOf own_pd1 rfl) rfl (by show 2 * 0 + _ ≤ _; exact Nat.le_of_eq rfl) (hb hby at_256) (fun _ _ => ⟨rfl, e44, (by decide : 1 + 0 ≤ _), (by decide : 16 + 0 ≤ _)⟩)
  dsimp only [Pt.U, Pt.locs, Pt.cells, Pt.slots] at X45 l45 y45 z45 st45 hQ45
  rw [l45, y45, z45] at X45
  obtain ⟨rfl, rfl, e45⟩ := hQ45
  try rw [List.append_nil] at X45
  change Stand _ _ _ _ _ _ _ _ _ _ _ _ 1 16 at X45
  refine Goes.step (fun t k => st45 t k) ?_
  show Goes _ _ _ _ _ _ _ (T45.setTop (mkF m 259 #[.val (.long q0), .second, .val (.int p1), .val (.int p2), .val (.int p3), .val (.long q4), .second, .val (.int y2), .val (.int y3), .val (.ref b4), .unset, .unset, .unset, .unset, .unset] [(.int (f2 q0 (4 : Int32))), (.int y2), (.int (4 : Int32)), (.int y3), (.ref b4)]))
  obtain ⟨_, _, ⟨T46, L46, k46, n46⟩, -, X46, ⟨Lc46, hQ46, l46, y46, z46⟩, st46⟩ := Jvm.LawKit.callS X45 hx (y := (⟨"com/example/double_prior/doubleprior/index/ReaderReadLongPinLaw", "put", "([BIIII)V"⟩ : MethodName)) hown (mvT hZ (hw _ (List.mem_of_getElem? (i := 10) rfl))) (mvT hZ (hw _ (List.mem_of_getElem? (i := 11) rfl))) (mvT hZ (hw _ (List.mem_of_getElem? (i := 4) rfl))) (mvT hZ (hw _ (List.mem_of_getElem? (i := 12) rfl))) (by decide) (backOf (W := 0) (rm3 l Z tA hw [] b4 y3 (4 : Int32) y2 (f2 q0 (4 : Int32)) (g3_0 y3 (3 : Int32) y2 (f2 q0 (3 : Int32)) (g3_0 y3 (2 : Int32) y2 (f2 q0 (2 : Int32)) (g3_0 y3 (1 : Int32) y2 (f2 q0 (1 : Int32)) (g3_0 y3 (0 : Int32) y2 (f2 q0 (0 : Int32)) [(.int ((f1 q4 (0 : Int32)).toInt8.toInt32)), (.int ((f1 q4 (1 : Int32)).toInt8.toInt32)), (.int ((f1 q4 (2 : Int32)).toInt8.toInt32)), (.int ((f1 q4 (3 : Int32)).toInt8.toInt32)), (.int ((f1 q4 (4 : Int32)).toInt8.toInt32)), (.int ((f1 q4 (5 : Int32)).toInt8.toInt32)), (.int ((f1 q4 (6 : Int32)).toInt8.toInt32)), (.int ((f1 q4 (7 : Int32)).toInt8.toInt32)), (.int ((f1 q4 (8 : Int32)).toInt8.toInt32)), (.int ((f1 q4 (9 : Int32)).toInt8.toInt32)), (.int ((f1 q4 (10 : Int32)).toInt8.toInt32)), (.int ((f1 q4 (11 : Int32)).toInt8.toInt32)), (.int ((f1 q4 (12 : Int32)).toInt8.toInt32)), (.int ((f1 q4 (13 : Int32)).toInt8.toInt32)), (.int ((f1 q4 (14 : Int32)).toInt8.toInt32)), (.int ((f1 q4 (15 : Int32)).toInt8.toInt32))])))) h44 n0 Z44 G44_0 Zs4 (own_ix _ _ _ (own_s46 p3 y3 hy3) (by decide) (own_g16 (own_g16 (own_g16 (own_g16 rfl)))))) hZ (hw _ (List.mem_of_getElem? (i := 12) rfl)) (hw _ (List.mem_of_getElem? (i := 4) rfl)) (by decide) (by decide)) (g := (mkF m 259 #[.val (.long q0), .second, .val (.int p1), .val (.int p2), .val (.int p3), .val (.long q4), .second, .val (.int y2), .val (.int y3), .val (.ref b4), .unset, .unset, .unset, .unset, .unset] [(.int (f2 q0 (4 : Int32))), (.int y2), (.int (4 : Int32)), (.int y3), (.ref b4)])) rfl (by rw [hml]; rfl) (argsL := [(.ref b4), (.int y3), (.int (4 : Int32)), (.int y2), (.int (f2 q0 (4 : Int32)))]) (rest := []) (lenOf own_pd2 rfl) rfl (by show 2 * 0 + _ ≤ _; exact Nat.le_of_eq rfl) (hb hby at_259) (fun _ _ => ⟨rfl, e45, (by decide : 1 + 0 ≤ _), (by decide : 16 + 0 ≤ _)⟩)
  dsimp only [Pt.U, Pt.locs, Pt.cells, Pt.slots] at X46 l46 y46 z46 st46 hQ46
  rw [l46, y46, z46] at X46
  generalize e46 : T46.heap = h46 at hQ46
  obtain ⟨rfl, Nq46, Kq46, G46_0⟩ := hQ46
  have N46 := Fr.app N44 Nq46
  have K46 := K44.trans Kq46 (allS (Or.inr Zh4) all0)
  have Z46 := Nat.le_trans Z44 Kq46.1
  change Stand _ _ _ _ _ _ _ _ _ _ _ _ 1 16 at X46
  refine Goes.step (fun t k => st46 t k) ?_
  show Goes _ _ _ _ _ _ _ (T46.setTop (mkF m 262 #[.val (.long q0), .second, .val (.int p1), .val (.int p2), .val (.int p3), .val (.long q4), .second, .val (.int y2), .val (.int y3), .val (.ref b4), .unset, .unset, .unset, .unset, .unset] []))
  refine Goes.step (fun t k => XS.aload X46.here hx rfl (hb hby at_262) rfl rfl k) ?_
  show Goes _ _ _ _ _ _ _ (T46.setTop (mkF m 264 #[.val (.long q0), .second, .val (.int p1), .val (.int p2), .val (.int p3), .val (.long q4), .second, .val (.int y2), .val (.int y3), .val (.ref b4), .unset, .unset, .unset, .unset, .unset] [(.ref b4)]))
  refine Goes.step (fun t k => XS.iload X46.here hx rfl (hb hby at_264) rfl k) ?_
  show Goes _ _ _ _ _ _ _ (T46.setTop (mkF m 266 #[.val (.long q0), .second, .val (.int p1), .val (.int p2), .val (.int p3), .val (.long q4), .second, .val (.int y2), .val (.int y3), .val (.ref b4), .unset, .unset, .unset, .unset, .unset] [(.int y3), (.ref b4)]))
  refine Goes.step (fun t k => XS.iconst X46.here hx rfl (hb hby at_266) k) ?_
  show Goes _ _ _ _ _ _ _ (T46.setTop (mkF m 267 #[.val (.long q0), .second, .val (.int p1), .val (.int p2), .val (.int p3), .val (.long q4), .second, .val (.int y2), .val (.int y3), .val (.ref b4), .unset, .unset, .unset, .unset, .unset] [(.int (5 : Int32)), (.int y3), (.ref b4)]))
  refine Goes.step (fun t k => XS.iload X46.here hx rfl (hb hby at_267) rfl k) ?_
  show Goes _ _ _ _ _ _ _ (T46.setTop (mkF m 269 #[.val (.long q0), .second, .val (.int p1), .val (.int p2), .val (.int p3), .val (.long q4), .second, .val (.int y2), .val (.int y3), .val (.ref b4), .unset, .unset, .unset, .unset, .unset] [(.int y2), (.int (5 : Int32)), (.int y3), (.ref b4)]))
  refine Goes.step (fun t k => XS.lloadN X46.here hx rfl (hb hby at_269) rfl k) ?_
  show Goes _ _ _ _ _ _ _ (T46.setTop (mkF m 270 #[.val (.long q0), .second, .val (.int p1), .val (.int p2), .val (.int p3), .val (.long q4), .second, .val (.int y2), .val (.int y3), .val (.ref b4), .unset, .unset, .unset, .unset, .unset] [(.long q0), (.int y2), (.int (5 : Int32)), (.int y3), (.ref b4)]))
  refine Goes.step (fun t k => XS.iconst X46.here hx rfl (hb hby at_270) k) ?_
  show Goes _ _ _ _ _ _ _ (T46.setTop (mkF m 271 #[.val (.long q0), .second, .val (.int p1), .val (.int p2), .val (.int p3), .val (.long q4), .second, .val (.int y2), .val (.int y3), .val (.ref b4), .unset, .unset, .unset, .unset, .unset] [(.int (5 : Int32)), (.long q0), (.int y2), (.int (5 : Int32)), (.int y3), (.ref b4)]))
  obtain ⟨_, _, ⟨T47, L47, k47, n47⟩, -, X47, ⟨Lc47, hQ47, l47, y47, z47⟩, st47⟩ := Jvm.LawKit.callS X46 hx (y := (⟨"com/example/double_prior/doubleprior/index/ReaderReadLongPinLaw", "pay", "(JI)I"⟩ : MethodName)) hown (mvT hZ (hw _ (List.mem_of_getElem? (i := 6) rfl))) (mvT hZ (hw _ (List.mem_of_getElem? (i := 7) rfl))) (mvT hZ (hw _ (List.mem_of_getElem? (i := 4) rfl))) (mvT hZ (hw _ (List.mem_of_getElem? (i := 8) rfl))) (by decide) (backOf (W := 4) (rm2 l Z tA hw [] q0 (5 : Int32) h46) hZ (hw _ (List.mem_of_getElem? (i := 8) rfl)) (hw _ (List.mem_of_getElem? (i := 4) rfl)) (by decide) (by decide)) (g := (mkF m 271 #[.val (.long q0), .second, .val (.int p1), .val (.int p2), .val (.int p3), .val (.long q4), .second, .val (.int y2), .val (.int y3), .val (.ref b4), .unset, .unset, .unset, .unset, .unset] [(.int (5 : Int32)), (.long q0), (.int y2), (.int (5 : Int32)), (.int y3), (.ref b4)])) rfl (by rw [hml]; rfl) (argsL := [(.long q0), (.int (5 : Int32))]) (rest := [(.int y2), (.int (5 : Int32)), (.int y3), (.ref b4)]) (lenOf own_pd1 rfl) rfl (by show 2 * 0 + _ ≤ _; exact Nat.le_of_eq rfl) (hb hby at_271) (fun _ _ => ⟨rfl, e46, (by decide : 1 + 0 ≤ _), (by decide : 16 + 0 ≤ _)⟩)
  dsimp only [Pt.U, Pt.locs, Pt.cells, Pt.slots] at X47 l47 y47 z47 st47 hQ47
  rw [l47, y47, z47] at X47
  obtain ⟨rfl, rfl, e47⟩ := hQ47
  try rw [List.append_nil] at X47
  change Stand _ _ _ _ _ _ _ _ _ _ _ _ 1 16 at X47
  refine Goes.step (fun t k => st47 t k) ?_
  show Goes _ _ _ _ _ _ _ (T47.setTop (mkF m 274 #[.val (.long q0), .second, .val (.int p1), .val (.int p2), .val (.int p3), .val (.long q4), .second, .val (.int y2), .val (.int y3), .val (.ref b4), .unset, .unset, .unset, .unset, .unset] [(.int (f2 q0 (5 : Int32))), (.int y2), (.int (5 : Int32)), (.int y3), (.ref b4)]))
  obtain ⟨_, _, ⟨T48, L48, k48, n48⟩, -, X48, ⟨Lc48, hQ48, l48, y48, z48⟩, st48⟩ := Jvm.LawKit.callS X47 hx (y := (⟨"com/example/double_prior/doubleprior/index/ReaderReadLongPinLaw", "put", "([BIIII)V"⟩ : MethodName)) hown (mvT hZ (hw _ (List.mem_of_getElem? (i := 10) rfl))) (mvT hZ (hw _ (List.mem_of_getElem? (i := 11) rfl))) (mvT hZ (hw _ (List.mem_of_getElem? (i := 4) rfl))) (mvT hZ (hw _ (List.mem_of_getElem? (i := 12) rfl))) (by decide) (backOf (W := 0) (rm3 l Z tA hw [] b4 y3 (5 : Int32) y2 (f2 q0 (5 : Int32)) (g3_0 y3 (4 : Int32) y2 (f2 q0 (4 : Int32)) (g3_0 y3 (3 : Int32) y2 (f2 q0 (3 : Int32)) (g3_0 y3 (2 : Int32) y2 (f2 q0 (2 : Int32)) (g3_0 y3 (1 : Int32) y2 (f2 q0 (1 : Int32)) (g3_0 y3 (0 : Int32) y2 (f2 q0 (0 : Int32)) [(.int ((f1 q4 (0 : Int32)).toInt8.toInt32)), (.int ((f1 q4 (1 : Int32)).toInt8.toInt32)), (.int ((f1 q4 (2 : Int32)).toInt8.toInt32)), (.int ((f1 q4 (3 : Int32)).toInt8.toInt32)), (.int ((f1 q4 (4 : Int32)).toInt8.toInt32)), (.int ((f1 q4 (5 : Int32)).toInt8.toInt32)), (.int ((f1 q4 (6 : Int32)).toInt8.toInt32)), (.int ((f1 q4 (7 : Int32)).toInt8.toInt32)), (.int ((f1 q4 (8 : Int32)).toInt8.toInt32)), (.int ((f1 q4 (9 : Int32)).toInt8.toInt32)), (.int ((f1 q4 (10 : Int32)).toInt8.toInt32)), (.int ((f1 q4 (11 : Int32)).toInt8.toInt32)), (.int ((f1 q4 (12 : Int32)).toInt8.toInt32)), (.int ((f1 q4 (13 : Int32)).toInt8.toInt32)), (.int ((f1 q4 (14 : Int32)).toInt8.toInt32)), (.int ((f1 q4 (15 : Int32)).toInt8.toInt32))]))))) h46 n0 Z46 G46_0 Zs4 (own_ix _ _ _ (own_s48 p3 y3 hy3) (by decide) (own_g16 (own_g16 (own_g16 (own_g16 (own_g16 rfl))))))) hZ (hw _ (List.mem_of_getElem? (i := 12) rfl)) (hw _ (List.mem_of_getElem? (i := 4) rfl)) (by decide) (by decide)) (g := (mkF m 274 #[.val (.long q0), .second, .val (.int p1), .val (.int p2), .val (.int p3), .val (.long q4), .second, .val (.int y2), .val (.int y3), .val (.ref b4), .unset, .unset, .unset, .unset, .unset] [(.int (f2 q0 (5 : Int32))), (.int y2), (.int (5 : Int32)), (.int y3), (.ref b4)])) rfl (by rw [hml]; rfl) (argsL := [(.ref b4), (.int y3), (.int (5 : Int32)), (.int y2), (.int (f2 q0 (5 : Int32)))]) (rest := []) (lenOf own_pd2 rfl) rfl (by show 2 * 0 + _ ≤ _; exact Nat.le_of_eq rfl) (hb hby at_274) (fun _ _ => ⟨rfl, e47, (by decide : 1 + 0 ≤ _), (by decide : 16 + 0 ≤ _)⟩)
  dsimp only [Pt.U, Pt.locs, Pt.cells, Pt.slots] at X48 l48 y48 z48 st48 hQ48
  rw [l48, y48, z48] at X48
  generalize e48 : T48.heap = h48 at hQ48
  obtain ⟨rfl, Nq48, Kq48, G48_0⟩ := hQ48
  have N48 := Fr.app N46 Nq48
  have K48 := K46.trans Kq48 (allS (Or.inr Zh4) all0)
  have Z48 := Nat.le_trans Z46 Kq48.1
  change Stand _ _ _ _ _ _ _ _ _ _ _ _ 1 16 at X48
  refine Goes.step (fun t k => st48 t k) ?_
  show Goes _ _ _ _ _ _ _ (T48.setTop (mkF m 277 #[.val (.long q0), .second, .val (.int p1), .val (.int p2), .val (.int p3), .val (.long q4), .second, .val (.int y2), .val (.int y3), .val (.ref b4), .unset, .unset, .unset, .unset, .unset] []))
  refine Goes.step (fun t k => XS.aload X48.here hx rfl (hb hby at_277) rfl rfl k) ?_
  show Goes _ _ _ _ _ _ _ (T48.setTop (mkF m 279 #[.val (.long q0), .second, .val (.int p1), .val (.int p2), .val (.int p3), .val (.long q4), .second, .val (.int y2), .val (.int y3), .val (.ref b4), .unset, .unset, .unset, .unset, .unset] [(.ref b4)]))
  refine Goes.step (fun t k => XS.iload X48.here hx rfl (hb hby at_279) rfl k) ?_
  show Goes _ _ _ _ _ _ _ (T48.setTop (mkF m 281 #[.val (.long q0), .second, .val (.int p1), .val (.int p2), .val (.int p3), .val (.long q4), .second, .val (.int y2), .val (.int y3), .val (.ref b4), .unset, .unset, .unset, .unset, .unset] [(.int y3), (.ref b4)]))
  refine Goes.step (fun t k => XS.bipush X48.here hx rfl (hb hby at_281) k) ?_
  show Goes _ _ _ _ _ _ _ (T48.setTop (mkF m 283 #[.val (.long q0), .second, .val (.int p1), .val (.int p2), .val (.int p3), .val (.long q4), .second, .val (.int y2), .val (.int y3), .val (.ref b4), .unset, .unset, .unset, .unset, .unset] [(.int (6 : Int32)), (.int y3), (.ref b4)]))
  refine Goes.step (fun t k => XS.iload X48.here hx rfl (hb hby at_283) rfl k) ?_
  show Goes _ _ _ _ _ _ _ (T48.setTop (mkF m 285 #[.val (.long q0), .second, .val (.int p1), .val (.int p2), .val (.int p3), .val (.long q4), .second, .val (.int y2), .val (.int y3), .val (.ref b4), .unset, .unset, .unset, .unset, .unset] [(.int y2), (.int (6 : Int32)), (.int y3), (.ref b4)]))
  refine Goes.step (fun t k => XS.lloadN X48.here hx rfl (hb hby at_285) rfl k) ?_
  show Goes _ _ _ _ _ _ _ (T48.setTop (mkF m 286 #[.val (.long q0), .second, .val (.int p1), .val (.int p2), .val (.int p3), .val (.long q4), .second, .val (.int y2), .val (.int y3), .val (.ref b4), .unset, .unset, .unset, .unset, .unset] [(.long q0), (.int y2), (.int (6 : Int32)), (.int y3), (.ref b4)]))
  refine Goes.step (fun t k => XS.bipush X48.here hx rfl (hb hby at_286) k) ?_
  show Goes _ _ _ _ _ _ _ (T48.setTop (mkF m 288 #[.val (.long q0), .second, .val (.int p1), .val (.int p2), .val (.int p3), .val (.long q4), .second, .val (.int y2), .val (.int y3), .val (.ref b4), .unset, .unset, .unset, .unset, .unset] [(.int (6 : Int32)), (.long q0), (.int y2), (.int (6 : Int32)), (.int y3), (.ref b4)]))
  obtain ⟨_, _, ⟨T49, L49, k49, n49⟩, -, X49, ⟨Lc49, hQ49, l49, y49, z49⟩, st49⟩ := Jvm.LawKit.callS X48 hx (y := (⟨"com/example/double_prior/doubleprior/index/ReaderReadLongPinLaw", "pay", "(JI)I"⟩ : MethodName)) hown (mvT hZ (hw _ (List.mem_of_getElem? (i := 6) rfl))) (mvT hZ (hw _ (List.mem_of_getElem? (i := 7) rfl))) (mvT hZ (hw _ (List.mem_of_getElem? (i := 4) rfl))) (mvT hZ (hw _ (List.mem_of_getElem? (i := 8) rfl))) (by decide) (backOf (W := 4) (rm2 l Z tA hw [] q0 (6 : Int32) h48) hZ (hw _ (List.mem_of_getElem? (i := 8) rfl)) (hw _ (List.mem_of_getElem? (i := 4) rfl)) (by decide) (by decide)) (g := (mkF m 288 #[.val (.long q0), .second, .val (.int p1), .val (.int p2), .val (.int p3), .val (.long q4), .second, .val (.int y2), .val (.int y3), .val (.ref b4), .unset, .unset, .unset, .unset, .unset] [(.int (6 : Int32)), (.long q0), (.int y2), (.int (6 : Int32)), (.int y3), (.ref b4)])) rfl (by rw [hml]; rfl) (argsL := [(.long q0), (.int (6 : Int32))]) (rest := [(.int y2), (.int (6 : Int32)), (.int y3), (.ref b4)]) (lenOf own_pd1 rfl) rfl (by show 2 * 0 + _ ≤ _; exact Nat.le_of_eq rfl) (hb hby at_288) (fun _ _ => ⟨rfl, e48, (by decide : 1 + 0 ≤ _), (by decide : 16 + 0 ≤ _)⟩)
  dsimp only [Pt.U, Pt.locs, Pt.cells, Pt.slots] at X49 l49 y49 z49 st49 hQ49
  rw [l49, y49, z49] at X49
  obtain ⟨rfl, rfl, e49⟩ := hQ49
  try rw [List.append_nil] at X49
  change Stand _ _ _ _ _ _ _ _ _ _ _ _ 1 16 at X49
  refine Goes.step (fun t k => st49 t k) ?_
  show Goes _ _ _ _ _ _ _ (T49.setTop (mkF m 291 #[.val (.long q0), .second, .val (.int p1), .val (.int p2), .val (.int p3), .val (.long q4), .second, .val (.int y2), .val (.int y3), .val (.ref b4), .unset, .unset, .unset, .unset, .unset] [(.int (f2 q0 (6 : Int32))), (.int y2), (.int (6 : Int32)), (.int y3), (.ref b4)]))
  obtain ⟨_, _, ⟨T50, L50, k50, n50⟩, -, X50, ⟨Lc50, hQ50, l50, y50, z50⟩, st50⟩ := Jvm.LawKit.callS X49 hx (y := (⟨"com/example/double_prior/doubleprior/index/ReaderReadLongPinLaw", "put", "([BIIII)V"⟩ : MethodName)) hown (mvT hZ (hw _ (List.mem_of_getElem? (i := 10) rfl))) (mvT hZ (hw _ (List.mem_of_getElem? (i := 11) rfl))) (mvT hZ (hw _ (List.mem_of_getElem? (i := 4) rfl))) (mvT hZ (hw _ (List.mem_of_getElem? (i := 12) rfl))) (by decide) (backOf (W := 0) (rm3 l Z tA hw [] b4 y3 (6 : Int32) y2 (f2 q0 (6 : Int32)) (g3_0 y3 (5 : Int32) y2 (f2 q0 (5 : Int32)) (g3_0 y3 (4 : Int32) y2 (f2 q0 (4 : Int32)) (g3_0 y3 (3 : Int32) y2 (f2 q0 (3 : Int32)) (g3_0 y3 (2 : Int32) y2 (f2 q0 (2 : Int32)) (g3_0 y3 (1 : Int32) y2 (f2 q0 (1 : Int32)) (g3_0 y3 (0 : Int32) y2 (f2 q0 (0 : Int32)) [(.int ((f1 q4 (0 : Int32)).toInt8.toInt32)), (.int ((f1 q4 (1 : Int32)).toInt8.toInt32)), (.int ((f1 q4 (2 : Int32)).toInt8.toInt32)), (.int ((f1 q4 (3 : Int32)).toInt8.toInt32)), (.int ((f1 q4 (4 : Int32)).toInt8.toInt32)), (.int ((f1 q4 (5 : Int32)).toInt8.toInt32)), (.int ((f1 q4 (6 : Int32)).toInt8.toInt32)), (.int ((f1 q4 (7 : Int32)).toInt8.toInt32)), (.int ((f1 q4 (8 : Int32)).toInt8.toInt32)), (.int ((f1 q4 (9 : Int32)).toInt8.toInt32)), (.int ((f1 q4 (10 : Int32)).toInt8.toInt32)), (.int ((f1 q4 (11 : Int32)).toInt8.toInt32)), (.int ((f1 q4 (12 : Int32)).toInt8.toInt32)), (.int ((f1 q4 (13 : Int32)).toInt8.toInt32)), (.int ((f1 q4 (14 : Int32)).toInt8.toInt32)), (.int ((f1 q4 (15 : Int32)).toInt8.toInt32))])))))) h48 n0 Z48 G48_0 Zs4 (own_ix _ _ _ (own_s50 p3 y3 hy3) (by decide) (own_g16 (own_g16 (own_g16 (own_g16 (own_g16 (own_g16 rfl)))))))) hZ (hw _ (List.mem_of_getElem? (i := 12) rfl)) (hw _ (List.mem_of_getElem? (i := 4) rfl)) (by decide) (by decide)) (g := (mkF m 291 #[.val (.long q0), .second, .val (.int p1), .val (.int p2), .val (.int p3), .val (.long q4), .second, .val (.int y2), .val (.int y3), .val (.ref b4), .unset, .unset, .unset, .unset, .unset] [(.int (f2 q0 (6 : Int32))), (.int y2), (.int (6 : Int32)), (.int y3), (.ref b4)])) rfl (by rw [hml]; rfl) (argsL := [(.ref b4), (.int y3), (.int (6 : Int32)), (.int y2), (.int (f2 q0 (6 : Int32)))]) (rest := []) (lenOf own_pd2 rfl) rfl (by show 2 * 0 + _ ≤ _; exact Nat.le_of_eq rfl) (hb hby at_291) (fun _ _ => ⟨rfl, e49, (by decide : 1 + 0 ≤ _), (by decide : 16 + 0 ≤ _)⟩)
  dsimp only [Pt.U, Pt.locs, Pt.cells, Pt.slots] at X50 l50 y50 z50 st50 hQ50
  rw [l50, y50, z50] at X50
  generalize e50 : T50.heap = h50 at hQ50
  obtain ⟨rfl, Nq50, Kq50, G50_0⟩ := hQ50
  have N50 := Fr.app N48 Nq50
  have K50 := K48.trans Kq50 (allS (Or.inr Zh4) all0)
  have Z50 := Nat.le_trans Z48 Kq50.1
  change Stand _ _ _ _ _ _ _ _ _ _ _ _ 1 16 at X50
  refine Goes.step (fun t k => st50 t k) ?_
  show Goes _ _ _ _ _ _ _ (T50.setTop (mkF m 294 #[.val (.long q0), .second, .val (.int p1), .val (.int p2), .val (.int p3), .val (.long q4), .second, .val (.int y2), .val (.int y3), .val (.ref b4), .unset, .unset, .unset, .unset, .unset] []))
  refine Goes.step (fun t k => XS.aload X50.here hx rfl (hb hby at_294) rfl rfl k) ?_
  show Goes _ _ _ _ _ _ _ (T50.setTop (mkF m 296 #[.val (.long q0), .second, .val (.int p1), .val (.int p2), .val (.int p3), .val (.long q4), .second, .val (.int y2), .val (.int y3), .val (.ref b4), .unset, .unset, .unset, .unset, .unset] [(.ref b4)]))
  refine Goes.step (fun t k => XS.iload X50.here hx rfl (hb hby at_296) rfl k) ?_
  show Goes _ _ _ _ _ _ _ (T50.setTop (mkF m 298 #[.val (.long q0), .second, .val (.int p1), .val (.int p2), .val (.int p3), .val (.long q4), .second, .val (.int y2), .val (.int y3), .val (.ref b4), .unset, .unset, .unset, .unset, .unset] [(.int y3), (.ref b4)]))
  refine Goes.step (fun t k => XS.bipush X50.here hx rfl (hb hby at_298) k) ?_
  show Goes _ _ _ _ _ _ _ (T50.setTop (mkF m 300 #[.val (.long q0), .second, .val (.int p1), .val (.int p2), .val (.int p3), .val (.long q4), .second, .val (.int y2), .val (.int y3), .val (.ref b4), .unset, .unset, .unset, .unset, .unset] [(.int (7 : Int32)), (.int y3), (.ref b4)]))
  refine Goes.step (fun t k => XS.iload X50.here hx rfl (hb hby at_300) rfl k) ?_
  show Goes _ _ _ _ _ _ _ (T50.setTop (mkF m 302 #[.val (.long q0), .second, .val (.int p1), .val (.int p2), .val (.int p3), .val (.long q4), .second, .val (.int y2), .val (.int y3), .val (.ref b4), .unset, .unset, .unset, .unset, .unset] [(.int y2), (.int (7 : Int32)), (.int y3), (.ref b4)]))
  refine Goes.step (fun t k => XS.lloadN X50.here hx rfl (hb hby at_302) rfl k) ?_
  show Goes _ _ _ _ _ _ _ (T50.setTop (mkF m 303 #[.val (.long q0), .second, .val (.int p1), .val (.int p2), .val (.int p3), .val (.long q4), .second, .val (.int y2), .val (.int y3), .val (.ref b4), .unset, .unset, .unset, .unset, .unset] [(.long q0), (.int y2), (.int (7 : Int32)), (.int y3), (.ref b4)]))
  refine Goes.step (fun t k => XS.bipush X50.here hx rfl (hb hby at_303) k) ?_
  show Goes _ _ _ _ _ _ _ (T50.setTop (mkF m 305 #[.val (.long q0), .second, .val (.int p1), .val (.int p2), .val (.int p3), .val (.long q4), .second, .val (.int y2), .val (.int y3), .val (.ref b4), .unset, .unset, .unset, .unset, .unset] [(.int (7 : Int32)), (.long q0), (.int y2), (.int (7 : Int32)), (.int y3), (.ref b4)]))
  obtain ⟨_, _, ⟨T51, L51, k51, n51⟩, -, X51, ⟨Lc51, hQ51, l51, y51, z51⟩, st51⟩ := Jvm.LawKit.callS X50 hx (y := (⟨"com/example/double_prior/doubleprior/index/ReaderReadLongPinLaw", "pay", "(JI)I"⟩ : MethodName)) hown (mvT hZ (hw _ (List.mem_of_getElem? (i := 6) rfl))) (mvT hZ (hw _ (List.mem_of_getElem? (i := 7) rfl))) (mvT hZ (hw _ (List.mem_of_getElem? (i := 4) rfl))) (mvT hZ (hw _ (List.mem_of_getElem? (i := 8) rfl))) (by decide) (backOf (W := 4) (rm2 l Z tA hw [] q0 (7 : Int32) h50) hZ (hw _ (List.mem_of_getElem? (i := 8) rfl)) (hw _ (List.mem_of_getElem? (i := 4) rfl)) (by decide) (by decide)) (g := (mkF m 305 #[.val (.long q0), .second, .val (.int p1), .val (.int p2), .val (.int p3), .val (.long q4), .second, .val (.int y2), .val (.int y3), .val (.ref b4), .unset, .unset, .unset, .unset, .unset] [(.int (7 : Int32)), (.long q0), (.int y2), (.int (7 : Int32)), (.int y3), (.ref b4)])) rfl (by rw [hml]; rfl) (argsL := [(.long q0), (.int (7 : Int32))]) (rest := [(.int y2), (.int (7 : Int32)), (.int y3), (.ref b4)]) (lenOf own_pd1 rfl) rfl (by show 2 * 0 + _ ≤ _; exact Nat.le_of_eq rfl) (hb hby at_305) (fun _ _ => ⟨rfl, e50, (by decide : 1 + 0 ≤ _), (by decide : 16 + 0 ≤ _)⟩)
  dsimp only [Pt.U, Pt.locs, Pt.cells, Pt.slots] at X51 l51 y51 z51 st51 hQ51
  rw [l51, y51, z51] at X51
  obtain ⟨rfl, rfl, e51⟩ := hQ51
  try rw [List.append_nil] at X51
  change Stand _ _ _ _ _ _ _ _ _ _ _ _ 1 16 at X51
  refine Goes.step (fun t k => st51 t k) ?_
  show Goes _ _ _ _ _ _ _ (T51.setTop (mkF m 308 #[.val (.long q0), .second, .val (.int p1), .val (.int p2), .val (.int p3), .val (.long q4), .second, .val (.int y2), .val (.int y3), .val (.ref b4), .unset, .unset, .unset, .unset, .unset] [(.int (f2 q0 (7 : Int32))), (.int y2), (.int (7 : Int32)), (.int y3), (.ref b4)]))
  obtain ⟨_, _, ⟨T52, L52, k52, n52⟩, -, X52, ⟨Lc52, hQ52, l52, y52, z52⟩, st52⟩ := Jvm.LawKit.callS X51 hx (y := (⟨"com/example/double_prior/doubleprior/index/ReaderReadLongPinLaw", "put", "([BIIII)V"⟩ : MethodName)) hown (mvT hZ (hw _ (List.mem_of_getElem? (i := 10) rfl))) (mvT hZ (hw _ (List.mem_of_getElem? (i := 11) rfl))) (mvT hZ (hw _ (List.mem_of_getElem? (i := 4) rfl))) (mvT hZ (hw _ (List.mem_of_getElem? (i := 12) rfl))) (by decide) (backOf (W := 0) (rm3 l Z tA hw [] b4 y3 (7 : Int32) y2 (f2 q0 (7 : Int32)) (g3_0 y3 (6 : Int32) y2 (f2 q0 (6 : Int32)) (g3_0 y3 (5 : Int32) y2 (f2 q0 (5 : Int32)) (g3_0 y3 (4 : Int32) y2 (f2 q0 (4 : Int32)) (g3_0 y3 (3 : Int32) y2 (f2 q0 (3 : Int32)) (g3_0 y3 (2 : Int32) y2 (f2 q0 (2 : Int32)) (g3_0 y3 (1 : Int32) y2 (f2 q0 (1 : Int32)) (g3_0 y3 (0 : Int32) y2 (f2 q0 (0 : Int32)) [(.int ((f1 q4 (0 : Int32)).toInt8.toInt32)), (.int ((f1 q4 (1 : Int32)).toInt8.toInt32)), (.int ((f1 q4 (2 : Int32)).toInt8.toInt32)), (.int ((f1 q4 (3 : Int32)).toInt8.toInt32)), (.int ((f1 q4 (4 : Int32)).toInt8.toInt32)), (.int ((f1 q4 (5 : Int32)).toInt8.toInt32)), (.int ((f1 q4 (6 : Int32)).toInt8.toInt32)), (.int ((f1 q4 (7 : Int32)).toInt8.toInt32)), (.int ((f1 q4 (8 : Int32)).toInt8.toInt32)), (.int ((f1 q4 (9 : Int32)).toInt8.toInt32)), (.int ((f1 q4 (10 : Int32)).toInt8.toInt32)), (.int ((f1 q4 (11 : Int32)).toInt8.toInt32)), (.int ((f1 q4 (12 : Int32)).toInt8.toInt32)), (.int ((f1 q4 (13 : Int32)).toInt8.toInt32)), (.int ((f1 q4 (14 : Int32)).toInt8.toInt32)), (.int ((f1 q4 (15 : Int32)).toInt8.toInt32))]))))))) h50 n0 Z50 G50_0 Zs4 (own_ix _ _ _ (own_s52 p3 y3 hy3) (by decide) (own_g16 (own_g16 (own_g16 (own_g16 (own_g16 (own_g16 (own_g16 rfl))))))))) hZ (hw _ (List.mem_of_getElem? (i := 12) rfl)) (hw _ (List.mem_of_getElem? (i := 4) rfl)) (by decide) (by decide)) (g := (mkF m 308 #[.val (.long q0), .second, .val (.int p1), .val (.int p2), .val (.int p3), .val (.long q4), .second, .val (.int y2), .val (.int y3), .val (.ref b4), .unset, .unset, .unset, .unset, .unset] [(.int (f2 q0 (7 : Int32))), (.int y2), (.int (7 : Int32)), (.int y3), (.ref b4)])) rfl (by rw [hml]; rfl) (argsL := [(.ref b4), (.int y3), (.int (7 : Int32)), (.int y2), (.int (f2 q0 (7 : Int32)))]) (rest := []) (lenOf own_pd2 rfl) rfl (by show 2 * 0 + _ ≤ _; exact Nat.le_of_eq rfl) (hb hby at_308) (fun _ _ => ⟨rfl, e51, (by decide : 1 + 0 ≤ _), (by decide : 16 + 0 ≤ _)⟩)
  dsimp only [Pt.U, Pt.locs, Pt.cells, Pt.slots] at X52 l52 y52 z52 st52 hQ52
  rw [l52, y52, z52] at X52
  generalize e52 : T52.heap = h52 at hQ52
  obtain ⟨rfl, Nq52, Kq52, G52_0⟩ := hQ52
  have N52 := Fr.app N50 Nq52
  have K52 := K50.trans Kq52 (allS (Or.inr Zh4) all0)
  have Z52 := Nat.le_trans Z50 Kq52.1
  change Stand _ _ _ _ _ _ _ _ _ _ _ _ 1 16 at X52
  refine Goes.step (fun t k => st52 t k) ?_
  show Goes _ _ _ _ _ _ _ (T52.setTop (mkF m 311 #[.val (.long q0), .second, .val (.int p1), .val (.int p2), .val (.int p3), .val (.long q4), .second, .val (.int y2), .val (.int y3), .val (.ref b4), .unset, .unset, .unset, .unset, .unset] []))
  refine Goes.step (fun t k => XS.aload X52.here hx rfl (hb hby at_311) rfl rfl k) ?_
  show Goes _ _ _ _ _ _ _ (T52.setTop (mkF m 313 #[.val (.long q0), .second, .val (.int p1), .val (.int p2), .val (.int p3), .val (.long q4), .second, .val (.int y2), .val (.int y3), .val (.ref b4), .unset, .unset, .unset, .unset, .unset] [(.ref b4)]))
  refine Goes.step (fun t k => XS.iload X52.here hx rfl (hb hby at_313) rfl k) ?_
  show Goes _ _ _ _ _ _ _ (T52.setTop (mkF m 315 #[.val (.long q0), .second, .val (.int p1), .val (.int p2), .val (.int p3), .val (.long q4), .second, .val (.int y2), .val (.int y3), .val (.ref b4), .unset, .unset, .unset, .unset, .unset] [(.int y3), (.ref b4)]))
  refine Goes.step (fun t k => XS.bipush X52.here hx rfl (hb hby at_315) k) ?_
  show Goes _ _ _ _ _ _ _ (T52.setTop (mkF m 317 #[.val (.long q0), .second, .val (.int p1), .val (.int p2), .val (.int p3), .val (.long q4), .second, .val (.int y2), .val (.int y3), .val (.ref b4), .unset, .unset, .unset, .unset, .unset] [(.int (8 : Int32)), (.int y3), (.ref b4)]))
  refine Goes.step (fun t k => XS.iload X52.here hx rfl (hb hby at_317) rfl k) ?_
  show Goes _ _ _ _ _ _ _ (T52.setTop (mkF m 319 #[.val (.long q0), .second, .val (.int p1), .val (.int p2), .val (.int p3), .val (.long q4), .second, .val (.int y2), .val (.int y3), .val (.ref b4), .unset, .unset, .unset, .unset, .unset] [(.int y2), (.int (8 : Int32)), (.int y3), (.ref b4)]))
  refine Goes.step (fun t k => XS.lloadN X52.here hx rfl (hb hby at_319) rfl k) ?_
  show Goes _ _ _ _ _ _ _ (T52.setTop (mkF m 320 #[.val (.long q0), .second, .val (.int p1), .val (.int p2), .val (.int p3), .val (.long q4), .second, .val (.int y2), .val (.int y3), .val (.ref b4), .unset, .unset, .unset, .unset, .unset] [(.long q0), (.int y2), (.int (8 : Int32)), (.int y3), (.ref b4)]))
  refine Goes.step (fun t k => XS.bipush X52.here hx rfl (hb hby at_320) k) ?_
  show Goes _ _ _ _ _ _ _ (T52.setTop (mkF m 322 #[.val (.long q0), .second, .val (.int p1), .val (.int p2), .val (.int p3), .val (.long q4), .second, .val (.int y2), .val (.int y3), .val (.ref b4), .unset, .unset, .unset, .unset, .unset] [(.int (8 : Int32)), (.long q0), (.int y2), (.int (8 : Int32)), (.int y3), (.ref b4)]))
  obtain ⟨_, _, ⟨T53, L53, k53, n53⟩, -, X53, ⟨Lc53, hQ53, l53, y53, z53⟩, st53⟩ := Jvm.LawKit.callS X52 hx (y := (⟨"com/example/double_prior/doubleprior/index/ReaderReadLongPinLaw", "pay", "(JI)I"⟩ : MethodName)) hown (mvT hZ (hw _ (List.mem_of_getElem? (i := 6) rfl))) (mvT hZ (hw _ (List.mem_of_getElem? (i := 7) rfl))) (mvT hZ (hw _ (List.mem_of_getElem? (i := 4) rfl))) (mvT hZ (hw _ (List.mem_of_getElem? (i := 8) rfl))) (by decide) (backOf (W := 4) (rm2 l Z tA hw [] q0 (8 : Int32) h52) hZ (hw _ (List.mem_of_getElem? (i := 8) rfl)) (hw _ (List.mem_of_getElem? (i := 4) rfl)) (by decide) (by decide)) (g := (mkF m 322 #[.val (.long q0), .second, .val (.int p1), .val (.int p2), .val (.int p3), .val (.long q4), .second, .val (.int y2), .val (.int y3), .val (.ref b4), .unset, .unset, .unset, .unset, .unset] [(.int (8 : Int32)), (.long q0), (.int y2), (.int (8 : Int32)), (.int y3), (.ref b4)])) rfl (by rw [hml]; rfl) (argsL := [(.long q0), (.int (8 : Int32))]) (rest := [(.int y2), (.int (8 : Int32)), (.int y3), (.ref b4)]) (lenOf own_pd1 rfl) rfl (by show 2 * 0 + _ ≤ _; exact Nat.le_of_eq rfl) (hb hby at_322) (fun _ _ => ⟨rfl, e52, (by decide : 1 + 0 ≤ _), (by decide : 16 + 0 ≤ _)⟩)
  dsimp only [Pt.U, Pt.locs, Pt.cells, Pt.slots] at X53 l53 y53 z53 st53 hQ53
  rw [l53, y53, z53] at X53
  obtain ⟨rfl, rfl, e53⟩ := hQ53
  try rw [List.append_nil] at X53
  change Stand _ _ _ _ _ _ _ _ _ _ _ _ 1 16 at X53
  refine Goes.step (fun t k => st53 t k) ?_
  show Goes _ _ _ _ _ _ _ (T53.setTop (mkF m 325 #[.val (.long q0), .second, .val (.int p1), .val (.int p2), .val (.int p3), .val (.long q4), .second, .val (.int y2), .val (.int y3), .val (.ref b4), .unset, .unset, .unset, .unset, .unset] [(.int (f2 q0 (8 : Int32))), (.int y2), (.int (8 : Int32)), (.int y3), (.ref b4)]))
  obtain ⟨_, _, ⟨T54, L54, k54, n54⟩, -, X54, ⟨Lc54, hQ54, l54, y54, z54⟩, st54⟩ := Jvm.LawKit.callS X53 hx (y := (⟨"com/example/double_prior/doubleprior/index/ReaderReadLongPinLaw", "put", "([BIIII)V"⟩ : MethodName)) hown (mvT hZ (hw _ (List.mem_of_getElem? (i := 10) rfl))) (mvT hZ (hw _ (List.mem_of_getElem? (i := 11) rfl))) (mvT hZ (hw _ (List.mem_of_getElem? (i := 4) rfl))) (mvT hZ (hw _ (List.mem_of_getElem? (i := 12) rfl))) (by decide) (backOf (W := 0) (rm3 l Z tA hw [] b4 y3 (8 : Int32) y2 (f2 q0 (8 : Int32)) (g3_0 y3 (7 : Int32) y2 (f2 q0 (7 : Int32)) (g3_0 y3 (6 : Int32) y2 (f2 q0 (6 : Int32)) (g3_0 y3 (5 : Int32) y2 (f2 q0 (5 : Int32)) (g3_0 y3 (4 : Int32) y2 (f2 q0 (4 : Int32)) (g3_0 y3 (3 : Int32) y2 (f2 q0 (3 : Int32)) (g3_0 y3 (2 : Int32) y2 (f2 q0 (2 : Int32)) (g3_0 y3 (1 : Int32) y2 (f2 q0 (1 : Int32)) (g3_0 y3 (0 : Int32) y2 (f2 q0 (0 : Int32)) [(.int ((f1 q4 (0 : Int32)).toInt8.toInt32)), (.int ((f1 q4 (1 : Int32)).toInt8.toInt32)), (.int ((f1 q4 (2 : Int32)).toInt8.toInt32)), (.int ((f1 q4 (3 : Int32)).toInt8.toInt32)), (.int ((f1 q4 (4 : Int32)).toInt8.toInt32)), (.int ((f1 q4 (5 : Int32)).toInt8.toInt32)), (.int ((f1 q4 (6 : Int32)).toInt8.toInt32)), (.int ((f1 q4 (7 : Int32)).toInt8.toInt32)), (.int ((f1 q4 (8 : Int32)).toInt8.toInt32)), (.int ((f1 q4 (9 : Int32)).toInt8.toInt32)), (.int ((f1 q4 (10 : Int32)).toInt8.toInt32)), (.int ((f1 q4 (11 : Int32)).toInt8.toInt32)), (.int ((f1 q4 (12 : Int32)).toInt8.toInt32)), (.int ((f1 q4 (13 : Int32)).toInt8.toInt32)), (.int ((f1 q4 (14 : Int32)).toInt8.toInt32)), (.int ((f1 q4 (15 : Int32)).toInt8.toInt32))])))))))) h52 n0 Z52 G52_0 Zs4 (own_ix _ _ _ (own_s54 p3 y3 hy3) (by decide) (own_g16 (own_g16 (own_g16 (own_g16 (own_g16 (own_g16 (own_g16 (own_g16 rfl)))))))))) hZ (hw _ (List.mem_of_getElem? (i := 12) rfl)) (hw _ (List.mem_of_getElem? (i := 4) rfl)) (by decide) (by decide)) (g := (mkF m 325 #[.val (.long q0), .second, .val (.int p1), .val (.int p2), .val (.int p3), .val (.long q4), .second, .val (.int y2), .val (.int y3), .val (.ref b4), .unset, .unset, .unset, .unset, .unset] [(.int (f2 q0 (8 : Int32))), (.int y2), (.int (8 : Int32)), (.int y3), (.ref b4)])) rfl (by rw [hml]; rfl) (argsL := [(.ref b4), (.int y3), (.int (8 : Int32)), (.int y2), (.int (f2 q0 (8 : Int32)))]) (rest := []) (lenOf own_pd2 rfl) rfl (by show 2 * 0 + _ ≤ _; exact Nat.le_of_eq rfl) (hb hby at_325) (fun _ _ => ⟨rfl, e53, (by decide : 1 + 0 ≤ _), (by decide : 16 + 0 ≤ _)⟩)
  dsimp only [Pt.U, Pt.locs, Pt.cells, Pt.slots] at X54 l54 y54 z54 st54 hQ54
  rw [l54, y54, z54] at X54
  generalize e54 : T54.heap = h54 at hQ54
  obtain ⟨rfl, Nq54, Kq54, G54_0⟩ := hQ54
  have N54 := Fr.app N52 Nq54
  have K54 := K52.trans Kq54 (allS (Or.inr Zh4) all0)
  have Z54 := Nat.le_trans Z52 Kq54.1
  change Stand _ _ _ _ _ _ _ _ _ _ _ _ 1 16 at X54
  refine Goes.step (fun t k => st54 t k) ?_
  show Goes _ _ _ _ _ _ _ (T54.setTop (mkF m 328 #[.val (.long q0), .second, .val (.int p1), .val (.int p2), .val (.int p3), .val (.long q4), .second, .val (.int y2), .val (.int y3), .val (.ref b4), .unset, .unset, .unset, .unset, .unset] []))
  refine Goes.step (fun t k => XS.aload X54.here hx rfl (hb hby at_328) rfl rfl k) ?_
  show Goes _ _ _ _ _ _ _ (T54.setTop (mkF m 330 #[.val (.long q0), .second, .val (.int p1), .val (.int p2), .val (.int p3), .val (.long q4), .second, .val (.int y2), .val (.int y3), .val (.ref b4), .unset, .unset, .unset, .unset, .unset] [(.ref b4)]))
  refine Goes.step (fun t k => XS.iload X54.here hx rfl (hb hby at_330) rfl k) ?_
  show Goes _ _ _ _ _ _ _ (T54.setTop (mkF m 332 #[.val (.long q0), .second, .val (.int p1), .val (.int p2), .val (.int p3), .val (.long q4), .second, .val (.int y2), .val (.int y3), .val (.ref b4), .unset, .unset, .unset, .unset, .unset] [(.int y3), (.ref b4)]))
  refine Goes.step (fun t k => XS.bipush X54.here hx rfl (hb hby at_332) k) ?_
  show Goes _ _ _ _ _ _ _ (T54.setTop (mkF m 334 #[.val (.long q0), .second, .val (.int p1), .val (.int p2), .val (.int p3), .val (.long q4), .second, .val (.int y2), .val (.int y3), .val (.ref b4), .unset, .unset, .unset, .unset, .unset] [(.int (9 : Int32)), (.int y3), (.ref b4)]))
  refine Goes.step (fun t k => XS.iload X54.here hx rfl (hb hby at_334) rfl k) ?_
  show Goes _ _ _ _ _ _ _ (T54.setTop (mkF m 336 #[.val (.long q0), .second, .val (.int p1), .val (.int p2), .val (.int p3), .val (.long q4), .second, .val (.int y2), .val (.int y3), .val (.ref b4), .unset, .unset, .unset, .unset, .unset] [(.int y2), (.int (9 : Int32)), (.int y3), (.ref b4)]))
  refine Goes.step (fun t k => XS.iloadN X54.here hx rfl (hb hby at_336) rfl k) ?_
  show Goes _ _ _ _ _ _ _ (T54.setTop (mkF m 337 #[.val (.long q0), .second, .val (.int p1), .val (.int p2), .val (.int p3), .val (.long q4), .second, .val (.int y2), .val (.int y3), .val (.ref b4), .unset, .unset, .unset, .unset, .unset] [(.int p1), (.int y2), (.int (9 : Int32)), (.int y3), (.ref b4)]))
  refine Goes.step (fun t k => XS.iconst X54.here hx rfl (hb hby at_337) k) ?_
  show Goes _ _ _ _ _ _ _ (T54.setTop (mkF m 338 #[.val (.long q0), .second, .val (.int p1), .val (.int p2), .val (.int p3), .val (.long q4), .second, .val (.int y2), .val (.int y3), .val (.ref b4), .unset, .unset, .unset, .unset, .unset] [(.int (1 : Int32)), (.int p1), (.int y2), (.int (9 : Int32)), (.int y3), (.ref b4)]))
  refine Goes.step (fun t k => XS.iand X54.here hx rfl (hb hby at_338) rfl k) ?_
  show Goes _ _ _ _ _ _ _ (T54.setTop (mkF m 339 #[.val (.long q0), .second, .val (.int p1), .val (.int p2), .val (.int p3), .val (.long q4), .second, .val (.int y2), .val (.int y3), .val (.ref b4), .unset, .unset, .unset, .unset, .unset] [(.int (p1 &&& (1 : Int32))), (.int y2), (.int (9 : Int32)), (.int y3), (.ref b4)]))
  obtain ⟨_, _, ⟨T55, L55, k55, n55⟩, -, X55, ⟨Lc55, hQ55, l55, y55, z55⟩, st55⟩ := Jvm.LawKit.callS X54 hx (y := (⟨"com/example/double_prior/doubleprior/index/ReaderReadLongPinLaw", "put", "([BIIII)V"⟩ : MethodName)) hown (mvT hZ (hw _ (List.mem_of_getElem? (i := 10) rfl))) (mvT hZ (hw _ (List.mem_of_getElem? (i := 11) rfl))) (mvT hZ (hw _ (List.mem_of_getElem? (i := 4) rfl))) (mvT hZ (hw _ (List.mem_of_getElem? (i := 12) rfl))) (by decide) (backOf (W := 0) (rm3 l Z tA hw [] b4 y3 (9 : Int32) y2 (p1 &&& (1 : Int32)) (g3_0 y3 (8 : Int32) y2 (f2 q0 (8 : Int32)) (g3_0 y3 (7 : Int32) y2 (f2 q0 (7 : Int32)) (g3_0 y3 (6 : Int32) y2 (f2 q0 (6 : Int32)) (g3_0 y3 (5 : Int32) y2 (f2 q0 (5 : Int32)) (g3_0 y3 (4 : Int32) y2 (f2 q0 (4 : Int32)) (g3_0 y3 (3 : Int32) y2 (f2 q0 (3 : Int32)) (g3_0 y3 (2 : Int32) y2 (f2 q0 (2 : Int32)) (g3_0 y3 (1 : Int32) y2 (f2 q0 (1 : Int32)) (g3_0 y3 (0 : Int32) y2 (f2 q0 (0 : Int32)) [(.int ((f1 q4 (0 : Int32)).toInt8.toInt32)), (.int ((f1 q4 (1 : Int32)).toInt8.toInt32)), (.int ((f1 q4 (2 : Int32)).toInt8.toInt32)), (.int ((f1 q4 (3 : Int32)).toInt8.toInt32)), (.int ((f1 q4 (4 : Int32)).toInt8.toInt32)), (.int ((f1 q4 (5 : Int32)).toInt8.toInt32)), (.int ((f1 q4 (6 : Int32)).toInt8.toInt32)), (.int ((f1 q4 (7 : Int32)).toInt8.toInt32)), (.int ((f1 q4 (8 : Int32)).toInt8.toInt32)), (.int ((f1 q4 (9 : Int32)).toInt8.toInt32)), (.int ((f1 q4 (10 : Int32)).toInt8.toInt32)), (.int ((f1 q4 (11 : Int32)).toInt8.toInt32)), (.int ((f1 q4 (12 : Int32)).toInt8.toInt32)), (.int ((f1 q4 (13 : Int32)).toInt8.toInt32)), (.int ((f1 q4 (14 : Int32)).toInt8.toInt32)), (.int ((f1 q4 (15 : Int32)).toInt8.toInt32))]))))))))) h54 n0 Z54 G54_0 Zs4 (own_ix _ _ _ (own_s55 p3 y3 hy3) (by decide) (own_g16 (own_g16 (own_g16 (own_g16 (own_g16 (own_g16 (own_g16 (own_g16 (own_g16 rfl))))))))))) hZ (hw _ (List.mem_of_getElem? (i := 12) rfl)) (hw _ (List.mem_of_getElem? (i := 4) rfl)) (by decide) (by decide)) (g := (mkF m 339 #[.val (.long q0), .second, .val (.int p1), .val (.int p2), .val (.int p3), .val (.long q4), .second, .val (.int y2), .val (.int y3), .val (.ref b4), .unset, .unset, .unset, .unset, .unset] [(.int (p1 &&& (1 : Int32))), (.int y2), (.int (9 : Int32)), (.int y3), (.ref b4)])) rfl (by rw [hml]; rfl) (argsL := [(.ref b4), (.int y3), (.int (9 : Int32)), (.int y2), (.int (p1 &&& (1 : Int32)))]) (rest := []) (lenOf own_pd2 rfl) rfl (by show 2 * 0 + _ ≤ _; exact Nat.le_of_eq rfl) (hb hby at_339) (fun _ _ => ⟨rfl, e54, (by decide : 1 + 0 ≤ _), (by decide : 16 + 0 ≤ _)⟩)
  dsimp only [Pt.U, Pt.locs, Pt.cells, Pt.slots] at X55 l55 y55 z55 st55 hQ55
  rw [l55, y55, z55] at X55
  generalize e55 : T55.heap = h55 at hQ55
  obtain ⟨rfl, Nq55, Kq55, G55_0⟩ := hQ55
  have N55 := Fr.app N54 Nq55
  have K55 := K54.trans Kq55 (allS (Or.inr Zh4) all0)
  have Z55 := Nat.le_trans Z54 Kq55.1
  change Stand _ _ _ _ _ _ _ _ _ _ _ _ 1 16 at X55
  refine Goes.step (fun t k => st55 t k) ?_
  show Goes _ _ _ _ _ _ _ (T55.setTop (mkF m 342 #[.val (.long q0), .second, .val (.int p1), .val (.int p2), .val (.int p3), .val (.long q4), .second, .val (.int y2), .val (.int y3), .val (.ref b4), .unset, .unset, .unset, .unset, .unset] []))
  obtain ⟨T56, h56, X56, e56, E56, A56, D56, -, st56⟩ := newO X55 hx hZ hown (hw _ (List.mem_of_getElem? (i := 13) rfl)) (hw _ (List.mem_of_getElem? (i := 14) rfl)) (hw _ (List.mem_of_getElem? (i := 15) rfl)) e55 (g := (mkF m 342 #[.val (.long q0), .second, .val (.int p1), .val (.int p2), .val (.int p3), .val (.long q4), .second, .val (.int y2), .val (.int y3), .val (.ref b4), .unset, .unset, .unset, .unset, .unset] [])) rfl (hb hby at_342) (by decide) (by decide)
  obtain ⟨b56, g56⟩ : ∃ z, z = h55.size := ⟨_, rfl⟩
  rw [← g56] at A56 D56 st56
  have ne_b4_b56 : b4 ≠ b56 := Nat.ne_of_lt (Nat.lt_of_lt_of_le G55_0.lt (Nat.le_of_eq g56.symm))
  have Zs56 : n0 ≤ b56 := Nat.le_trans Z55 (Nat.le_of_eq g56.symm)
  have Zh56 : h0.size ≤ b56 := Nat.le_trans K55.1 (Nat.le_of_eq g56.symm)
  have F57 := G55_0.ext E56
  have K56 := K55.ext E56
  have Z56 := Nat.le_trans Z55 E56.1
  have F58 : Fld Z h56 b56 "com/example/double_prior/doubleprior/index/IndexFile$Reader" "bytes" "[B" .null := D56 (Or.inr (hw _ (List.mem_of_getElem? (i := 23) rfl))) (ty := (.array .byte)) (by decide)
  have F59 : Fld Z h56 b56 "com/example/double_prior/doubleprior/index/IndexFile$Reader" "position" "I" (.int (0 : Int32)) := D56 (Or.inl (hw _ (List.mem_of_getElem? (i := 25) rfl))) (ty := .int) (by decide)
  refine Goes.step (fun t k => st56 t k) ?_
  show Goes _ _ _ _ _ _ _ (T56.setTop (mkF m 345 #[.val (.long q0), .second, .val (.int p1), .val (.int p2), .val (.int p3), .val (.long q4), .second, .val (.int y2), .val (.int y3), .val (.ref b4), .unset, .unset, .unset, .unset, .unset] [(.ref b56)]))
  refine Goes.step (fun t k => XS.dup X56.here hx rfl (hb hby at_345) rfl rfl k) ?_
  show Goes _ _ _ _ _ _ _ (T56.setTop (mkF m 346 #[.val (.long q0), .second, .val (.int p1), .val (.int p2), .val (.int p3), .val (.long q4), .second, .val (.int y2), .val (.int y3), .val (.ref b4), .unset, .unset, .unset, .unset, .unset] [(.ref b56), (.ref b56)]))
  refine Goes.step (fun t k => XS.aload X56.here hx rfl (hb hby at_346) rfl rfl k) ?_
  show Goes _ _ _ _ _ _ _ (T56.setTop (mkF m 348 #[.val (.long q0), .second, .val (.int p1), .val (.int p2), .val (.int p3), .val (.long q4), .second, .val (.int y2), .val (.int y3), .val (.ref b4), .unset, .unset, .unset, .unset, .unset] [(.ref b4), (.ref b56), (.ref b56)]))
  refine Goes.step (fun t k => XS.iload X56.here hx rfl (hb hby at_348) rfl k) ?_
  show Goes _ _ _ _ _ _ _ (T56.setTop (mkF m 350 #[.val (.long q0), .second, .val (.int p1), .val (.int p2), .val (.int p3), .val (.long q4), .second, .val (.int y2), .val (.int y3), .val (.ref b4), .unset, .unset, .unset, .unset, .unset] [(.int y3), (.ref b4), (.ref b56), (.ref b56)]))
  obtain ⟨_, _, ⟨T60, L60, k60, n60⟩, -, X60, ⟨Lc60, hQ60, l60, y60, z60⟩, st60⟩ := X56.specialBack hx (y := (⟨"com/example/double_prior/doubleprior/index/IndexFile$Reader", "<init>", "([BI)V"⟩ : MethodName)) rfl hown (mvT hZ (hw _ (List.mem_of_getElem? (i := 16) rfl))) (mvT hZ (hw _ (List.mem_of_getElem? (i := 17) rfl))) (mvT hZ (hw _ (List.mem_of_getElem? (i := 18) rfl))) (by decide) (backOf (W := 1) (rm4 l Z tA hw [] b56 b4 y3 h56 n0 Z56 A56 F58 F59 Zs56) hZ (hw _ (List.mem_of_getElem? (i := 18) rfl)) (hw _ (List.mem_of_getElem? (i := 15) rfl)) (by decide) (by decide)) (g := (mkF m 350 #[.val (.long q0), .second, .val (.int p1), .val (.int p2), .val (.int p3), .val (.long q4), .second, .val (.int y2), .val (.int y3), .val (.ref b4), .unset, .unset, .unset, .unset, .unset] [(.int y3), (.ref b4), (.ref b56), (.ref b56)])) rfl (by rw [hml]; rfl) (Steps.refl _) (a := b56) (argsL := [(.ref b4), (.int y3)]) (rest := [(.ref b56)]) (lenOf own_pd3 rfl) rfl (by show 2 * 0 + _ ≤ _; exact Nat.le_of_eq rfl) (hb hby at_350) (fun _ _ => ⟨rfl, e56, (by decide : 2 + 0 ≤ _), (by decide : 18 + 0 ≤ _)⟩)
  dsimp only [Pt.U, Pt.locs, Pt.cells, Pt.slots] at X60 l60 y60 z60 st60 hQ60
  rw [l60, y60, z60] at X60
  generalize e60 : T60.heap = h60 at hQ60
  obtain ⟨rfl, Nq60, Kq60, G60_0, G60_1, G60_2⟩ := hQ60
  have F61 := F57.keep Kq60 (ninS ne_b4_b56 nin0)
  have N60 := Fr.app N55 Nq60
  have K60 := K56.trans Kq60 (allS (Or.inr Zh56) all0)
  have Z60 := Nat.le_trans Z56 Kq60.1
  change Stand _ _ _ _ _ _ _ _ _ _ _ _ 2 18 at X60
  refine Goes.step (fun t k => st60.trans k) ?_
  show Goes _ _ _ _ _ _ _ (T60.setTop (mkF m 353 #[.val (.long q0), .second, .val (.int p1), .val (.int p2), .val (.int p3), .val (.long q4), .second, .val (.int y2), .val (.int y3), .val (.ref b4), .unset, .unset, .unset, .unset, .unset] [(.ref b56)]))
  refine Goes.step (fun t k => XS.astore X60.here hx rfl (hb hby at_353) rfl rfl (l' := #[.val (.long q0), .second, .val (.int p1), .val (.int p2), .val (.int p3), .val (.long q4), .second, .val (.int y2), .val (.int y3), .val (.ref b4), .val (.ref b56), .unset, .unset, .unset, .unset]) rfl k) ?_
  show Goes _ _ _ _ _ _ _ (T60.setTop (mkF m 355 #[.val (.long q0), .second, .val (.int p1), .val (.int p2), .val (.int p3), .val (.long q4), .second, .val (.int y2), .val (.int y3), .val (.ref b4), .val (.ref b56), .unset, .unset, .unset, .unset] []))
  refine Goes.step (fun t k => XS.aload X60.here hx rfl (hb hby at_355) rfl rfl k) ?_
  show Goes _ _ _ _ _ _ _ (T60.setTop (mkF m 357 #[.val (.long q0), .second, .val (.int p1), .val (.int p2), .val (.int p3), .val (.long q4), .second, .val (.int y2), .val (.int y3), .val (.ref b4), .val (.ref b56), .unset, .unset, .unset, .unset] [(.ref b56)]))
  obtain ⟨cq62, kq62, q62a, q62b, q62c⟩ := isOf hZ e60 G60_0
  obtain ⟨_, _, ⟨T62, L62, k62, n62⟩, -, X62, ⟨Lc62, hQ62, l62, y62, z62⟩, st62⟩ := X60.virtualBack hx (y := (⟨"com/example/double_prior/doubleprior/index/IndexFile$Reader", "readLong", "()J"⟩ : MethodName)) (z := (⟨"com/example/double_prior/doubleprior/index/IndexFile$Reader", "readLong", "()J"⟩ : MethodName)) hown (mvT hZ (hw _ (List.mem_of_getElem? (i := 26) rfl))) (mvT hZ (hw _ (List.mem_of_getElem? (i := 27) rfl))) (notFace_of_selects (args := #[]) (mvT hZ (hw _ (List.mem_of_getElem? (i := 29) rfl)))) (mvT hZ (hw _ (List.mem_of_getElem? (i := 29) rfl))) (mvT hZ (hw _ (List.mem_of_getElem? (i := 28) rfl))) (by decide) (backOf (W := 0) (rm6 l Z tA hw [] b56 b4 y3 (g3_0 y3 (9 : Int32) y2 (p1 &&& (1 : Int32)) (g3_0 y3 (8 : Int32) y2 (f2 q0 (8 : Int32)) (g3_0 y3 (7 : Int32) y2 (f2 q0 (7 : Int32)) (g3_0 y3 (6 : Int32) y2 (f2 q0 (6 : Int32)) (g3_0 y3 (5 : Int32) y2 (f2 q0 (5 : Int32)) (g3_0 y3 (4 : Int32) y2 (f2 q0 (4 : Int32)) (g3_0 y3 (3 : Int32) y2 (f2 q0 (3 : Int32)) (g3_0 y3 (2 : Int32) y2 (f2 q0 (2 : Int32)) (g3_0 y3 (1 : Int32) y2 (f2 q0 (1 : Int32)) (g3_0 y3 (0 : Int32) y2 (f2 q0 (0 : Int32)) [(.int ((f1 q4 (0 : Int32)).toInt8.toInt32)), (.int ((f1 q4 (1 : Int32)).toInt8.toInt32)), (.int ((f1 q4 (2 : Int32)).toInt8.toInt32)), (.int ((f1 q4 (3 : Int32)).toInt8.toInt32)), (.int ((f1 q4 (4 : Int32)).toInt8.toInt32)), (.int ((f1 q4 (5 : Int32)).toInt8.toInt32)), (.int ((f1 q4 (6 : Int32)).toInt8.toInt32)), (.int ((f1 q4 (7 : Int32)).toInt8.toInt32)), (.int ((f1 q4 (8 : Int32)).toInt8.toInt32)), (.int ((f1 q4 (9 : Int32)).toInt8.toInt32)), (.int ((f1 q4 (10 : Int32)).toInt8.toInt32)), (.int ((f1 q4 (11 : Int32)).toInt8.toInt32)), (.int ((f1 q4 (12 : Int32)).toInt8.toInt32)), (.int ((f1 q4 (13 : Int32)).toInt8.toInt32)), (.int ((f1 q4 (14 : Int32)).toInt8.toInt32)), (.int ((f1 q4 (15 : Int32)).toInt8.toInt32))])))))))))) y2.toNatClampNeg h60 n0 Z60 G60_0 G60_1 G60_2 F61 Zs56 (Ne.symm ne_b4_b56) (own_r1 _ (own_S _ _ hy3)) (own_r2 _ (own_N _ _ hy2)) (own_r3 q0 q4 p1 y3 y2 (own_S _ _ hy3) (own_N _ _ hy2)) (own_r4 _ _ (own_S _ _ hy3) (own_N _ _ hy2)) (own_r5 q0 q4 p1 y3 y2 (own_S _ _ hy3) (own_N _ _ hy2)) (own_r6 q0 q4 p1 y3 y2 (own_S _ _ hy3) (own_N _ _ hy2))) hZ (hw _ (List.mem_of_getElem? (i := 30) rfl)) (hw _ (List.mem_of_getElem? (i := 15) rfl)) (by decide) (by decide)) q62a q62c (g := (mkF m 357 #[.val (.long q0), .second, .val (.int p1), .val (.int p2), .val (.int p3), .val (.long q4), .second, .val (.int y2), .val (.int y3), .val (.ref b4), .val (.ref b56), .unset, .unset, .unset, .unset] [(.ref b56)])) rfl (by rw [hml]; rfl) (Steps.refl _) (argsL := []) (rest := []) (lenOf own_pd4 rfl) rfl (by show 2 * 0 + _ ≤ _; exact Nat.le_of_eq rfl) (hb hby at_357) (fun _ _ => ⟨rfl, e60, (by decide : 2 + 0 ≤ _), (by decide : 18 + 0 ≤ _)⟩)
  dsimp only [Pt.U, Pt.locs, Pt.cells, Pt.slots] at X62 l62 y62 z62 st62 hQ62
  rw [l62, y62, z62] at X62
  generalize e62 : T62.heap = h62 at hQ62
  obtain ⟨rfl, Nq62, Kq62, G62_0, G62_1, G62_2, G62_3⟩ := hQ62
  have N62 := Fr.app N60 Nq62
  have K62 := K60.trans Kq62 (allS (Or.inr Zh56) all0)
  have Z62 := Nat.le_trans Z60 Kq62.1
  change Stand _ _ _ _ _ _ _ _ _ _ _ _ 2 18 at X62
  refine Goes.step (fun t k => st62.trans k) ?_
  show Goes _ _ _ _ _ _ _ (T62.setTop (mkF m 360 #[.val (.long q0), .second, .val (.int p1), .val (.int p2), .val (.int p3), .val (.long q4), .second, .val (.int y2), .val (.int y3), .val (.ref b4), .val (.ref b56), .unset, .unset, .unset, .unset] [(.long (acc (g3_0 y3 (9 : Int32) y2 (p1 &&& (1 : Int32)) (g3_0 y3 (8 : Int32) y2 (f2 q0 (8 : Int32)) (g3_0 y3 (7 : Int32) y2 (f2 q0 (7 : Int32)) (g3_0 y3 (6 : Int32) y2 (f2 q0 (6 : Int32)) (g3_0 y3 (5 : Int32) y2 (f2 q0 (5 : Int32)) (g3_0 y3 (4 : Int32) y2 (f2 q0 (4 : Int32)) (g3_0 y3 (3 : Int32) y2 (f2 q0 (3 : Int32)) (g3_0 y3 (2 : Int32) y2 (f2 q0 (2 : Int32)) (g3_0 y3 (1 : Int32) y2 (f2 q0 (1 : Int32)) (g3_0 y3 (0 : Int32) y2 (f2 q0 (0 : Int32)) [(.int ((f1 q4 (0 : Int32)).toInt8.toInt32)), (.int ((f1 q4 (1 : Int32)).toInt8.toInt32)), (.int ((f1 q4 (2 : Int32)).toInt8.toInt32)), (.int ((f1 q4 (3 : Int32)).toInt8.toInt32)), (.int ((f1 q4 (4 : Int32)).toInt8.toInt32)), (.int ((f1 q4 (5 : Int32)).toInt8.toInt32)), (.int ((f1 q4 (6 : Int32)).toInt8.toInt32)), (.int ((f1 q4 (7 : Int32)).toInt8.toInt32)), (.int ((f1 q4 (8 : Int32)).toInt8.toInt32)), (.int ((f1 q4 (9 : Int32)).toInt8.toInt32)), (.int ((f1 q4 (10 : Int32)).toInt8.toInt32)), (.int ((f1 q4 (11 : Int32)).toInt8.toInt32)), (.int ((f1 q4 (12 : Int32)).toInt8.toInt32)), (.int ((f1 q4 (13 : Int32)).toInt8.toInt32)), (.int ((f1 q4 (14 : Int32)).toInt8.toInt32)), (.int ((f1 q4 (15 : Int32)).toInt8.toInt32))])))))))))) y3.toNatClampNeg y2.toNatClampNeg))]))
  generalize hy63 : (acc (g3_0 y3 (9 : Int32) y2 (p1 &&& (1 : Int32)) (g3_0 y3 (8 : Int32) y2 (f2 q0 (8 : Int32)) (g3_0 y3 (7 : Int32) y2 (f2 q0 (7 : Int32)) (g3_0 y3 (6 : Int32) y2 (f2 q0 (6 : Int32)) (g3_0 y3 (5 : Int32) y2 (f2 q0 (5 : Int32)) (g3_0 y3 (4 : Int32) y2 (f2 q0 (4 : Int32)) (g3_0 y3 (3 : Int32) y2 (f2 q0 (3 : Int32)) (g3_0 y3 (2 : Int32) y2 (f2 q0 (2 : Int32)) (g3_0 y3 (1 : Int32) y2 (f2 q0 (1 : Int32)) (g3_0 y3 (0 : Int32) y2 (f2 q0 (0 : Int32)) [(.int ((f1 q4 (0 : Int32)).toInt8.toInt32)), (.int ((f1 q4 (1 : Int32)).toInt8.toInt32)), (.int ((f1 q4 (2 : Int32)).toInt8.toInt32)), (.int ((f1 q4 (3 : Int32)).toInt8.toInt32)), (.int ((f1 q4 (4 : Int32)).toInt8.toInt32)), (.int ((f1 q4 (5 : Int32)).toInt8.toInt32)), (.int ((f1 q4 (6 : Int32)).toInt8.toInt32)), (.int ((f1 q4 (7 : Int32)).toInt8.toInt32)), (.int ((f1 q4 (8 : Int32)).toInt8.toInt32)), (.int ((f1 q4 (9 : Int32)).toInt8.toInt32)), (.int ((f1 q4 (10 : Int32)).toInt8.toInt32)), (.int ((f1 q4 (11 : Int32)).toInt8.toInt32)), (.int ((f1 q4 (12 : Int32)).toInt8.toInt32)), (.int ((f1 q4 (13 : Int32)).toInt8.toInt32)), (.int ((f1 q4 (14 : Int32)).toInt8.toInt32)), (.int ((f1 q4 (15 : Int32)).toInt8.toInt32))])))))))))) y3.toNatClampNeg y2.toNatClampNeg) = y63
  refine Goes.step (fun t k => XS.lstore X62.here hx rfl (hb hby at_360) rfl (l' := #[.val (.long q0), .second, .val (.int p1), .val (.int p2), .val (.int p3), .val (.long q4), .second, .val (.int y2), .val (.int y3), .val (.ref b4), .val (.ref b56), .val (.long y63), .second, .unset, .unset]) rfl k) ?_
  show Goes _ _ _ _ _ _ _ (T62.setTop (mkF m 362 #[.val (.long q0), .second, .val (.int p1), .val (.int p2), .val (.int p3), .val (.long q4), .second, .val (.int y2), .val (.int y3), .val (.ref b4), .val (.ref b56), .val (.long y63), .second, .unset, .unset] []))
  refine Goes.step (fun t k => XS.iload X62.here hx rfl (hb hby at_362) rfl k) ?_
  show Goes _ _ _ _ _ _ _ (T62.setTop (mkF m 364 #[.val (.long q0), .second, .val (.int p1), .val (.int p2), .val (.int p3), .val (.long q4), .second, .val (.int y2), .val (.int y3), .val (.ref b4), .val (.ref b56), .val (.long y63), .second, .unset, .unset] [(.int y2)]))
  refine Goes.step (fun t k => XS.bipush X62.here hx rfl (hb hby at_364) k) ?_
  show Goes _ _ _ _ _ _ _ (T62.setTop (mkF m 366 #[.val (.long q0), .second, .val (.int p1), .val (.int p2), .val (.int p3), .val (.long q4), .second, .val (.int y2), .val (.int y3), .val (.ref b4), .val (.ref b56), .val (.long y63), .second, .unset, .unset] [(.int (10 : Int32)), (.int y2)]))
  suffices k67 : ∀ (x67_0 : Int64), x67_0 = (if y2 < (10 : Int32) then (q0 &&& (((1 : Int64) <<< (((7 : Int32) * y2) &&& 0x3f).toInt64) - (1 : Int64))) else ((q0 &&& (9223372036854775807 : Int64)) ||| (((p1 &&& (1 : Int32)).toInt64) <<< ((63 : Int32) &&& 0x3f).toInt64))) → Goes p e below s (Q0 Z q0 p1 p2 p3 q4 h0 n0) kC0 kS0 (T62.setTop (mkF m 400 #[.val (.long q0), .second, .val (.int p1), .val (.int p2), .val (.int p3), .val (.long q4), .second, .val (.int y2), .val (.int y3), .val (.ref b4), .val (.ref b56), .val (.long y63), .second, .val (.long x67_0), .second] [])) by
    by_cases hc366_64 : y2 < (10 : Int32)
    · refine Goes.step (fun t k => XS.icmpNo X62.here hx rfl (hb hby at_366) rfl (tlt hc366_64).2.1 k) ?_
      show Goes _ _ _ _ _ _ _ (T62.setTop (mkF m 369 #[.val (.long q0), .second, .val (.int p1), .val (.int p2), .val (.int p3), .val (.long q4), .second, .val (.int y2), .val (.int y3), .val (.ref b4), .val (.ref b56), .val (.long y63), .second, .unset, .unset] []))
      refine Goes.step (fun t k => XS.lloadN X62.here hx rfl (hb hby at_369) rfl k) ?_
      show Goes _ _ _ _ _ _ _ (T62.setTop (mkF m 370 #[.val (.long q0), .second, .val (.int p1), .val (.int p2), .val (.int p3), .val (.long q4), .second, .val (.int y2), .val (.int y3), .val (.ref b4), .val (.ref b56), .val (.long y63), .second, .unset, .unset] [(.long q0)]))
      refine Goes.step (fun t k => XS.lconst X62.here hx rfl (hb hby at_370) k) ?_
      show Goes _ _ _ _ _ _ _ (T62.setTop (mkF m 371 #[.val (.long q0), .second, .val (.int p1), .val (.int p2), .val (.int p3), .val (.long q4), .second, .val (.int y2), .val (.int y3), .val (.ref b4), .val (.ref b56), .val (.long y63), .second, .unset, .unset] [(.long (1 : Int64)), (.long q0)]))
      refine Goes.step (fun t k => XS.bipush X62.here hx rfl (hb hby at_371) k) ?_
      show Goes _ _ _ _ _ _ _ (T62.setTop (mkF m 373 #[.val (.long q0), .second, .val (.int p1), .val (.int p2), .val (.int p3), .val (.long q4), .second, .val (.int y2), .val (.int y3), .val (.ref b4), .val (.ref b56), .val (.long y63), .second, .unset, .unset] [(.int (7 : Int32)), (.long (1 : Int64)), (.long q0)]))
      refine Goes.step (fun t k => XS.iload X62.here hx rfl (hb hby at_373) rfl k) ?_
      show Goes _ _ _ _ _ _ _ (T62.setTop (mkF m 375 #[.val (.long q0), .second, .val (.int p1), .val (.int p2), .val (.int p3), .val (.long q4), .second, .val (.int y2), .val (.int y3), .val (.ref b4), .val (.ref b56), .val (.long y63), .second, .unset, .unset] [(.int y2), (.int (7 : Int32)), (.long (1 : Int64)), (.long q0)]))
      refine Goes.step (fun t k => XS.imul X62.here hx rfl (hb hby at_375) rfl k) ?_
      show Goes _ _ _ _ _ _ _ (T62.setTop (mkF m 376 #[.val (.long q0), .second, .val (.int p1), .val (.int p2), .val (.int p3), .val (.long q4), .second, .val (.int y2), .val (.int y3), .val (.ref b4), .val (.ref b56), .val (.long y63), .second, .unset, .unset] [(.int ((7 : Int32) * y2)), (.long (1 : Int64)), (.long q0)]))
      refine Goes.step (fun t k => XS.lshl X62.here hx rfl (hb hby at_376) rfl k) ?_
      show Goes _ _ _ _ _ _ _ (T62.setTop (mkF m 377 #[.val (.long q0), .second, .val (.int p1), .val (.int p2), .val (.int p3), .val (.long q4), .second, .val (.int y2), .val (.int y3), .val (.ref b4), .val (.ref b56), .val (.long y63), .second, .unset, .unset] [(.long ((1 : Int64) <<< (((7 : Int32) * y2) &&& 0x3f).toInt64)), (.long q0)]))
      refine Goes.step (fun t k => XS.lconst X62.here hx rfl (hb hby at_377) k) ?_
      show Goes _ _ _ _ _ _ _ (T62.setTop (mkF m 378 #[.val (.long q0), .second, .val (.int p1), .val (.int p2), .val (.int p3), .val (.long q4), .second, .val (.int y2), .val (.int y3), .val (.ref b4), .val (.ref b56), .val (.long y63), .second, .unset, .unset] [(.long (1 : Int64)), (.long ((1 : Int64) <<< (((7 : Int32) * y2) &&& 0x3f).toInt64)), (.long q0)]))
      refine Goes.step (fun t k => XS.lsub X62.here hx rfl (hb hby at_378) rfl k) ?_
      show Goes _ _ _ _ _ _ _ (T62.setTop (mkF m 379 #[.val (.long q0), .second, .val (.int p1), .val (.int p2), .val (.int p3), .val (.long q4), .second, .val (.int y2), .val (.int y3), .val (.ref b4), .val (.ref b56), .val (.long y63), .second, .unset, .unset] [(.long (((1 : Int64) <<< (((7 : Int32) * y2) &&& 0x3f).toInt64) - (1 : Int64))), (.long q0)]))
      refine Goes.step (fun t k => XS.land X62.here hx rfl (hb hby at_379) rfl k) ?_
      show Goes _ _ _ _ _ _ _ (T62.setTop (mkF m 380 #[.val (.long q0), .second, .val (.int p1), .val (.int p2), .val (.int p3), .val (.long q4), .second, .val (.int y2), .val (.int y3), .val (.ref b4), .val (.ref b56), .val (.long y63), .second, .unset, .unset] [(.long (q0 &&& (((1 : Int64) <<< (((7 : Int32) * y2) &&& 0x3f).toInt64) - (1 : Int64))))]))
      refine Goes.step (fun t k => XS.lstore X62.here hx rfl (hb hby at_380) rfl (l' := #[.val (.long q0), .second, .val (.int p1), .val (.int p2), .val (.int p3), .val (.long q4), .second, .val (.int y2), .val (.int y3), .val (.ref b4), .val (.ref b56), .val (.long y63), .second, .val (.long (q0 &&& (((1 : Int64) <<< (((7 : Int32) * y2) &&& 0x3f).toInt64) - (1 : Int64)))), .second]) rfl k) ?_
      show Goes _ _ _ _ _ _ _ (T62.setTop (mkF m 382 #[.val (.long q0), .second, .val (.int p1), .val (.int p2), .val (.int p3), .val (.long q4), .second, .val (.int y2), .val (.int y3), .val (.ref b4), .val (.ref b56), .val (.long y63), .second, .val (.long (q0 &&& (((1 : Int64) <<< (((7 : Int32) * y2) &&& 0x3f).toInt64) - (1 : Int64)))), .second] []))
      generalize hy65 : (q0 &&& (((1 : Int64) <<< (((7 : Int32) * y2) &&& 0x3f).toInt64) - (1 : Int64))) = y65
      refine Goes.step (fun t k => XS.goto X62.here hx rfl (pc0 := 382) (pc' := 400) rfl (hb hby at_382) (by decide) (by decide) k) ?_
      show Goes _ _ _ _ _ _ _ (T62.setTop (mkF m 400 #[.val (.long q0), .second, .val (.int p1), .val (.int p2), .val (.int p3), .val (.long q4), .second, .val (.int y2), .val (.int y3), .val (.ref b4), .val (.ref b56), .val (.long y63), .second, .val (.long y65), .second] []))
      subst hy65
      exact k67 _ (if_pos hc366_64).symm
    · refine Goes.step (fun t k => XS.icmpYes X62.here hx rfl (pc0 := 366) (pc' := 385) rfl (hb hby at_366) rfl (flt hc366_64).2.1 (by decide) (by decide) k) ?_
      show Goes _ _ _ _ _ _ _ (T62.setTop (mkF m 385 #[.val (.long q0), .second, .val (.int p1), .val (.int p2), .val (.int p3), .val (.long q4), .second, .val (.int y2), .val (.int y3), .val (.ref b4), .val (.ref b56), .val (.long y63), .second, .unset, .unset] []))
      refine Goes.step (fun t k => XS.lloadN X62.here hx rfl (hb hby at_385) rfl k) ?_
      show Goes _ _ _ _ _ _ _ (T62.setTop (mkF m 386 #[.val (.long q0), .second, .val (.int p1), .val (.int p2), .val (.int p3), .val (.long q4), .second, .val (.int y2), .val (.int y3), .val (.ref b4), .val (.ref b56), .val (.long y63), .second, .unset, .unset] [(.long q0)]))
      refine Goes.step (fun t k => X62.ldc2Long hx hown (mvT hZ (hw _ (List.mem_of_getElem? (i := 36) rfl))) (g := (mkF m 386 #[.val (.long q0), .second, .val (.int p1), .val (.int p2), .val (.int p3), .val (.long q4), .second, .val (.int y2), .val (.int y3), .val (.ref b4), .val (.ref b56), .val (.long y63), .second, .unset, .unset] [(.long q0)])) rfl (hb hby at_386) _ k) ?_
      show Goes _ _ _ _ _ _ _ (T62.setTop (mkF m 389 #[.val (.long q0), .second, .val (.int p1), .val (.int p2), .val (.int p3), .val (.long q4), .second, .val (.int y2), .val (.int y3), .val (.ref b4), .val (.ref b56), .val (.long y63), .second, .unset, .unset] [(.long (9223372036854775807 : Int64)), (.long q0)]))
      refine Goes.step (fun t k => XS.land X62.here hx rfl (hb hby at_389) rfl k) ?_
      show Goes _ _ _ _ _ _ _ (T62.setTop (mkF m 390 #[.val (.long q0), .second, .val (.int p1), .val (.int p2), .val (.int p3), .val (.long q4), .second, .val (.int y2), .val (.int y3), .val (.ref b4), .val (.ref b56), .val (.long y63), .second, .unset, .unset] [(.long (q0 &&& (9223372036854775807 : Int64)))]))
      refine Goes.step (fun t k => XS.iloadN X62.here hx rfl (hb hby at_390) rfl k) ?_
      show Goes _ _ _ _ _ _ _ (T62.setTop (mkF m 391 #[.val (.long q0), .second, .val (.int p1), .val (.int p2), .val (.int p3), .val (.long q4), .second, .val (.int y2), .val (.int y3), .val (.ref b4), .val (.ref b56), .val (.long y63), .second, .unset, .unset] [(.int p1), (.long (q0 &&& (9223372036854775807 : Int64)))]))
      refine Goes.step (fun t k => XS.iconst X62.here hx rfl (hb hby at_391) k) ?_
      show Goes _ _ _ _ _ _ _ (T62.setTop (mkF m 392 #[.val (.long q0), .second, .val (.int p1), .val (.int p2), .val (.int p3), .val (.long q4), .second, .val (.int y2), .val (.int y3), .val (.ref b4), .val (.ref b56), .val (.long y63), .second, .unset, .unset] [(.int (1 : Int32)), (.int p1), (.long (q0 &&& (9223372036854775807 : Int64)))]))
      refine Goes.step (fun t k => XS.iand X62.here hx rfl (hb hby at_392) rfl k) ?_
      show Goes _ _ _ _ _ _ _ (T62.setTop (mkF m 393 #[.val (.long q0), .second, .val (.int p1), .val (.int p2), .val (.int p3), .val (.long q4), .second, .val (.int y2), .val (.int y3), .val (.ref b4), .val (.ref b56), .val (.long y63), .second, .unset, .unset] [(.int (p1 &&& (1 : Int32))), (.long (q0 &&& (9223372036854775807 : Int64)))]))
      refine Goes.step (fun t k => XS.i2l X62.here hx rfl (hb hby at_393) rfl k) ?_
      show Goes _ _ _ _ _ _ _ (T62.setTop (mkF m 394 #[.val (.long q0), .second, .val (.int p1), .val (.int p2), .val (.int p3), .val (.long q4), .second, .val (.int y2), .val (.int y3), .val (.ref b4), .val (.ref b56), .val (.long y63), .second, .unset, .unset] [(.long ((p1 &&& (1 : Int32)).toInt64)), (.long (q0 &&& (9223372036854775807 : Int64)))]))
      refine Goes.step (fun t k => XS.bipush X62.here hx rfl (hb hby at_394) k) ?_
      show Goes _ _ _ _ _ _ _ (T62.setTop (mkF m 396 #[.val (.long q0), .second, .val (.int p1), .val (.int p2), .val (.int p3), .val (.long q4), .second, .val (.int y2), .val (.int y3), .val (.ref b4), .val (.ref b56), .val (.long y63), .second, .unset, .unset] [(.int (63 : Int32)), (.long ((p1 &&& (1 : Int32)).toInt64)), (.long (q0 &&& (9223372036854775807 : Int64)))]))
      refine Goes.step (fun t k => XS.lshl X62.here hx rfl (hb hby at_396) rfl k) ?_
      show Goes _ _ _ _ _ _ _ (T62.setTop (mkF m 397 #[.val (.long q0), .second, .val (.int p1), .val (.int p2), .val (.int p3), .val (.long q4), .second, .val (.int y2), .val (.int y3), .val (.ref b4), .val (.ref b56), .val (.long y63), .second, .unset, .unset] [(.long (((p1 &&& (1 : Int32)).toInt64) <<< ((63 : Int32) &&& 0x3f).toInt64)), (.long (q0 &&& (9223372036854775807 : Int64)))]))
      refine Goes.step (fun t k => XS.lor X62.here hx rfl (hb hby at_397) rfl k) ?_
      show Goes _ _ _ _ _ _ _ (T62.setTop (mkF m 398 #[.val (.long q0), .second, .val (.int p1), .val (.int p2), .val (.int p3), .val (.long q4), .second, .val (.int y2), .val (.int y3), .val (.ref b4), .val (.ref b56), .val (.long y63), .second, .unset, .unset] [(.long ((q0 &&& (9223372036854775807 : Int64)) ||| (((p1 &&& (1 : Int32)).toInt64) <<< ((63 : Int32) &&& 0x3f).toInt64)))]))
      refine Goes.step (fun t k => XS.lstore X62.here hx rfl (hb hby at_398) rfl (l' := #[.val (.long q0), .second, .val (.int p1), .val (.int p2), .val (.int p3), .val (.long q4), .second, .val (.int y2), .val (.int y3), .val (.ref b4), .val (.ref b56), .val (.long y63), .second, .val (.long ((q0 &&& (9223372036854775807 : Int64)) ||| (((p1 &&& (1 : Int32)).toInt64) <<< ((63 : Int32) &&& 0x3f).toInt64))), .second]) rfl k) ?_
      show Goes _ _ _ _ _ _ _ (T62.setTop (mkF m 400 #[.val (.long q0), .second, .val (.int p1), .val (.int p2), .val (.int p3), .val (.long q4), .second, .val (.int y2), .val (.int y3), .val (.ref b4), .val (.ref b56), .val (.long y63), .second, .val (.long ((q0 &&& (9223372036854775807 : Int64)) ||| (((p1 &&& (1 : Int32)).toInt64) <<< ((63 : Int32) &&& 0x3f).toInt64))), .second] []))
      generalize hy66 : ((q0 &&& (9223372036854775807 : Int64)) ||| (((p1 &&& (1 : Int32)).toInt64) <<< ((63 : Int32) &&& 0x3f).toInt64)) = y66
      subst hy66
      exact k67 _ (if_neg hc366_64).symm
  intro x67_0 hx67_0
  refine Goes.step (fun t k => XS.lload X62.here hx rfl (hb hby at_400) rfl k) ?_
  show Goes _ _ _ _ _ _ _ (T62.setTop (mkF m 402 #[.val (.long q0), .second, .val (.int p1), .val (.int p2), .val (.int p3), .val (.long q4), .second, .val (.int y2), .val (.int y3), .val (.ref b4), .val (.ref b56), .val (.long y63), .second, .val (.long x67_0), .second] [(.long y63)]))
  refine Goes.step (fun t k => XS.lload X62.here hx rfl (hb hby at_402) rfl k) ?_
  show Goes _ _ _ _ _ _ _ (T62.setTop (mkF m 404 #[.val (.long q0), .second, .val (.int p1), .val (.int p2), .val (.int p3), .val (.long q4), .second, .val (.int y2), .val (.int y3), .val (.ref b4), .val (.ref b56), .val (.long y63), .second, .val (.long x67_0), .second] [(.long x67_0), (.long y63)]))
  refine Goes.step (fun t k => XS.lcmp X62.here hx rfl (hb hby at_404) rfl k) ?_
  show Goes _ _ _ _ _ _ _ (T62.setTop (mkF m 405 #[.val (.long q0), .second, .val (.int p1), .val (.int p2), .val (.int p3), .val (.long q4), .second, .val (.int y2), .val (.int y3), .val (.ref b4), .val (.ref b56), .val (.long y63), .second, .val (.long x67_0), .second] [(.int (lcmpW y63 x67_0))]))
  suffices k72 : ∀ (T72 : State) (L72 : List Loc) (x72_0 : Int32), Stand p l e room_1 s m #[(.long q0), (.int p1), (.int p2), (.int p3), (.long q4)] below meth c T72 L72 2 18 → T72.heap = h62 → Fr n0 L72 → x72_0 = (if y63 = x67_0 then (if (f7 (y3 + Int32.ofNat y2.toNatClampNeg)) = (y3 + y2) then (1 : Int32) else (0 : Int32)) else (0 : Int32)) → Goes p e below s (Q0 Z q0 p1 p2 p3 q4 h0 n0) kC0 kS0 (T72.setTop (mkF m 426 #[.val (.long q0), .second, .val (.int p1), .val (.int p2), .val (.int p3), .val (.long q4), .second, .val (.int y2), .val (.int y3), .val (.ref b4), .val (.ref b56), .val (.long y63), .second, .val (.long x67_0), .second] [(.int x72_0)])) by
    by_cases hc405_68 : y63 = x67_0
    · refine Goes.step (fun t k => XS.ifNo X62.here hx rfl (hb hby at_405) rfl ((if0 _ _).trans (teq ((lw_eq _ _).mpr hc405_68)).2) k) ?_
      show Goes _ _ _ _ _ _ _ (T62.setTop (mkF m 408 #[.val (.long q0), .second, .val (.int p1), .val (.int p2), .val (.int p3), .val (.long q4), .second, .val (.int y2), .val (.int y3), .val (.ref b4), .val (.ref b56), .val (.long y63), .second, .val (.long x67_0), .second] []))
      refine Goes.step (fun t k => XS.aload X62.here hx rfl (hb hby at_408) rfl rfl k) ?_
      show Goes _ _ _ _ _ _ _ (T62.setTop (mkF m 410 #[.val (.long q0), .second, .val (.int p1), .val (.int p2), .val (.int p3), .val (.long q4), .second, .val (.int y2), .val (.int y3), .val (.ref b4), .val (.ref b56), .val (.long y63), .second, .val (.long x67_0), .second] [(.ref b56)]))
      obtain ⟨cq69, kq69, q69a, q69b, q69c⟩ := isOf hZ e62 G62_0
      obtain ⟨_, _, ⟨T69, L69, k69, n69⟩, -, X69, ⟨Lc69, hQ69, l69, y69, z69⟩, st69⟩ := X62.virtualBack hx (y := (⟨"com/example/double_prior/doubleprior/index/IndexFile$Reader", "position", "()I"⟩ : MethodName)) (z := (⟨"com/example/double_prior/doubleprior/index/IndexFile$Reader", "position", "()I"⟩ : MethodName)) hown (mvT hZ (hw _ (List.mem_of_getElem? (i := 31) rfl))) (mvT hZ (hw _ (List.mem_of_getElem? (i := 32) rfl))) (notFace_of_selects (args := #[]) (mvT hZ (hw _ (List.mem_of_getElem? (i := 34) rfl)))) (mvT hZ (hw _ (List.mem_of_getElem? (i := 34) rfl))) (mvT hZ (hw _ (List.mem_of_getElem? (i := 33) rfl))) (by decide) (backOf (W := 0) (rm7 l Z tA hw [] b56 (y3 + Int32.ofNat y2.toNatClampNeg) h62 G62_2) hZ (hw _ (List.mem_of_getElem? (i := 35) rfl)) (hw _ (List.mem_of_getElem? (i := 15) rfl)) (by decide) (by decide)) q69a q69c (g := (mkF m 410 #[.val (.long q0), .second, .val (.int p1), .val (.int p2), .val (.int p3), .val (.long q4), .second, .val (.int y2), .val (.int y3), .val (.ref b4), .val (.ref b56), .val (.long y63), .second, .val (.long x67_0), .second] [(.ref b56)])) rfl (by rw [hml]; rfl) (Steps.refl _) (argsL := []) (rest := []) (lenOf own_pd5 rfl) rfl (by show 2 * 0 + _ ≤ _; exact Nat.le_of_eq rfl) (hb hby at_410) (fun _ _ => ⟨rfl, e62, (by decide : 2 + 0 ≤ _), (by decide : 18 + 0 ≤ _)⟩)
      dsimp only [Pt.U, Pt.locs, Pt.cells, Pt.slots] at X69 l69 y69 z69 st69 hQ69
      rw [l69, y69, z69] at X69
      obtain ⟨rfl, rfl, e69⟩ := hQ69
      try rw [List.append_nil] at X69
      change Stand _ _ _ _ _ _ _ _ _ _ _ _ 2 18 at X69
      refine Goes.step (fun t k => st69.trans k) ?_
      show Goes _ _ _ _ _ _ _ (T69.setTop (mkF m 413 #[.val (.long q0), .second, .val (.int p1), .val (.int p2), .val (.int p3), .val (.long q4), .second, .val (.int y2), .val (.int y3), .val (.ref b4), .val (.ref b56), .val (.long y63), .second, .val (.long x67_0), .second] [(.int (f7 (y3 + Int32.ofNat y2.toNatClampNeg)))]))
      generalize hy70 : (f7 (y3 + Int32.ofNat y2.toNatClampNeg)) = y70
      refine Goes.step (fun t k => XS.iload X69.here hx rfl (hb hby at_413) rfl k) ?_
      show Goes _ _ _ _ _ _ _ (T69.setTop (mkF m 415 #[.val (.long q0), .second, .val (.int p1), .val (.int p2), .val (.int p3), .val (.long q4), .second, .val (.int y2), .val (.int y3), .val (.ref b4), .val (.ref b56), .val (.long y63), .second, .val (.long x67_0), .second] [(.int y3), (.int y70)]))
      refine Goes.step (fun t k => XS.iload X69.here hx rfl (hb hby at_415) rfl k) ?_
      show Goes _ _ _ _ _ _ _ (T69.setTop (mkF m 417 #[.val (.long q0), .second, .val (.int p1), .val (.int p2), .val (.int p3), .val (.long q4), .second, .val (.int y2), .val (.int y3), .val (.ref b4), .val (.ref b56), .val (.long y63), .second, .val (.long x67_0), .second] [(.int y2), (.int y3), (.int y70)]))
      refine Goes.step (fun t k => XS.iadd X69.here hx rfl (hb hby at_417) rfl k) ?_
      show Goes _ _ _ _ _ _ _ (T69.setTop (mkF m 418 #[.val (.long q0), .second, .val (.int p1), .val (.int p2), .val (.int p3), .val (.long q4), .second, .val (.int y2), .val (.int y3), .val (.ref b4), .val (.ref b56), .val (.long y63), .second, .val (.long x67_0), .second] [(.int (y3 + y2)), (.int y70)]))
      by_cases hc418_71 : y70 = (y3 + y2)
      · refine Goes.step (fun t k => XS.icmpNo X69.here hx rfl (hb hby at_418) rfl (teq hc418_71).2 k) ?_
        show Goes _ _ _ _ _ _ _ (T69.setTop (mkF m 421 #[.val (.long q0), .second, .val (.int p1), .val (.int p2), .val (.int p3), .val (.long q4), .second, .val (.int y2), .val (.int y3), .val (.ref b4), .val (.ref b56), .val (.long y63), .second, .val (.long x67_0), .second] []))
        refine Goes.step (fun t k => XS.iconst X69.here hx rfl (hb hby at_421) k) ?_
        show Goes _ _ _ _ _ _ _ (T69.setTop (mkF m 422 #[.val (.long q0), .second, .val (.int p1), .val (.int p2), .val (.int p3), .val (.long q4), .second, .val (.int y2), .val (.int y3), .val (.ref b4), .val (.ref b56), .val (.long y63), .second, .val (.long x67_0), .second] [(.int (1 : Int32))]))
        refine Goes.step (fun t k => XS.goto X69.here hx rfl (pc0 := 422) (pc' := 426) rfl (hb hby at_422) (by decide) (by decide) k) ?_
        show Goes _ _ _ _ _ _ _ (T69.setTop (mkF m 426 #[.val (.long q0), .second, .val (.int p1), .val (.int p2), .val (.int p3), .val (.long q4), .second, .val (.int y2), .val (.int y3), .val (.ref b4), .val (.ref b56), .val (.long y63), .second, .val (.long x67_0), .second] [(.int (1 : Int32))]))
        subst hy70
        exact k72 _ _ _ X69 e69 N62 ((if_pos hc405_68).trans (if_pos hc418_71)).symm
      · refine Goes.step (fun t k => XS.icmpYes X69.here hx rfl (pc0 := 418) (pc' := 425) rfl (hb hby at_418) rfl (feq hc418_71).2 (by decide) (by decide) k) ?_
        show Goes _ _ _ _ _ _ _ (T69.setTop (mkF m 425 #[.val (.long q0), .second, .val (.int p1), .val (.int p2), .val (.int p3), .val (.long q4), .second, .val (.int y2), .val (.int y3), .val (.ref b4), .val (.ref b56), .val (.long y63), .second, .val (.long x67_0), .second] []))
        refine Goes.step (fun t k => XS.iconst X69.here hx rfl (hb hby at_425) k) ?_
        show Goes _ _ _ _ _ _ _ (T69.setTop (mkF m 426 #[.val (.long q0), .second, .val (.int p1), .val (.int p2), .val (.int p3), .val (.long q4), .second, .val (.int y2), .val (.int y3), .val (.ref b4), .val (.ref b56), .val (.long y63), .second, .val (.long x67_0), .second] [(.int (0 : Int32))]))
        subst hy70
        exact k72 _ _ _ X69 e69 N62 ((if_pos hc405_68).trans (if_neg hc418_71)).symm
    · refine Goes.step (fun t k => XS.ifYes X62.here hx rfl (pc0 := 405) (pc' := 425) rfl (hb hby at_405) rfl ((if0 _ _).trans (feq (fun q => hc405_68 ((lw_eq _ _).mp q))).2) (by decide) (by decide) k) ?_
      show Goes _ _ _ _ _ _ _ (T62.setTop (mkF m 425 #[.val (.long q0), .second, .val (.int p1), .val (.int p2), .val (.int p3), .val (.long q4), .second, .val (.int y2), .val (.int y3), .val (.ref b4), .val (.ref b56), .val (.long y63), .second, .val (.long x67_0), .second] []))
      refine Goes.step (fun t k => XS.iconst X62.here hx rfl (hb hby at_425) k) ?_
      show Goes _ _ _ _ _ _ _ (T62.setTop (mkF m 426 #[.val (.long q0), .second, .val (.int p1), .val (.int p2), .val (.int p3), .val (.long q4), .second, .val (.int y2), .val (.int y3), .val (.ref b4), .val (.ref b56), .val (.long y63), .second, .val (.long x67_0), .second] [(.int (0 : Int32))]))
      exact k72 _ _ _ X62 e62 N62 (if_neg hc405_68).symm
  intro T72 L72 x72_0 X72 e72 N72 hx72_0
  exact Goes.retZ X72 hx Bd.notSynchronized (r := (1 : Int32)) Bd.returns (by simp) (hb hby at_426) (own_plain q0 p1 p2 p3 q4 y2 y3 y63 x67_0 x72_0 hy2 hy3 hy63 hx67_0 hx72_0) ⟨rfl, N72⟩ (by decide) (by decide)
set_option maxRecDepth 65536 in
set_option maxHeartbeats 40000000 in
theorem comes_1 {Post : Tables → Env → Array Value → State → Outcome → State → Prop} (hpost : ∀ tb e args s v u, (limb_1_1.after args s (.returned v) u = true ∧ limb_1_2.after args s (.returned v) u = true ∧ True) → FrameEnd s (.returned v) u (Jvm.fieldLocs frame_1_writes args s ++ Jvm.arrayLocs frame_1_arrays args s ++ Jvm.staticLocs frame_1_statics s) 16 128 → Post tb e args s (.returned v) u) :
    ArmFor flags0 classFile x code maxLocals ret World_1 tables_1 room_1 Calls_1 rest_1 Pre_1 Post := by
  intro l hfl _ _ p e ha hc hk s m args below hf hA hF happ hP
  obtain ⟨hcalls, hrest, hpre⟩ := hP
  obtain ⟨-, -, -, hnamed, -, -, -, hat⟩ := (Spec.applies_iff hf).mp happ
  obtain ⟨hg, hn⟩ := and_e (Cond.before_iff.mp (show (Jvm.Cond.and given_1 narrow_1).before args s = true from hpre))
  obtain ⟨g0, gr0⟩ := and_e hg
  obtain ⟨ga0, gr1⟩ := and_e gr0
  obtain ⟨ga1, gr2⟩ := and_e gr1
  obtain ⟨ga2, gr3⟩ := and_e gr2
  obtain ⟨ga3, gr4⟩ := and_e gr3
  have ga4 := gr4
  obtain ⟨w0, w1, w2, w3, w4, rfl⟩ : ∃ w0 w1 w2 w3 w4 : Value, args = #[w0, w1, w2, w3, w4] := by
    have hs : args.size = 5 := by simpa [Cond.value, given_1] using g0
    obtain ⟨L⟩ := args
    match L, hs with
    | [w0, w1, w2, w3, w4], _ => exact ⟨w0, w1, w2, w3, w4, rfl⟩
  have hw := fun d (hd : d ∈ tables_1) => atoms_spec (ws := Jvm.Cond.code x code maxLocals ret :: tables_1) hat d (List.mem_cons_of_mem _ hd)
  have hfit : Fit s := fun {y c} hc i hi => by
    obtain ⟨ha, rfl⟩ := Array.getElem?_eq_some_iff.mp hc
    have q := List.all_eq_true.mp ((Array.all_eq_true_iff_forall_mem.mp hF) _ (Array.getElem_mem ha)) i (List.mem_range.mpr hi)
    simpa [Array.getElem?_eq_getElem hi] using q
  obtain ⟨i0, ei0⟩ := isL_v ga0
  obtain rfl : w0 = (.long i0) := Option.some.inj ei0
  obtain ⟨i1, ei1⟩ := is_v ga1
  obtain rfl : w1 = (.int i1) := Option.some.inj ei1
  obtain ⟨i2, ei2⟩ := is_v ga2
  obtain rfl : w2 = (.int i2) := Option.some.inj ei2
  obtain ⟨i3, ei3⟩ := is_v ga3
  obtain rfl : w3 = (.int i3) := Option.some.inj ei3
  obtain ⟨i4, ei4⟩ := isL_v ga4
  obtain rfl : w4 = (.long i4) := Option.some.inj ei4
  obtain ⟨n, o, h1, h2, h3, _, L, rfl, ⟨rfl, N⟩, hq⟩ := rm0 l s _ hw tables_1 i0 i1 i2 i3 i4  s.heap s.heap.size (Nat.le_refl _)  p e ha hc hk s m _ below hf ((Spec.applies_iff_loose hf).mp happ).1 ⟨rfl, State.Warmed39.refl s, rfl⟩ trivial
  refine ⟨n, _, h1, h2, h3, hpost _ _ _ _ _ _ ⟨Cond.after_iff.mpr rfl, Cond.after_iff.mpr (eq_i res_at (Term.int_eval (1)) rfl), trivial⟩ ⟨hq.1, hq.2.1, (hq.2.2.sift fun y hy => Or.inr (N y hy)).mono (by decide) (by decide)⟩⟩
theorem main_1_1 : Claimed_1_1 := comes_1 fun _ _ _ _ _ _ h hF => ⟨h.1, hF⟩
theorem main_1_2 : Claimed_1_2 := comes_1 fun _ _ _ _ _ _ h hF => ⟨h.2.1, hF⟩
end Jvm.Pilot.@@N@@
namespace Jvm.Pilot.@@N@@
open Jvm Jvm.ClassFile Sem Op Lib Jvm.Free Jvm.Stand Jvm.Pilot.@@N@@.Jvm.D
/-! MADE BY PROGRAM (witnessworld.py) out of the Statement's table words and the real class files: 9 classes; the members and pool entries that the words name. The judged class is class 1, her method 4. -/
namespace start1
open Jvm.ClassFile
def u (s : String) : CpInfo := .utf8 (stringToUtf16 s)
/-- a pool by its gaps: so many unusable entries, then the entry; so many at the end -/
def gap : Nat → List CpInfo → List CpInfo
  | 0, r => r
  | n + 1, r => .unusable :: gap n r
def poolList (es : List (Nat × CpInfo)) (last : Nat) : List CpInfo := es.foldr (fun e r => gap e.1 (e.2 :: r)) (gap last [])
def pool (es : List (Nat × CpInfo)) (last : Nat) : Array CpInfo := ⟨poolList es last⟩
def fileOf (pool : Array CpInfo) (this : Nat) (attrs : Array Attribute := #[]) (ms : Array MethodInfo := #[]) (fl : Nat := 33) (sup : Nat := 0) (ifs : Array Nat := #[]) (fds : Array FieldInfo := #[]) : ClassFile where
  minorVersion := 0
  majorVersion := 65
  constantPool := pool
  accessFlags := fl
  thisClass := this
  superClass := sup
  interfaces := ifs
  fields := fds
  methods := ms
  attributes := attrs
def plain (name : String) (sup : Option ClassId) : Class where
  name := name
  kind := .ordinary
  loader := none
  accessFlags := 33
  super := sup
  interfaces := #[]
  cf := none
  fields := #[]
  methods := #[]
  instanceTypes := #[]
  staticTypes := #[]
  resolved := #[]
  callSites := []
  init := .initialized
  statics := none
  mirror := none

def pool0 : Array CpInfo := pool [(5, u "<init>"), (0, u "()V"), (1, .class_ 10), (1, u "java/lang/Object")] 113

def k0c0 : Code := { maxStack := 0, maxLocals := 1, code := object_method_1_code, exceptionTable := #[], attributes := #[] }
def k0m0 : Method := { name := "<init>", desc := "()V", sig := { parameters := [], returnType := none }, accessFlags := 1, code := some k0c0 }
/-- java/lang/Object -/
def k0 : Class := { plain "java/lang/Object" none with
  accessFlags := 33
  interfaces := #[]
  cf := some (fileOf pool0 8 #[] #[{ accessFlags := 1, nameIndex := 5, descriptorIndex := 6, attributes := #[] }] 33 0 #[] #[])
  fields := #[]
  methods := #[k0m0]
  instanceTypes := #[]
  staticTypes := #[]
  resolved := Array.replicate 124 none
  statics := none }

def pool1 : Array CpInfo := pool [(2, .class_ 4), (1, u "java/lang/Object"), (0, u "<init>"), (0, u "()V"), (0, .long 127), (1, .integer 2147483647), (0, .methodref 11 12), (0, .class_ 13), (0, .nameAndType 14 15), (0, u "com/example/double_prior/doubleprior/index/ReaderReadLongPinLaw"), (0, u "j"), (0, u "(JI)B"), (0, .methodref 11 17), (0, .nameAndType 18 19), (0, u "pay"), (0, u "(JI)I"), (0, .methodref 11 21), (0, .nameAndType 22 23), (0, u "put"), (0, u "([BIIII)V"), (0, .class_ 25), (0, u "com/example/double_prior/doubleprior/index/IndexFile$Reader"), (0, .methodref 24 27), (0, .nameAndType 5 28), (0, u "([BI)V"), (0, .methodref 24 30), (0, .nameAndType 31 32), (0, u "readLong"), (0, u "()J"), (2, .long 9223372036854775807), (1, .methodref 24 38), (0, .nameAndType 39 40), (0, u "position"), (0, u "()I"), (3, u "law"), (0, u "(JIIIJ)Z")] 8

def k1m0 : Method := { name := "<init>", desc := "()V", sig := { parameters := [], returnType := none }, accessFlags := 2, code := none }
def k1c1 : Code := { maxStack := 5, maxLocals := 3, code := method_2_code, exceptionTable := #[], attributes := #[] }
def k1m1 : Method := { name := "j", desc := "(JI)B", sig := { parameters := [.long, .int], returnType := some .byte }, accessFlags := 10, code := some k1c1 }
def k1c2 : Code := { maxStack := 4, maxLocals := 3, code := method_3_code, exceptionTable := #[], attributes := #[] }
def k1m2 : Method := { name := "pay", desc := "(JI)I", sig := { parameters := [.long, .int], returnType := some .int }, accessFlags := 10, code := some k1c2 }
def k1c3 : Code := { maxStack := 3, maxLocals := 6, code := method_4_code, exceptionTable := #[], attributes := #[] }
def k1m3 : Method := { name := "put", desc := "([BIIII)V", sig := { parameters := [(.array .byte), .int, .int, .int, .int], returnType := none }, accessFlags := 10, code := some k1c3 }
def k1c4 : Code := { maxStack := 7, maxLocals := 15, code := code, exceptionTable := #[], attributes := #[] }
def k1m4 : Method := { name := "law", desc := "(JIIIJ)Z", sig := { parameters := [.long, .int, .int, .int, .long], returnType := some .boolean }, accessFlags := 9, code := some k1c4 }
/-- com/example/double_prior/doubleprior/index/ReaderReadLongPinLaw -/
def k1 : Class := { plain "com/example/double_prior/doubleprior/index/ReaderReadLongPinLaw" (some 0) with
  accessFlags := 49
  interfaces := #[]
  cf := some (fileOf pool1 11 #[] #[{ accessFlags := 2, nameIndex := 5, descriptorIndex := 6, attributes := #[] }, { accessFlags := 10, nameIndex := 14, descriptorIndex := 15, attributes := #[] }, { accessFlags := 10, nameIndex := 18, descriptorIndex := 19, attributes := #[] }, { accessFlags := 10, nameIndex := 22, descriptorIndex := 23, attributes := #[] }, { accessFlags := 9, nameIndex := 44, descriptorIndex := 45, attributes := #[] }] 49 2 #[] #[])
  fields := #[]
  methods := #[k1m0, k1m1, k1m2, k1m3, k1m4]
  instanceTypes := #[]
  staticTypes := #[]
  resolved := Array.replicate 54 none
  statics := none }

def pool2 : Array CpInfo := pool [(1, .class_ 2), (0, u "com/example/double_prior/doubleprior/index/IndexFile"), (0, .methodref 4 5), (0, .class_ 6), (0, .nameAndType 7 8), (0, u "java/lang/Object"), (0, u "<init>"), (0, u "()V"), (0, .fieldref 10 11), (0, .class_ 12), (0, .nameAndType 13 14), (0, u "com/example/double_prior/doubleprior/index/IndexFile$Reader"), (0, u "bytes"), (0, u "[B"), (0, .fieldref 10 16), (0, .nameAndType 17 18), (0, u "position"), (0, u "I"), (11, u "readLong"), (0, u "()J"), (3, u "()I"), (11, u "([BI)V")] 15

def k2c0 : Code := { maxStack := 2, maxLocals := 3, code := prog_14_method_1_code, exceptionTable := #[], attributes := #[] }
def k2m0 : Method := { name := "<init>", desc := "([BI)V", sig := { parameters := [(.array .byte), .int], returnType := none }, accessFlags := 0, code := some k2c0 }
def k2c1 : Code := { maxStack := 1, maxLocals := 1, code := prog_14_method_2_code, exceptionTable := #[], attributes := #[] }
def k2m1 : Method := { name := "position", desc := "()I", sig := { parameters := [], returnType := some .int }, accessFlags := 0, code := some k2c1 }
def k2c2 : Code := { maxStack := 5, maxLocals := 5, code := prog_14_method_5_code, exceptionTable := #[], attributes := #[] }
def k2m2 : Method := { name := "readLong", desc := "()J", sig := { parameters := [], returnType := some .long }, accessFlags := 0, code := some k2c2 }
/-- com/example/double_prior/doubleprior/index/IndexFile$Reader -/
def k2 : Class := { plain "com/example/double_prior/doubleprior/index/IndexFile$Reader" (some 0) with
  accessFlags := 48
  interfaces := #[]
  cf := some (fileOf pool2 10 #[.nestHost 1] #[{ accessFlags := 0, nameIndex := 7, descriptorIndex := 47, attributes := #[] }, { accessFlags := 0, nameIndex := 17, descriptorIndex := 35, attributes := #[] }, { accessFlags := 0, nameIndex := 30, descriptorIndex := 31, attributes := #[] }] 48 4 #[] #[{ accessFlags := 18, nameIndex := 13, descriptorIndex := 14, attributes := #[] }, { accessFlags := 2, nameIndex := 17, descriptorIndex := 18, attributes := #[] }])
  fields := #[{ name := "bytes", type := (.array .byte), accessFlags := 18, slot := 0, constantValue := 0 }, { name := "position", type := .int, accessFlags := 2, slot := 1, constantValue := 0 }]
  methods := #[k2m0, k2m1, k2m2]
  instanceTypes := #[(.array .byte), .int]
  staticTypes := #[]
  resolved := Array.replicate 63 none
  statics := none }

def pool3 : Array CpInfo := pool [(1, u "java/lang/Cloneable"), (0, .class_ 1), (0, u "java/lang/Object"), (0, .class_ 3)] 3

/-- java/lang/Cloneable -/
def k3 : Class := { plain "java/lang/Cloneable" (some 0) with
  accessFlags := 1537
  interfaces := #[]
  cf := some (fileOf pool3 2 #[] #[] 1537 4 #[] #[])
  fields := #[]
  methods := #[]
  instanceTypes := #[]
  staticTypes := #[]
  resolved := Array.replicate 8 none
  statics := none }

def pool4 : Array CpInfo := pool [(1, u "java/io/Serializable"), (0, .class_ 1), (0, u "java/lang/Object"), (0, .class_ 3)] 3

/-- java/io/Serializable -/
def k4 : Class := { plain "java/io/Serializable" (some 0) with
  accessFlags := 1537
  interfaces := #[]
  cf := some (fileOf pool4 2 #[] #[] 1537 4 #[] #[])
  fields := #[]
  methods := #[]
  instanceTypes := #[]
  staticTypes := #[]
  resolved := Array.replicate 8 none
  statics := none }

/-- the primitive byte -/
def k5 : Class := { plain "byte" none with kind := .primitive 'B', accessFlags := 0x411 }
/-- [B -/
def k6 : Class := { plain "[B" (some 0) with kind := .array 5 .byte, interfaces := #[3, 4], accessFlags := 1041 }

/-- the primitive int -/
def k7 : Class := { plain "int" none with kind := .primitive 'I', accessFlags := 0x411 }
/-- [I -/
def k8 : Class := { plain "[I" (some 0) with kind := .array 7 .int, interfaces := #[3, 4], accessFlags := 1041 }

def heap : Heap := #[]
def classes : Array Class := #[k0, k1, k2, k3, k4, k5, k6, k7, k8]
def interned : List (Array UInt16 × Addr) := []
def slotsUsed : Nat := 0
def theMethod : MethodId := ⟨1, 4⟩
def args0 : Array Value := #[.long 5, .int 6, .int 7, .int 8, .long 9]
def aboutOver (below : List Frame) : State where
  vm := { classes := classes, interned := interned.toArray }
  heap := heap
  slotsUsed := slotsUsed
  threads := #[{ frames := .invoking theMethod args0 :: below }]
def below0 : List Frame := [.native { method := ⟨0, 0⟩, args := #[] }]
def about1 : State := aboutOver below0
def p0 : Program := .bare "" "" ""
def e0 : Env := launch0.env 0 0 0
theorem w_frames : about1.frames = Frame.invoking theMethod args0 :: below0 := rfl
set_option maxRecDepth 65536 in
theorem w_args : argsFit about1.vm theMethod args0 = true := by decide +kernel
set_option maxRecDepth 65536 in
theorem w_heap : heapFits about1 = true := by decide +kernel
set_option maxRecDepth 65536 in
theorem w_runnable : about1.curStatus? = some .runnable := by decide +kernel
set_option maxRecDepth 65536 in
theorem w_alone : about1.alone = true := by decide +kernel
set_option maxRecDepth 65536 in
theorem w_named : about1.methodNamed? x = some theMethod := by decide +kernel
set_option maxRecDepth 65536 in
theorem w_hears : about1.hears theMethod below0 = true := by decide +kernel
set_option maxRecDepth 65536 in
theorem w_ripe : about1.ripe theMethod args0 below0 = true := by decide +kernel
theorem w_running : about1.status = .running := rfl
set_option maxRecDepth 65536 in
theorem w_room : about1.hasRoom e0.platform room_1 = true :=
  launch0.hasRoom_least _ room_1 (by decide +kernel) (by decide +kernel) (by decide +kernel) (by decide +kernel) (by decide +kernel) (by decide +kernel)
theorem allAtoms_all (ts : List Jvm.Cond) (a : Array Jvm.Value) (st : Jvm.State) : (allAtoms ts).before a st = ts.all (fun c => c.before a st) := by
  induction ts with
  | nil => rfl
  | cons c t ih =>
    show (Jvm.Cond.and c (allAtoms t)).before a st = _
    rw [Jvm.Cond.before_and, ih, List.all_cons]
def words1 : List Jvm.Cond := Jvm.Cond.code x code maxLocals ret :: tables_1
/-- a 'code' word, met by the world's own term for the bytes: nothing is compared byte by byte -/
theorem code_word {y : MethodName} {bytes : ByteArray} {mx : Nat} {rt : Option FieldType} {a : Array Value} {s : State} {m : MethodId} {meth : Method} {c : Code} (h1 : s.methodNamed? y = some m) (h2 : s.vm.method? m = some meth) (h3 : meth.code = some c) (h4 : c.code = bytes)
    (h5 : (c.maxLocals == mx && c.exceptionTable.isEmpty && decide (c.maxStack ≤ mostOperands) && decide (meth.sig.returnType = rt) && !meth.locks && decide (parseMethodDescriptor y.desc = some meth.sig)) = true) : (Jvm.Cond.code y bytes mx rt).before a s = true := by
  simp only [Bool.and_eq_true, beq_iff_eq, Bool.not_eq_true', decide_eq_true_eq] at h5
  obtain ⟨⟨⟨⟨⟨g1, g2⟩, g3⟩, g4⟩, g5⟩, g6⟩ := h5
  simp [Cond.before, Cond.holds, Cond.value, h1, h2, h3, h4, g1, g2, g3, g4, g5, g6]
def isCode : Jvm.Cond → Bool
  | .code _ _ _ _ => true
  | _ => false
theorem all_split {L : List Jvm.Cond} {P : Jvm.Cond → Bool} (h1 : L.all (fun c => isCode c || P c) = true) (h2 : ∀ c ∈ L.filter isCode, P c = true) : L.all P = true := by
  refine List.all_eq_true.mpr fun c hc => ?_
  have h := List.all_eq_true.mp h1 c hc
  rcases Bool.eq_false_or_eq_true (isCode c) with hi | hi
  · exact h2 c (List.mem_filter.mpr ⟨hc, hi⟩)
  · simpa [hi] using h
set_option maxRecDepth 65536 in
theorem w_c0 : (Jvm.Cond.code x code maxLocals ret).before args0 about1 = true := code_word (m := ⟨1, 4⟩) (meth := k1m4) (c := k1c4) (by decide +kernel) rfl rfl rfl (by decide +kernel)
set_option maxRecDepth 65536 in
theorem w_c1 : (Jvm.Cond.code ({ cls := "com/example/double_prior/doubleprior/index/ReaderReadLongPinLaw", name := "j", desc := "(JI)B" } : Jvm.MethodName) method_2_code (3 : Nat) (Option.some Jvm.ClassFile.FieldType.byte)).before args0 about1 = true := code_word (m := ⟨1, 1⟩) (meth := k1m1) (c := k1c1) (by decide +kernel) rfl rfl rfl (by decide +kernel)
set_option maxRecDepth 65536 in
theorem w_c2 : (Jvm.Cond.code ({ cls := "com/example/double_prior/doubleprior/index/ReaderReadLongPinLaw", name := "pay", desc := "(JI)I" } : Jvm.MethodName) method_3_code (3 : Nat) (Option.some Jvm.ClassFile.FieldType.int)).before args0 about1 = true := code_word (m := ⟨1, 2⟩) (meth := k1m2) (c := k1c2) (by decide +kernel) rfl rfl rfl (by decide +kernel)
set_option maxRecDepth 65536 in
theorem w_c3 : (Jvm.Cond.code ({ cls := "com/example/double_prior/doubleprior/index/ReaderReadLongPinLaw", name := "put", desc := "([BIIII)V" } : Jvm.MethodName) method_4_code (6 : Nat) (Option.none : Option Jvm.ClassFile.FieldType)).before args0 about1 = true := code_word (m := ⟨1, 3⟩) (meth := k1m3) (c := k1c3) (by decide +kernel) rfl rfl rfl (by decide +kernel)
set_option maxRecDepth 65536 in
theorem w_c4 : (Jvm.Cond.code ({ cls := "com/example/double_prior/doubleprior/index/IndexFile$Reader", name := "<init>", desc := "([BI)V" } : Jvm.MethodName) prog_14_method_1_code (3 : Nat) (Option.none : Option Jvm.ClassFile.FieldType)).before args0 about1 = true := code_word (m := ⟨2, 0⟩) (meth := k2m0) (c := k2c0) (by decide +kernel) rfl rfl rfl (by decide +kernel)
set_option maxRecDepth 65536 in
theorem w_c5 : (Jvm.Cond.code ({ cls := "java/lang/Object", name := "<init>", desc := "()V" } : Jvm.MethodName) object_method_1_code (1 : Nat) (Option.none : Option Jvm.ClassFile.FieldType)).before args0 about1 = true := code_word (m := ⟨0, 0⟩) (meth := k0m0) (c := k0c0) (by decide +kernel) rfl rfl rfl (by decide +kernel)
set_option maxRecDepth 65536 in
theorem w_c6 : (Jvm.Cond.code ({ cls := "com/example/double_prior/doubleprior/index/IndexFile$Reader", name := "readLong", desc := "()J" } : Jvm.MethodName) prog_14_method_5_code (5 : Nat) (Option.some Jvm.ClassFile.FieldType.long)).before args0 about1 = true := code_word (m := ⟨2, 2⟩) (meth := k2m2) (c := k2c2) (by decide +kernel) rfl rfl rfl (by decide +kernel)
set_option maxRecDepth 65536 in
theorem w_c7 : (Jvm.Cond.code ({ cls := "com/example/double_prior/doubleprior/index/IndexFile$Reader", name := "position", desc := "()I" } : Jvm.MethodName) prog_14_method_2_code (1 : Nat) (Option.some Jvm.ClassFile.FieldType.int)).before args0 about1 = true := code_word (m := ⟨2, 1⟩) (meth := k2m1) (c := k2c1) (by decide +kernel) rfl rfl rfl (by decide +kernel)
def codes1 : List Jvm.Cond := [Jvm.Cond.code x code maxLocals ret, Jvm.Cond.code ({ cls := "com/example/double_prior/doubleprior/index/ReaderReadLongPinLaw", name := "j", desc := "(JI)B" } : Jvm.MethodName) method_2_code (3 : Nat) (Option.some Jvm.ClassFile.FieldType.byte), Jvm.Cond.code ({ cls := "com/example/double_prior/doubleprior/index/ReaderReadLongPinLaw", name := "pay", desc := "(JI)I" } : Jvm.MethodName) method_3_code (3 : Nat) (Option.some Jvm.ClassFile.FieldType.int), Jvm.Cond.code ({ cls := "com/example/double_prior/doubleprior/index/ReaderReadLongPinLaw", name := "put", desc := "([BIIII)V" } : Jvm.MethodName) method_4_code (6 : Nat) (Option.none : Option Jvm.ClassFile.FieldType), Jvm.Cond.code ({ cls := "com/example/double_prior/doubleprior/index/IndexFile$Reader", name := "<init>", desc := "([BI)V" } : Jvm.MethodName) prog_14_method_1_code (3 : Nat) (Option.none : Option Jvm.ClassFile.FieldType), Jvm.Cond.code ({ cls := "java/lang/Object", name := "<init>", desc := "()V" } : Jvm.MethodName) object_method_1_code (1 : Nat) (Option.none : Option Jvm.ClassFile.FieldType), Jvm.Cond.code ({ cls := "com/example/double_prior/doubleprior/index/IndexFile$Reader", name := "readLong", desc := "()J" } : Jvm.MethodName) prog_14_method_5_code (5 : Nat) (Option.some Jvm.ClassFile.FieldType.long), Jvm.Cond.code ({ cls := "com/example/double_prior/doubleprior/index/IndexFile$Reader", name := "position", desc := "()I" } : Jvm.MethodName) prog_14_method_2_code (1 : Nat) (Option.some Jvm.ClassFile.FieldType.int)]
set_option maxRecDepth 65536 in
theorem codes_eq : words1.filter isCode = codes1 := rfl
theorem w_codes : ∀ c ∈ words1.filter isCode, c.before args0 about1 = true := by
  rw [codes_eq]
  intro c hc
  simp only [codes1, List.mem_cons, List.not_mem_nil, or_false] at hc
  rcases hc with rfl | rfl | rfl | rfl | rfl | rfl | rfl | rfl
  · exact w_c0
  · exact w_c1
  · exact w_c2
  · exact w_c3
  · exact w_c4
  · exact w_c5
  · exact w_c6
  · exact w_c7
set_option maxRecDepth 65536 in
theorem w_t1 : (words1.take 24).all (fun c => isCode c || c.before args0 about1) = true := by decide +kernel
set_option maxRecDepth 65536 in
theorem w_t2 : (words1.drop 24).all (fun c => isCode c || c.before args0 about1) = true := by decide +kernel
theorem w_tables : (allAtoms (Jvm.Cond.code x code maxLocals ret :: tables_1)).before args0 about1 = true := by
  rw [allAtoms_all]
  show words1.all (fun c => c.before args0 about1) = true
  refine all_split ?_ w_codes
  rw [← List.take_append_drop 24 words1, List.all_append, w_t1, w_t2]
  rfl
set_option maxRecDepth 65536 in
theorem w_case : (Jvm.Cond.and given_1 narrow_1).before args0 about1 = true := by decide +kernel
theorem w_applies : (headSpec (Jvm.Cond.code x code maxLocals ret :: tables_1) room_1).applies x e0.platform about1 = true :=
  (Spec.applies_iff w_frames).mpr ⟨w_running, w_runnable, w_alone, w_named, w_hears, w_ripe, w_room, w_tables⟩
theorem atStart : AtStart classFile x code maxLocals ret World_1 tables_1 room_1 Calls_1 rest_1 Pre_1 launch0 p0 e0 about1 theMethod args0 below0 :=
  ⟨lists_1, trivial, launch0.admits_env _ _ _, launch0.least_env, fairChoices_fair.cas, fairChoices_fair.clock, w_frames, w_args, w_heap, w_applies, trivial, trivial, w_case⟩
end start1
theorem witness_1 : WitnessClaimed_1 := ⟨start1.p0, start1.e0, start1.about1, start1.theMethod, start1.args0, start1.below0, start1.atStart⟩
end Jvm.Pilot.@@N@@
