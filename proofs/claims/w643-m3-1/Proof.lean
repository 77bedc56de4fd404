import JvmDerived
import JvmDerived.Pilot.@@N@@Statement
import JvmDerived.Pilot.@@N@@Code
set_option linter.unusedVariables false
set_option linter.unusedSimpArgs false
namespace Jvm.Pilot.@@N@@
open Jvm Jvm.ClassFile Sem Op Lib Jvm.Free Jvm.Stand Jvm.LawKit Jvm.RoadKit Bundle Jvm.Pilot.@@N@@.Jvm.D
section Own0
theorem own_fld_to {Z : State} {h : Heap} {a : Addr} {C n d : String} {v v' : Value} (F : Fld Z h a C n d v) (q : v = v') : Fld Z h a C n d v' := q ▸ F
theorem own_sta_keep {Z : State} {h h' : Heap} {C n d : String} {v : Value} {ws : List Addr} (F : Sta Z h C n d v) (K : Keep h h' ws) (q : ∀ x ∈ ws, ∀ c : Cell, h[x]? = some c → c.vm.isStatics = false) : Sta Z h' C n d v := by
  obtain ⟨cf, i, k, f, st, cell, h1, h2, h3, h4, h5, h6, h7⟩ := F
  exact ⟨cf, i, k, f, st, cell, h1, h2, h3, h4, K.2.1 st cell h5 (fun y => by rw [q st y cell h5] at h6; cases h6), h6, h7⟩
theorem own_ins_keep {Z : State} {h h' : Heap} {a : Addr} {C : String} {bo : Bool} {ws : List Addr} (F : Ins Z h a C bo) (K : Keep h h' ws) : Ins Z h' a C bo := by
  obtain ⟨cell, cT, h1, h2, h3⟩ := F
  obtain ⟨c', e1, e2, e3, -⟩ := K.2.2 a cell h1
  exact ⟨c', cT, e1, h2, by rw [e2, e3]; exact h3⟩
theorem notsta_exa {Z : State} {h : Heap} {a : Addr} {C : String} (F : Exa Z h a C) : ∀ c : Cell, h[a]? = some c → c.vm.isStatics = false := fun c hc => by
  obtain ⟨cell, _, h1, -, -, h4, -⟩ := F
  cases hc.symm.trans h1; exact h4
theorem eqi_v {args : Array Value} {first s : State} {o : Option Outcome} {idx : List Nat} {a : Term} {k : Int32} (h : (Cond.eq a (.int k)).value args first o s idx = some true) : a.eval args first o idx s = some (.int k) := by
  obtain ⟨x, y, e1, e2, k1, k2⟩ := cmp_v (Or.inl h)
  have e3 : (Term.int k).eval args first o idx s = some (.int k) := rfl
  cases e3.symm.trans e2
  cases x <;> simp [Cond.value, e1, e3] at h
  rw [e1, h]
end Own0
section Own
variable {p : Program} {l : Launch} {e : Env} {R : Room} {s : State} {m : MethodId} {args : Array Value} {below : List Frame} {meth : Method} {c : Code} {T T' : State} {locs : List Loc} {cells slots : Nat} {Z : State} {h h' : Heap} {Q : Option Value → Heap → List Loc → Prop} {kc ks : Nat} {a b : Addr}
/-- from T the method comes to its end, and Q holds of what it returns, of the heap and of the written places -/
def Goes (p : Program) (e : Env) (below : List Frame) (s : State) (Q : Option Value → Heap → List Loc → Prop) (kc ks : Nat) (T : State) : Prop :=
  ∃ s₂ o, Steps p.tables e below T s₂ ∧ s₂.status = .running ∧ Ended s₂ below o ∧ ∃ v L, o = .returned v ∧ Q v s₂.heap L ∧ FrameEnd s o s₂ L kc ks
theorem Goes.step (st : ∀ t, Steps p.tables e below T' t → Steps p.tables e below T t) (k : Goes p e below s Q kc ks T') : Goes p e below s Q kc ks T := by
  obtain ⟨s₂, o, h1, h2⟩ := k; exact ⟨s₂, o, st _ h1, h2⟩
theorem Goes.ret (X : Stand p l e R s m args below meth c T locs cells slots) {v : Option Value} (hv : meth.sig.returnType = none → v = none) (hlocks : meth.locks = false) {T₀ : State}
    (st : ∀ fs, (∀ (f : JFrame) (acts : List Action), f.method = m → f.locked = none → f.entered = [] → (doReturn e (T.setTop f) acts v).1 = T.setFrames fs) → Steps p.tables e below T₀ (T.setFrames fs))
    (hq : Q v T.heap locs) (hc : cells ≤ kc) (hs : slots ≤ ks) : Goes p e below s Q kc ks T₀ := by
  obtain ⟨fs, hr, hrun, hended, hW, hsame⟩ := X.leave (v := v) hv hlocks
  exact ⟨_, _, st fs hr, hrun, hended, _, _, rfl, hq, ⟨_, rfl⟩, hW, hsame.mono hc hs⟩
theorem Goes.retZ (X : Stand p l e R s m args below meth c T locs cells slots) (hx : p.tables.exec = Jvm.exec) (hlocks : meth.locks = false) {pc : Nat} {Ls : Array Slot} {z r : Int32} {t : FieldType} {rest : List Value} (hret : meth.sig.returnType = some t) (ht : t = .boolean ∨ t = .byte ∨ t = .char ∨ t = .short)
    (hd : decode c.code pc = .ok (.ireturn, 1)) (hz : nar t z = r) (hq : Q (some (.int r)) T.heap locs) (hc : cells ≤ kc) (hs : slots ≤ ks) : Goes p e below s Q kc ks (T.setTop (mkF m pc Ls (.int z :: rest))) := by
  subst hz
  exact Goes.ret X (fun h => by rw [hret] at h; cases h) hlocks (fun fs hr => retN X hx hret ht hd hr) hq hc hs
theorem Goes.retI (X : Stand p l e R s m args below meth c T locs cells slots) (hx : p.tables.exec = Jvm.exec) (hlocks : meth.locks = false) {pc : Nat} {Ls : Array Slot} {z r : Int32} {rest : List Value} (hret : meth.sig.returnType = some .int)
    (hd : decode c.code pc = .ok (.ireturn, 1)) (hz : z = r) (hq : Q (some (.int r)) T.heap locs) (hc : cells ≤ kc) (hs : slots ≤ ks) : Goes p e below s Q kc ks (T.setTop (mkF m pc Ls (.int z :: rest))) := by
  subst hz
  exact Goes.ret X (fun h => by rw [hret] at h; cases h) hlocks (fun fs hr => retOut X hx hret rfl (Or.inl ⟨rfl, Or.inl rfl, z, rfl⟩) hd hr) hq hc hs
theorem Goes.retJ (X : Stand p l e R s m args below meth c T locs cells slots) (hx : p.tables.exec = Jvm.exec) (hlocks : meth.locks = false) {pc : Nat} {Ls : Array Slot} {z r : Int64} {rest : List Value} (hret : meth.sig.returnType = some .long)
    (hd : decode c.code pc = .ok (.lreturn, 1)) (hz : z = r) (hq : Q (some (.long r)) T.heap locs) (hc : cells ≤ kc) (hs : slots ≤ ks) : Goes p e below s Q kc ks (T.setTop (mkF m pc Ls (.long z :: rest))) := by
  subst hz
  exact Goes.ret X (fun h => by rw [hret] at h; cases h) hlocks (fun fs hr => retOut X hx hret rfl (Or.inr (Or.inl ⟨rfl, rfl, z, rfl⟩)) hd hr) hq hc hs
theorem Goes.retR (X : Stand p l e R s m args below meth c T locs cells slots) (hx : p.tables.exec = Jvm.exec) (hlocks : meth.locks = false) {pc : Nat} {Ls : Array Slot} {z r : Value} {t : FieldType} {rest : List Value} (hret : meth.sig.returnType = some t) (ht : t.isReference = true) (hn : narrow t z = z) (hw : z.isRef = true)
    (hd : decode c.code pc = .ok (.areturn, 1)) (hz : z = r) (hq : Q (some r) T.heap locs) (hc : cells ≤ kc) (hs : slots ≤ ks) : Goes p e below s Q kc ks (T.setTop (mkF m pc Ls (z :: rest))) := by
  subst hz
  exact Goes.ret X (fun h => by rw [hret] at h; cases h) hlocks (fun fs hr => retOut X hx hret hn (Or.inr (Or.inr (Or.inr (Or.inr ⟨rfl, ht, hw⟩)))) hd hr) hq hc hs
theorem Goes.retV (X : Stand p l e R s m args below meth c T locs cells slots) (hx : p.tables.exec = Jvm.exec) (hlocks : meth.locks = false) {pc : Nat} {Ls : Array Slot} (hret : meth.sig.returnType = none)
    (hd : decode c.code pc = .ok (.return_, 1)) (hq : Q none T.heap locs) (hc : cells ≤ kc) (hs : slots ≤ ks) : Goes p e below s Q kc ks (T.setTop (mkF m pc Ls [])) :=
  Goes.ret X (fun _ => rfl) hlocks (fun fs hr => X.returnOut hx hret hd hr) hq hc hs
/-- the array at a holds vs -/
def Ara (Z : State) (h : Heap) (a : Addr) (ty : FieldType) (vs : List Value) : Prop := ∃ cl : Cell, Arr Z h a cl ty ∧ cl.slots.toList = vs ∧ vs.length < 2 ^ 31 ∧ (∀ v ∈ vs, fits ty v = true) ∧ ∀ C, ty = .object C → Ovr Z cl.cls C
variable {ty : FieldType} {vs : List Value} {sl : Nat} {v : Value} {ws : List Addr}
theorem Ara.lt (F : Ara Z h a ty vs) : a < h.size := by obtain ⟨c, A, -⟩ := F; exact A.lt
theorem Ara.ext (F : Ara Z h a ty vs) (E : Ext h h') : Ara Z h' a ty vs := by obtain ⟨c, A, r⟩ := F; exact ⟨c, A.ext E, r⟩
theorem Ara.other (F : Ara Z h b ty vs) (W : Wr h h' a sl v) (q : b ≠ a) : Ara Z h' b ty vs := by obtain ⟨c, A, r⟩ := F; exact ⟨c, A.other W q, r⟩
theorem Ara.keep (F : Ara Z h a ty vs) (K : Keep h h' ws) (q : a ∉ ws) : Ara Z h' a ty vs := by obtain ⟨c, A, r⟩ := F; exact ⟨c, ⟨K.2.1 a c A.1 q, A.2⟩, r⟩
theorem fits_dflt (ty : FieldType) : fits ty (defaultValue ty) = true := by cases ty <;> rfl
theorem Ara.new {k : ClassId} {z : Int32} (A : Arr Z h a (newA k ty z) ty) (q : ¬ z < 0) (e : List.replicate z.toNatClampNeg (defaultValue ty) = vs) (O : ∀ C, ty = .object C → Ovr Z k C) : Ara Z h a ty vs := by
  subst e
  refine ⟨_, A, by simp [newA], by simpa using (back32 q).2, fun v hv => ?_, O⟩
  rw [(List.mem_replicate.mp hv).2]; exact fits_dflt ty
theorem Ara.same {j : Int32} {cl : Cell} (A : Arr Z h a cl ty) (e : cl.slots.toList = vs) (hl : vs.length < 2 ^ 31) (hf : ∀ v ∈ vs, fits ty v = true) (O : ∀ C, ty = .object C → Ovr Z cl.cls C) (hv : fits ty v = true) (W : Wr h h' a j.toNatClampNeg v) : Ara Z h' a ty (vs.set j.toNatClampNeg v) := by
  refine ⟨_, A.same W, by simp [Cell.setSlot, ← e], by simpa using hl, fun u hu => ?_, O⟩
  rcases List.mem_or_eq_of_mem_set hu with q | q
  · exact hf u q
  · rw [q]; exact hv
theorem inb {j : Int32} {cl : Cell} (e : cl.slots.toList = vs) (h0 : ¬ j < 0) (hj : j.toNatClampNeg < vs.length) : ¬ (j < 0 ∨ cl.slots.size ≤ j.toNatClampNeg) := by
  rintro (q | q)
  · exact h0 q
  · rw [← e] at hj; simp at hj; omega
theorem getb {j : Int32} {cl : Cell} (e : cl.slots.toList = vs) (hv : vs[j.toNatClampNeg]? = some v) : cl.slots[j.toNatClampNeg]? = some v := by rw [← e] at hv; simpa using hv
theorem ltb {n : Nat} (hv : vs[n]? = some v) : n < vs.length := (List.getElem?_eq_some_iff.mp hv).1
theorem lenb {cl : Cell} (e : cl.slots.toList = vs) : cl.slots.size = vs.length := by rw [← e]; simp
theorem notsta_ara (F : Ara Z h a ty vs) : ∀ c : Cell, h[a]? = some c → c.vm.isStatics = false := fun c hc => by
  obtain ⟨cl, A, -⟩ := F
  cases hc.symm.trans A.1; exact A.plain
theorem Ara.to {vs' : List Value} (F : Ara Z h a ty vs) (q : vs = vs') : Ara Z h a ty vs' := q ▸ F
end Own
theorem own_pn0 : plainName "com/example/chernoff/chernoff/prism/Operator" = true := by first | (simp [plainName, overriddenIn]; done) | decide +kernel
theorem own_pd0 : parseMethodDescriptor "(I)Lcom/example/chernoff/chernoff/prism/Operator;" = some ⟨[.int], some (.object "com/example/chernoff/chernoff/prism/Operator")⟩ := by decide +kernel
theorem own_pd1 : parseMethodDescriptor "()Z" = some ⟨[], some .boolean⟩ := by decide +kernel
theorem own_pn1 : plainName "com/example/chernoff/chernoff/prism/OperatorPrefixPinLaw" = true := by first | (simp [plainName, overriddenIn]; done) | decide +kernel
def f1 (p0 : Int32) (w_NOT : Addr) (w_NEGATE : Addr) : Value := (if p0 = (5 : Int32) then (.ref w_NOT) else (if p0 = (10 : Int32) then (.ref w_NEGATE) else .null))
theorem own_d1_0 : decode prog_93_method_7_code 0 = .ok (.aconst_null, 1) := by decide +kernel
theorem own_d1_1 : decode prog_93_method_7_code 1 = .ok (.astore_n 1, 1) := by decide +kernel
theorem own_d1_2 : decode prog_93_method_7_code 2 = .ok (.iload_n 0, 1) := by decide +kernel
theorem own_d1_3 : decode prog_93_method_7_code 3 = .ok (.getstatic 16, 3) := by decide +kernel
theorem own_d1_6 : decode prog_93_method_7_code 6 = .ok (.getfield 75, 3) := by decide +kernel
theorem own_d1_9 : decode prog_93_method_7_code 9 = .ok (.if_icmp .ne 10, 3) := by decide +kernel
theorem own_d1_12 : decode prog_93_method_7_code 12 = .ok (.getstatic 16, 3) := by decide +kernel
theorem own_d1_15 : decode prog_93_method_7_code 15 = .ok (.astore_n 1, 1) := by decide +kernel
theorem own_d1_16 : decode prog_93_method_7_code 16 = .ok (.goto 17, 3) := by decide +kernel
theorem own_d1_19 : decode prog_93_method_7_code 19 = .ok (.iload_n 0, 1) := by decide +kernel
theorem own_d1_20 : decode prog_93_method_7_code 20 = .ok (.getstatic 49, 3) := by decide +kernel
theorem own_d1_23 : decode prog_93_method_7_code 23 = .ok (.getfield 75, 3) := by decide +kernel
theorem own_d1_26 : decode prog_93_method_7_code 26 = .ok (.if_icmp .ne 7, 3) := by decide +kernel
theorem own_d1_29 : decode prog_93_method_7_code 29 = .ok (.getstatic 49, 3) := by decide +kernel
theorem own_d1_32 : decode prog_93_method_7_code 32 = .ok (.astore_n 1, 1) := by decide +kernel
theorem own_d1_33 : decode prog_93_method_7_code 33 = .ok (.aload_n 1, 1) := by decide +kernel
theorem own_d1_34 : decode prog_93_method_7_code 34 = .ok (.areturn, 1) := by decide +kernel
theorem own_ef1 (m : MethodId) (p0 : Int32) : entryFrame m #[(.int p0)] 2 = mkF m 0 #[.val (.int p0), .unset] [] := by first | (simp [entryFrame, mkF, argsToLocals, Value.category, maxLocals]; done) | rfl
abbrev RM1 : Room := ({ frames := 0, cells := 0, slots := 0, locals := 0 } : Room)
abbrev kC1 : Nat := 0
abbrev kS1 : Nat := 0
def Q1 (Z : State) (p0 : Int32) (w_NOT : Addr) (w_NEGATE : Addr) (h0 : Heap) (v : Option Value) (h : Heap) (L : List Loc) : Prop := v = some (f1 p0 w_NOT w_NEGATE) ∧ L = [] ∧ h = h0
set_option maxRecDepth 65536 in
set_option maxHeartbeats 40000000 in
theorem rm1 (l : Launch) (Z : State) (tA : Array Value) (hw : ∀ d ∈ tables_1, d.before tA Z = true) (ws : List Jvm.Cond) (p0 : Int32) (w_NOT : Addr) (w_NEGATE : Addr) (h0 : Heap) (H0 : Sta Z h0 "com/example/chernoff/chernoff/prism/Operator" "NOT" "Lcom/example/chernoff/chernoff/prism/Operator;" (.ref w_NOT)) (H1 : Sta Z h0 "com/example/chernoff/chernoff/prism/Operator" "NEGATE" "Lcom/example/chernoff/chernoff/prism/Operator;" (.ref w_NEGATE)) (H2 : Fld Z h0 w_NOT "com/example/chernoff/chernoff/prism/Operator" "precedence" "I" (.int (5 : Int32))) (H3 : Fld Z h0 w_NEGATE "com/example/chernoff/chernoff/prism/Operator" "precedence" "I" (.int (10 : Int32))) :
    MetFree l (⟨"com/example/chernoff/chernoff/prism/Operator", "prefix", "(I)Lcom/example/chernoff/chernoff/prism/Operator;"⟩ : MethodName) (head1 (Jvm.Cond.code (⟨"com/example/chernoff/chernoff/prism/Operator", "prefix", "(I)Lcom/example/chernoff/chernoff/prism/Operator;"⟩ : MethodName) prog_93_method_7_code 2 (some (.object "com/example/chernoff/chernoff/prism/Operator")) :: ws) RM1) (fun a U => a = #[(.int p0)] ∧ Z.Warmed39 U.vm ∧ U.heap = h0) (fun _ _ _ _ _ => True) (fun _ U o U' => ∃ v L, o = .returned v ∧ Q1 Z p0 w_NOT w_NEGATE h0 v U'.heap L ∧ FrameEnd U o U' L RM1.cells RM1.slots) := by
  refine MetFree.of_bodySF (plainFor_of_name own_pn0) hisR ?_
  intro p e s m args below meth c s₁ Bd hml0 hP hK
  obtain ⟨rfl, hZ, hh⟩ := hP
  have hx := Bd.exec
  have hby := Bd.bytes
  have hml : c.maxLocals = 2 := hml0
  have hown : s.vm.findClass "com/example/chernoff/chernoff/prism/Operator" = some m.cls := findClass_of_methodNamed Bd.named
  have hnm := (name_of_methodNamed Bd.named Bd.method).1
  have X0 : Stand p l e RM1 s m #[(.int p0)] below meth c s₁ [] 0 0 := Stand.of_body Bd
  have e0 : s₁.heap = h0 := by rw [← hh, Bd.state]; rfl
  show Goes p e below s (Q1 Z p0 w_NOT w_NEGATE h0) kC1 kS1 (s₁.setTop (entryFrame m #[(.int p0)] 2))
  refine Goes.step (fun t k => castTop (own_ef1 m p0) k) ?_
  show Goes _ _ _ _ _ _ _ (s₁.setTop (mkF m 0 #[.val (.int p0), .unset] []))
  refine Goes.step (fun t k => XS.aconstNull X0.here hx rfl (hb hby own_d1_0) k) ?_
  show Goes _ _ _ _ _ _ _ (s₁.setTop (mkF m 1 #[.val (.int p0), .unset] [.null]))
  refine Goes.step (fun t k => XS.astoreN X0.here hx rfl (hb hby own_d1_1) rfl rfl (l' := #[.val (.int p0), .val .null]) rfl k) ?_
  show Goes _ _ _ _ _ _ _ (s₁.setTop (mkF m 2 #[.val (.int p0), .val .null] []))
  refine Goes.step (fun t k => XS.iloadN X0.here hx rfl (hb hby own_d1_2) rfl k) ?_
  show Goes _ _ _ _ _ _ _ (s₁.setTop (mkF m 3 #[.val (.int p0), .val .null] [(.int p0)]))
  obtain ⟨T1, X1, e1, st1⟩ := getS2 X0 hx hZ hown (host := "") (Or.inl (hw _ (List.mem_of_getElem? (i := 6) rfl))) Via.refl e0 H0 (g := (mkF m 3 #[.val (.int p0), .val .null] [(.int p0)])) rfl (hb hby own_d1_3)
  refine Goes.step (fun t k => st1 t k) ?_
  show Goes _ _ _ _ _ _ _ (T1.setTop (mkF m 6 #[.val (.int p0), .val .null] [(.ref w_NOT), (.int p0)]))
  obtain ⟨T2, X2, e2, st2⟩ := getF X1 hx hZ hown (host := "") (Or.inl (hw _ (List.mem_of_getElem? (i := 7) rfl))) Via.refl e1 H2 (g := (mkF m 6 #[.val (.int p0), .val .null] [(.ref w_NOT), (.int p0)])) rfl rfl (hb hby own_d1_6)
  refine Goes.step (fun t k => st2 t k) ?_
  show Goes _ _ _ _ _ _ _ (T2.setTop (mkF m 9 #[.val (.int p0), .val .null] [(.int (5 : Int32)), (.int p0)]))
  by_cases hc9_3 : p0 = (5 : Int32)
  · refine Goes.step (fun t k => XS.icmpNo X2.here hx rfl (hb hby own_d1_9) rfl (teq hc9_3).2 k) ?_
    show Goes _ _ _ _ _ _ _ (T2.setTop (mkF m 12 #[.val (.int p0), .val .null] []))
    obtain ⟨T4, X4, e4, st4⟩ := getS2 X2 hx hZ hown (host := "") (Or.inl (hw _ (List.mem_of_getElem? (i := 6) rfl))) Via.refl e2 H0 (g := (mkF m 12 #[.val (.int p0), .val .null] [])) rfl (hb hby own_d1_12)
    refine Goes.step (fun t k => st4 t k) ?_
    show Goes _ _ _ _ _ _ _ (T4.setTop (mkF m 15 #[.val (.int p0), .val .null] [(.ref w_NOT)]))
    refine Goes.step (fun t k => XS.astoreN X4.here hx rfl (hb hby own_d1_15) rfl rfl (l' := #[.val (.int p0), .val (.ref w_NOT)]) rfl k) ?_
    show Goes _ _ _ _ _ _ _ (T4.setTop (mkF m 16 #[.val (.int p0), .val (.ref w_NOT)] []))
    refine Goes.step (fun t k => XS.goto X4.here hx rfl (pc0 := 16) (pc' := 33) rfl (hb hby own_d1_16) (by decide) (by decide) k) ?_
    show Goes _ _ _ _ _ _ _ (T4.setTop (mkF m 33 #[.val (.int p0), .val (.ref w_NOT)] []))
    refine Goes.step (fun t k => XS.aloadN X4.here hx rfl (hb hby own_d1_33) rfl rfl k) ?_
    show Goes _ _ _ _ _ _ _ (T4.setTop (mkF m 34 #[.val (.int p0), .val (.ref w_NOT)] [(.ref w_NOT)]))
    exact Goes.retR X4 hx Bd.notSynchronized (r := (f1 p0 w_NOT w_NEGATE)) Bd.returns rfl rfl rfl (hb hby own_d1_34) ((if_pos hc9_3).symm) ⟨rfl, rfl, e4⟩ (by decide) (by decide)
  · refine Goes.step (fun t k => XS.icmpYes X2.here hx rfl (pc0 := 9) (pc' := 19) rfl (hb hby own_d1_9) rfl (feq hc9_3).2 (by decide) (by decide) k) ?_
    show Goes _ _ _ _ _ _ _ (T2.setTop (mkF m 19 #[.val (.int p0), .val .null] []))
    refine Goes.step (fun t k => XS.iloadN X2.here hx rfl (hb hby own_d1_19) rfl k) ?_
    show Goes _ _ _ _ _ _ _ (T2.setTop (mkF m 20 #[.val (.int p0), .val .null] [(.int p0)]))
    obtain ⟨T5, X5, e5, st5⟩ := getS2 X2 hx hZ hown (host := "") (Or.inl (hw _ (List.mem_of_getElem? (i := 14) rfl))) Via.refl e2 H1 (g := (mkF m 20 #[.val (.int p0), .val .null] [(.int p0)])) rfl (hb hby own_d1_20)
    refine Goes.step (fun t k => st5 t k) ?_
    show Goes _ _ _ _ _ _ _ (T5.setTop (mkF m 23 #[.val (.int p0), .val .null] [(.ref w_NEGATE), (.int p0)]))
    obtain ⟨T6, X6, e6, st6⟩ := getF X5 hx hZ hown (host := "") (Or.inl (hw _ (List.mem_of_getElem? (i := 7) rfl))) Via.refl e5 H3 (g := (mkF m 23 #[.val (.int p0), .val .null] [(.ref w_NEGATE), (.int p0)])) rfl rfl (hb hby own_d1_23)
    refine Goes.step (fun t k => st6 t k) ?_
    show Goes _ _ _ _ _ _ _ (T6.setTop (mkF m 26 #[.val (.int p0), .val .null] [(.int (10 : Int32)), (.int p0)]))
    by_cases hc26_7 : p0 = (10 : Int32)
    · refine Goes.step (fun t k => XS.icmpNo X6.here hx rfl (hb hby own_d1_26) rfl (teq hc26_7).2 k) ?_
      show Goes _ _ _ _ _ _ _ (T6.setTop (mkF m 29 #[.val (.int p0), .val .null] []))
      obtain ⟨T8, X8, e8, st8⟩ := getS2 X6 hx hZ hown (host := "") (Or.inl (hw _ (List.mem_of_getElem? (i := 14) rfl))) Via.refl e6 H1 (g := (mkF m 29 #[.val (.int p0), .val .null] [])) rfl (hb hby own_d1_29)
      refine Goes.step (fun t k => st8 t k) ?_
      show Goes _ _ _ _ _ _ _ (T8.setTop (mkF m 32 #[.val (.int p0), .val .null] [(.ref w_NEGATE)]))
      refine Goes.step (fun t k => XS.astoreN X8.here hx rfl (hb hby own_d1_32) rfl rfl (l' := #[.val (.int p0), .val (.ref w_NEGATE)]) rfl k) ?_
      show Goes _ _ _ _ _ _ _ (T8.setTop (mkF m 33 #[.val (.int p0), .val (.ref w_NEGATE)] []))
      refine Goes.step (fun t k => XS.aloadN X8.here hx rfl (hb hby own_d1_33) rfl rfl k) ?_
      show Goes _ _ _ _ _ _ _ (T8.setTop (mkF m 34 #[.val (.int p0), .val (.ref w_NEGATE)] [(.ref w_NEGATE)]))
      exact Goes.retR X8 hx Bd.notSynchronized (r := (f1 p0 w_NOT w_NEGATE)) Bd.returns rfl rfl rfl (hb hby own_d1_34) (((if_neg hc9_3).trans (if_pos hc26_7)).symm) ⟨rfl, rfl, e8⟩ (by decide) (by decide)
    · refine Goes.step (fun t k => XS.icmpYes X6.here hx rfl (pc0 := 26) (pc' := 33) rfl (hb hby own_d1_26) rfl (feq hc26_7).2 (by decide) (by decide) k) ?_
      show Goes _ _ _ _ _ _ _ (T6.setTop (mkF m 33 #[.val (.int p0), .val .null] []))
      refine Goes.step (fun t k => XS.aloadN X6.here hx rfl (hb hby own_d1_33) rfl rfl k) ?_
      show Goes _ _ _ _ _ _ _ (T6.setTop (mkF m 34 #[.val (.int p0), .val .null] [.null]))
      exact Goes.retR X6 hx Bd.notSynchronized (r := (f1 p0 w_NOT w_NEGATE)) Bd.returns rfl rfl rfl (hb hby own_d1_34) (((if_neg hc9_3).trans (if_neg hc26_7)).symm) ⟨rfl, rfl, e6⟩ (by decide) (by decide)
def f2 (a0 : Addr) (w_NOT : Addr) (w_NEGATE : Addr) : Int32 := (nar .boolean (if a0 = w_NOT then (1 : Int32) else (if a0 = w_NEGATE then (1 : Int32) else (0 : Int32))))
theorem own_d2_0 : decode prog_93_method_4_code 0 = .ok (.aload_n 0, 1) := by decide +kernel
theorem own_d2_1 : decode prog_93_method_4_code 1 = .ok (.getstatic 16, 3) := by decide +kernel
theorem own_d2_4 : decode prog_93_method_4_code 4 = .ok (.if_acmp .eq 10, 3) := by decide +kernel
theorem own_d2_7 : decode prog_93_method_4_code 7 = .ok (.aload_n 0, 1) := by decide +kernel
theorem own_d2_8 : decode prog_93_method_4_code 8 = .ok (.getstatic 49, 3) := by decide +kernel
theorem own_d2_11 : decode prog_93_method_4_code 11 = .ok (.if_acmp .ne 7, 3) := by decide +kernel
theorem own_d2_14 : decode prog_93_method_4_code 14 = .ok (.iconst 1, 1) := by decide +kernel
theorem own_d2_15 : decode prog_93_method_4_code 15 = .ok (.goto 4, 3) := by decide +kernel
theorem own_d2_18 : decode prog_93_method_4_code 18 = .ok (.iconst 0, 1) := by decide +kernel
theorem own_d2_19 : decode prog_93_method_4_code 19 = .ok (.ireturn, 1) := by decide +kernel
theorem own_ef2 (m : MethodId) (a0 : Addr) : entryFrame m #[(.ref a0)] 1 = mkF m 0 #[.val (.ref a0)] [] := by first | (simp [entryFrame, mkF, argsToLocals, Value.category, maxLocals]; done) | rfl
abbrev RM2 : Room := ({ frames := 0, cells := 0, slots := 0, locals := 0 } : Room)
abbrev kC2 : Nat := 0
abbrev kS2 : Nat := 0
def Q2 (Z : State) (a0 : Addr) (w_NOT : Addr) (w_NEGATE : Addr) (h0 : Heap) (v : Option Value) (h : Heap) (L : List Loc) : Prop := v = some (.int (f2 a0 w_NOT w_NEGATE)) ∧ L = [] ∧ h = h0
set_option maxRecDepth 65536 in
set_option maxHeartbeats 40000000 in
theorem rm2 (l : Launch) (Z : State) (tA : Array Value) (hw : ∀ d ∈ tables_1, d.before tA Z = true) (ws : List Jvm.Cond) (a0 : Addr) (w_NOT : Addr) (w_NEGATE : Addr) (h0 : Heap) (H0 : Sta Z h0 "com/example/chernoff/chernoff/prism/Operator" "NOT" "Lcom/example/chernoff/chernoff/prism/Operator;" (.ref w_NOT)) (H1 : Sta Z h0 "com/example/chernoff/chernoff/prism/Operator" "NEGATE" "Lcom/example/chernoff/chernoff/prism/Operator;" (.ref w_NEGATE)) :
    MetFree l (⟨"com/example/chernoff/chernoff/prism/Operator", "isPrefix", "()Z"⟩ : MethodName) (head1 (Jvm.Cond.code (⟨"com/example/chernoff/chernoff/prism/Operator", "isPrefix", "()Z"⟩ : MethodName) prog_93_method_4_code 1 (some .boolean) :: ws) RM2) (fun a U => a = #[(.ref a0)] ∧ Z.Warmed39 U.vm ∧ U.heap = h0) (fun _ _ _ _ _ => True) (fun _ U o U' => ∃ v L, o = .returned v ∧ Q2 Z a0 w_NOT w_NEGATE h0 v U'.heap L ∧ FrameEnd U o U' L RM2.cells RM2.slots) := by
  refine MetFree.of_bodySF (plainFor_of_name own_pn0) hisR ?_
  intro p e s m args below meth c s₁ Bd hml0 hP hK
  obtain ⟨rfl, hZ, hh⟩ := hP
  have hx := Bd.exec
  have hby := Bd.bytes
  have hml : c.maxLocals = 1 := hml0
  have hown : s.vm.findClass "com/example/chernoff/chernoff/prism/Operator" = some m.cls := findClass_of_methodNamed Bd.named
  have hnm := (name_of_methodNamed Bd.named Bd.method).1
  have X0 : Stand p l e RM2 s m #[(.ref a0)] below meth c s₁ [] 0 0 := Stand.of_body Bd
  have e0 : s₁.heap = h0 := by rw [← hh, Bd.state]; rfl
  show Goes p e below s (Q2 Z a0 w_NOT w_NEGATE h0) kC2 kS2 (s₁.setTop (entryFrame m #[(.ref a0)] 1))
  refine Goes.step (fun t k => castTop (own_ef2 m a0) k) ?_
  show Goes _ _ _ _ _ _ _ (s₁.setTop (mkF m 0 #[.val (.ref a0)] []))
  refine Goes.step (fun t k => XS.aloadN X0.here hx rfl (hb hby own_d2_0) rfl rfl k) ?_
  show Goes _ _ _ _ _ _ _ (s₁.setTop (mkF m 1 #[.val (.ref a0)] [(.ref a0)]))
  obtain ⟨T1, X1, e1, st1⟩ := getS2 X0 hx hZ hown (host := "") (Or.inl (hw _ (List.mem_of_getElem? (i := 6) rfl))) Via.refl e0 H0 (g := (mkF m 1 #[.val (.ref a0)] [(.ref a0)])) rfl (hb hby own_d2_1)
  refine Goes.step (fun t k => st1 t k) ?_
  show Goes _ _ _ _ _ _ _ (T1.setTop (mkF m 4 #[.val (.ref a0)] [(.ref w_NOT), (.ref a0)]))
  suffices k5 : ∀ (T5 : State) (x5_0 : Int32), Stand p l e RM2 s m #[(.ref a0)] below meth c T5 [] 0 0 → T5.heap = h0 → x5_0 = (if a0 = w_NOT then (1 : Int32) else (if a0 = w_NEGATE then (1 : Int32) else (0 : Int32))) → Goes p e below s (Q2 Z a0 w_NOT w_NEGATE h0) kC2 kS2 (T5.setTop (mkF m 19 #[.val (.ref a0)] [(.int x5_0)])) by
    by_cases hc4_2 : a0 = w_NOT
    · refine Goes.step (fun t k => Jvm.RoadKit.acmp (g := (mkF m 4 #[.val (.ref a0)] [(.ref w_NOT), (.ref a0)])) X1 hx rfl rfl rfl (pc0 := 4) (pc' := 14) (same := true) rfl (hb hby own_d2_4) rfl (decide_eq_true (congrArg Value.ref hc4_2)) (by decide) (by decide) k) ?_
      show Goes _ _ _ _ _ _ _ (T1.setTop (mkF m 14 #[.val (.ref a0)] []))
      refine Goes.step (fun t k => XS.iconst X1.here hx rfl (hb hby own_d2_14) k) ?_
      show Goes _ _ _ _ _ _ _ (T1.setTop (mkF m 15 #[.val (.ref a0)] [(.int (1 : Int32))]))
      refine Goes.step (fun t k => XS.goto X1.here hx rfl (pc0 := 15) (pc' := 19) rfl (hb hby own_d2_15) (by decide) (by decide) k) ?_
      show Goes _ _ _ _ _ _ _ (T1.setTop (mkF m 19 #[.val (.ref a0)] [(.int (1 : Int32))]))
      exact k5 _ _ X1 e1 (if_pos hc4_2).symm
    · refine Goes.step (fun t k => Jvm.RoadKit.acmp (g := (mkF m 4 #[.val (.ref a0)] [(.ref w_NOT), (.ref a0)])) X1 hx rfl rfl rfl (pc0 := 4) (pc' := 7) (same := false) rfl (hb hby own_d2_4) rfl (decide_eq_false fun q => hc4_2 (Value.ref.inj q)) (by decide) (by decide) k) ?_
      show Goes _ _ _ _ _ _ _ (T1.setTop (mkF m 7 #[.val (.ref a0)] []))
      refine Goes.step (fun t k => XS.aloadN X1.here hx rfl (hb hby own_d2_7) rfl rfl k) ?_
      show Goes _ _ _ _ _ _ _ (T1.setTop (mkF m 8 #[.val (.ref a0)] [(.ref a0)]))
      obtain ⟨T3, X3, e3, st3⟩ := getS2 X1 hx hZ hown (host := "") (Or.inl (hw _ (List.mem_of_getElem? (i := 14) rfl))) Via.refl e1 H1 (g := (mkF m 8 #[.val (.ref a0)] [(.ref a0)])) rfl (hb hby own_d2_8)
      refine Goes.step (fun t k => st3 t k) ?_
      show Goes _ _ _ _ _ _ _ (T3.setTop (mkF m 11 #[.val (.ref a0)] [(.ref w_NEGATE), (.ref a0)]))
      by_cases hc11_4 : a0 = w_NEGATE
      · refine Goes.step (fun t k => Jvm.RoadKit.acmp (g := (mkF m 11 #[.val (.ref a0)] [(.ref w_NEGATE), (.ref a0)])) X3 hx rfl rfl rfl (pc0 := 11) (pc' := 14) (same := true) rfl (hb hby own_d2_11) rfl (decide_eq_true (congrArg Value.ref hc11_4)) (by decide) (by decide) k) ?_
        show Goes _ _ _ _ _ _ _ (T3.setTop (mkF m 14 #[.val (.ref a0)] []))
        refine Goes.step (fun t k => XS.iconst X3.here hx rfl (hb hby own_d2_14) k) ?_
        show Goes _ _ _ _ _ _ _ (T3.setTop (mkF m 15 #[.val (.ref a0)] [(.int (1 : Int32))]))
        refine Goes.step (fun t k => XS.goto X3.here hx rfl (pc0 := 15) (pc' := 19) rfl (hb hby own_d2_15) (by decide) (by decide) k) ?_
        show Goes _ _ _ _ _ _ _ (T3.setTop (mkF m 19 #[.val (.ref a0)] [(.int (1 : Int32))]))
        exact k5 _ _ X3 e3 ((if_neg hc4_2).trans (if_pos hc11_4)).symm
      · refine Goes.step (fun t k => Jvm.RoadKit.acmp (g := (mkF m 11 #[.val (.ref a0)] [(.ref w_NEGATE), (.ref a0)])) X3 hx rfl rfl rfl (pc0 := 11) (pc' := 18) (same := false) rfl (hb hby own_d2_11) rfl (decide_eq_false fun q => hc11_4 (Value.ref.inj q)) (by decide) (by decide) k) ?_
        show Goes _ _ _ _ _ _ _ (T3.setTop (mkF m 18 #[.val (.ref a0)] []))
        refine Goes.step (fun t k => XS.iconst X3.here hx rfl (hb hby own_d2_18) k) ?_
        show Goes _ _ _ _ _ _ _ (T3.setTop (mkF m 19 #[.val (.ref a0)] [(.int (0 : Int32))]))
        exact k5 _ _ X3 e3 ((if_neg hc4_2).trans (if_neg hc11_4)).symm
  intro T5 x5_0 X5 e5 hx5_0
  subst hx5_0
  exact Goes.retZ X5 hx Bd.notSynchronized (r := (f2 a0 w_NOT w_NEGATE)) Bd.returns (by simp) (hb hby own_d2_19) rfl ⟨rfl, rfl, e5⟩ (by decide) (by decide)
set_option maxRecDepth 65536 in
set_option maxHeartbeats 4000000 in
theorem own_plain    : nar .boolean (1 : Int32) = (1 : Int32) := by
  rfl
set_option maxRecDepth 65536 in
set_option maxHeartbeats 4000000 in
theorem own_plain_2    : nar .boolean (1 : Int32) = (1 : Int32) := by
  rfl
set_option maxRecDepth 65536 in
set_option maxHeartbeats 4000000 in
theorem own_plain_3    : nar .boolean (1 : Int32) = (1 : Int32) := by
  rfl
theorem own_ef0 (m : MethodId) (p0 : Int32) (p1 : Int32) : entryFrame m #[(.int p0), (.int p1)] maxLocals = mkF m 0 #[.val (.int p0), .val (.int p1), .unset, .unset, .unset, .unset] [] := by first | (simp [entryFrame, mkF, argsToLocals, Value.category, maxLocals]; done) | rfl
abbrev kC0 : Nat := 0
abbrev kS0 : Nat := 0
def Q0 (Z : State) (p0 : Int32) (p1 : Int32) (w_NOT : Addr) (w_NEGATE : Addr) (h0 : Heap) (v : Option Value) (h : Heap) (L : List Loc) : Prop := v = some (.int 1) ∧ L = [] ∧ h = h0
set_option maxRecDepth 65536 in
set_option maxHeartbeats 40000000 in
theorem rm0 (l : Launch) (Z : State) (tA : Array Value) (hw : ∀ d ∈ tables_1, d.before tA Z = true) (ws : List Jvm.Cond) (p0 : Int32) (p1 : Int32) (w_NOT : Addr) (w_NEGATE : Addr) (h0 : Heap) (S_NOT : Sta Z h0 "com/example/chernoff/chernoff/prism/Operator" "NOT" "Lcom/example/chernoff/chernoff/prism/Operator;" (.ref w_NOT)) (S_NEGATE : Sta Z h0 "com/example/chernoff/chernoff/prism/Operator" "NEGATE" "Lcom/example/chernoff/chernoff/prism/Operator;" (.ref w_NEGATE)) (E_NOT : Exa Z h0 w_NOT "com/example/chernoff/chernoff/prism/Operator") (E_NEGATE : Exa Z h0 w_NEGATE "com/example/chernoff/chernoff/prism/Operator") (D_NOT_precedence : Fld Z h0 w_NOT "com/example/chernoff/chernoff/prism/Operator" "precedence" "I" (.int (5 : Int32))) (D_NEGATE_precedence : Fld Z h0 w_NEGATE "com/example/chernoff/chernoff/prism/Operator" "precedence" "I" (.int (10 : Int32))) :
    MetFree l x (head1 (Jvm.Cond.code x code maxLocals ret :: ws) room_1) (fun a U => a = #[(.int p0), (.int p1)] ∧ Z.Warmed39 U.vm ∧ U.heap = h0) (fun _ _ _ _ _ => True) (fun _ U o U' => ∃ v L, o = .returned v ∧ Q0 Z p0 p1 w_NOT w_NEGATE h0 v U'.heap L ∧ FrameEnd U o U' L kC0 kS0) := by
  refine MetFree.of_bodySF (plainFor_of_name own_pn1) hisR ?_
  intro p e s m args below meth c s₁ Bd hml0 hP hK
  obtain ⟨rfl, hZ, hh⟩ := hP
  have hx := Bd.exec
  have hby := Bd.bytes
  have hml : c.maxLocals = 6 := hml0
  have hown : s.vm.findClass "com/example/chernoff/chernoff/prism/OperatorPrefixPinLaw" = some m.cls := findClass_of_methodNamed Bd.named
  have hnm := (name_of_methodNamed Bd.named Bd.method).1
  have X0 : Stand p l e room_1 s m #[(.int p0), (.int p1)] below meth c s₁ [] 0 0 := Stand.of_body Bd
  have e0 : s₁.heap = h0 := by rw [← hh, Bd.state]; rfl
  show Goes p e below s (Q0 Z p0 p1 w_NOT w_NEGATE h0) kC0 kS0 (s₁.setTop (entryFrame m #[(.int p0), (.int p1)] maxLocals))
  refine Goes.step (fun t k => castTop (own_ef0 m p0 p1) k) ?_
  show Goes _ _ _ _ _ _ _ (s₁.setTop (mkF m 0 #[.val (.int p0), .val (.int p1), .unset, .unset, .unset, .unset] []))
  refine Goes.step (fun t k => XS.iloadN X0.here hx rfl (hb hby at_0) rfl k) ?_
  show Goes _ _ _ _ _ _ _ (s₁.setTop (mkF m 1 #[.val (.int p0), .val (.int p1), .unset, .unset, .unset, .unset] [(.int p0)]))
  refine Goes.step (fun t k => XS.iconst X0.here hx rfl (hb hby at_1) k) ?_
  show Goes _ _ _ _ _ _ _ (s₁.setTop (mkF m 2 #[.val (.int p0), .val (.int p1), .unset, .unset, .unset, .unset] [(.int (3 : Int32)), (.int p0)]))
  refine Goes.step (fun t k => XS.iand X0.here hx rfl (hb hby at_2) rfl k) ?_
  show Goes _ _ _ _ _ _ _ (s₁.setTop (mkF m 3 #[.val (.int p0), .val (.int p1), .unset, .unset, .unset, .unset] [(.int (p0 &&& (3 : Int32)))]))
  refine Goes.step (fun t k => XS.istoreN X0.here hx rfl (hb hby at_3) rfl (l' := #[.val (.int p0), .val (.int p1), .val (.int (p0 &&& (3 : Int32))), .unset, .unset, .unset]) rfl k) ?_
  show Goes _ _ _ _ _ _ _ (s₁.setTop (mkF m 4 #[.val (.int p0), .val (.int p1), .val (.int (p0 &&& (3 : Int32))), .unset, .unset, .unset] []))
  refine Goes.step (fun t k => XS.iloadN X0.here hx rfl (hb hby at_4) rfl k) ?_
  show Goes _ _ _ _ _ _ _ (s₁.setTop (mkF m 5 #[.val (.int p0), .val (.int p1), .val (.int (p0 &&& (3 : Int32))), .unset, .unset, .unset] [(.int (p0 &&& (3 : Int32)))]))
  suffices k4 : ∀ (x4_0 : Int32), x4_0 = (if (p0 &&& (3 : Int32)) = (0 : Int32) then (5 : Int32) else (if (p0 &&& (3 : Int32)) = (1 : Int32) then (10 : Int32) else (if (p0 &&& (3 : Int32)) = (2 : Int32) then (p1 &&& (15 : Int32)) else p1))) → Goes p e below s (Q0 Z p0 p1 w_NOT w_NEGATE h0) kC0 kS0 (s₁.setTop (mkF m 39 #[.val (.int p0), .val (.int p1), .val (.int (p0 &&& (3 : Int32))), .val (.int x4_0), .unset, .unset] [])) by
    by_cases hc5_1 : (p0 &&& (3 : Int32)) = (0 : Int32)
    · refine Goes.step (fun t k => XS.ifNo X0.here hx rfl (hb hby at_5) rfl ((if0 _ _).trans (teq hc5_1).2) k) ?_
      show Goes _ _ _ _ _ _ _ (s₁.setTop (mkF m 8 #[.val (.int p0), .val (.int p1), .val (.int (p0 &&& (3 : Int32))), .unset, .unset, .unset] []))
      refine Goes.step (fun t k => XS.iconst X0.here hx rfl (hb hby at_8) k) ?_
      show Goes _ _ _ _ _ _ _ (s₁.setTop (mkF m 9 #[.val (.int p0), .val (.int p1), .val (.int (p0 &&& (3 : Int32))), .unset, .unset, .unset] [(.int (5 : Int32))]))
      refine Goes.step (fun t k => XS.istoreN X0.here hx rfl (hb hby at_9) rfl (l' := #[.val (.int p0), .val (.int p1), .val (.int (p0 &&& (3 : Int32))), .val (.int (5 : Int32)), .unset, .unset]) rfl k) ?_
      show Goes _ _ _ _ _ _ _ (s₁.setTop (mkF m 10 #[.val (.int p0), .val (.int p1), .val (.int (p0 &&& (3 : Int32))), .val (.int (5 : Int32)), .unset, .unset] []))
      refine Goes.step (fun t k => XS.goto X0.here hx rfl (pc0 := 10) (pc' := 39) rfl (hb hby at_10) (by decide) (by decide) k) ?_
      show Goes _ _ _ _ _ _ _ (s₁.setTop (mkF m 39 #[.val (.int p0), .val (.int p1), .val (.int (p0 &&& (3 : Int32))), .val (.int (5 : Int32)), .unset, .unset] []))
      exact k4 _ (if_pos hc5_1).symm
    · refine Goes.step (fun t k => XS.ifYes X0.here hx rfl (pc0 := 5) (pc' := 13) rfl (hb hby at_5) rfl ((if0 _ _).trans (feq hc5_1).2) (by decide) (by decide) k) ?_
      show Goes _ _ _ _ _ _ _ (s₁.setTop (mkF m 13 #[.val (.int p0), .val (.int p1), .val (.int (p0 &&& (3 : Int32))), .unset, .unset, .unset] []))
      refine Goes.step (fun t k => XS.iloadN X0.here hx rfl (hb hby at_13) rfl k) ?_
      show Goes _ _ _ _ _ _ _ (s₁.setTop (mkF m 14 #[.val (.int p0), .val (.int p1), .val (.int (p0 &&& (3 : Int32))), .unset, .unset, .unset] [(.int (p0 &&& (3 : Int32)))]))
      refine Goes.step (fun t k => XS.iconst X0.here hx rfl (hb hby at_14) k) ?_
      show Goes _ _ _ _ _ _ _ (s₁.setTop (mkF m 15 #[.val (.int p0), .val (.int p1), .val (.int (p0 &&& (3 : Int32))), .unset, .unset, .unset] [(.int (1 : Int32)), (.int (p0 &&& (3 : Int32)))]))
      by_cases hc15_2 : (p0 &&& (3 : Int32)) = (1 : Int32)
      · refine Goes.step (fun t k => XS.icmpNo X0.here hx rfl (hb hby at_15) rfl (teq hc15_2).2 k) ?_
        show Goes _ _ _ _ _ _ _ (s₁.setTop (mkF m 18 #[.val (.int p0), .val (.int p1), .val (.int (p0 &&& (3 : Int32))), .unset, .unset, .unset] []))
        refine Goes.step (fun t k => XS.bipush X0.here hx rfl (hb hby at_18) k) ?_
        show Goes _ _ _ _ _ _ _ (s₁.setTop (mkF m 20 #[.val (.int p0), .val (.int p1), .val (.int (p0 &&& (3 : Int32))), .unset, .unset, .unset] [(.int (10 : Int32))]))
        refine Goes.step (fun t k => XS.istoreN X0.here hx rfl (hb hby at_20) rfl (l' := #[.val (.int p0), .val (.int p1), .val (.int (p0 &&& (3 : Int32))), .val (.int (10 : Int32)), .unset, .unset]) rfl k) ?_
        show Goes _ _ _ _ _ _ _ (s₁.setTop (mkF m 21 #[.val (.int p0), .val (.int p1), .val (.int (p0 &&& (3 : Int32))), .val (.int (10 : Int32)), .unset, .unset] []))
        refine Goes.step (fun t k => XS.goto X0.here hx rfl (pc0 := 21) (pc' := 39) rfl (hb hby at_21) (by decide) (by decide) k) ?_
        show Goes _ _ _ _ _ _ _ (s₁.setTop (mkF m 39 #[.val (.int p0), .val (.int p1), .val (.int (p0 &&& (3 : Int32))), .val (.int (10 : Int32)), .unset, .unset] []))
        exact k4 _ ((if_neg hc5_1).trans (if_pos hc15_2)).symm
      · refine Goes.step (fun t k => XS.icmpYes X0.here hx rfl (pc0 := 15) (pc' := 24) rfl (hb hby at_15) rfl (feq hc15_2).2 (by decide) (by decide) k) ?_
        show Goes _ _ _ _ _ _ _ (s₁.setTop (mkF m 24 #[.val (.int p0), .val (.int p1), .val (.int (p0 &&& (3 : Int32))), .unset, .unset, .unset] []))
        refine Goes.step (fun t k => XS.iloadN X0.here hx rfl (hb hby at_24) rfl k) ?_
        show Goes _ _ _ _ _ _ _ (s₁.setTop (mkF m 25 #[.val (.int p0), .val (.int p1), .val (.int (p0 &&& (3 : Int32))), .unset, .unset, .unset] [(.int (p0 &&& (3 : Int32)))]))
        refine Goes.step (fun t k => XS.iconst X0.here hx rfl (hb hby at_25) k) ?_
        show Goes _ _ _ _ _ _ _ (s₁.setTop (mkF m 26 #[.val (.int p0), .val (.int p1), .val (.int (p0 &&& (3 : Int32))), .unset, .unset, .unset] [(.int (2 : Int32)), (.int (p0 &&& (3 : Int32)))]))
        by_cases hc26_3 : (p0 &&& (3 : Int32)) = (2 : Int32)
        · refine Goes.step (fun t k => XS.icmpNo X0.here hx rfl (hb hby at_26) rfl (teq hc26_3).2 k) ?_
          show Goes _ _ _ _ _ _ _ (s₁.setTop (mkF m 29 #[.val (.int p0), .val (.int p1), .val (.int (p0 &&& (3 : Int32))), .unset, .unset, .unset] []))
          refine Goes.step (fun t k => XS.iloadN X0.here hx rfl (hb hby at_29) rfl k) ?_
          show Goes _ _ _ _ _ _ _ (s₁.setTop (mkF m 30 #[.val (.int p0), .val (.int p1), .val (.int (p0 &&& (3 : Int32))), .unset, .unset, .unset] [(.int p1)]))
          refine Goes.step (fun t k => XS.bipush X0.here hx rfl (hb hby at_30) k) ?_
          show Goes _ _ _ _ _ _ _ (s₁.setTop (mkF m 32 #[.val (.int p0), .val (.int p1), .val (.int (p0 &&& (3 : Int32))), .unset, .unset, .unset] [(.int (15 : Int32)), (.int p1)]))
          refine Goes.step (fun t k => XS.iand X0.here hx rfl (hb hby at_32) rfl k) ?_
          show Goes _ _ _ _ _ _ _ (s₁.setTop (mkF m 33 #[.val (.int p0), .val (.int p1), .val (.int (p0 &&& (3 : Int32))), .unset, .unset, .unset] [(.int (p1 &&& (15 : Int32)))]))
          refine Goes.step (fun t k => XS.istoreN X0.here hx rfl (hb hby at_33) rfl (l' := #[.val (.int p0), .val (.int p1), .val (.int (p0 &&& (3 : Int32))), .val (.int (p1 &&& (15 : Int32))), .unset, .unset]) rfl k) ?_
          show Goes _ _ _ _ _ _ _ (s₁.setTop (mkF m 34 #[.val (.int p0), .val (.int p1), .val (.int (p0 &&& (3 : Int32))), .val (.int (p1 &&& (15 : Int32))), .unset, .unset] []))
          refine Goes.step (fun t k => XS.goto X0.here hx rfl (pc0 := 34) (pc' := 39) rfl (hb hby at_34) (by decide) (by decide) k) ?_
          show Goes _ _ _ _ _ _ _ (s₁.setTop (mkF m 39 #[.val (.int p0), .val (.int p1), .val (.int (p0 &&& (3 : Int32))), .val (.int (p1 &&& (15 : Int32))), .unset, .unset] []))
          exact k4 _ ((if_neg hc5_1).trans ((if_neg hc15_2).trans (if_pos hc26_3))).symm
        · refine Goes.step (fun t k => XS.icmpYes X0.here hx rfl (pc0 := 26) (pc' := 37) rfl (hb hby at_26) rfl (feq hc26_3).2 (by decide) (by decide) k) ?_
          show Goes _ _ _ _ _ _ _ (s₁.setTop (mkF m 37 #[.val (.int p0), .val (.int p1), .val (.int (p0 &&& (3 : Int32))), .unset, .unset, .unset] []))
          refine Goes.step (fun t k => XS.iloadN X0.here hx rfl (hb hby at_37) rfl k) ?_
          show Goes _ _ _ _ _ _ _ (s₁.setTop (mkF m 38 #[.val (.int p0), .val (.int p1), .val (.int (p0 &&& (3 : Int32))), .unset, .unset, .unset] [(.int p1)]))
          refine Goes.step (fun t k => XS.istoreN X0.here hx rfl (hb hby at_38) rfl (l' := #[.val (.int p0), .val (.int p1), .val (.int (p0 &&& (3 : Int32))), .val (.int p1), .unset, .unset]) rfl k) ?_
          show Goes _ _ _ _ _ _ _ (s₁.setTop (mkF m 39 #[.val (.int p0), .val (.int p1), .val (.int (p0 &&& (3 : Int32))), .val (.int p1), .unset, .unset] []))
          exact k4 _ ((if_neg hc5_1).trans ((if_neg hc15_2).trans (if_neg hc26_3))).symm
  intro x4_0 hx4_0
  refine Goes.step (fun t k => XS.iloadN X0.here hx rfl (hb hby at_39) rfl k) ?_
  show Goes _ _ _ _ _ _ _ (s₁.setTop (mkF m 40 #[.val (.int p0), .val (.int p1), .val (.int (p0 &&& (3 : Int32))), .val (.int x4_0), .unset, .unset] [(.int x4_0)]))
  refine Goes.step (fun t k => XS.iconst X0.here hx rfl (hb hby at_40) k) ?_
  show Goes _ _ _ _ _ _ _ (s₁.setTop (mkF m 41 #[.val (.int p0), .val (.int p1), .val (.int (p0 &&& (3 : Int32))), .val (.int x4_0), .unset, .unset] [(.int (5 : Int32)), (.int x4_0)]))
  by_cases hc41_5 : x4_0 = (5 : Int32)
  · refine Goes.step (fun t k => XS.icmpNo X0.here hx rfl (hb hby at_41) rfl (teq hc41_5).2 k) ?_
    show Goes _ _ _ _ _ _ _ (s₁.setTop (mkF m 44 #[.val (.int p0), .val (.int p1), .val (.int (p0 &&& (3 : Int32))), .val (.int x4_0), .unset, .unset] []))
    obtain ⟨T6, X6, e6, st6⟩ := getS2 X0 hx hZ hown (host := "") (Or.inl (hw _ (List.mem_of_getElem? (i := 0) rfl))) Via.refl e0 S_NOT (g := (mkF m 44 #[.val (.int p0), .val (.int p1), .val (.int (p0 &&& (3 : Int32))), .val (.int x4_0), .unset, .unset] [])) rfl (hb hby at_44)
    refine Goes.step (fun t k => st6 t k) ?_
    show Goes _ _ _ _ _ _ _ (T6.setTop (mkF m 47 #[.val (.int p0), .val (.int p1), .val (.int (p0 &&& (3 : Int32))), .val (.int x4_0), .unset, .unset] [(.ref w_NOT)]))
    refine Goes.step (fun t k => XS.astore X6.here hx rfl (hb hby at_47) rfl rfl (l' := #[.val (.int p0), .val (.int p1), .val (.int (p0 &&& (3 : Int32))), .val (.int x4_0), .val (.ref w_NOT), .unset]) rfl k) ?_
    show Goes _ _ _ _ _ _ _ (T6.setTop (mkF m 49 #[.val (.int p0), .val (.int p1), .val (.int (p0 &&& (3 : Int32))), .val (.int x4_0), .val (.ref w_NOT), .unset] []))
    refine Goes.step (fun t k => XS.goto X6.here hx rfl (pc0 := 49) (pc' := 69) rfl (hb hby at_49) (by decide) (by decide) k) ?_
    show Goes _ _ _ _ _ _ _ (T6.setTop (mkF m 69 #[.val (.int p0), .val (.int p1), .val (.int (p0 &&& (3 : Int32))), .val (.int x4_0), .val (.ref w_NOT), .unset] []))
    refine Goes.step (fun t k => XS.iloadN X6.here hx rfl (hb hby at_69) rfl k) ?_
    show Goes _ _ _ _ _ _ _ (T6.setTop (mkF m 70 #[.val (.int p0), .val (.int p1), .val (.int (p0 &&& (3 : Int32))), .val (.int x4_0), .val (.ref w_NOT), .unset] [(.int x4_0)]))
    obtain ⟨_, _, ⟨T7, L7, k7, n7⟩, -, X7, ⟨Lc7, hQ7, l7, y7, z7⟩, st7⟩ := Jvm.LawKit.callS X6 hx (y := (⟨"com/example/chernoff/chernoff/prism/Operator", "prefix", "(I)Lcom/example/chernoff/chernoff/prism/Operator;"⟩ : MethodName)) hown (mvT hZ (hw _ (List.mem_of_getElem? (i := 3) rfl))) (mvT hZ (hw _ (List.mem_of_getElem? (i := 4) rfl))) (mvT hZ (hw _ (List.mem_of_getElem? (i := 1) rfl))) (mvT hZ (hw _ (List.mem_of_getElem? (i := 5) rfl))) (by decide) (backOf (W := 0) (rm1 l Z tA hw [] x4_0 w_NOT w_NEGATE h0 S_NOT S_NEGATE D_NOT_precedence D_NEGATE_precedence) hZ (hw _ (List.mem_of_getElem? (i := 5) rfl)) (hw _ (List.mem_of_getElem? (i := 1) rfl)) (by decide) (by decide)) (g := (mkF m 70 #[.val (.int p0), .val (.int p1), .val (.int (p0 &&& (3 : Int32))), .val (.int x4_0), .val (.ref w_NOT), .unset] [(.int x4_0)])) rfl (by rw [hml]; rfl) (argsL := [(.int x4_0)]) (rest := []) (lenOf own_pd0 rfl) rfl (by show 2 * 0 + _ ≤ _; exact Nat.le_of_eq rfl) (hb hby at_70) (fun _ _ => ⟨rfl, e6, (by decide : 0 + 0 ≤ _), (by decide : 0 + 0 ≤ _)⟩)
    dsimp only [Pt.U, Pt.locs, Pt.cells, Pt.slots] at X7 l7 y7 z7 st7 hQ7
    subst l7 y7 z7
    obtain ⟨rfl, rfl, e7⟩ := hQ7
    try rw [List.append_nil] at X7
    change Stand _ _ _ _ _ _ _ _ _ _ _ _ 0 0 at X7
    refine Goes.step (fun t k => st7 t k) ?_
    show Goes _ _ _ _ _ _ _ (T7.setTop (mkF m 73 #[.val (.int p0), .val (.int p1), .val (.int (p0 &&& (3 : Int32))), .val (.int x4_0), .val (.ref w_NOT), .unset] [(f1 x4_0 w_NOT w_NEGATE)]))
    rw [show (f1 x4_0 w_NOT w_NEGATE) = (.ref w_NOT) from by unfold f1; rw [if_pos hc41_5]]
    show Goes _ _ _ _ _ _ _ (T7.setTop (mkF m 73 #[.val (.int p0), .val (.int p1), .val (.int (p0 &&& (3 : Int32))), .val (.int x4_0), .val (.ref w_NOT), .unset] [(.ref w_NOT)]))
    refine Goes.step (fun t k => XS.astore X7.here hx rfl (hb hby at_73) rfl rfl (l' := #[.val (.int p0), .val (.int p1), .val (.int (p0 &&& (3 : Int32))), .val (.int x4_0), .val (.ref w_NOT), .val (.ref w_NOT)]) rfl k) ?_
    show Goes _ _ _ _ _ _ _ (T7.setTop (mkF m 75 #[.val (.int p0), .val (.int p1), .val (.int (p0 &&& (3 : Int32))), .val (.int x4_0), .val (.ref w_NOT), .val (.ref w_NOT)] []))
    refine Goes.step (fun t k => XS.aload X7.here hx rfl (hb hby at_75) rfl rfl k) ?_
    show Goes _ _ _ _ _ _ _ (T7.setTop (mkF m 77 #[.val (.int p0), .val (.int p1), .val (.int (p0 &&& (3 : Int32))), .val (.int x4_0), .val (.ref w_NOT), .val (.ref w_NOT)] [(.ref w_NOT)]))
    refine Goes.step (fun t k => XS.aload X7.here hx rfl (hb hby at_77) rfl rfl k) ?_
    show Goes _ _ _ _ _ _ _ (T7.setTop (mkF m 79 #[.val (.int p0), .val (.int p1), .val (.int (p0 &&& (3 : Int32))), .val (.int x4_0), .val (.ref w_NOT), .val (.ref w_NOT)] [(.ref w_NOT), (.ref w_NOT)]))
    refine Goes.step (fun t k => Jvm.RoadKit.acmp (g := (mkF m 79 #[.val (.int p0), .val (.int p1), .val (.int (p0 &&& (3 : Int32))), .val (.int x4_0), .val (.ref w_NOT), .val (.ref w_NOT)] [(.ref w_NOT), (.ref w_NOT)])) X7 hx rfl rfl rfl (pc0 := 79) (pc' := 84) (same := true) rfl (hb hby at_79) rfl (decide_eq_true (congrArg Value.ref rfl)) (by decide) (by decide) k) ?_
    show Goes _ _ _ _ _ _ _ (T7.setTop (mkF m 84 #[.val (.int p0), .val (.int p1), .val (.int (p0 &&& (3 : Int32))), .val (.int x4_0), .val (.ref w_NOT), .val (.ref w_NOT)] []))
    refine Goes.step (fun t k => XS.aload X7.here hx rfl (hb hby at_84) rfl rfl k) ?_
    show Goes _ _ _ _ _ _ _ (T7.setTop (mkF m 86 #[.val (.int p0), .val (.int p1), .val (.int (p0 &&& (3 : Int32))), .val (.int x4_0), .val (.ref w_NOT), .val (.ref w_NOT)] [(.ref w_NOT)]))
    refine Goes.step (fun t k => XS.ifnullNo X7.here hx rfl (hb hby at_86) rfl k) ?_
    show Goes _ _ _ _ _ _ _ (T7.setTop (mkF m 89 #[.val (.int p0), .val (.int p1), .val (.int (p0 &&& (3 : Int32))), .val (.int x4_0), .val (.ref w_NOT), .val (.ref w_NOT)] []))
    refine Goes.step (fun t k => XS.aload X7.here hx rfl (hb hby at_89) rfl rfl k) ?_
    show Goes _ _ _ _ _ _ _ (T7.setTop (mkF m 91 #[.val (.int p0), .val (.int p1), .val (.int (p0 &&& (3 : Int32))), .val (.int x4_0), .val (.ref w_NOT), .val (.ref w_NOT)] [(.ref w_NOT)]))
    obtain ⟨cq10, kq10, q10a, q10b, q10c⟩ := isOf hZ e7 E_NOT
    obtain ⟨_, _, ⟨T10, L10, k10, n10⟩, -, X10, ⟨Lc10, hQ10, l10, y10, z10⟩, st10⟩ := X7.virtualBack hx (y := (⟨"com/example/chernoff/chernoff/prism/Operator", "isPrefix", "()Z"⟩ : MethodName)) (z := (⟨"com/example/chernoff/chernoff/prism/Operator", "isPrefix", "()Z"⟩ : MethodName)) hown (mvT hZ (hw _ (List.mem_of_getElem? (i := 9) rfl))) (mvT hZ (hw _ (List.mem_of_getElem? (i := 10) rfl))) (notFace_of_selects (args := #[]) (mvT hZ (hw _ (List.mem_of_getElem? (i := 12) rfl)))) (mvT hZ (hw _ (List.mem_of_getElem? (i := 12) rfl))) (mvT hZ (hw _ (List.mem_of_getElem? (i := 11) rfl))) (by decide) (backOf (W := 0) (rm2 l Z tA hw [] w_NOT w_NOT w_NEGATE h0 S_NOT S_NEGATE) hZ (hw _ (List.mem_of_getElem? (i := 13) rfl)) (hw _ (List.mem_of_getElem? (i := 1) rfl)) (by decide) (by decide)) q10a q10c (g := (mkF m 91 #[.val (.int p0), .val (.int p1), .val (.int (p0 &&& (3 : Int32))), .val (.int x4_0), .val (.ref w_NOT), .val (.ref w_NOT)] [(.ref w_NOT)])) rfl (by rw [hml]; rfl) (Steps.refl _) (argsL := []) (rest := []) (lenOf own_pd1 rfl) rfl (by show 2 * 0 + _ ≤ _; exact Nat.le_of_eq rfl) (hb hby at_91) (fun _ _ => ⟨rfl, e7, (by decide : 0 + 0 ≤ _), (by decide : 0 + 0 ≤ _)⟩)
    dsimp only [Pt.U, Pt.locs, Pt.cells, Pt.slots] at X10 l10 y10 z10 st10 hQ10
    subst l10 y10 z10
    obtain ⟨rfl, rfl, e10⟩ := hQ10
    try rw [List.append_nil] at X10
    change Stand _ _ _ _ _ _ _ _ _ _ _ _ 0 0 at X10
    refine Goes.step (fun t k => st10.trans k) ?_
    show Goes _ _ _ _ _ _ _ (T10.setTop (mkF m 94 #[.val (.int p0), .val (.int p1), .val (.int (p0 &&& (3 : Int32))), .val (.int x4_0), .val (.ref w_NOT), .val (.ref w_NOT)] [(.int (f2 w_NOT w_NOT w_NEGATE))]))
    have hc94_11 : ¬ ((f2 w_NOT w_NOT w_NEGATE) = (0 : Int32)) := by unfold f2; simp [nar]
    refine Goes.step (fun t k => XS.ifYes X10.here hx rfl (pc0 := 94) (pc' := 99) rfl (hb hby at_94) rfl ((if0 _ _).trans (feq hc94_11).2) (by decide) (by decide) k) ?_
    show Goes _ _ _ _ _ _ _ (T10.setTop (mkF m 99 #[.val (.int p0), .val (.int p1), .val (.int (p0 &&& (3 : Int32))), .val (.int x4_0), .val (.ref w_NOT), .val (.ref w_NOT)] []))
    refine Goes.step (fun t k => XS.iconst X10.here hx rfl (hb hby at_99) k) ?_
    show Goes _ _ _ _ _ _ _ (T10.setTop (mkF m 100 #[.val (.int p0), .val (.int p1), .val (.int (p0 &&& (3 : Int32))), .val (.int x4_0), .val (.ref w_NOT), .val (.ref w_NOT)] [(.int (1 : Int32))]))
    exact Goes.retZ X10 hx Bd.notSynchronized (r := (1 : Int32)) Bd.returns (by simp) (hb hby at_100) (own_plain) ⟨rfl, rfl, e10⟩ (by decide) (by decide)
  · refine Goes.step (fun t k => XS.icmpYes X0.here hx rfl (pc0 := 41) (pc' := 52) rfl (hb hby at_41) rfl (feq hc41_5).2 (by decide) (by decide) k) ?_
    show Goes _ _ _ _ _ _ _ (s₁.setTop (mkF m 52 #[.val (.int p0), .val (.int p1), .val (.int (p0 &&& (3 : Int32))), .val (.int x4_0), .unset, .unset] []))
    refine Goes.step (fun t k => XS.iloadN X0.here hx rfl (hb hby at_52) rfl k) ?_
    show Goes _ _ _ _ _ _ _ (s₁.setTop (mkF m 53 #[.val (.int p0), .val (.int p1), .val (.int (p0 &&& (3 : Int32))), .val (.int x4_0), .unset, .unset] [(.int x4_0)]))
    refine Goes.step (fun t k => XS.bipush X0.here hx rfl (hb hby at_53) k) ?_
    show Goes _ _ _ _ _ _ _ (s₁.setTop (mkF m 55 #[.val (.int p0), .val (.int p1), .val (.int (p0 &&& (3 : Int32))), .val (.int x4_0), .unset, .unset] [(.int (10 : Int32)), (.int x4_0)]))
    by_cases hc55_12 : x4_0 = (10 : Int32)
    · refine Goes.step (fun t k => XS.icmpNo X0.here hx rfl (hb hby at_55) rfl (teq hc55_12).2 k) ?_
      show Goes _ _ _ _ _ _ _ (s₁.setTop (mkF m 58 #[.val (.int p0), .val (.int p1), .val (.int (p0 &&& (3 : Int32))), .val (.int x4_0), .unset, .unset] []))
      obtain ⟨T13, X13, e13, st13⟩ := getS2 X0 hx hZ hown (host := "") (Or.inl (hw _ (List.mem_of_getElem? (i := 16) rfl))) Via.refl e0 S_NEGATE (g := (mkF m 58 #[.val (.int p0), .val (.int p1), .val (.int (p0 &&& (3 : Int32))), .val (.int x4_0), .unset, .unset] [])) rfl (hb hby at_58)
      refine Goes.step (fun t k => st13 t k) ?_
      show Goes _ _ _ _ _ _ _ (T13.setTop (mkF m 61 #[.val (.int p0), .val (.int p1), .val (.int (p0 &&& (3 : Int32))), .val (.int x4_0), .unset, .unset] [(.ref w_NEGATE)]))
      refine Goes.step (fun t k => XS.astore X13.here hx rfl (hb hby at_61) rfl rfl (l' := #[.val (.int p0), .val (.int p1), .val (.int (p0 &&& (3 : Int32))), .val (.int x4_0), .val (.ref w_NEGATE), .unset]) rfl k) ?_
      show Goes _ _ _ _ _ _ _ (T13.setTop (mkF m 63 #[.val (.int p0), .val (.int p1), .val (.int (p0 &&& (3 : Int32))), .val (.int x4_0), .val (.ref w_NEGATE), .unset] []))
      refine Goes.step (fun t k => XS.goto X13.here hx rfl (pc0 := 63) (pc' := 69) rfl (hb hby at_63) (by decide) (by decide) k) ?_
      show Goes _ _ _ _ _ _ _ (T13.setTop (mkF m 69 #[.val (.int p0), .val (.int p1), .val (.int (p0 &&& (3 : Int32))), .val (.int x4_0), .val (.ref w_NEGATE), .unset] []))
      refine Goes.step (fun t k => XS.iloadN X13.here hx rfl (hb hby at_69) rfl k) ?_
      show Goes _ _ _ _ _ _ _ (T13.setTop (mkF m 70 #[.val (.int p0), .val (.int p1), .val (.int (p0 &&& (3 : Int32))), .val (.int x4_0), .val (.ref w_NEGATE), .unset] [(.int x4_0)]))
      obtain ⟨_, _, ⟨T14, L14, k14, n14⟩, -, X14, ⟨Lc14, hQ14, l14, y14, z14⟩, st14⟩ := Jvm.LawKit.callS X13 hx (y := (⟨"com/example/chernoff/chernoff/prism/Operator", "prefix", "(I)Lcom/example/chernoff/chernoff/prism/Operator;"⟩ : MethodName)) hown (mvT hZ (hw _ (List.mem_of_getElem? (i := 3) rfl))) (mvT hZ (hw _ (List.mem_of_getElem? (i := 4) rfl))) (mvT hZ (hw _ (List.mem_of_getElem? (i := 1) rfl))) (mvT hZ (hw _ (List.mem_of_getElem? (i := 5) rfl))) (by decide) (backOf (W := 0) (rm1 l Z tA hw [] x4_0 w_NOT w_NEGATE h0 S_NOT S_NEGATE D_NOT_precedence D_NEGATE_precedence) hZ (hw _ (List.mem_of_getElem? (i := 5) rfl)) (hw _ (List.mem_of_getElem? (i := 1) rfl)) (by decide) (by decide)) (g := (mkF m 70 #[.val (.int p0), .val (.int p1), .val (.int (p0 &&& (3 : Int32))), .val (.int x4_0), .val (.ref w_NEGATE), .unset] [(.int x4_0)])) rfl (by rw [hml]; rfl) (argsL := [(.int x4_0)]) (rest := []) (lenOf own_pd0 rfl) rfl (by show 2 * 0 + _ ≤ _; exact Nat.le_of_eq rfl) (hb hby at_70) (fun _ _ => ⟨rfl, e13, (by decide : 0 + 0 ≤ _), (by decide : 0 + 0 ≤ _)⟩)
      dsimp only [Pt.U, Pt.locs, Pt.cells, Pt.slots] at X14 l14 y14 z14 st14 hQ14
      subst l14 y14 z14
      obtain ⟨rfl, rfl, e14⟩ := hQ14
      try rw [List.append_nil] at X14
      change Stand _ _ _ _ _ _ _ _ _ _ _ _ 0 0 at X14
      refine Goes.step (fun t k => st14 t k) ?_
      show Goes _ _ _ _ _ _ _ (T14.setTop (mkF m 73 #[.val (.int p0), .val (.int p1), .val (.int (p0 &&& (3 : Int32))), .val (.int x4_0), .val (.ref w_NEGATE), .unset] [(f1 x4_0 w_NOT w_NEGATE)]))
      rw [show (f1 x4_0 w_NOT w_NEGATE) = (.ref w_NEGATE) from by unfold f1; rw [if_neg hc41_5, if_pos hc55_12]]
      show Goes _ _ _ _ _ _ _ (T14.setTop (mkF m 73 #[.val (.int p0), .val (.int p1), .val (.int (p0 &&& (3 : Int32))), .val (.int x4_0), .val (.ref w_NEGATE), .unset] [(.ref w_NEGATE)]))
      refine Goes.step (fun t k => XS.astore X14.here hx rfl (hb hby at_73) rfl rfl (l' := #[.val (.int p0), .val (.int p1), .val (.int (p0 &&& (3 : Int32))), .val (.int x4_0), .val (.ref w_NEGATE), .val (.ref w_NEGATE)]) rfl k) ?_
      show Goes _ _ _ _ _ _ _ (T14.setTop (mkF m 75 #[.val (.int p0), .val (.int p1), .val (.int (p0 &&& (3 : Int32))), .val (.int x4_0), .val (.ref w_NEGATE), .val (.ref w_NEGATE)] []))
      refine Goes.step (fun t k => XS.aload X14.here hx rfl (hb hby at_75) rfl rfl k) ?_
      show Goes _ _ _ _ _ _ _ (T14.setTop (mkF m 77 #[.val (.int p0), .val (.int p1), .val (.int (p0 &&& (3 : Int32))), .val (.int x4_0), .val (.ref w_NEGATE), .val (.ref w_NEGATE)] [(.ref w_NEGATE)]))
      refine Goes.step (fun t k => XS.aload X14.here hx rfl (hb hby at_77) rfl rfl k) ?_
      show Goes _ _ _ _ _ _ _ (T14.setTop (mkF m 79 #[.val (.int p0), .val (.int p1), .val (.int (p0 &&& (3 : Int32))), .val (.int x4_0), .val (.ref w_NEGATE), .val (.ref w_NEGATE)] [(.ref w_NEGATE), (.ref w_NEGATE)]))
      refine Goes.step (fun t k => Jvm.RoadKit.acmp (g := (mkF m 79 #[.val (.int p0), .val (.int p1), .val (.int (p0 &&& (3 : Int32))), .val (.int x4_0), .val (.ref w_NEGATE), .val (.ref w_NEGATE)] [(.ref w_NEGATE), (.ref w_NEGATE)])) X14 hx rfl rfl rfl (pc0 := 79) (pc' := 84) (same := true) rfl (hb hby at_79) rfl (decide_eq_true (congrArg Value.ref rfl)) (by decide) (by decide) k) ?_
      show Goes _ _ _ _ _ _ _ (T14.setTop (mkF m 84 #[.val (.int p0), .val (.int p1), .val (.int (p0 &&& (3 : Int32))), .val (.int x4_0), .val (.ref w_NEGATE), .val (.ref w_NEGATE)] []))
      refine Goes.step (fun t k => XS.aload X14.here hx rfl (hb hby at_84) rfl rfl k) ?_
      show Goes _ _ _ _ _ _ _ (T14.setTop (mkF m 86 #[.val (.int p0), .val (.int p1), .val (.int (p0 &&& (3 : Int32))), .val (.int x4_0), .val (.ref w_NEGATE), .val (.ref w_NEGATE)] [(.ref w_NEGATE)]))
      refine Goes.step (fun t k => XS.ifnullNo X14.here hx rfl (hb hby at_86) rfl k) ?_
      show Goes _ _ _ _ _ _ _ (T14.setTop (mkF m 89 #[.val (.int p0), .val (.int p1), .val (.int (p0 &&& (3 : Int32))), .val (.int x4_0), .val (.ref w_NEGATE), .val (.ref w_NEGATE)] []))
      refine Goes.step (fun t k => XS.aload X14.here hx rfl (hb hby at_89) rfl rfl k) ?_
      show Goes _ _ _ _ _ _ _ (T14.setTop (mkF m 91 #[.val (.int p0), .val (.int p1), .val (.int (p0 &&& (3 : Int32))), .val (.int x4_0), .val (.ref w_NEGATE), .val (.ref w_NEGATE)] [(.ref w_NEGATE)]))
      obtain ⟨cq17, kq17, q17a, q17b, q17c⟩ := isOf hZ e14 E_NEGATE
      obtain ⟨_, _, ⟨T17, L17, k17, n17⟩, -, X17, ⟨Lc17, hQ17, l17, y17, z17⟩, st17⟩ := X14.virtualBack hx (y := (⟨"com/example/chernoff/chernoff/prism/Operator", "isPrefix", "()Z"⟩ : MethodName)) (z := (⟨"com/example/chernoff/chernoff/prism/Operator", "isPrefix", "()Z"⟩ : MethodName)) hown (mvT hZ (hw _ (List.mem_of_getElem? (i := 9) rfl))) (mvT hZ (hw _ (List.mem_of_getElem? (i := 10) rfl))) (notFace_of_selects (args := #[]) (mvT hZ (hw _ (List.mem_of_getElem? (i := 12) rfl)))) (mvT hZ (hw _ (List.mem_of_getElem? (i := 12) rfl))) (mvT hZ (hw _ (List.mem_of_getElem? (i := 11) rfl))) (by decide) (backOf (W := 0) (rm2 l Z tA hw [] w_NEGATE w_NOT w_NEGATE h0 S_NOT S_NEGATE) hZ (hw _ (List.mem_of_getElem? (i := 13) rfl)) (hw _ (List.mem_of_getElem? (i := 1) rfl)) (by decide) (by decide)) q17a q17c (g := (mkF m 91 #[.val (.int p0), .val (.int p1), .val (.int (p0 &&& (3 : Int32))), .val (.int x4_0), .val (.ref w_NEGATE), .val (.ref w_NEGATE)] [(.ref w_NEGATE)])) rfl (by rw [hml]; rfl) (Steps.refl _) (argsL := []) (rest := []) (lenOf own_pd1 rfl) rfl (by show 2 * 0 + _ ≤ _; exact Nat.le_of_eq rfl) (hb hby at_91) (fun _ _ => ⟨rfl, e14, (by decide : 0 + 0 ≤ _), (by decide : 0 + 0 ≤ _)⟩)
      dsimp only [Pt.U, Pt.locs, Pt.cells, Pt.slots] at X17 l17 y17 z17 st17 hQ17
      subst l17 y17 z17
      obtain ⟨rfl, rfl, e17⟩ := hQ17
      try rw [List.append_nil] at X17
      change Stand _ _ _ _ _ _ _ _ _ _ _ _ 0 0 at X17
      refine Goes.step (fun t k => st17.trans k) ?_
      show Goes _ _ _ _ _ _ _ (T17.setTop (mkF m 94 #[.val (.int p0), .val (.int p1), .val (.int (p0 &&& (3 : Int32))), .val (.int x4_0), .val (.ref w_NEGATE), .val (.ref w_NEGATE)] [(.int (f2 w_NEGATE w_NOT w_NEGATE))]))
      have hc94_18 : ¬ ((f2 w_NEGATE w_NOT w_NEGATE) = (0 : Int32)) := by unfold f2; simp [nar]
      refine Goes.step (fun t k => XS.ifYes X17.here hx rfl (pc0 := 94) (pc' := 99) rfl (hb hby at_94) rfl ((if0 _ _).trans (feq hc94_18).2) (by decide) (by decide) k) ?_
      show Goes _ _ _ _ _ _ _ (T17.setTop (mkF m 99 #[.val (.int p0), .val (.int p1), .val (.int (p0 &&& (3 : Int32))), .val (.int x4_0), .val (.ref w_NEGATE), .val (.ref w_NEGATE)] []))
      refine Goes.step (fun t k => XS.iconst X17.here hx rfl (hb hby at_99) k) ?_
      show Goes _ _ _ _ _ _ _ (T17.setTop (mkF m 100 #[.val (.int p0), .val (.int p1), .val (.int (p0 &&& (3 : Int32))), .val (.int x4_0), .val (.ref w_NEGATE), .val (.ref w_NEGATE)] [(.int (1 : Int32))]))
      exact Goes.retZ X17 hx Bd.notSynchronized (r := (1 : Int32)) Bd.returns (by simp) (hb hby at_100) (own_plain_2) ⟨rfl, rfl, e17⟩ (by decide) (by decide)
    · refine Goes.step (fun t k => XS.icmpYes X0.here hx rfl (pc0 := 55) (pc' := 66) rfl (hb hby at_55) rfl (feq hc55_12).2 (by decide) (by decide) k) ?_
      show Goes _ _ _ _ _ _ _ (s₁.setTop (mkF m 66 #[.val (.int p0), .val (.int p1), .val (.int (p0 &&& (3 : Int32))), .val (.int x4_0), .unset, .unset] []))
      refine Goes.step (fun t k => XS.aconstNull X0.here hx rfl (hb hby at_66) k) ?_
      show Goes _ _ _ _ _ _ _ (s₁.setTop (mkF m 67 #[.val (.int p0), .val (.int p1), .val (.int (p0 &&& (3 : Int32))), .val (.int x4_0), .unset, .unset] [.null]))
      refine Goes.step (fun t k => XS.astore X0.here hx rfl (hb hby at_67) rfl rfl (l' := #[.val (.int p0), .val (.int p1), .val (.int (p0 &&& (3 : Int32))), .val (.int x4_0), .val .null, .unset]) rfl k) ?_
      show Goes _ _ _ _ _ _ _ (s₁.setTop (mkF m 69 #[.val (.int p0), .val (.int p1), .val (.int (p0 &&& (3 : Int32))), .val (.int x4_0), .val .null, .unset] []))
      refine Goes.step (fun t k => XS.iloadN X0.here hx rfl (hb hby at_69) rfl k) ?_
      show Goes _ _ _ _ _ _ _ (s₁.setTop (mkF m 70 #[.val (.int p0), .val (.int p1), .val (.int (p0 &&& (3 : Int32))), .val (.int x4_0), .val .null, .unset] [(.int x4_0)]))
      obtain ⟨_, _, ⟨T19, L19, k19, n19⟩, -, X19, ⟨Lc19, hQ19, l19, y19, z19⟩, st19⟩ := Jvm.LawKit.callS X0 hx (y := (⟨"com/example/chernoff/chernoff/prism/Operator", "prefix", "(I)Lcom/example/chernoff/chernoff/prism/Operator;"⟩ : MethodName)) hown (mvT hZ (hw _ (List.mem_of_getElem? (i := 3) rfl))) (mvT hZ (hw _ (List.mem_of_getElem? (i := 4) rfl))) (mvT hZ (hw _ (List.mem_of_getElem? (i := 1) rfl))) (mvT hZ (hw _ (List.mem_of_getElem? (i := 5) rfl))) (by decide) (backOf (W := 0) (rm1 l Z tA hw [] x4_0 w_NOT w_NEGATE h0 S_NOT S_NEGATE D_NOT_precedence D_NEGATE_precedence) hZ (hw _ (List.mem_of_getElem? (i := 5) rfl)) (hw _ (List.mem_of_getElem? (i := 1) rfl)) (by decide) (by decide)) (g := (mkF m 70 #[.val (.int p0), .val (.int p1), .val (.int (p0 &&& (3 : Int32))), .val (.int x4_0), .val .null, .unset] [(.int x4_0)])) rfl (by rw [hml]; rfl) (argsL := [(.int x4_0)]) (rest := []) (lenOf own_pd0 rfl) rfl (by show 2 * 0 + _ ≤ _; exact Nat.le_of_eq rfl) (hb hby at_70) (fun _ _ => ⟨rfl, e0, (by decide : 0 + 0 ≤ _), (by decide : 0 + 0 ≤ _)⟩)
      dsimp only [Pt.U, Pt.locs, Pt.cells, Pt.slots] at X19 l19 y19 z19 st19 hQ19
      subst l19 y19 z19
      obtain ⟨rfl, rfl, e19⟩ := hQ19
      try rw [List.append_nil] at X19
      change Stand _ _ _ _ _ _ _ _ _ _ _ _ 0 0 at X19
      refine Goes.step (fun t k => st19 t k) ?_
      show Goes _ _ _ _ _ _ _ (T19.setTop (mkF m 73 #[.val (.int p0), .val (.int p1), .val (.int (p0 &&& (3 : Int32))), .val (.int x4_0), .val .null, .unset] [(f1 x4_0 w_NOT w_NEGATE)]))
      rw [show (f1 x4_0 w_NOT w_NEGATE) = .null from by unfold f1; rw [if_neg hc41_5, if_neg hc55_12]]
      show Goes _ _ _ _ _ _ _ (T19.setTop (mkF m 73 #[.val (.int p0), .val (.int p1), .val (.int (p0 &&& (3 : Int32))), .val (.int x4_0), .val .null, .unset] [.null]))
      refine Goes.step (fun t k => XS.astore X19.here hx rfl (hb hby at_73) rfl rfl (l' := #[.val (.int p0), .val (.int p1), .val (.int (p0 &&& (3 : Int32))), .val (.int x4_0), .val .null, .val .null]) rfl k) ?_
      show Goes _ _ _ _ _ _ _ (T19.setTop (mkF m 75 #[.val (.int p0), .val (.int p1), .val (.int (p0 &&& (3 : Int32))), .val (.int x4_0), .val .null, .val .null] []))
      refine Goes.step (fun t k => XS.aload X19.here hx rfl (hb hby at_75) rfl rfl k) ?_
      show Goes _ _ _ _ _ _ _ (T19.setTop (mkF m 77 #[.val (.int p0), .val (.int p1), .val (.int (p0 &&& (3 : Int32))), .val (.int x4_0), .val .null, .val .null] [.null]))
      refine Goes.step (fun t k => XS.aload X19.here hx rfl (hb hby at_77) rfl rfl k) ?_
      show Goes _ _ _ _ _ _ _ (T19.setTop (mkF m 79 #[.val (.int p0), .val (.int p1), .val (.int (p0 &&& (3 : Int32))), .val (.int x4_0), .val .null, .val .null] [.null, .null]))
      refine Goes.step (fun t k => Jvm.RoadKit.acmp (g := (mkF m 79 #[.val (.int p0), .val (.int p1), .val (.int (p0 &&& (3 : Int32))), .val (.int x4_0), .val .null, .val .null] [.null, .null])) X19 hx rfl rfl rfl (pc0 := 79) (pc' := 84) (same := true) rfl (hb hby at_79) rfl (decide_eq_true rfl) (by decide) (by decide) k) ?_
      show Goes _ _ _ _ _ _ _ (T19.setTop (mkF m 84 #[.val (.int p0), .val (.int p1), .val (.int (p0 &&& (3 : Int32))), .val (.int x4_0), .val .null, .val .null] []))
      refine Goes.step (fun t k => XS.aload X19.here hx rfl (hb hby at_84) rfl rfl k) ?_
      show Goes _ _ _ _ _ _ _ (T19.setTop (mkF m 86 #[.val (.int p0), .val (.int p1), .val (.int (p0 &&& (3 : Int32))), .val (.int x4_0), .val .null, .val .null] [.null]))
      refine Goes.step (fun t k => XS.ifnullYes X19.here hx rfl (pc0 := 86) (pc' := 99) rfl (hb hby at_86) rfl (by decide) (by decide) k) ?_
      show Goes _ _ _ _ _ _ _ (T19.setTop (mkF m 99 #[.val (.int p0), .val (.int p1), .val (.int (p0 &&& (3 : Int32))), .val (.int x4_0), .val .null, .val .null] []))
      refine Goes.step (fun t k => XS.iconst X19.here hx rfl (hb hby at_99) k) ?_
      show Goes _ _ _ _ _ _ _ (T19.setTop (mkF m 100 #[.val (.int p0), .val (.int p1), .val (.int (p0 &&& (3 : Int32))), .val (.int x4_0), .val .null, .val .null] [(.int (1 : Int32))]))
      exact Goes.retZ X19 hx Bd.notSynchronized (r := (1 : Int32)) Bd.returns (by simp) (hb hby at_100) (own_plain_3) ⟨rfl, rfl, e19⟩ (by decide) (by decide)
set_option maxRecDepth 65536 in
set_option maxHeartbeats 40000000 in
theorem comes_1 {Post : Tables → Env → Array Value → State → Outcome → State → Prop} (hpost : ∀ tb e args s v u, (limb_1_1.after args s (.returned v) u = true ∧ limb_1_2.after args s (.returned v) u = true ∧ True) → FrameEnd s (.returned v) u (Jvm.fieldLocs frame_1_writes args s ++ Jvm.arrayLocs frame_1_arrays args s ++ Jvm.staticLocs frame_1_statics s) 0 0 → Post tb e args s (.returned v) u) :
    ArmFor flags0 classFile x code maxLocals ret World_1 tables_1 room_1 Calls_1 rest_1 Pre_1 Post := by
  intro l hfl _ _ p e ha hc hk s m args below hf hA hF happ hP
  obtain ⟨hcalls, hrest, hpre⟩ := hP
  obtain ⟨-, -, -, hnamed, -, -, -, hat⟩ := (Spec.applies_iff hf).mp happ
  obtain ⟨hg, hn⟩ := and_e (Cond.before_iff.mp (show (Jvm.Cond.and given_1 narrow_1).before args s = true from hpre))
  obtain ⟨g0, gr0⟩ := and_e hg
  obtain ⟨ga0, gr1⟩ := and_e gr0
  have ga1 := gr1
  obtain ⟨w0, w1, rfl⟩ : ∃ w0 w1 : Value, args = #[w0, w1] := by
    have hs : args.size = 2 := by simpa [Cond.value, given_1] using g0
    obtain ⟨L⟩ := args
    match L, hs with
    | [w0, w1], _ => exact ⟨w0, w1, rfl⟩
  have hw := fun d (hd : d ∈ tables_1) => atoms_spec (ws := Jvm.Cond.code x code maxLocals ret :: tables_1) hat d (List.mem_cons_of_mem _ hd)
  have hfit : Fit s := fun {y c} hc i hi => by
    obtain ⟨ha, rfl⟩ := Array.getElem?_eq_some_iff.mp hc
    have q := List.all_eq_true.mp ((Array.all_eq_true_iff_forall_mem.mp hF) _ (Array.getElem_mem ha)) i (List.mem_range.mpr hi)
    simpa [Array.getElem?_eq_getElem hi] using q
  obtain ⟨i0, ei0⟩ := is_v ga0
  obtain rfl : w0 = (.int i0) := Option.some.inj ei0
  obtain ⟨i1, ei1⟩ := is_v ga1
  obtain rfl : w1 = (.int i1) := Option.some.inj ei1
  obtain ⟨nn0, nr0⟩ := and_e hn
  obtain ⟨nn1, nr1⟩ := and_e nr0
  obtain ⟨nn2, nr2⟩ := and_e nr1
  obtain ⟨nn3, nr3⟩ := and_e nr2
  obtain ⟨nn4, nr4⟩ := and_e nr3
  have nn5 := nr4
  obtain ⟨w_NOT, ev_NOT⟩ := exa_v nn0
  have E_NOT := Exa.start ev_NOT nn0
  have S_NOT := Sta.start ev_NOT (Or.inr ⟨(hw _ (List.mem_of_getElem? (i := 1) rfl)), (hw _ (List.mem_of_getElem? (i := 2) rfl))⟩)
  obtain ⟨w_NEGATE, ev_NEGATE⟩ := exa_v nn2
  have E_NEGATE := Exa.start ev_NEGATE nn2
  have S_NEGATE := Sta.start ev_NEGATE (Or.inr ⟨(hw _ (List.mem_of_getElem? (i := 1) rfl)), (hw _ (List.mem_of_getElem? (i := 15) rfl))⟩)
  have D_NOT_precedence : Fld s s.heap w_NOT "com/example/chernoff/chernoff/prism/Operator" "precedence" "I" (.int (5 : Int32)) := Fld.start ((fld_at ev_NOT).symm.trans (eqi_v nn1))
  have D_NEGATE_precedence : Fld s s.heap w_NEGATE "com/example/chernoff/chernoff/prism/Operator" "precedence" "I" (.int (10 : Int32)) := Fld.start ((fld_at ev_NEGATE).symm.trans (eqi_v nn3))
  have D_NEGATE_ordinal : Fld s s.heap w_NEGATE "java/lang/Enum" "ordinal" "I" (.int (15 : Int32)) := Fld.start ((fld_at ev_NEGATE).symm.trans (eqi_v nn4))
  have D_NOT_ordinal : Fld s s.heap w_NOT "java/lang/Enum" "ordinal" "I" (.int (4 : Int32)) := Fld.start ((fld_at ev_NOT).symm.trans (eqi_v nn5))
  obtain ⟨n, o, h1, h2, h3, _, L, rfl, ⟨rfl, rfl, _⟩, hq⟩ := rm0 l s _ hw tables_1 i0 i1 w_NOT w_NEGATE s.heap  S_NOT S_NEGATE E_NOT E_NEGATE D_NOT_precedence D_NEGATE_precedence p e ha hc hk s m _ below hf ((Spec.applies_iff_loose hf).mp happ).1 ⟨rfl, State.Warmed39.refl s, rfl⟩ trivial
  refine ⟨n, _, h1, h2, h3, hpost _ _ _ _ _ _ ⟨Cond.after_iff.mpr rfl, Cond.after_iff.mpr (eq_i res_at (Term.int_eval (1)) rfl), trivial⟩ ⟨hq.1, hq.2.1, (hq.2.2.sift fun y hy => nomatch hy).mono (by decide) (by decide)⟩⟩
theorem main_1_1 : Claimed_1_1 := comes_1 fun _ _ _ _ _ _ h hF => ⟨h.1, hF⟩
theorem main_1_2 : Claimed_1_2 := comes_1 fun _ _ _ _ _ _ h hF => ⟨h.2.1, hF⟩
end Jvm.Pilot.@@N@@
namespace Jvm.Pilot.@@N@@
open Jvm Jvm.ClassFile Sem Op Lib Jvm.Free Jvm.Stand Jvm.Pilot.@@N@@.Jvm.D
/-! MADE BY PROGRAM (witnessworld.py) out of the Statement's table words and the real class files: 12 classes; the members and pool entries that the words name. The judged class is class 1, her method 1. -/
namespace start1
open Jvm.ClassFile
def u (s : String) : CpInfo := .utf8 (stringToUtf16 s)
/-- a pool by its gaps: so many unusable entries, then the entry; so many at the end -/
def gap : Nat → List CpInfo → List CpInfo
  | 0, r => r
  | n + 1, r => .unusable :: gap n r
def poolList (es : List (Nat × CpInfo)) (last : Nat) : List CpInfo := es.foldr (fun e r => gap e.1 (e.2 :: r)) (gap last [])
def pool (es : List (Nat × CpInfo)) (last : Nat) : Array CpInfo := ⟨poolList es last⟩
def fileOf (pool : Array CpInfo) (this : Nat) (attrs : Array Attribute := #[]) (ms : Array MethodInfo := #[]) (fl : Nat := 33) (sup : Nat := 0) (ifs : Array Nat := #[]) (fds : Array FieldInfo := #[]) : ClassFile where
  minorVersion := 0
  majorVersion := 65
  constantPool := pool
  accessFlags := fl
  thisClass := this
  superClass := sup
  interfaces := ifs
  fields := fds
  methods := ms
  attributes := attrs
def plain (name : String) (sup : Option ClassId) : Class where
  name := name
  kind := .ordinary
  loader := none
  accessFlags := 33
  super := sup
  interfaces := #[]
  cf := none
  fields := #[]
  methods := #[]
  instanceTypes := #[]
  staticTypes := #[]
  resolved := #[]
  callSites := []
  init := .initialized
  statics := none
  mirror := none

def pool0 : Array CpInfo := pool [(5, u "<init>"), (0, u "()V"), (1, .class_ 10), (1, u "java/lang/Object")] 113

def k0m0 : Method := { name := "<init>", desc := "()V", sig := { parameters := [], returnType := none }, accessFlags := 1, code := none }
/-- java/lang/Object -/
def k0 : Class := { plain "java/lang/Object" none with
  accessFlags := 33
  interfaces := #[]
  cf := some (fileOf pool0 8 #[] #[{ accessFlags := 1, nameIndex := 5, descriptorIndex := 6, attributes := #[] }] 33 0 #[] #[])
  fields := #[]
  methods := #[k0m0]
  instanceTypes := #[]
  staticTypes := #[]
  resolved := Array.replicate 124 none
  statics := none }

def pool1 : Array CpInfo := pool [(2, .class_ 4), (1, u "java/lang/Object"), (0, u "<init>"), (0, u "()V"), (0, .fieldref 8 9), (0, .class_ 10), (0, .nameAndType 11 12), (0, u "com/example/chernoff/chernoff/prism/Operator"), (0, u "NOT"), (0, u "Lcom/example/chernoff/chernoff/prism/Operator;"), (0, .fieldref 8 14), (0, .nameAndType 15 12), (0, u "NEGATE"), (0, .methodref 8 17), (0, .nameAndType 18 19), (0, u "prefix"), (0, u "(I)Lcom/example/chernoff/chernoff/prism/Operator;"), (0, .methodref 8 21), (0, .nameAndType 22 23), (0, u "isPrefix"), (0, u "()Z"), (0, .class_ 25), (0, u "com/example/chernoff/chernoff/prism/OperatorPrefixPinLaw"), (2, u "law"), (0, u "(II)Z")] 3

def k1m0 : Method := { name := "<init>", desc := "()V", sig := { parameters := [], returnType := none }, accessFlags := 2, code := none }
def k1c1 : Code := { maxStack := 2, maxLocals := 6, code := code, exceptionTable := #[], attributes := #[] }
def k1m1 : Method := { name := "law", desc := "(II)Z", sig := { parameters := [.int, .int], returnType := some .boolean }, accessFlags := 9, code := some k1c1 }
/-- com/example/chernoff/chernoff/prism/OperatorPrefixPinLaw -/
def k1 : Class := { plain "com/example/chernoff/chernoff/prism/OperatorPrefixPinLaw" (some 0) with
  accessFlags := 49
  interfaces := #[]
  cf := some (fileOf pool1 24 #[] #[{ accessFlags := 2, nameIndex := 5, descriptorIndex := 6, attributes := #[] }, { accessFlags := 9, nameIndex := 28, descriptorIndex := 29, attributes := #[] }] 49 2 #[] #[])
  fields := #[]
  methods := #[k1m0, k1m1]
  instanceTypes := #[]
  staticTypes := #[]
  resolved := Array.replicate 33 none
  statics := none }

def pool2 : Array CpInfo := pool [(1, .class_ 2), (0, u "java/lang/constant/Constable"), (0, .class_ 4), (0, u "java/lang/Object")] 6

/-- java/lang/constant/Constable -/
def k2 : Class := { plain "java/lang/constant/Constable" (some 0) with
  accessFlags := 1537
  interfaces := #[]
  cf := some (fileOf pool2 1 #[] #[] 1537 3 #[] #[])
  fields := #[]
  methods := #[]
  instanceTypes := #[]
  staticTypes := #[]
  resolved := Array.replicate 11 none
  statics := none }

def pool3 : Array CpInfo := pool [(1, .class_ 2), (0, u "java/lang/Comparable"), (0, .class_ 4), (0, u "java/lang/Object")] 7

/-- java/lang/Comparable -/
def k3 : Class := { plain "java/lang/Comparable" (some 0) with
  accessFlags := 1537
  interfaces := #[]
  cf := some (fileOf pool3 1 #[] #[] 1537 3 #[] #[])
  fields := #[]
  methods := #[]
  instanceTypes := #[]
  staticTypes := #[]
  resolved := Array.replicate 12 none
  statics := none }

def pool4 : Array CpInfo := pool [(1, .class_ 2), (0, u "java/io/Serializable"), (0, .class_ 4), (0, u "java/lang/Object")] 2

/-- java/io/Serializable -/
def k4 : Class := { plain "java/io/Serializable" (some 0) with
  accessFlags := 1537
  interfaces := #[]
  cf := some (fileOf pool4 1 #[] #[] 1537 3 #[] #[])
  fields := #[]
  methods := #[]
  instanceTypes := #[]
  staticTypes := #[]
  resolved := Array.replicate 7 none
  statics := none }

def pool5 : Array CpInfo := pool [(2, .class_ 4), (1, u "java/lang/Enum"), (0, u "name"), (0, u "Ljava/lang/String;"), (2, u "ordinal"), (0, u "I"), (1, .class_ 14), (1, u "java/lang/Object"), (4, u "hash"), (86, .class_ 108), (1, u "java/lang/Enum$EnumDesc"), (2, .class_ 112), (0, u "java/lang/constant/Constable"), (0, .class_ 114), (0, u "java/lang/Comparable"), (0, .class_ 116), (0, u "java/io/Serializable")] 87

/-- java/lang/Enum -/
def k5 : Class := { plain "java/lang/Enum" (some 0) with
  accessFlags := 1057
  interfaces := #[2, 3, 4]
  cf := some (fileOf pool5 2 #[.nestMembers #[106]] #[] 1057 12 #[111, 113, 115] #[{ accessFlags := 18, nameIndex := 5, descriptorIndex := 6, attributes := #[] }, { accessFlags := 18, nameIndex := 9, descriptorIndex := 10, attributes := #[] }, { accessFlags := 2, nameIndex := 19, descriptorIndex := 10, attributes := #[] }])
  fields := #[{ name := "name", type := (.object "java/lang/String"), accessFlags := 18, slot := 0, constantValue := 0 }, { name := "ordinal", type := .int, accessFlags := 18, slot := 1, constantValue := 0 }, { name := "hash", type := .int, accessFlags := 2, slot := 2, constantValue := 0 }]
  methods := #[]
  instanceTypes := #[(.object "java/lang/String"), .int, .int]
  staticTypes := #[]
  resolved := Array.replicate 204 none
  statics := none }

def pool6 : Array CpInfo := pool [(1, .class_ 2), (0, u "com/example/chernoff/chernoff/prism/Operator"), (2, u "IMPLIES"), (0, u "Lcom/example/chernoff/chernoff/prism/Operator;"), (2, u "IFF"), (2, u "OR"), (2, u "AND"), (0, .fieldref 1 17), (0, .nameAndType 18 6), (0, u "NOT"), (2, u "EQUAL"), (2, u "NOT_EQUAL"), (2, u "LESS"), (2, u "LESS_OR_EQUAL"), (2, u "GREATER"), (2, u "GREATER_OR_EQUAL"), (2, u "PLUS"), (2, u "MINUS"), (2, u "TIMES"), (2, u "DIVIDE"), (0, .fieldref 1 50), (0, .nameAndType 51 6), (0, u "NEGATE"), (2, u "$VALUES"), (0, u "[Lcom/example/chernoff/chernoff/prism/Operator;"), (6, .class_ 64), (1, u "java/lang/Enum"), (8, u "symbol"), (0, u "Ljava/lang/String;"), (0, .fieldref 1 76), (0, .nameAndType 77 78), (0, u "precedence"), (0, u "I"), (2, u "operands"), (0, u "Lcom/example/chernoff/chernoff/prism/Operator$Operands;"), (6, u "isPrefix"), (0, u "()Z"), (7, .class_ 100), (1, u "com/example/chernoff/chernoff/prism/Operator$Operands"), (172, u "TIGHTEST"), (12, u "prefix"), (0, u "(I)Lcom/example/chernoff/chernoff/prism/Operator;")] 127

def k6c0 : Code := { maxStack := 2, maxLocals := 1, code := prog_93_method_4_code, exceptionTable := #[], attributes := #[] }
def k6m0 : Method := { name := "isPrefix", desc := "()Z", sig := { parameters := [], returnType := some .boolean }, accessFlags := 0, code := some k6c0 }
def k6c1 : Code := { maxStack := 2, maxLocals := 2, code := prog_93_method_7_code, exceptionTable := #[], attributes := #[] }
def k6m1 : Method := { name := "prefix", desc := "(I)Lcom/example/chernoff/chernoff/prism/Operator;", sig := { parameters := [.int], returnType := some (.object "com/example/chernoff/chernoff/prism/Operator") }, accessFlags := 8, code := some k6c1 }
/-- com/example/chernoff/chernoff/prism/Operator -/
def k6 : Class := { plain "com/example/chernoff/chernoff/prism/Operator" (some 5) with
  accessFlags := 16432
  interfaces := #[]
  cf := some (fileOf pool6 1 #[.nestMembers #[98]] #[{ accessFlags := 0, nameIndex := 89, descriptorIndex := 90, attributes := #[] }, { accessFlags := 8, nameIndex := 286, descriptorIndex := 287, attributes := #[] }] 16432 62 #[] #[{ accessFlags := 16409, nameIndex := 5, descriptorIndex := 6, attributes := #[] }, { accessFlags := 16409, nameIndex := 9, descriptorIndex := 6, attributes := #[] }, { accessFlags := 16409, nameIndex := 12, descriptorIndex := 6, attributes := #[] }, { accessFlags := 16409, nameIndex := 15, descriptorIndex := 6, attributes := #[] }, { accessFlags := 16409, nameIndex := 18, descriptorIndex := 6, attributes := #[] }, { accessFlags := 16409, nameIndex := 21, descriptorIndex := 6, attributes := #[] }, { accessFlags := 16409, nameIndex := 24, descriptorIndex := 6, attributes := #[] }, { accessFlags := 16409, nameIndex := 27, descriptorIndex := 6, attributes := #[] }, { accessFlags := 16409, nameIndex := 30, descriptorIndex := 6, attributes := #[] }, { accessFlags := 16409, nameIndex := 33, descriptorIndex := 6, attributes := #[] }, { accessFlags := 16409, nameIndex := 36, descriptorIndex := 6, attributes := #[] }, { accessFlags := 16409, nameIndex := 39, descriptorIndex := 6, attributes := #[] }, { accessFlags := 16409, nameIndex := 42, descriptorIndex := 6, attributes := #[] }, { accessFlags := 16409, nameIndex := 45, descriptorIndex := 6, attributes := #[] }, { accessFlags := 16409, nameIndex := 48, descriptorIndex := 6, attributes := #[] }, { accessFlags := 16409, nameIndex := 51, descriptorIndex := 6, attributes := #[] }, { accessFlags := 24, nameIndex := 273, descriptorIndex := 78, attributes := #[] }, { accessFlags := 18, nameIndex := 73, descriptorIndex := 74, attributes := #[] }, { accessFlags := 18, nameIndex := 77, descriptorIndex := 78, attributes := #[] }, { accessFlags := 18, nameIndex := 81, descriptorIndex := 82, attributes := #[] }, { accessFlags := 4122, nameIndex := 54, descriptorIndex := 55, attributes := #[] }])
  fields := #[{ name := "IMPLIES", type := (.object "com/example/chernoff/chernoff/prism/Operator"), accessFlags := 16409, slot := 0, constantValue := 0 }, { name := "IFF", type := (.object "com/example/chernoff/chernoff/prism/Operator"), accessFlags := 16409, slot := 1, constantValue := 0 }, { name := "OR", type := (.object "com/example/chernoff/chernoff/prism/Operator"), accessFlags := 16409, slot := 2, constantValue := 0 }, { name := "AND", type := (.object "com/example/chernoff/chernoff/prism/Operator"), accessFlags := 16409, slot := 3, constantValue := 0 }, { name := "NOT", type := (.object "com/example/chernoff/chernoff/prism/Operator"), accessFlags := 16409, slot := 4, constantValue := 0 }, { name := "EQUAL", type := (.object "com/example/chernoff/chernoff/prism/Operator"), accessFlags := 16409, slot := 5, constantValue := 0 }, { name := "NOT_EQUAL", type := (.object "com/example/chernoff/chernoff/prism/Operator"), accessFlags := 16409, slot := 6, constantValue := 0 }, { name := "LESS", type := (.object "com/example/chernoff/chernoff/prism/Operator"), accessFlags := 16409, slot := 7, constantValue := 0 }, { name := "LESS_OR_EQUAL", type := (.object "com/example/chernoff/chernoff/prism/Operator"), accessFlags := 16409, slot := 8, constantValue := 0 }, { name := "GREATER", type := (.object "com/example/chernoff/chernoff/prism/Operator"), accessFlags := 16409, slot := 9, constantValue := 0 }, { name := "GREATER_OR_EQUAL", type := (.object "com/example/chernoff/chernoff/prism/Operator"), accessFlags := 16409, slot := 10, constantValue := 0 }, { name := "PLUS", type := (.object "com/example/chernoff/chernoff/prism/Operator"), accessFlags := 16409, slot := 11, constantValue := 0 }, { name := "MINUS", type := (.object "com/example/chernoff/chernoff/prism/Operator"), accessFlags := 16409, slot := 12, constantValue := 0 }, { name := "TIMES", type := (.object "com/example/chernoff/chernoff/prism/Operator"), accessFlags := 16409, slot := 13, constantValue := 0 }, { name := "DIVIDE", type := (.object "com/example/chernoff/chernoff/prism/Operator"), accessFlags := 16409, slot := 14, constantValue := 0 }, { name := "NEGATE", type := (.object "com/example/chernoff/chernoff/prism/Operator"), accessFlags := 16409, slot := 15, constantValue := 0 }, { name := "TIGHTEST", type := .int, accessFlags := 24, slot := 16, constantValue := 0 }, { name := "symbol", type := (.object "java/lang/String"), accessFlags := 18, slot := 3, constantValue := 0 }, { name := "precedence", type := .int, accessFlags := 18, slot := 4, constantValue := 0 }, { name := "operands", type := (.object "com/example/chernoff/chernoff/prism/Operator$Operands"), accessFlags := 18, slot := 5, constantValue := 0 }, { name := "$VALUES", type := (.array (.object "com/example/chernoff/chernoff/prism/Operator")), accessFlags := 4122, slot := 17, constantValue := 0 }]
  methods := #[k6m0, k6m1]
  instanceTypes := #[(.object "java/lang/String"), .int, .int, (.object "java/lang/String"), .int, (.object "com/example/chernoff/chernoff/prism/Operator$Operands")]
  staticTypes := #[(.object "com/example/chernoff/chernoff/prism/Operator"), (.object "com/example/chernoff/chernoff/prism/Operator"), (.object "com/example/chernoff/chernoff/prism/Operator"), (.object "com/example/chernoff/chernoff/prism/Operator"), (.object "com/example/chernoff/chernoff/prism/Operator"), (.object "com/example/chernoff/chernoff/prism/Operator"), (.object "com/example/chernoff/chernoff/prism/Operator"), (.object "com/example/chernoff/chernoff/prism/Operator"), (.object "com/example/chernoff/chernoff/prism/Operator"), (.object "com/example/chernoff/chernoff/prism/Operator"), (.object "com/example/chernoff/chernoff/prism/Operator"), (.object "com/example/chernoff/chernoff/prism/Operator"), (.object "com/example/chernoff/chernoff/prism/Operator"), (.object "com/example/chernoff/chernoff/prism/Operator"), (.object "com/example/chernoff/chernoff/prism/Operator"), (.object "com/example/chernoff/chernoff/prism/Operator"), .int, (.array (.object "com/example/chernoff/chernoff/prism/Operator"))]
  resolved := Array.replicate 415 none
  statics := some 0 }

def pool7 : Array CpInfo := pool [(1, u "java/lang/Cloneable"), (0, .class_ 1), (0, u "java/lang/Object"), (0, .class_ 3)] 3

/-- java/lang/Cloneable -/
def k7 : Class := { plain "java/lang/Cloneable" (some 0) with
  accessFlags := 1537
  interfaces := #[]
  cf := some (fileOf pool7 2 #[] #[] 1537 4 #[] #[])
  fields := #[]
  methods := #[]
  instanceTypes := #[]
  staticTypes := #[]
  resolved := Array.replicate 8 none
  statics := none }

/-- the primitive byte -/
def k8 : Class := { plain "byte" none with kind := .primitive 'B', accessFlags := 0x411 }
/-- [B -/
def k9 : Class := { plain "[B" (some 0) with kind := .array 8 .byte, interfaces := #[7, 4], accessFlags := 1041 }

/-- the primitive int -/
def k10 : Class := { plain "int" none with kind := .primitive 'I', accessFlags := 0x411 }
/-- [I -/
def k11 : Class := { plain "[I" (some 0) with kind := .array 10 .int, interfaces := #[7, 4], accessFlags := 1041 }

def heap : Heap := #[{ cls := 6, slots := #[.null, .null, .null, .null, .ref 1, .null, .null, .null, .null, .null, .null, .null, .null, .null, .null, .ref 2, .int 0, .null], vm := .statics 6 },
  { cls := 6, slots := #[.null, .int 4, .int 0, .null, .int 5, .null], vm := .none },
  { cls := 6, slots := #[.null, .int 15, .int 0, .null, .int 10, .null], vm := .none }]
def classes : Array Class := #[k0, k1, k2, k3, k4, k5, k6, k7, k8, k9, k10, k11]
def interned : List (Array UInt16 × Addr) := []
def slotsUsed : Nat := 30
def theMethod : MethodId := ⟨1, 1⟩
def args0 : Array Value := #[.int 5, .int 9]
def aboutOver (below : List Frame) : State where
  vm := { classes := classes, interned := interned.toArray }
  heap := heap
  slotsUsed := slotsUsed
  threads := #[{ frames := .invoking theMethod args0 :: below }]
def below0 : List Frame := [.native { method := ⟨0, 0⟩, args := #[] }]
def about1 : State := aboutOver below0
def p0 : Program := .bare "" "" ""
def e0 : Env := launch0.env 0 0 0
theorem w_frames : about1.frames = Frame.invoking theMethod args0 :: below0 := rfl
set_option maxRecDepth 65536 in
theorem w_args : argsFit about1.vm theMethod args0 = true := by decide +kernel
set_option maxRecDepth 65536 in
theorem w_heap : heapFits about1 = true := by decide +kernel
set_option maxRecDepth 65536 in
theorem w_runnable : about1.curStatus? = some .runnable := by decide +kernel
set_option maxRecDepth 65536 in
theorem w_alone : about1.alone = true := by decide +kernel
set_option maxRecDepth 65536 in
theorem w_named : about1.methodNamed? x = some theMethod := by decide +kernel
set_option maxRecDepth 65536 in
theorem w_hears : about1.hears theMethod below0 = true := by decide +kernel
set_option maxRecDepth 65536 in
theorem w_ripe : about1.ripe theMethod args0 below0 = true := by decide +kernel
theorem w_running : about1.status = .running := rfl
set_option maxRecDepth 65536 in
theorem w_room : about1.hasRoom e0.platform room_1 = true :=
  launch0.hasRoom_least _ room_1 (by decide +kernel) (by decide +kernel) (by decide +kernel) (by decide +kernel) (by decide +kernel) (by decide +kernel)
theorem allAtoms_all (ts : List Jvm.Cond) (a : Array Jvm.Value) (st : Jvm.State) : (allAtoms ts).before a st = ts.all (fun c => c.before a st) := by
  induction ts with
  | nil => rfl
  | cons c t ih =>
    show (Jvm.Cond.and c (allAtoms t)).before a st = _
    rw [Jvm.Cond.before_and, ih, List.all_cons]
def words1 : List Jvm.Cond := Jvm.Cond.code x code maxLocals ret :: tables_1
/-- a 'code' word, met by the world's own term for the bytes: nothing is compared byte by byte -/
theorem code_word {y : MethodName} {bytes : ByteArray} {mx : Nat} {rt : Option FieldType} {a : Array Value} {s : State} {m : MethodId} {meth : Method} {c : Code} (h1 : s.methodNamed? y = some m) (h2 : s.vm.method? m = some meth) (h3 : meth.code = some c) (h4 : c.code = bytes)
    (h5 : (c.maxLocals == mx && c.exceptionTable.isEmpty && decide (c.maxStack ≤ mostOperands) && decide (meth.sig.returnType = rt) && !meth.locks && decide (parseMethodDescriptor y.desc = some meth.sig)) = true) : (Jvm.Cond.code y bytes mx rt).before a s = true := by
  simp only [Bool.and_eq_true, beq_iff_eq, Bool.not_eq_true', decide_eq_true_eq] at h5
  obtain ⟨⟨⟨⟨⟨g1, g2⟩, g3⟩, g4⟩, g5⟩, g6⟩ := h5
  simp [Cond.before, Cond.holds, Cond.value, h1, h2, h3, h4, g1, g2, g3, g4, g5, g6]
def isCode : Jvm.Cond → Bool
  | .code _ _ _ _ => true
  | _ => false
theorem all_split {L : List Jvm.Cond} {P : Jvm.Cond → Bool} (h1 : L.all (fun c => isCode c || P c) = true) (h2 : ∀ c ∈ L.filter isCode, P c = true) : L.all P = true := by
  refine List.all_eq_true.mpr fun c hc => ?_
  have h := List.all_eq_true.mp h1 c hc
  rcases Bool.eq_false_or_eq_true (isCode c) with hi | hi
  · exact h2 c (List.mem_filter.mpr ⟨hc, hi⟩)
  · simpa [hi] using h
set_option maxRecDepth 65536 in
theorem w_c0 : (Jvm.Cond.code x code maxLocals ret).before args0 about1 = true := code_word (m := ⟨1, 1⟩) (meth := k1m1) (c := k1c1) (by decide +kernel) rfl rfl rfl (by decide +kernel)
set_option maxRecDepth 65536 in
theorem w_c1 : (Jvm.Cond.code ({ cls := "com/example/chernoff/chernoff/prism/Operator", name := "prefix", desc := "(I)Lcom/example/chernoff/chernoff/prism/Operator;" } : Jvm.MethodName) prog_93_method_7_code (2 : Nat) (Option.some (Jvm.ClassFile.FieldType.object "com/example/chernoff/chernoff/prism/Operator"))).before args0 about1 = true := code_word (m := ⟨6, 1⟩) (meth := k6m1) (c := k6c1) (by decide +kernel) rfl rfl rfl (by decide +kernel)
set_option maxRecDepth 65536 in
theorem w_c2 : (Jvm.Cond.code ({ cls := "com/example/chernoff/chernoff/prism/Operator", name := "isPrefix", desc := "()Z" } : Jvm.MethodName) prog_93_method_4_code (1 : Nat) (Option.some Jvm.ClassFile.FieldType.boolean)).before args0 about1 = true := code_word (m := ⟨6, 0⟩) (meth := k6m0) (c := k6c0) (by decide +kernel) rfl rfl rfl (by decide +kernel)
def codes1 : List Jvm.Cond := [Jvm.Cond.code x code maxLocals ret, Jvm.Cond.code ({ cls := "com/example/chernoff/chernoff/prism/Operator", name := "prefix", desc := "(I)Lcom/example/chernoff/chernoff/prism/Operator;" } : Jvm.MethodName) prog_93_method_7_code (2 : Nat) (Option.some (Jvm.ClassFile.FieldType.object "com/example/chernoff/chernoff/prism/Operator")), Jvm.Cond.code ({ cls := "com/example/chernoff/chernoff/prism/Operator", name := "isPrefix", desc := "()Z" } : Jvm.MethodName) prog_93_method_4_code (1 : Nat) (Option.some Jvm.ClassFile.FieldType.boolean)]
set_option maxRecDepth 65536 in
theorem codes_eq : words1.filter isCode = codes1 := rfl
theorem w_codes : ∀ c ∈ words1.filter isCode, c.before args0 about1 = true := by
  rw [codes_eq]
  intro c hc
  simp only [codes1, List.mem_cons, List.not_mem_nil, or_false] at hc
  rcases hc with rfl | rfl | rfl
  · exact w_c0
  · exact w_c1
  · exact w_c2
set_option maxRecDepth 65536 in
theorem w_t1 : words1.all (fun c => isCode c || c.before args0 about1) = true := by decide +kernel
theorem w_tables : (allAtoms (Jvm.Cond.code x code maxLocals ret :: tables_1)).before args0 about1 = true := by
  rw [allAtoms_all]
  show words1.all (fun c => c.before args0 about1) = true
  refine all_split ?_ w_codes
  rw [w_t1]
set_option maxRecDepth 65536 in
theorem w_case : (Jvm.Cond.and given_1 narrow_1).before args0 about1 = true := by decide +kernel
theorem w_applies : (headSpec (Jvm.Cond.code x code maxLocals ret :: tables_1) room_1).applies x e0.platform about1 = true :=
  (Spec.applies_iff w_frames).mpr ⟨w_running, w_runnable, w_alone, w_named, w_hears, w_ripe, w_room, w_tables⟩
theorem atStart : AtStart classFile x code maxLocals ret World_1 tables_1 room_1 Calls_1 rest_1 Pre_1 launch0 p0 e0 about1 theMethod args0 below0 :=
  ⟨lists_1, trivial, launch0.admits_env _ _ _, launch0.least_env, fairChoices_fair.cas, fairChoices_fair.clock, w_frames, w_args, w_heap, w_applies, trivial, trivial, w_case⟩
end start1
theorem witness_1 : WitnessClaimed_1 := ⟨start1.p0, start1.e0, start1.about1, start1.theMethod, start1.args0, start1.below0, start1.atStart⟩
end Jvm.Pilot.@@N@@
