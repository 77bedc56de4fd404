import JvmDerived
import JvmDerived.Pilot.@@N@@Statement
import JvmDerived.Pilot.@@N@@Code
set_option linter.unusedVariables false
set_option linter.unusedSimpArgs false
namespace Jvm.Pilot.@@N@@
open Jvm Jvm.ClassFile Sem Op Lib Jvm.Free Jvm.Stand Jvm.LawKit Jvm.RoadKit Bundle Jvm.Pilot.@@N@@.Jvm.D
section Own0
theorem own_fld_to {Z : State} {h : Heap} {a : Addr} {C n d : String} {v v' : Value} (F : Fld Z h a C n d v) (q : v = v') : Fld Z h a C n d v' := q ▸ F
theorem own_sta_keep {Z : State} {h h' : Heap} {C n d : String} {v : Value} {ws : List Addr} (F : Sta Z h C n d v) (K : Keep h h' ws) (q : ∀ x ∈ ws, ∀ c : Cell, h[x]? = some c → c.vm.isStatics = false) : Sta Z h' C n d v := by
  obtain ⟨cf, i, k, f, st, cell, h1, h2, h3, h4, h5, h6, h7⟩ := F
  exact ⟨cf, i, k, f, st, cell, h1, h2, h3, h4, K.2.1 st cell h5 (fun y => by rw [q st y cell h5] at h6; cases h6), h6, h7⟩
theorem own_ins_keep {Z : State} {h h' : Heap} {a : Addr} {C : String} {bo : Bool} {ws : List Addr} (F : Ins Z h a C bo) (K : Keep h h' ws) : Ins Z h' a C bo := by
  obtain ⟨cell, cT, h1, h2, h3⟩ := F
  obtain ⟨c', e1, e2, e3, -⟩ := K.2.2 a cell h1
  exact ⟨c', cT, e1, h2, by rw [e2, e3]; exact h3⟩
theorem notsta_exa {Z : State} {h : Heap} {a : Addr} {C : String} (F : Exa Z h a C) : ∀ c : Cell, h[a]? = some c → c.vm.isStatics = false := fun c hc => by
  obtain ⟨cell, _, h1, -, -, h4, -⟩ := F
  cases hc.symm.trans h1; exact h4
theorem eqi_v {args : Array Value} {first s : State} {o : Option Outcome} {idx : List Nat} {a : Term} {k : Int32} (h : (Cond.eq a (.int k)).value args first o s idx = some true) : a.eval args first o idx s = some (.int k) := by
  obtain ⟨x, y, e1, e2, k1, k2⟩ := cmp_v (Or.inl h)
  have e3 : (Term.int k).eval args first o idx s = some (.int k) := rfl
  cases e3.symm.trans e2
  cases x <;> simp [Cond.value, e1, e3] at h
  rw [e1, h]
end Own0
section Own
variable {p : Program} {l : Launch} {e : Env} {R : Room} {s : State} {m : MethodId} {args : Array Value} {below : List Frame} {meth : Method} {c : Code} {T T' : State} {locs : List Loc} {cells slots : Nat} {Z : State} {h h' : Heap} {Q : Option Value → Heap → List Loc → Prop} {kc ks : Nat} {a b : Addr}
/-- from T the method comes to its end, and Q holds of what it returns, of the heap and of the written places -/
def Goes (p : Program) (e : Env) (below : List Frame) (s : State) (Q : Option Value → Heap → List Loc → Prop) (kc ks : Nat) (T : State) : Prop :=
  ∃ s₂ o, Steps p.tables e below T s₂ ∧ s₂.status = .running ∧ Ended s₂ below o ∧ ∃ v L, o = .returned v ∧ Q v s₂.heap L ∧ FrameEnd s o s₂ L kc ks
theorem Goes.step (st : ∀ t, Steps p.tables e below T' t → Steps p.tables e below T t) (k : Goes p e below s Q kc ks T') : Goes p e below s Q kc ks T := by
  obtain ⟨s₂, o, h1, h2⟩ := k; exact ⟨s₂, o, st _ h1, h2⟩
theorem Goes.ret (X : Stand p l e R s m args below meth c T locs cells slots) {v : Option Value} (hv : meth.sig.returnType = none → v = none) (hlocks : meth.locks = false) {T₀ : State}
    (st : ∀ fs, (∀ (f : JFrame) (acts : List Action), f.method = m → f.locked = none → f.entered = [] → (doReturn e (T.setTop f) acts v).1 = T.setFrames fs) → Steps p.tables e below T₀ (T.setFrames fs))
    (hq : Q v T.heap locs) (hc : cells ≤ kc) (hs : slots ≤ ks) : Goes p e below s Q kc ks T₀ := by
  obtain ⟨fs, hr, hrun, hended, hW, hsame⟩ := X.leave (v := v) hv hlocks
  exact ⟨_, _, st fs hr, hrun, hended, _, _, rfl, hq, ⟨_, rfl⟩, hW, hsame.mono hc hs⟩
theorem Goes.retZ (X : Stand p l e R s m args below meth c T locs cells slots) (hx : p.tables.exec = Jvm.exec) (hlocks : meth.locks = false) {pc : Nat} {Ls : Array Slot} {z r : Int32} {t : FieldType} {rest : List Value} (hret : meth.sig.returnType = some t) (ht : t = .boolean ∨ t = .byte ∨ t = .char ∨ t = .short)
    (hd : decode c.code pc = .ok (.ireturn, 1)) (hz : nar t z = r) (hq : Q (some (.int r)) T.heap locs) (hc : cells ≤ kc) (hs : slots ≤ ks) : Goes p e below s Q kc ks (T.setTop (mkF m pc Ls (.int z :: rest))) := by
  subst hz
  exact Goes.ret X (fun h => by rw [hret] at h; cases h) hlocks (fun fs hr => retN X hx hret ht hd hr) hq hc hs
theorem Goes.retI (X : Stand p l e R s m args below meth c T locs cells slots) (hx : p.tables.exec = Jvm.exec) (hlocks : meth.locks = false) {pc : Nat} {Ls : Array Slot} {z r : Int32} {rest : List Value} (hret : meth.sig.returnType = some .int)
    (hd : decode c.code pc = .ok (.ireturn, 1)) (hz : z = r) (hq : Q (some (.int r)) T.heap locs) (hc : cells ≤ kc) (hs : slots ≤ ks) : Goes p e below s Q kc ks (T.setTop (mkF m pc Ls (.int z :: rest))) := by
  subst hz
  exact Goes.ret X (fun h => by rw [hret] at h; cases h) hlocks (fun fs hr => retOut X hx hret rfl (Or.inl ⟨rfl, Or.inl rfl, z, rfl⟩) hd hr) hq hc hs
theorem Goes.retJ (X : Stand p l e R s m args below meth c T locs cells slots) (hx : p.tables.exec = Jvm.exec) (hlocks : meth.locks = false) {pc : Nat} {Ls : Array Slot} {z r : Int64} {rest : List Value} (hret : meth.sig.returnType = some .long)
    (hd : decode c.code pc = .ok (.lreturn, 1)) (hz : z = r) (hq : Q (some (.long r)) T.heap locs) (hc : cells ≤ kc) (hs : slots ≤ ks) : Goes p e below s Q kc ks (T.setTop (mkF m pc Ls (.long z :: rest))) := by
  subst hz
  exact Goes.ret X (fun h => by rw [hret] at h; cases h) hlocks (fun fs hr => retOut X hx hret rfl (Or.inr (Or.inl ⟨rfl, rfl, z, rfl⟩)) hd hr) hq hc hs
theorem Goes.retR (X : Stand p l e R s m args below meth c T locs cells slots) (hx : p.tables.exec = Jvm.exec) (hlocks : meth.locks = false) {pc : Nat} {Ls : Array Slot} {z r : Value} {t : FieldType} {rest : List Value} (hret : meth.sig.returnType = some t) (ht : t.isReference = true) (hn : narrow t z = z) (hw : z.isRef = true)
    (hd : decode c.code pc = .ok (.areturn, 1)) (hz : z = r) (hq : Q (some r) T.heap locs) (hc : cells ≤ kc) (hs : slots ≤ ks) : Goes p e below s Q kc ks (T.setTop (mkF m pc Ls (z :: rest))) := by
  subst hz
  exact Goes.ret X (fun h => by rw [hret] at h; cases h) hlocks (fun fs hr => retOut X hx hret hn (Or.inr (Or.inr (Or.inr (Or.inr ⟨rfl, ht, hw⟩)))) hd hr) hq hc hs
theorem Goes.retV (X : Stand p l e R s m args below meth c T locs cells slots) (hx : p.tables.exec = Jvm.exec) (hlocks : meth.locks = false) {pc : Nat} {Ls : Array Slot} (hret : meth.sig.returnType = none)
    (hd : decode c.code pc = .ok (.return_, 1)) (hq : Q none T.heap locs) (hc : cells ≤ kc) (hs : slots ≤ ks) : Goes p e below s Q kc ks (T.setTop (mkF m pc Ls [])) :=
  Goes.ret X (fun _ => rfl) hlocks (fun fs hr => X.returnOut hx hret hd hr) hq hc hs
/-- the array at a holds vs -/
def Ara (Z : State) (h : Heap) (a : Addr) (ty : FieldType) (vs : List Value) : Prop := ∃ cl : Cell, Arr Z h a cl ty ∧ cl.slots.toList = vs ∧ vs.length < 2 ^ 31 ∧ (∀ v ∈ vs, fits ty v = true) ∧ ∀ C, ty = .object C → Ovr Z cl.cls C
variable {ty : FieldType} {vs : List Value} {sl : Nat} {v : Value} {ws : List Addr}
theorem Ara.lt (F : Ara Z h a ty vs) : a < h.size := by obtain ⟨c, A, -⟩ := F; exact A.lt
theorem Ara.ext (F : Ara Z h a ty vs) (E : Ext h h') : Ara Z h' a ty vs := by obtain ⟨c, A, r⟩ := F; exact ⟨c, A.ext E, r⟩
theorem Ara.other (F : Ara Z h b ty vs) (W : Wr h h' a sl v) (q : b ≠ a) : Ara Z h' b ty vs := by obtain ⟨c, A, r⟩ := F; exact ⟨c, A.other W q, r⟩
theorem Ara.keep (F : Ara Z h a ty vs) (K : Keep h h' ws) (q : a ∉ ws) : Ara Z h' a ty vs := by obtain ⟨c, A, r⟩ := F; exact ⟨c, ⟨K.2.1 a c A.1 q, A.2⟩, r⟩
theorem fits_dflt (ty : FieldType) : fits ty (defaultValue ty) = true := by cases ty <;> rfl
theorem Ara.new {k : ClassId} {z : Int32} (A : Arr Z h a (newA k ty z) ty) (q : ¬ z < 0) (e : List.replicate z.toNatClampNeg (defaultValue ty) = vs) (O : ∀ C, ty = .object C → Ovr Z k C) : Ara Z h a ty vs := by
  subst e
  refine ⟨_, A, by simp [newA], by simpa using (back32 q).2, fun v hv => ?_, O⟩
  rw [(List.mem_replicate.mp hv).2]; exact fits_dflt ty
theorem Ara.same {j : Int32} {cl : Cell} (A : Arr Z h a cl ty) (e : cl.slots.toList = vs) (hl : vs.length < 2 ^ 31) (hf : ∀ v ∈ vs, fits ty v = true) (O : ∀ C, ty = .object C → Ovr Z cl.cls C) (hv : fits ty v = true) (W : Wr h h' a j.toNatClampNeg v) : Ara Z h' a ty (vs.set j.toNatClampNeg v) := by
  refine ⟨_, A.same W, by simp [Cell.setSlot, ← e], by simpa using hl, fun u hu => ?_, O⟩
  rcases List.mem_or_eq_of_mem_set hu with q | q
  · exact hf u q
  · rw [q]; exact hv
theorem inb {j : Int32} {cl : Cell} (e : cl.slots.toList = vs) (h0 : ¬ j < 0) (hj : j.toNatClampNeg < vs.length) : ¬ (j < 0 ∨ cl.slots.size ≤ j.toNatClampNeg) := by
  rintro (q | q)
  · exact h0 q
  · rw [← e] at hj; simp at hj; omega
theorem getb {j : Int32} {cl : Cell} (e : cl.slots.toList = vs) (hv : vs[j.toNatClampNeg]? = some v) : cl.slots[j.toNatClampNeg]? = some v := by rw [← e] at hv; simpa using hv
theorem ltb {n : Nat} (hv : vs[n]? = some v) : n < vs.length := (List.getElem?_eq_some_iff.mp hv).1
theorem lenb {cl : Cell} (e : cl.slots.toList = vs) : cl.slots.size = vs.length := by rw [← e]; simp
theorem notsta_ara (F : Ara Z h a ty vs) : ∀ c : Cell, h[a]? = some c → c.vm.isStatics = false := fun c hc => by
  obtain ⟨cl, A, -⟩ := F
  cases hc.symm.trans A.1; exact A.plain
theorem Ara.to {vs' : List Value} (F : Ara Z h a ty vs) (q : vs = vs') : Ara Z h a ty vs' := q ▸ F
end Own
theorem own_pn0 : plainName "com/example/bounded_crawl/boundedcrawl/web/Framing" = true := by first | (simp [plainName, overriddenIn]; done) | decide +kernel
theorem own_pd0 : parseMethodDescriptor "(I)Z" = some ⟨[.int], some .boolean⟩ := by decide +kernel
theorem own_pn1 : plainName "com/example/bounded_crawl/boundedcrawl/web/FramingIsInterimPinLaw" = true := by first | (simp [plainName, overriddenIn]; done) | decide +kernel
def f2 (p0 : Int32) : Int32 := (nar .boolean (if (p0 / (100 : Int32)) = (1 : Int32) then (if p0 = (101 : Int32) then (0 : Int32) else (1 : Int32)) else (0 : Int32)))
theorem own_d2_0 : decode prog_44_method_2_code 0 = .ok (.iload_n 0, 1) := by decide +kernel
theorem own_d2_1 : decode prog_44_method_2_code 1 = .ok (.bipush 100, 2) := by decide +kernel
theorem own_d2_3 : decode prog_44_method_2_code 3 = .ok (.idiv, 1) := by decide +kernel
theorem own_d2_4 : decode prog_44_method_2_code 4 = .ok (.iconst 1, 1) := by decide +kernel
theorem own_d2_5 : decode prog_44_method_2_code 5 = .ok (.if_icmp .ne 13, 3) := by decide +kernel
theorem own_d2_8 : decode prog_44_method_2_code 8 = .ok (.iload_n 0, 1) := by decide +kernel
theorem own_d2_9 : decode prog_44_method_2_code 9 = .ok (.bipush 101, 2) := by decide +kernel
theorem own_d2_11 : decode prog_44_method_2_code 11 = .ok (.if_icmp .eq 7, 3) := by decide +kernel
theorem own_d2_14 : decode prog_44_method_2_code 14 = .ok (.iconst 1, 1) := by decide +kernel
theorem own_d2_15 : decode prog_44_method_2_code 15 = .ok (.goto 4, 3) := by decide +kernel
theorem own_d2_18 : decode prog_44_method_2_code 18 = .ok (.iconst 0, 1) := by decide +kernel
theorem own_d2_19 : decode prog_44_method_2_code 19 = .ok (.ireturn, 1) := by decide +kernel
theorem own_ef2 (m : MethodId) (p0 : Int32) : entryFrame m #[(.int p0)] 1 = mkF m 0 #[.val (.int p0)] [] := by first | (simp [entryFrame, mkF, argsToLocals, Value.category, maxLocals]; done) | rfl
abbrev RM2 : Room := ({ frames := 0, cells := 0, slots := 0, locals := 0 } : Room)
abbrev kC2 : Nat := 0
abbrev kS2 : Nat := 0
def Q2 (Z : State) (p0 : Int32) (h0 : Heap) (v : Option Value) (h : Heap) (L : List Loc) : Prop := v = some (.int (f2 p0)) ∧ L = [] ∧ h = h0
set_option maxRecDepth 65536 in
set_option maxHeartbeats 40000000 in
theorem rm2 (l : Launch) (Z : State) (a0 : Array Value) (hw : ∀ d ∈ tables_1, d.before a0 Z = true) (ws : List Jvm.Cond) (p0 : Int32) (h0 : Heap)  :
    MetFree l (⟨"com/example/bounded_crawl/boundedcrawl/web/Framing", "isInterim", "(I)Z"⟩ : MethodName) (head1 (Jvm.Cond.code (⟨"com/example/bounded_crawl/boundedcrawl/web/Framing", "isInterim", "(I)Z"⟩ : MethodName) prog_44_method_2_code 1 (some .boolean) :: ws) RM2) (fun a U => a = #[(.int p0)] ∧ Z.Warmed39 U.vm ∧ U.heap = h0) (fun _ _ _ _ _ => True) (fun _ U o U' => ∃ v L, o = .returned v ∧ Q2 Z p0 h0 v U'.heap L ∧ FrameEnd U o U' L RM2.cells RM2.slots) := by
  refine MetFree.of_bodySF (plainFor_of_name own_pn0) hisR ?_
  intro p e s m args below meth c s₁ Bd hml0 hP hK
  obtain ⟨rfl, hZ, hh⟩ := hP
  have hx := Bd.exec
  have hby := Bd.bytes
  have hml : c.maxLocals = 1 := hml0
  have hown : s.vm.findClass "com/example/bounded_crawl/boundedcrawl/web/Framing" = some m.cls := findClass_of_methodNamed Bd.named
  have hnm := (name_of_methodNamed Bd.named Bd.method).1
  have X0 : Stand p l e RM2 s m #[(.int p0)] below meth c s₁ [] 0 0 := Stand.of_body Bd
  have e0 : s₁.heap = h0 := by rw [← hh, Bd.state]; rfl
  show Goes p e below s (Q2 Z p0 h0) kC2 kS2 (s₁.setTop (entryFrame m #[(.int p0)] 1))
  refine Goes.step (fun t k => castTop (own_ef2 m p0) k) ?_
  show Goes _ _ _ _ _ _ _ (s₁.setTop (mkF m 0 #[.val (.int p0)] []))
  refine Goes.step (fun t k => XS.iloadN X0.here hx rfl (hb hby own_d2_0) rfl k) ?_
  show Goes _ _ _ _ _ _ _ (s₁.setTop (mkF m 1 #[.val (.int p0)] [(.int p0)]))
  refine Goes.step (fun t k => XS.bipush X0.here hx rfl (hb hby own_d2_1) k) ?_
  show Goes _ _ _ _ _ _ _ (s₁.setTop (mkF m 3 #[.val (.int p0)] [(.int (100 : Int32)), (.int p0)]))
  have hnz1 : ¬ ((100 : Int32) = (0 : Int32)) := by decide
  refine Goes.step (fun t k => XS.idiv X0.here hx rfl (hb hby own_d2_3) rfl hnz1 k) ?_
  show Goes _ _ _ _ _ _ _ (s₁.setTop (mkF m 4 #[.val (.int p0)] [(.int (p0 / (100 : Int32)))]))
  refine Goes.step (fun t k => XS.iconst X0.here hx rfl (hb hby own_d2_4) k) ?_
  show Goes _ _ _ _ _ _ _ (s₁.setTop (mkF m 5 #[.val (.int p0)] [(.int (1 : Int32)), (.int (p0 / (100 : Int32)))]))
  suffices k4 : ∀ (x4_0 : Int32), x4_0 = (if (p0 / (100 : Int32)) = (1 : Int32) then (if p0 = (101 : Int32) then (0 : Int32) else (1 : Int32)) else (0 : Int32)) → Goes p e below s (Q2 Z p0 h0) kC2 kS2 (s₁.setTop (mkF m 19 #[.val (.int p0)] [(.int x4_0)])) by
    by_cases hc5_2 : (p0 / (100 : Int32)) = (1 : Int32)
    · refine Goes.step (fun t k => XS.icmpNo X0.here hx rfl (hb hby own_d2_5) rfl (teq hc5_2).2 k) ?_
      show Goes _ _ _ _ _ _ _ (s₁.setTop (mkF m 8 #[.val (.int p0)] []))
      refine Goes.step (fun t k => XS.iloadN X0.here hx rfl (hb hby own_d2_8) rfl k) ?_
      show Goes _ _ _ _ _ _ _ (s₁.setTop (mkF m 9 #[.val (.int p0)] [(.int p0)]))
      refine Goes.step (fun t k => XS.bipush X0.here hx rfl (hb hby own_d2_9) k) ?_
      show Goes _ _ _ _ _ _ _ (s₁.setTop (mkF m 11 #[.val (.int p0)] [(.int (101 : Int32)), (.int p0)]))
      by_cases hc11_3 : p0 = (101 : Int32)
      · refine Goes.step (fun t k => XS.icmpYes X0.here hx rfl (pc0 := 11) (pc' := 18) rfl (hb hby own_d2_11) rfl (teq hc11_3).1 (by decide) (by decide) k) ?_
        show Goes _ _ _ _ _ _ _ (s₁.setTop (mkF m 18 #[.val (.int p0)] []))
        refine Goes.step (fun t k => XS.iconst X0.here hx rfl (hb hby own_d2_18) k) ?_
        show Goes _ _ _ _ _ _ _ (s₁.setTop (mkF m 19 #[.val (.int p0)] [(.int (0 : Int32))]))
        exact k4 _ ((if_pos hc5_2).trans (if_pos hc11_3)).symm
      · refine Goes.step (fun t k => XS.icmpNo X0.here hx rfl (hb hby own_d2_11) rfl (feq hc11_3).1 k) ?_
        show Goes _ _ _ _ _ _ _ (s₁.setTop (mkF m 14 #[.val (.int p0)] []))
        refine Goes.step (fun t k => XS.iconst X0.here hx rfl (hb hby own_d2_14) k) ?_
        show Goes _ _ _ _ _ _ _ (s₁.setTop (mkF m 15 #[.val (.int p0)] [(.int (1 : Int32))]))
        refine Goes.step (fun t k => XS.goto X0.here hx rfl (pc0 := 15) (pc' := 19) rfl (hb hby own_d2_15) (by decide) (by decide) k) ?_
        show Goes _ _ _ _ _ _ _ (s₁.setTop (mkF m 19 #[.val (.int p0)] [(.int (1 : Int32))]))
        exact k4 _ ((if_pos hc5_2).trans (if_neg hc11_3)).symm
    · refine Goes.step (fun t k => XS.icmpYes X0.here hx rfl (pc0 := 5) (pc' := 18) rfl (hb hby own_d2_5) rfl (feq hc5_2).2 (by decide) (by decide) k) ?_
      show Goes _ _ _ _ _ _ _ (s₁.setTop (mkF m 18 #[.val (.int p0)] []))
      refine Goes.step (fun t k => XS.iconst X0.here hx rfl (hb hby own_d2_18) k) ?_
      show Goes _ _ _ _ _ _ _ (s₁.setTop (mkF m 19 #[.val (.int p0)] [(.int (0 : Int32))]))
      exact k4 _ (if_neg hc5_2).symm
  intro x4_0 hx4_0
  subst hx4_0
  exact Goes.retZ X0 hx Bd.notSynchronized (r := (f2 p0)) Bd.returns (by simp) (hb hby own_d2_19) rfl ⟨rfl, rfl, e0⟩ (by decide) (by decide)
def f1 (p0 : Int32) : Int32 := (nar .boolean (if (f2 p0) = (if p0 = (100 : Int32) then (1 : Int32) else (if p0 < (102 : Int32) then (0 : Int32) else (if (199 : Int32) < p0 then (0 : Int32) else (1 : Int32)))) then (1 : Int32) else (0 : Int32)))
theorem own_d1_0 : decode method_3_code 0 = .ok (.iload_n 0, 1) := by decide +kernel
theorem own_d1_1 : decode method_3_code 1 = .ok (.bipush 100, 2) := by decide +kernel
theorem own_d1_3 : decode method_3_code 3 = .ok (.if_icmp .ne 8, 3) := by decide +kernel
theorem own_d1_6 : decode method_3_code 6 = .ok (.iconst 1, 1) := by decide +kernel
theorem own_d1_7 : decode method_3_code 7 = .ok (.istore_n 1, 1) := by decide +kernel
theorem own_d1_8 : decode method_3_code 8 = .ok (.goto 23, 3) := by decide +kernel
theorem own_d1_11 : decode method_3_code 11 = .ok (.iload_n 0, 1) := by decide +kernel
theorem own_d1_12 : decode method_3_code 12 = .ok (.bipush 102, 2) := by decide +kernel
theorem own_d1_14 : decode method_3_code 14 = .ok (.if_icmp .lt 15, 3) := by decide +kernel
theorem own_d1_17 : decode method_3_code 17 = .ok (.iload_n 0, 1) := by decide +kernel
theorem own_d1_18 : decode method_3_code 18 = .ok (.sipush 199, 3) := by decide +kernel
theorem own_d1_21 : decode method_3_code 21 = .ok (.if_icmp .gt 8, 3) := by decide +kernel
theorem own_d1_24 : decode method_3_code 24 = .ok (.iconst 1, 1) := by decide +kernel
theorem own_d1_25 : decode method_3_code 25 = .ok (.istore_n 1, 1) := by decide +kernel
theorem own_d1_26 : decode method_3_code 26 = .ok (.goto 5, 3) := by decide +kernel
theorem own_d1_29 : decode method_3_code 29 = .ok (.iconst 0, 1) := by decide +kernel
theorem own_d1_30 : decode method_3_code 30 = .ok (.istore_n 1, 1) := by decide +kernel
theorem own_d1_31 : decode method_3_code 31 = .ok (.iload_n 0, 1) := by decide +kernel
theorem own_d1_32 : decode method_3_code 32 = .ok (.invokestatic 13, 3) := by decide +kernel
theorem own_d1_35 : decode method_3_code 35 = .ok (.iload_n 1, 1) := by decide +kernel
theorem own_d1_36 : decode method_3_code 36 = .ok (.if_icmp .ne 7, 3) := by decide +kernel
theorem own_d1_39 : decode method_3_code 39 = .ok (.iconst 1, 1) := by decide +kernel
theorem own_d1_40 : decode method_3_code 40 = .ok (.goto 4, 3) := by decide +kernel
theorem own_d1_43 : decode method_3_code 43 = .ok (.iconst 0, 1) := by decide +kernel
theorem own_d1_44 : decode method_3_code 44 = .ok (.ireturn, 1) := by decide +kernel
theorem own_ef1 (m : MethodId) (p0 : Int32) : entryFrame m #[(.int p0)] 2 = mkF m 0 #[.val (.int p0), .unset] [] := by first | (simp [entryFrame, mkF, argsToLocals, Value.category, maxLocals]; done) | rfl
abbrev RM1 : Room := ({ frames := 1, cells := 0, slots := 0, locals := 12 } : Room)
abbrev kC1 : Nat := 0
abbrev kS1 : Nat := 0
def Q1 (Z : State) (p0 : Int32) (h0 : Heap) (v : Option Value) (h : Heap) (L : List Loc) : Prop := v = some (.int (f1 p0)) ∧ L = [] ∧ h = h0
set_option maxRecDepth 65536 in
set_option maxHeartbeats 40000000 in
theorem rm1 (l : Launch) (Z : State) (a0 : Array Value) (hw : ∀ d ∈ tables_1, d.before a0 Z = true) (ws : List Jvm.Cond) (p0 : Int32) (h0 : Heap)  :
    MetFree l (⟨"com/example/bounded_crawl/boundedcrawl/web/FramingIsInterimPinLaw", "agrees", "(I)Z"⟩ : MethodName) (head1 (Jvm.Cond.code (⟨"com/example/bounded_crawl/boundedcrawl/web/FramingIsInterimPinLaw", "agrees", "(I)Z"⟩ : MethodName) method_3_code 2 (some .boolean) :: ws) RM1) (fun a U => a = #[(.int p0)] ∧ Z.Warmed39 U.vm ∧ U.heap = h0) (fun _ _ _ _ _ => True) (fun _ U o U' => ∃ v L, o = .returned v ∧ Q1 Z p0 h0 v U'.heap L ∧ FrameEnd U o U' L RM1.cells RM1.slots) := by
  refine MetFree.of_bodySF (plainFor_of_name own_pn1) hisR ?_
  intro p e s m args below meth c s₁ Bd hml0 hP hK
  obtain ⟨rfl, hZ, hh⟩ := hP
  have hx := Bd.exec
  have hby := Bd.bytes
  have hml : c.maxLocals = 2 := hml0
  have hown : s.vm.findClass "com/example/bounded_crawl/boundedcrawl/web/FramingIsInterimPinLaw" = some m.cls := findClass_of_methodNamed Bd.named
  have hnm := (name_of_methodNamed Bd.named Bd.method).1
  have X0 : Stand p l e RM1 s m #[(.int p0)] below meth c s₁ [] 0 0 := Stand.of_body Bd
  have e0 : s₁.heap = h0 := by rw [← hh, Bd.state]; rfl
  show Goes p e below s (Q1 Z p0 h0) kC1 kS1 (s₁.setTop (entryFrame m #[(.int p0)] 2))
  refine Goes.step (fun t k => castTop (own_ef1 m p0) k) ?_
  show Goes _ _ _ _ _ _ _ (s₁.setTop (mkF m 0 #[.val (.int p0), .unset] []))
  refine Goes.step (fun t k => XS.iloadN X0.here hx rfl (hb hby own_d1_0) rfl k) ?_
  show Goes _ _ _ _ _ _ _ (s₁.setTop (mkF m 1 #[.val (.int p0), .unset] [(.int p0)]))
  refine Goes.step (fun t k => XS.bipush X0.here hx rfl (hb hby own_d1_1) k) ?_
  show Goes _ _ _ _ _ _ _ (s₁.setTop (mkF m 3 #[.val (.int p0), .unset] [(.int (100 : Int32)), (.int p0)]))
  suffices k4 : ∀ (x4_0 : Int32), x4_0 = (if p0 = (100 : Int32) then (1 : Int32) else (if p0 < (102 : Int32) then (0 : Int32) else (if (199 : Int32) < p0 then (0 : Int32) else (1 : Int32)))) → Goes p e below s (Q1 Z p0 h0) kC1 kS1 (s₁.setTop (mkF m 31 #[.val (.int p0), .val (.int x4_0)] [])) by
    by_cases hc3_1 : p0 = (100 : Int32)
    · refine Goes.step (fun t k => XS.icmpNo X0.here hx rfl (hb hby own_d1_3) rfl (teq hc3_1).2 k) ?_
      show Goes _ _ _ _ _ _ _ (s₁.setTop (mkF m 6 #[.val (.int p0), .unset] []))
      refine Goes.step (fun t k => XS.iconst X0.here hx rfl (hb hby own_d1_6) k) ?_
      show Goes _ _ _ _ _ _ _ (s₁.setTop (mkF m 7 #[.val (.int p0), .unset] [(.int (1 : Int32))]))
      refine Goes.step (fun t k => XS.istoreN X0.here hx rfl (hb hby own_d1_7) rfl (l' := #[.val (.int p0), .val (.int (1 : Int32))]) rfl k) ?_
      show Goes _ _ _ _ _ _ _ (s₁.setTop (mkF m 8 #[.val (.int p0), .val (.int (1 : Int32))] []))
      refine Goes.step (fun t k => XS.goto X0.here hx rfl (pc0 := 8) (pc' := 31) rfl (hb hby own_d1_8) (by decide) (by decide) k) ?_
      show Goes _ _ _ _ _ _ _ (s₁.setTop (mkF m 31 #[.val (.int p0), .val (.int (1 : Int32))] []))
      exact k4 _ (if_pos hc3_1).symm
    · refine Goes.step (fun t k => XS.icmpYes X0.here hx rfl (pc0 := 3) (pc' := 11) rfl (hb hby own_d1_3) rfl (feq hc3_1).2 (by decide) (by decide) k) ?_
      show Goes _ _ _ _ _ _ _ (s₁.setTop (mkF m 11 #[.val (.int p0), .unset] []))
      refine Goes.step (fun t k => XS.iloadN X0.here hx rfl (hb hby own_d1_11) rfl k) ?_
      show Goes _ _ _ _ _ _ _ (s₁.setTop (mkF m 12 #[.val (.int p0), .unset] [(.int p0)]))
      refine Goes.step (fun t k => XS.bipush X0.here hx rfl (hb hby own_d1_12) k) ?_
      show Goes _ _ _ _ _ _ _ (s₁.setTop (mkF m 14 #[.val (.int p0), .unset] [(.int (102 : Int32)), (.int p0)]))
      by_cases hc14_2 : p0 < (102 : Int32)
      · refine Goes.step (fun t k => XS.icmpYes X0.here hx rfl (pc0 := 14) (pc' := 29) rfl (hb hby own_d1_14) rfl (tlt hc14_2).1 (by decide) (by decide) k) ?_
        show Goes _ _ _ _ _ _ _ (s₁.setTop (mkF m 29 #[.val (.int p0), .unset] []))
        refine Goes.step (fun t k => XS.iconst X0.here hx rfl (hb hby own_d1_29) k) ?_
        show Goes _ _ _ _ _ _ _ (s₁.setTop (mkF m 30 #[.val (.int p0), .unset] [(.int (0 : Int32))]))
        refine Goes.step (fun t k => XS.istoreN X0.here hx rfl (hb hby own_d1_30) rfl (l' := #[.val (.int p0), .val (.int (0 : Int32))]) rfl k) ?_
        show Goes _ _ _ _ _ _ _ (s₁.setTop (mkF m 31 #[.val (.int p0), .val (.int (0 : Int32))] []))
        exact k4 _ ((if_neg hc3_1).trans (if_pos hc14_2)).symm
      · refine Goes.step (fun t k => XS.icmpNo X0.here hx rfl (hb hby own_d1_14) rfl (flt hc14_2).1 k) ?_
        show Goes _ _ _ _ _ _ _ (s₁.setTop (mkF m 17 #[.val (.int p0), .unset] []))
        refine Goes.step (fun t k => XS.iloadN X0.here hx rfl (hb hby own_d1_17) rfl k) ?_
        show Goes _ _ _ _ _ _ _ (s₁.setTop (mkF m 18 #[.val (.int p0), .unset] [(.int p0)]))
        refine Goes.step (fun t k => XS.sipush X0.here hx rfl (hb hby own_d1_18) k) ?_
        show Goes _ _ _ _ _ _ _ (s₁.setTop (mkF m 21 #[.val (.int p0), .unset] [(.int (199 : Int32)), (.int p0)]))
        by_cases hc21_3 : (199 : Int32) < p0
        · refine Goes.step (fun t k => XS.icmpYes X0.here hx rfl (pc0 := 21) (pc' := 29) rfl (hb hby own_d1_21) rfl (tlt hc21_3).2.2.1 (by decide) (by decide) k) ?_
          show Goes _ _ _ _ _ _ _ (s₁.setTop (mkF m 29 #[.val (.int p0), .unset] []))
          refine Goes.step (fun t k => XS.iconst X0.here hx rfl (hb hby own_d1_29) k) ?_
          show Goes _ _ _ _ _ _ _ (s₁.setTop (mkF m 30 #[.val (.int p0), .unset] [(.int (0 : Int32))]))
          refine Goes.step (fun t k => XS.istoreN X0.here hx rfl (hb hby own_d1_30) rfl (l' := #[.val (.int p0), .val (.int (0 : Int32))]) rfl k) ?_
          show Goes _ _ _ _ _ _ _ (s₁.setTop (mkF m 31 #[.val (.int p0), .val (.int (0 : Int32))] []))
          exact k4 _ ((if_neg hc3_1).trans ((if_neg hc14_2).trans (if_pos hc21_3))).symm
        · refine Goes.step (fun t k => XS.icmpNo X0.here hx rfl (hb hby own_d1_21) rfl (flt hc21_3).2.2.1 k) ?_
          show Goes _ _ _ _ _ _ _ (s₁.setTop (mkF m 24 #[.val (.int p0), .unset] []))
          refine Goes.step (fun t k => XS.iconst X0.here hx rfl (hb hby own_d1_24) k) ?_
          show Goes _ _ _ _ _ _ _ (s₁.setTop (mkF m 25 #[.val (.int p0), .unset] [(.int (1 : Int32))]))
          refine Goes.step (fun t k => XS.istoreN X0.here hx rfl (hb hby own_d1_25) rfl (l' := #[.val (.int p0), .val (.int (1 : Int32))]) rfl k) ?_
          show Goes _ _ _ _ _ _ _ (s₁.setTop (mkF m 26 #[.val (.int p0), .val (.int (1 : Int32))] []))
          refine Goes.step (fun t k => XS.goto X0.here hx rfl (pc0 := 26) (pc' := 31) rfl (hb hby own_d1_26) (by decide) (by decide) k) ?_
          show Goes _ _ _ _ _ _ _ (s₁.setTop (mkF m 31 #[.val (.int p0), .val (.int (1 : Int32))] []))
          exact k4 _ ((if_neg hc3_1).trans ((if_neg hc14_2).trans (if_neg hc21_3))).symm
  intro x4_0 hx4_0
  refine Goes.step (fun t k => XS.iloadN X0.here hx rfl (hb hby own_d1_31) rfl k) ?_
  show Goes _ _ _ _ _ _ _ (s₁.setTop (mkF m 32 #[.val (.int p0), .val (.int x4_0)] [(.int p0)]))
  obtain ⟨_, _, ⟨T5, L5, k5, n5⟩, -, X5, ⟨Lc5, hQ5, l5, y5, z5⟩, st5⟩ := Jvm.LawKit.callS X0 hx (y := (⟨"com/example/bounded_crawl/boundedcrawl/web/Framing", "isInterim", "(I)Z"⟩ : MethodName)) hown (mvT hZ (hw _ (List.mem_of_getElem? (i := 4) rfl))) (mvT hZ (hw _ (List.mem_of_getElem? (i := 5) rfl))) (mvT hZ (hw _ (List.mem_of_getElem? (i := 6) rfl))) (mvT hZ (hw _ (List.mem_of_getElem? (i := 7) rfl))) (by decide) (backOf (W := 0) (rm2 l Z a0 hw [] p0 h0) hZ (hw _ (List.mem_of_getElem? (i := 7) rfl)) (hw _ (List.mem_of_getElem? (i := 6) rfl)) (by decide) (by decide)) (g := (mkF m 32 #[.val (.int p0), .val (.int x4_0)] [(.int p0)])) rfl (by rw [hml]; rfl) (argsL := [(.int p0)]) (rest := []) (lenOf own_pd0 rfl) rfl (by show 2 * 0 + _ ≤ _; exact Nat.le_of_eq rfl) (hb hby own_d1_32) (fun _ _ => ⟨rfl, e0, (by decide : 0 + 0 ≤ _), (by decide : 0 + 0 ≤ _)⟩)
  dsimp only [Pt.U, Pt.locs, Pt.cells, Pt.slots] at X5 l5 y5 z5 st5 hQ5
  subst l5 y5 z5
  obtain ⟨rfl, rfl, e5⟩ := hQ5
  try rw [List.append_nil] at X5
  change Stand _ _ _ _ _ _ _ _ _ _ _ _ 0 0 at X5
  refine Goes.step (fun t k => st5 t k) ?_
  show Goes _ _ _ _ _ _ _ (T5.setTop (mkF m 35 #[.val (.int p0), .val (.int x4_0)] [(.int (f2 p0))]))
  refine Goes.step (fun t k => XS.iloadN X5.here hx rfl (hb hby own_d1_35) rfl k) ?_
  show Goes _ _ _ _ _ _ _ (T5.setTop (mkF m 36 #[.val (.int p0), .val (.int x4_0)] [(.int x4_0), (.int (f2 p0))]))
  suffices k7 : ∀ (x7_0 : Int32), x7_0 = (if (f2 p0) = x4_0 then (1 : Int32) else (0 : Int32)) → Goes p e below s (Q1 Z p0 h0) kC1 kS1 (T5.setTop (mkF m 44 #[.val (.int p0), .val (.int x4_0)] [(.int x7_0)])) by
    by_cases hc36_6 : (f2 p0) = x4_0
    · refine Goes.step (fun t k => XS.icmpNo X5.here hx rfl (hb hby own_d1_36) rfl (teq hc36_6).2 k) ?_
      show Goes _ _ _ _ _ _ _ (T5.setTop (mkF m 39 #[.val (.int p0), .val (.int x4_0)] []))
      refine Goes.step (fun t k => XS.iconst X5.here hx rfl (hb hby own_d1_39) k) ?_
      show Goes _ _ _ _ _ _ _ (T5.setTop (mkF m 40 #[.val (.int p0), .val (.int x4_0)] [(.int (1 : Int32))]))
      refine Goes.step (fun t k => XS.goto X5.here hx rfl (pc0 := 40) (pc' := 44) rfl (hb hby own_d1_40) (by decide) (by decide) k) ?_
      show Goes _ _ _ _ _ _ _ (T5.setTop (mkF m 44 #[.val (.int p0), .val (.int x4_0)] [(.int (1 : Int32))]))
      exact k7 _ (if_pos hc36_6).symm
    · refine Goes.step (fun t k => XS.icmpYes X5.here hx rfl (pc0 := 36) (pc' := 43) rfl (hb hby own_d1_36) rfl (feq hc36_6).2 (by decide) (by decide) k) ?_
      show Goes _ _ _ _ _ _ _ (T5.setTop (mkF m 43 #[.val (.int p0), .val (.int x4_0)] []))
      refine Goes.step (fun t k => XS.iconst X5.here hx rfl (hb hby own_d1_43) k) ?_
      show Goes _ _ _ _ _ _ _ (T5.setTop (mkF m 44 #[.val (.int p0), .val (.int x4_0)] [(.int (0 : Int32))]))
      exact k7 _ (if_neg hc36_6).symm
  intro x7_0 hx7_0
  subst hx7_0
  subst hx4_0
  exact Goes.retZ X5 hx Bd.notSynchronized (r := (f1 p0)) Bd.returns (by simp) (hb hby own_d1_44) rfl ⟨rfl, rfl, e5⟩ (by decide) (by decide)
def f0 (p0 : Int32) (p1 : Int32) : Int32 := (nar .boolean (if (f1 p0) = (0 : Int32) then (0 : Int32) else (if (f1 ((95 : Int32) + (p1 &&& (127 : Int32)))) = (0 : Int32) then (0 : Int32) else (1 : Int32))))
theorem own_ef0 (m : MethodId) (p0 : Int32) (p1 : Int32) : entryFrame m #[(.int p0), (.int p1)] maxLocals = mkF m 0 #[.val (.int p0), .val (.int p1), .unset] [] := by first | (simp [entryFrame, mkF, argsToLocals, Value.category, maxLocals]; done) | rfl
abbrev kC0 : Nat := 0
abbrev kS0 : Nat := 0
def Q0 (Z : State) (p0 : Int32) (p1 : Int32) (h0 : Heap) (v : Option Value) (h : Heap) (L : List Loc) : Prop := v = some (.int (f0 p0 p1)) ∧ L = [] ∧ h = h0
set_option maxRecDepth 65536 in
set_option maxHeartbeats 40000000 in
theorem rm0 (l : Launch) (Z : State) (a0 : Array Value) (hw : ∀ d ∈ tables_1, d.before a0 Z = true) (ws : List Jvm.Cond) (p0 : Int32) (p1 : Int32) (h0 : Heap)  :
    MetFree l x (head1 (Jvm.Cond.code x code maxLocals ret :: ws) room_1) (fun a U => a = #[(.int p0), (.int p1)] ∧ Z.Warmed39 U.vm ∧ U.heap = h0) (fun _ _ _ _ _ => True) (fun _ U o U' => ∃ v L, o = .returned v ∧ Q0 Z p0 p1 h0 v U'.heap L ∧ FrameEnd U o U' L kC0 kS0) := by
  refine MetFree.of_bodySF (plainFor_of_name own_pn1) hisR ?_
  intro p e s m args below meth c s₁ Bd hml0 hP hK
  obtain ⟨rfl, hZ, hh⟩ := hP
  have hx := Bd.exec
  have hby := Bd.bytes
  have hml : c.maxLocals = 3 := hml0
  have hown : s.vm.findClass "com/example/bounded_crawl/boundedcrawl/web/FramingIsInterimPinLaw" = some m.cls := findClass_of_methodNamed Bd.named
  have hnm := (name_of_methodNamed Bd.named Bd.method).1
  have X0 : Stand p l e room_1 s m #[(.int p0), (.int p1)] below meth c s₁ [] 0 0 := Stand.of_body Bd
  have e0 : s₁.heap = h0 := by rw [← hh, Bd.state]; rfl
  show Goes p e below s (Q0 Z p0 p1 h0) kC0 kS0 (s₁.setTop (entryFrame m #[(.int p0), (.int p1)] maxLocals))
  refine Goes.step (fun t k => castTop (own_ef0 m p0 p1) k) ?_
  show Goes _ _ _ _ _ _ _ (s₁.setTop (mkF m 0 #[.val (.int p0), .val (.int p1), .unset] []))
  refine Goes.step (fun t k => XS.bipush X0.here hx rfl (hb hby at_0) k) ?_
  show Goes _ _ _ _ _ _ _ (s₁.setTop (mkF m 2 #[.val (.int p0), .val (.int p1), .unset] [(.int (95 : Int32))]))
  refine Goes.step (fun t k => XS.iloadN X0.here hx rfl (hb hby at_2) rfl k) ?_
  show Goes _ _ _ _ _ _ _ (s₁.setTop (mkF m 3 #[.val (.int p0), .val (.int p1), .unset] [(.int p1), (.int (95 : Int32))]))
  refine Goes.step (fun t k => XS.bipush X0.here hx rfl (hb hby at_3) k) ?_
  show Goes _ _ _ _ _ _ _ (s₁.setTop (mkF m 5 #[.val (.int p0), .val (.int p1), .unset] [(.int (127 : Int32)), (.int p1), (.int (95 : Int32))]))
  refine Goes.step (fun t k => XS.iand X0.here hx rfl (hb hby at_5) rfl k) ?_
  show Goes _ _ _ _ _ _ _ (s₁.setTop (mkF m 6 #[.val (.int p0), .val (.int p1), .unset] [(.int (p1 &&& (127 : Int32))), (.int (95 : Int32))]))
  refine Goes.step (fun t k => XS.iadd X0.here hx rfl (hb hby at_6) rfl k) ?_
  show Goes _ _ _ _ _ _ _ (s₁.setTop (mkF m 7 #[.val (.int p0), .val (.int p1), .unset] [(.int ((95 : Int32) + (p1 &&& (127 : Int32))))]))
  refine Goes.step (fun t k => XS.istoreN X0.here hx rfl (hb hby at_7) rfl (l' := #[.val (.int p0), .val (.int p1), .val (.int ((95 : Int32) + (p1 &&& (127 : Int32))))]) rfl k) ?_
  show Goes _ _ _ _ _ _ _ (s₁.setTop (mkF m 8 #[.val (.int p0), .val (.int p1), .val (.int ((95 : Int32) + (p1 &&& (127 : Int32))))] []))
  generalize hy1 : ((95 : Int32) + (p1 &&& (127 : Int32))) = y1
  refine Goes.step (fun t k => XS.iloadN X0.here hx rfl (hb hby at_8) rfl k) ?_
  show Goes _ _ _ _ _ _ _ (s₁.setTop (mkF m 9 #[.val (.int p0), .val (.int p1), .val (.int y1)] [(.int p0)]))
  obtain ⟨_, _, ⟨T2, L2, k2, n2⟩, -, X2, ⟨Lc2, hQ2, l2, y2, z2⟩, st2⟩ := Jvm.LawKit.callS X0 hx (y := (⟨"com/example/bounded_crawl/boundedcrawl/web/FramingIsInterimPinLaw", "agrees", "(I)Z"⟩ : MethodName)) hown (mvT hZ (hw _ (List.mem_of_getElem? (i := 0) rfl))) (mvT hZ (hw _ (List.mem_of_getElem? (i := 1) rfl))) (mvT hZ (hw _ (List.mem_of_getElem? (i := 2) rfl))) (mvT hZ (hw _ (List.mem_of_getElem? (i := 3) rfl))) (by decide) (backOf (W := 0) (rm1 l Z a0 hw [] p0 h0) hZ (hw _ (List.mem_of_getElem? (i := 3) rfl)) (hw _ (List.mem_of_getElem? (i := 2) rfl)) (by decide) (by decide)) (g := (mkF m 9 #[.val (.int p0), .val (.int p1), .val (.int y1)] [(.int p0)])) rfl (by rw [hml]; rfl) (argsL := [(.int p0)]) (rest := []) (lenOf own_pd0 rfl) rfl (by show 2 * 0 + _ ≤ _; exact Nat.le_of_eq rfl) (hb hby at_9) (fun _ _ => ⟨rfl, e0, (by decide : 0 + 0 ≤ _), (by decide : 0 + 0 ≤ _)⟩)
  dsimp only [Pt.U, Pt.locs, Pt.cells, Pt.slots] at X2 l2 y2 z2 st2 hQ2
  subst l2 y2 z2
  obtain ⟨rfl, rfl, e2⟩ := hQ2
  try rw [List.append_nil] at X2
  change Stand _ _ _ _ _ _ _ _ _ _ _ _ 0 0 at X2
  refine Goes.step (fun t k => st2 t k) ?_
  show Goes _ _ _ _ _ _ _ (T2.setTop (mkF m 12 #[.val (.int p0), .val (.int p1), .val (.int y1)] [(.int (f1 p0))]))
  suffices k6 : ∀ (T6 : State) (x6_0 : Int32), Stand p l e room_1 s m #[(.int p0), (.int p1)] below meth c T6 [] 0 0 → T6.heap = h0 → x6_0 = (if (f1 p0) = (0 : Int32) then (0 : Int32) else (if (f1 y1) = (0 : Int32) then (0 : Int32) else (1 : Int32))) → Goes p e below s (Q0 Z p0 p1 h0) kC0 kS0 (T6.setTop (mkF m 27 #[.val (.int p0), .val (.int p1), .val (.int y1)] [(.int x6_0)])) by
    by_cases hc12_3 : (f1 p0) = (0 : Int32)
    · refine Goes.step (fun t k => XS.ifYes X2.here hx rfl (pc0 := 12) (pc' := 26) rfl (hb hby at_12) rfl ((if0 _ _).trans (teq hc12_3).1) (by decide) (by decide) k) ?_
      show Goes _ _ _ _ _ _ _ (T2.setTop (mkF m 26 #[.val (.int p0), .val (.int p1), .val (.int y1)] []))
      refine Goes.step (fun t k => XS.iconst X2.here hx rfl (hb hby at_26) k) ?_
      show Goes _ _ _ _ _ _ _ (T2.setTop (mkF m 27 #[.val (.int p0), .val (.int p1), .val (.int y1)] [(.int (0 : Int32))]))
      exact k6 _ _ X2 e2 (if_pos hc12_3).symm
    · refine Goes.step (fun t k => XS.ifNo X2.here hx rfl (hb hby at_12) rfl ((if0 _ _).trans (feq hc12_3).1) k) ?_
      show Goes _ _ _ _ _ _ _ (T2.setTop (mkF m 15 #[.val (.int p0), .val (.int p1), .val (.int y1)] []))
      refine Goes.step (fun t k => XS.iloadN X2.here hx rfl (hb hby at_15) rfl k) ?_
      show Goes _ _ _ _ _ _ _ (T2.setTop (mkF m 16 #[.val (.int p0), .val (.int p1), .val (.int y1)] [(.int y1)]))
      obtain ⟨_, _, ⟨T4, L4, k4, n4⟩, -, X4, ⟨Lc4, hQ4, l4, y4, z4⟩, st4⟩ := Jvm.LawKit.callS X2 hx (y := (⟨"com/example/bounded_crawl/boundedcrawl/web/FramingIsInterimPinLaw", "agrees", "(I)Z"⟩ : MethodName)) hown (mvT hZ (hw _ (List.mem_of_getElem? (i := 0) rfl))) (mvT hZ (hw _ (List.mem_of_getElem? (i := 1) rfl))) (mvT hZ (hw _ (List.mem_of_getElem? (i := 2) rfl))) (mvT hZ (hw _ (List.mem_of_getElem? (i := 3) rfl))) (by decide) (backOf (W := 0) (rm1 l Z a0 hw [] y1 h0) hZ (hw _ (List.mem_of_getElem? (i := 3) rfl)) (hw _ (List.mem_of_getElem? (i := 2) rfl)) (by decide) (by decide)) (g := (mkF m 16 #[.val (.int p0), .val (.int p1), .val (.int y1)] [(.int y1)])) rfl (by rw [hml]; rfl) (argsL := [(.int y1)]) (rest := []) (lenOf own_pd0 rfl) rfl (by show 2 * 0 + _ ≤ _; exact Nat.le_of_eq rfl) (hb hby at_16) (fun _ _ => ⟨rfl, e2, (by decide : 0 + 0 ≤ _), (by decide : 0 + 0 ≤ _)⟩)
      dsimp only [Pt.U, Pt.locs, Pt.cells, Pt.slots] at X4 l4 y4 z4 st4 hQ4
      subst l4 y4 z4
      obtain ⟨rfl, rfl, e4⟩ := hQ4
      try rw [List.append_nil] at X4
      change Stand _ _ _ _ _ _ _ _ _ _ _ _ 0 0 at X4
      refine Goes.step (fun t k => st4 t k) ?_
      show Goes _ _ _ _ _ _ _ (T4.setTop (mkF m 19 #[.val (.int p0), .val (.int p1), .val (.int y1)] [(.int (f1 y1))]))
      by_cases hc19_5 : (f1 y1) = (0 : Int32)
      · refine Goes.step (fun t k => XS.ifYes X4.here hx rfl (pc0 := 19) (pc' := 26) rfl (hb hby at_19) rfl ((if0 _ _).trans (teq hc19_5).1) (by decide) (by decide) k) ?_
        show Goes _ _ _ _ _ _ _ (T4.setTop (mkF m 26 #[.val (.int p0), .val (.int p1), .val (.int y1)] []))
        refine Goes.step (fun t k => XS.iconst X4.here hx rfl (hb hby at_26) k) ?_
        show Goes _ _ _ _ _ _ _ (T4.setTop (mkF m 27 #[.val (.int p0), .val (.int p1), .val (.int y1)] [(.int (0 : Int32))]))
        exact k6 _ _ X4 e4 ((if_neg hc12_3).trans (if_pos hc19_5)).symm
      · refine Goes.step (fun t k => XS.ifNo X4.here hx rfl (hb hby at_19) rfl ((if0 _ _).trans (feq hc19_5).1) k) ?_
        show Goes _ _ _ _ _ _ _ (T4.setTop (mkF m 22 #[.val (.int p0), .val (.int p1), .val (.int y1)] []))
        refine Goes.step (fun t k => XS.iconst X4.here hx rfl (hb hby at_22) k) ?_
        show Goes _ _ _ _ _ _ _ (T4.setTop (mkF m 23 #[.val (.int p0), .val (.int p1), .val (.int y1)] [(.int (1 : Int32))]))
        refine Goes.step (fun t k => XS.goto X4.here hx rfl (pc0 := 23) (pc' := 27) rfl (hb hby at_23) (by decide) (by decide) k) ?_
        show Goes _ _ _ _ _ _ _ (T4.setTop (mkF m 27 #[.val (.int p0), .val (.int p1), .val (.int y1)] [(.int (1 : Int32))]))
        exact k6 _ _ X4 e4 ((if_neg hc12_3).trans (if_neg hc19_5)).symm
  intro T6 x6_0 X6 e6 hx6_0
  subst hx6_0
  subst hy1
  exact Goes.retZ X6 hx Bd.notSynchronized (r := (f0 p0 p1)) Bd.returns (by simp) (hb hby at_27) rfl ⟨rfl, rfl, e6⟩ (by decide) (by decide)
theorem own_div (p : Int32) : p / 100 = 1 ↔ 100 ≤ p.toInt ∧ p.toInt < 200 := by
  have h := c_idiv p 100 100 (by decide) (by decide)
  rw [← Int32.toInt_inj, (by decide : (1 : Int32).toInt = 1)]
  by_cases q : 0 ≤ p.toInt
  · rw [h.1 q]; omega
  · rw [h.2 (by omega)]; omega
theorem own_f1 (p : Int32) : f1 p = 1 := by
  have a1 := own_div p
  have a2 : p = 101 ↔ p.toInt = 101 := by rw [← Int32.toInt_inj]; exact Iff.rfl
  have a3 : p = 100 ↔ p.toInt = 100 := by rw [← Int32.toInt_inj]; exact Iff.rfl
  have a4 : p < 102 ↔ p.toInt < 102 := by rw [Int32.lt_iff_toInt_lt]; exact Iff.rfl
  have a5 : 199 < p ↔ 199 < p.toInt := by rw [Int32.lt_iff_toInt_lt]; exact Iff.rfl
  unfold f1 f2
  by_cases a : p / 100 = 1 <;> by_cases b : p = 101 <;> by_cases c : p = 100 <;> by_cases d : p < 102 <;> by_cases e : 199 < p <;>
    first | (exfalso; rw [a1] at a; rw [a2] at b; rw [a3] at c; rw [a4] at d; rw [a5] at e; omega) | (simp only [if_pos, if_neg, a, b, c, d, e, not_false_eq_true, if_true, if_false]; decide)
theorem own_plain (p0 p1 : Int32) : f0 p0 p1 = 1 := by
  unfold f0
  rw [own_f1, own_f1]
  decide
set_option maxRecDepth 65536 in
set_option maxHeartbeats 40000000 in
theorem comes_1 {Post : Tables → Env → Array Value → State → Outcome → State → Prop} (hpost : ∀ tb e args s v u, (limb_1_1.after args s (.returned v) u = true ∧ limb_1_2.after args s (.returned v) u = true ∧ True) → FrameEnd s (.returned v) u (Jvm.fieldLocs frame_1_writes args s ++ Jvm.arrayLocs frame_1_arrays args s ++ Jvm.staticLocs frame_1_statics s) 0 0 → Post tb e args s (.returned v) u) :
    ArmFor flags0 classFile x code maxLocals ret World_1 tables_1 room_1 Calls_1 rest_1 Pre_1 Post := by
  intro l hfl _ _ p e ha hc hk s m args below hf hA hF happ hP
  obtain ⟨hcalls, hrest, hpre⟩ := hP
  obtain ⟨-, -, -, hnamed, -, -, -, hat⟩ := (Spec.applies_iff hf).mp happ
  obtain ⟨hg, hn⟩ := and_e (Cond.before_iff.mp (show (Jvm.Cond.and given_1 narrow_1).before args s = true from hpre))
  obtain ⟨g0, gr0⟩ := and_e hg
  obtain ⟨ga0, gr1⟩ := and_e gr0
  have ga1 := gr1
  obtain ⟨w0, w1, rfl⟩ : ∃ w0 w1 : Value, args = #[w0, w1] := by
    have hs : args.size = 2 := by simpa [Cond.value, given_1] using g0
    obtain ⟨L⟩ := args
    match L, hs with
    | [w0, w1], _ => exact ⟨w0, w1, rfl⟩
  have hw := fun d (hd : d ∈ tables_1) => atoms_spec (ws := Jvm.Cond.code x code maxLocals ret :: tables_1) hat d (List.mem_cons_of_mem _ hd)
  have hfit : Fit s := fun {y c} hc i hi => by
    obtain ⟨ha, rfl⟩ := Array.getElem?_eq_some_iff.mp hc
    have q := List.all_eq_true.mp ((Array.all_eq_true_iff_forall_mem.mp hF) _ (Array.getElem_mem ha)) i (List.mem_range.mpr hi)
    simpa [Array.getElem?_eq_getElem hi] using q
  obtain ⟨i0, ei0⟩ := is_v ga0
  obtain rfl : w0 = (.int i0) := Option.some.inj ei0
  obtain ⟨i1, ei1⟩ := is_v ga1
  obtain rfl : w1 = (.int i1) := Option.some.inj ei1
  obtain ⟨n, o, h1, h2, h3, _, L, rfl, ⟨rfl, rfl, _⟩, hq⟩ := rm0 l s _ hw tables_1 i0 i1  s.heap   p e ha hc hk s m _ below hf ((Spec.applies_iff_loose hf).mp happ).1 ⟨rfl, State.Warmed39.refl s, rfl⟩ trivial
  rw [own_plain i0 i1] at *
  refine ⟨n, _, h1, h2, h3, hpost _ _ _ _ _ _ ⟨Cond.after_iff.mpr rfl, Cond.after_iff.mpr (eq_i res_at (Term.int_eval (1)) rfl), trivial⟩ ⟨hq.1, hq.2.1, (hq.2.2.sift fun y hy => nomatch hy).mono (by decide) (by decide)⟩⟩
theorem main_1_1 : Claimed_1_1 := comes_1 fun _ _ _ _ _ _ h hF => ⟨h.1, hF⟩
theorem main_1_2 : Claimed_1_2 := comes_1 fun _ _ _ _ _ _ h hF => ⟨h.2.1, hF⟩
end Jvm.Pilot.@@N@@
namespace Jvm.Pilot.@@N@@
open Jvm Jvm.ClassFile Sem Op Lib Jvm.Free Jvm.Stand Jvm.Pilot.@@N@@.Jvm.D
/-! MADE BY PROGRAM (witnessworld.py) out of the Statement's table words and the real class files: 9 classes; the members and pool entries that the words name. The judged class is class 1, her method 1. -/
namespace start1
open Jvm.ClassFile
def u (s : String) : CpInfo := .utf8 (stringToUtf16 s)
/-- a pool by its gaps: so many unusable entries, then the entry; so many at the end -/
def gap : Nat → List CpInfo → List CpInfo
  | 0, r => r
  | n + 1, r => .unusable :: gap n r
def poolList (es : List (Nat × CpInfo)) (last : Nat) : List CpInfo := es.foldr (fun e r => gap e.1 (e.2 :: r)) (gap last [])
def pool (es : List (Nat × CpInfo)) (last : Nat) : Array CpInfo := ⟨poolList es last⟩
def fileOf (pool : Array CpInfo) (this : Nat) (attrs : Array Attribute := #[]) (ms : Array MethodInfo := #[]) (fl : Nat := 33) (sup : Nat := 0) (ifs : Array Nat := #[]) (fds : Array FieldInfo := #[]) : ClassFile where
  minorVersion := 0
  majorVersion := 65
  constantPool := pool
  accessFlags := fl
  thisClass := this
  superClass := sup
  interfaces := ifs
  fields := fds
  methods := ms
  attributes := attrs
def plain (name : String) (sup : Option ClassId) : Class where
  name := name
  kind := .ordinary
  loader := none
  accessFlags := 33
  super := sup
  interfaces := #[]
  cf := none
  fields := #[]
  methods := #[]
  instanceTypes := #[]
  staticTypes := #[]
  resolved := #[]
  callSites := []
  init := .initialized
  statics := none
  mirror := none

def pool0 : Array CpInfo := pool [(5, u "<init>"), (0, u "()V"), (1, .class_ 10), (1, u "java/lang/Object")] 113

def k0m0 : Method := { name := "<init>", desc := "()V", sig := { parameters := [], returnType := none }, accessFlags := 1, code := none }
/-- java/lang/Object -/
def k0 : Class := { plain "java/lang/Object" none with
  accessFlags := 33
  interfaces := #[]
  cf := some (fileOf pool0 8 #[] #[{ accessFlags := 1, nameIndex := 5, descriptorIndex := 6, attributes := #[] }] 33 0 #[] #[])
  fields := #[]
  methods := #[k0m0]
  instanceTypes := #[]
  staticTypes := #[]
  resolved := Array.replicate 124 none
  statics := none }

def pool1 : Array CpInfo := pool [(2, .class_ 4), (1, u "java/lang/Object"), (0, u "<init>"), (0, u "()V"), (0, .methodref 8 9), (0, .class_ 10), (0, .nameAndType 11 12), (0, u "com/example/bounded_crawl/boundedcrawl/web/FramingIsInterimPinLaw"), (0, u "agrees"), (0, u "(I)Z"), (0, .methodref 14 15), (0, .class_ 16), (0, .nameAndType 17 12), (0, u "com/example/bounded_crawl/boundedcrawl/web/Framing"), (0, u "isInterim"), (2, u "law"), (0, u "(II)Z")] 3

def k1m0 : Method := { name := "<init>", desc := "()V", sig := { parameters := [], returnType := none }, accessFlags := 2, code := none }
def k1c1 : Code := { maxStack := 3, maxLocals := 3, code := code, exceptionTable := #[], attributes := #[] }
def k1m1 : Method := { name := "law", desc := "(II)Z", sig := { parameters := [.int, .int], returnType := some .boolean }, accessFlags := 9, code := some k1c1 }
def k1c2 : Code := { maxStack := 2, maxLocals := 2, code := method_3_code, exceptionTable := #[], attributes := #[] }
def k1m2 : Method := { name := "agrees", desc := "(I)Z", sig := { parameters := [.int], returnType := some .boolean }, accessFlags := 10, code := some k1c2 }
/-- com/example/bounded_crawl/boundedcrawl/web/FramingIsInterimPinLaw -/
def k1 : Class := { plain "com/example/bounded_crawl/boundedcrawl/web/FramingIsInterimPinLaw" (some 0) with
  accessFlags := 49
  interfaces := #[]
  cf := some (fileOf pool1 8 #[] #[{ accessFlags := 2, nameIndex := 5, descriptorIndex := 6, attributes := #[] }, { accessFlags := 9, nameIndex := 20, descriptorIndex := 21, attributes := #[] }, { accessFlags := 10, nameIndex := 11, descriptorIndex := 12, attributes := #[] }] 49 2 #[] #[])
  fields := #[]
  methods := #[k1m0, k1m1, k1m2]
  instanceTypes := #[]
  staticTypes := #[]
  resolved := Array.replicate 25 none
  statics := none }

def pool2 : Array CpInfo := pool [(2, .class_ 4), (1, u "java/lang/Object"), (0, u "<init>"), (0, u "()V"), (4, .class_ 13), (1, u "com/example/bounded_crawl/boundedcrawl/web/Framing"), (0, u "statusLine"), (0, u "Ljava/io/ByteArrayOutputStream;"), (2, u "held"), (1, .class_ 22), (1, u "com/example/bounded_crawl/boundedcrawl/web/Framing$Part"), (0, u "STATUS_LINE"), (0, u "Lcom/example/bounded_crawl/boundedcrawl/web/Framing$Part;"), (2, u "part"), (2, u "chunkDigits"), (0, u "Z"), (2, u "size"), (0, u "J"), (6, u "chunked"), (21, u "start"), (2, u "position"), (8, u "chunkLeft"), (11, u "chunkFraming"), (21, u "lineLength"), (0, u "I"), (2, u "lineFirst"), (0, u "B"), (20, u "chunkSize"), (27, u "isInterim"), (2, u "interim"), (5, u "Ljava/util/regex/Pattern;"), (24, u "(I)Z"), (6, u "MOST_CHUNK_LINE"), (1, u "MOST_FRAMING")] 33

def k2m0 : Method := { name := "<init>", desc := "()V", sig := { parameters := [], returnType := none }, accessFlags := 0, code := none }
def k2c1 : Code := { maxStack := 2, maxLocals := 1, code := prog_44_method_2_code, exceptionTable := #[], attributes := #[] }
def k2m1 : Method := { name := "isInterim", desc := "(I)Z", sig := { parameters := [.int], returnType := some .boolean }, accessFlags := 8, code := some k2c1 }
/-- com/example/bounded_crawl/boundedcrawl/web/Framing -/
def k2 : Class := { plain "com/example/bounded_crawl/boundedcrawl/web/Framing" (some 0) with
  accessFlags := 32
  interfaces := #[]
  cf := some (fileOf pool2 11 #[.nestMembers #[20]] #[{ accessFlags := 0, nameIndex := 5, descriptorIndex := 6, attributes := #[] }, { accessFlags := 8, nameIndex := 164, descriptorIndex := 198, attributes := #[] }] 32 2 #[] #[{ accessFlags := 24, nameIndex := 205, descriptorIndex := 111, attributes := #[] }, { accessFlags := 24, nameIndex := 207, descriptorIndex := 111, attributes := #[] }, { accessFlags := 26, nameIndex := 23, descriptorIndex := 173, attributes := #[] }, { accessFlags := 18, nameIndex := 14, descriptorIndex := 15, attributes := #[] }, { accessFlags := 18, nameIndex := 18, descriptorIndex := 15, attributes := #[] }, { accessFlags := 2, nameIndex := 27, descriptorIndex := 24, attributes := #[] }, { accessFlags := 2, nameIndex := 167, descriptorIndex := 31, attributes := #[] }, { accessFlags := 2, nameIndex := 42, descriptorIndex := 31, attributes := #[] }, { accessFlags := 2, nameIndex := 34, descriptorIndex := 35, attributes := #[] }, { accessFlags := 2, nameIndex := 67, descriptorIndex := 35, attributes := #[] }, { accessFlags := 2, nameIndex := 64, descriptorIndex := 35, attributes := #[] }, { accessFlags := 2, nameIndex := 88, descriptorIndex := 35, attributes := #[] }, { accessFlags := 2, nameIndex := 110, descriptorIndex := 111, attributes := #[] }, { accessFlags := 2, nameIndex := 114, descriptorIndex := 115, attributes := #[] }, { accessFlags := 2, nameIndex := 136, descriptorIndex := 35, attributes := #[] }, { accessFlags := 2, nameIndex := 30, descriptorIndex := 31, attributes := #[] }, { accessFlags := 2, nameIndex := 76, descriptorIndex := 35, attributes := #[] }])
  fields := #[{ name := "MOST_CHUNK_LINE", type := .int, accessFlags := 24, slot := 0, constantValue := 0 }, { name := "MOST_FRAMING", type := .int, accessFlags := 24, slot := 1, constantValue := 0 }, { name := "STATUS_LINE", type := (.object "java/util/regex/Pattern"), accessFlags := 26, slot := 2, constantValue := 0 }, { name := "statusLine", type := (.object "java/io/ByteArrayOutputStream"), accessFlags := 18, slot := 0, constantValue := 0 }, { name := "held", type := (.object "java/io/ByteArrayOutputStream"), accessFlags := 18, slot := 1, constantValue := 0 }, { name := "part", type := (.object "com/example/bounded_crawl/boundedcrawl/web/Framing$Part"), accessFlags := 2, slot := 2, constantValue := 0 }, { name := "interim", type := .boolean, accessFlags := 2, slot := 3, constantValue := 0 }, { name := "chunked", type := .boolean, accessFlags := 2, slot := 4, constantValue := 0 }, { name := "size", type := .long, accessFlags := 2, slot := 5, constantValue := 0 }, { name := "position", type := .long, accessFlags := 2, slot := 6, constantValue := 0 }, { name := "start", type := .long, accessFlags := 2, slot := 7, constantValue := 0 }, { name := "chunkFraming", type := .long, accessFlags := 2, slot := 8, constantValue := 0 }, { name := "lineLength", type := .int, accessFlags := 2, slot := 9, constantValue := 0 }, { name := "lineFirst", type := .byte, accessFlags := 2, slot := 10, constantValue := 0 }, { name := "chunkSize", type := .long, accessFlags := 2, slot := 11, constantValue := 0 }, { name := "chunkDigits", type := .boolean, accessFlags := 2, slot := 12, constantValue := 0 }, { name := "chunkLeft", type := .long, accessFlags := 2, slot := 13, constantValue := 0 }]
  methods := #[k2m0, k2m1]
  instanceTypes := #[(.object "java/io/ByteArrayOutputStream"), (.object "java/io/ByteArrayOutputStream"), (.object "com/example/bounded_crawl/boundedcrawl/web/Framing$Part"), .boolean, .boolean, .long, .long, .long, .long, .int, .byte, .long, .boolean, .long]
  staticTypes := #[.int, .int, (.object "java/util/regex/Pattern")]
  resolved := Array.replicate 241 none
  statics := none }

def pool3 : Array CpInfo := pool [(1, u "java/lang/Cloneable"), (0, .class_ 1), (0, u "java/lang/Object"), (0, .class_ 3)] 3

/-- java/lang/Cloneable -/
def k3 : Class := { plain "java/lang/Cloneable" (some 0) with
  accessFlags := 1537
  interfaces := #[]
  cf := some (fileOf pool3 2 #[] #[] 1537 4 #[] #[])
  fields := #[]
  methods := #[]
  instanceTypes := #[]
  staticTypes := #[]
  resolved := Array.replicate 8 none
  statics := none }

def pool4 : Array CpInfo := pool [(1, u "java/io/Serializable"), (0, .class_ 1), (0, u "java/lang/Object"), (0, .class_ 3)] 3

/-- java/io/Serializable -/
def k4 : Class := { plain "java/io/Serializable" (some 0) with
  accessFlags := 1537
  interfaces := #[]
  cf := some (fileOf pool4 2 #[] #[] 1537 4 #[] #[])
  fields := #[]
  methods := #[]
  instanceTypes := #[]
  staticTypes := #[]
  resolved := Array.replicate 8 none
  statics := none }

/-- the primitive byte -/
def k5 : Class := { plain "byte" none with kind := .primitive 'B', accessFlags := 0x411 }
/-- [B -/
def k6 : Class := { plain "[B" (some 0) with kind := .array 5 .byte, interfaces := #[3, 4], accessFlags := 1041 }

/-- the primitive int -/
def k7 : Class := { plain "int" none with kind := .primitive 'I', accessFlags := 0x411 }
/-- [I -/
def k8 : Class := { plain "[I" (some 0) with kind := .array 7 .int, interfaces := #[3, 4], accessFlags := 1041 }

def heap : Heap := #[]
def classes : Array Class := #[k0, k1, k2, k3, k4, k5, k6, k7, k8]
def interned : List (Array UInt16 × Addr) := []
def slotsUsed : Nat := 0
def theMethod : MethodId := ⟨1, 1⟩
def args0 : Array Value := #[.int 5, .int 7]
def aboutOver (below : List Frame) : State where
  vm := { classes := classes, interned := interned.toArray }
  heap := heap
  slotsUsed := slotsUsed
  threads := #[{ frames := .invoking theMethod args0 :: below }]
def below0 : List Frame := [.native { method := ⟨0, 0⟩, args := #[] }]
def about1 : State := aboutOver below0
def p0 : Program := .bare "" "" ""
def e0 : Env := launch0.env 0 0 0
theorem w_frames : about1.frames = Frame.invoking theMethod args0 :: below0 := rfl
set_option maxRecDepth 65536 in
theorem w_args : argsFit about1.vm theMethod args0 = true := by decide +kernel
set_option maxRecDepth 65536 in
theorem w_heap : heapFits about1 = true := by decide +kernel
set_option maxRecDepth 65536 in
theorem w_runnable : about1.curStatus? = some .runnable := by decide +kernel
set_option maxRecDepth 65536 in
theorem w_alone : about1.alone = true := by decide +kernel
set_option maxRecDepth 65536 in
theorem w_named : about1.methodNamed? x = some theMethod := by decide +kernel
set_option maxRecDepth 65536 in
theorem w_hears : about1.hears theMethod below0 = true := by decide +kernel
set_option maxRecDepth 65536 in
theorem w_ripe : about1.ripe theMethod args0 below0 = true := by decide +kernel
theorem w_running : about1.status = .running := rfl
set_option maxRecDepth 65536 in
theorem w_room : about1.hasRoom e0.platform room_1 = true :=
  launch0.hasRoom_least _ room_1 (by decide +kernel) (by decide +kernel) (by decide +kernel) (by decide +kernel) (by decide +kernel) (by decide +kernel)
theorem allAtoms_all (ts : List Jvm.Cond) (a : Array Jvm.Value) (st : Jvm.State) : (allAtoms ts).before a st = ts.all (fun c => c.before a st) := by
  induction ts with
  | nil => rfl
  | cons c t ih =>
    show (Jvm.Cond.and c (allAtoms t)).before a st = _
    rw [Jvm.Cond.before_and, ih, List.all_cons]
def words1 : List Jvm.Cond := Jvm.Cond.code x code maxLocals ret :: tables_1
/-- a 'code' word, met by the world's own term for the bytes: nothing is compared byte by byte -/
theorem code_word {y : MethodName} {bytes : ByteArray} {mx : Nat} {rt : Option FieldType} {a : Array Value} {s : State} {m : MethodId} {meth : Method} {c : Code} (h1 : s.methodNamed? y = some m) (h2 : s.vm.method? m = some meth) (h3 : meth.code = some c) (h4 : c.code = bytes)
    (h5 : (c.maxLocals == mx && c.exceptionTable.isEmpty && decide (c.maxStack ≤ mostOperands) && decide (meth.sig.returnType = rt) && !meth.locks && decide (parseMethodDescriptor y.desc = some meth.sig)) = true) : (Jvm.Cond.code y bytes mx rt).before a s = true := by
  simp only [Bool.and_eq_true, beq_iff_eq, Bool.not_eq_true', decide_eq_true_eq] at h5
  obtain ⟨⟨⟨⟨⟨g1, g2⟩, g3⟩, g4⟩, g5⟩, g6⟩ := h5
  simp [Cond.before, Cond.holds, Cond.value, h1, h2, h3, h4, g1, g2, g3, g4, g5, g6]
def isCode : Jvm.Cond → Bool
  | .code _ _ _ _ => true
  | _ => false
theorem all_split {L : List Jvm.Cond} {P : Jvm.Cond → Bool} (h1 : L.all (fun c => isCode c || P c) = true) (h2 : ∀ c ∈ L.filter isCode, P c = true) : L.all P = true := by
  refine List.all_eq_true.mpr fun c hc => ?_
  have h := List.all_eq_true.mp h1 c hc
  rcases Bool.eq_false_or_eq_true (isCode c) with hi | hi
  · exact h2 c (List.mem_filter.mpr ⟨hc, hi⟩)
  · simpa [hi] using h
set_option maxRecDepth 65536 in
theorem w_c0 : (Jvm.Cond.code x code maxLocals ret).before args0 about1 = true := code_word (m := ⟨1, 1⟩) (meth := k1m1) (c := k1c1) (by decide +kernel) rfl rfl rfl (by decide +kernel)
set_option maxRecDepth 65536 in
theorem w_c1 : (Jvm.Cond.code ({ cls := "com/example/bounded_crawl/boundedcrawl/web/FramingIsInterimPinLaw", name := "agrees", desc := "(I)Z" } : Jvm.MethodName) method_3_code (2 : Nat) (Option.some Jvm.ClassFile.FieldType.boolean)).before args0 about1 = true := code_word (m := ⟨1, 2⟩) (meth := k1m2) (c := k1c2) (by decide +kernel) rfl rfl rfl (by decide +kernel)
set_option maxRecDepth 65536 in
theorem w_c2 : (Jvm.Cond.code ({ cls := "com/example/bounded_crawl/boundedcrawl/web/Framing", name := "isInterim", desc := "(I)Z" } : Jvm.MethodName) prog_44_method_2_code (1 : Nat) (Option.some Jvm.ClassFile.FieldType.boolean)).before args0 about1 = true := code_word (m := ⟨2, 1⟩) (meth := k2m1) (c := k2c1) (by decide +kernel) rfl rfl rfl (by decide +kernel)
def codes1 : List Jvm.Cond := [Jvm.Cond.code x code maxLocals ret, Jvm.Cond.code ({ cls := "com/example/bounded_crawl/boundedcrawl/web/FramingIsInterimPinLaw", name := "agrees", desc := "(I)Z" } : Jvm.MethodName) method_3_code (2 : Nat) (Option.some Jvm.ClassFile.FieldType.boolean), Jvm.Cond.code ({ cls := "com/example/bounded_crawl/boundedcrawl/web/Framing", name := "isInterim", desc := "(I)Z" } : Jvm.MethodName) prog_44_method_2_code (1 : Nat) (Option.some Jvm.ClassFile.FieldType.boolean)]
set_option maxRecDepth 65536 in
theorem codes_eq : words1.filter isCode = codes1 := rfl
theorem w_codes : ∀ c ∈ words1.filter isCode, c.before args0 about1 = true := by
  rw [codes_eq]
  intro c hc
  simp only [codes1, List.mem_cons, List.not_mem_nil, or_false] at hc
  rcases hc with rfl | rfl | rfl
  · exact w_c0
  · exact w_c1
  · exact w_c2
set_option maxRecDepth 65536 in
theorem w_t1 : words1.all (fun c => isCode c || c.before args0 about1) = true := by decide +kernel
theorem w_tables : (allAtoms (Jvm.Cond.code x code maxLocals ret :: tables_1)).before args0 about1 = true := by
  rw [allAtoms_all]
  show words1.all (fun c => c.before args0 about1) = true
  refine all_split ?_ w_codes
  rw [w_t1]
set_option maxRecDepth 65536 in
theorem w_case : (Jvm.Cond.and given_1 narrow_1).before args0 about1 = true := by decide +kernel
theorem w_applies : (headSpec (Jvm.Cond.code x code maxLocals ret :: tables_1) room_1).applies x e0.platform about1 = true :=
  (Spec.applies_iff w_frames).mpr ⟨w_running, w_runnable, w_alone, w_named, w_hears, w_ripe, w_room, w_tables⟩
theorem atStart : AtStart classFile x code maxLocals ret World_1 tables_1 room_1 Calls_1 rest_1 Pre_1 launch0 p0 e0 about1 theMethod args0 below0 :=
  ⟨lists_1, trivial, launch0.admits_env _ _ _, launch0.least_env, fairChoices_fair.cas, fairChoices_fair.clock, w_frames, w_args, w_heap, w_applies, trivial, trivial, w_case⟩
end start1
theorem witness_1 : WitnessClaimed_1 := ⟨start1.p0, start1.e0, start1.about1, start1.theMethod, start1.args0, start1.below0, start1.atStart⟩
end Jvm.Pilot.@@N@@
