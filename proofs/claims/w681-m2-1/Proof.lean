import JvmDerived
import JvmDerived.Pilot.@@N@@Statement
import JvmDerived.Pilot.@@N@@Code
set_option linter.unusedVariables false
set_option linter.unusedSimpArgs false
namespace Jvm.Pilot.@@N@@
open Jvm Jvm.ClassFile Sem Op Lib Jvm.Free Jvm.Stand Jvm.LawKit Jvm.RoadKit Bundle Jvm.Pilot.@@N@@.Jvm.D
section Own0
theorem own_fld_to {Z : State} {h : Heap} {a : Addr} {C n d : String} {v v' : Value} (F : Fld Z h a C n d v) (q : v = v') : Fld Z h a C n d v' := q ▸ F
theorem own_sta_keep {Z : State} {h h' : Heap} {C n d : String} {v : Value} {ws : List Addr} (F : Sta Z h C n d v) (K : Keep h h' ws) (q : ∀ x ∈ ws, ∀ c : Cell, h[x]? = some c → c.vm.isStatics = false) : Sta Z h' C n d v := by
  obtain ⟨cf, i, k, f, st, cell, h1, h2, h3, h4, h5, h6, h7⟩ := F
  exact ⟨cf, i, k, f, st, cell, h1, h2, h3, h4, K.2.1 st cell h5 (fun y => by rw [q st y cell h5] at h6; cases h6), h6, h7⟩
theorem own_ins_keep {Z : State} {h h' : Heap} {a : Addr} {C : String} {bo : Bool} {ws : List Addr} (F : Ins Z h a C bo) (K : Keep h h' ws) : Ins Z h' a C bo := by
  obtain ⟨cell, cT, h1, h2, h3⟩ := F
  obtain ⟨c', e1, e2, e3, -⟩ := K.2.2 a cell h1
  exact ⟨c', cT, e1, h2, by rw [e2, e3]; exact h3⟩
theorem notsta_exa {Z : State} {h : Heap} {a : Addr} {C : String} (F : Exa Z h a C) : ∀ c : Cell, h[a]? = some c → c.vm.isStatics = false := fun c hc => by
  obtain ⟨cell, _, h1, -, -, h4, -⟩ := F
  cases hc.symm.trans h1; exact h4
theorem eqi_v {args : Array Value} {first s : State} {o : Option Outcome} {idx : List Nat} {a : Term} {k : Int32} (h : (Cond.eq a (.int k)).value args first o s idx = some true) : a.eval args first o idx s = some (.int k) := by
  obtain ⟨x, y, e1, e2, k1, k2⟩ := cmp_v (Or.inl h)
  have e3 : (Term.int k).eval args first o idx s = some (.int k) := rfl
  cases e3.symm.trans e2
  cases x <;> simp [Cond.value, e1, e3] at h
  rw [e1, h]
end Own0
section Own
variable {p : Program} {l : Launch} {e : Env} {R : Room} {s : State} {m : MethodId} {args : Array Value} {below : List Frame} {meth : Method} {c : Code} {T T' : State} {locs : List Loc} {cells slots : Nat} {Z : State} {h h' : Heap} {Q : Option Value → Heap → List Loc → Prop} {kc ks : Nat} {a b : Addr}
/-- from T the method comes to its end, and Q holds of what it returns, of the heap and of the written places -/
def Goes (p : Program) (e : Env) (below : List Frame) (s : State) (Q : Option Value → Heap → List Loc → Prop) (kc ks : Nat) (T : State) : Prop :=
  ∃ s₂ o, Steps p.tables e below T s₂ ∧ s₂.status = .running ∧ Ended s₂ below o ∧ ∃ v L, o = .returned v ∧ Q v s₂.heap L ∧ FrameEnd s o s₂ L kc ks
theorem Goes.step (st : ∀ t, Steps p.tables e below T' t → Steps p.tables e below T t) (k : Goes p e below s Q kc ks T') : Goes p e below s Q kc ks T := by
  obtain ⟨s₂, o, h1, h2⟩ := k; exact ⟨s₂, o, st _ h1, h2⟩
theorem Goes.ret (X : Stand p l e R s m args below meth c T locs cells slots) {v : Option Value} (hv : meth.sig.returnType = none → v = none) (hlocks : meth.locks = false) {T₀ : State}
    (st : ∀ fs, (∀ (f : JFrame) (acts : List Action), f.method = m → f.locked = none → f.entered = [] → (doReturn e (T.setTop f) acts v).1 = T.setFrames fs) → Steps p.tables e below T₀ (T.setFrames fs))
    (hq : Q v T.heap locs) (hc : cells ≤ kc) (hs : slots ≤ ks) : Goes p e below s Q kc ks T₀ := by
  obtain ⟨fs, hr, hrun, hended, hW, hsame⟩ := X.leave (v := v) hv hlocks
  exact ⟨_, _, st fs hr, hrun, hended, _, _, rfl, hq, ⟨_, rfl⟩, hW, hsame.mono hc hs⟩
theorem Goes.retZ (X : Stand p l e R s m args below meth c T locs cells slots) (hx : p.tables.exec = Jvm.exec) (hlocks : meth.locks = false) {pc : Nat} {Ls : Array Slot} {z r : Int32} {t : FieldType} {rest : List Value} (hret : meth.sig.returnType = some t) (ht : t = .boolean ∨ t = .byte ∨ t = .char ∨ t = .short)
    (hd : decode c.code pc = .ok (.ireturn, 1)) (hz : nar t z = r) (hq : Q (some (.int r)) T.heap locs) (hc : cells ≤ kc) (hs : slots ≤ ks) : Goes p e below s Q kc ks (T.setTop (mkF m pc Ls (.int z :: rest))) := by
  subst hz
  exact Goes.ret X (fun h => by rw [hret] at h; cases h) hlocks (fun fs hr => retN X hx hret ht hd hr) hq hc hs
theorem Goes.retI (X : Stand p l e R s m args below meth c T locs cells slots) (hx : p.tables.exec = Jvm.exec) (hlocks : meth.locks = false) {pc : Nat} {Ls : Array Slot} {z r : Int32} {rest : List Value} (hret : meth.sig.returnType = some .int)
    (hd : decode c.code pc = .ok (.ireturn, 1)) (hz : z = r) (hq : Q (some (.int r)) T.heap locs) (hc : cells ≤ kc) (hs : slots ≤ ks) : Goes p e below s Q kc ks (T.setTop (mkF m pc Ls (.int z :: rest))) := by
  subst hz
  exact Goes.ret X (fun h => by rw [hret] at h; cases h) hlocks (fun fs hr => retOut X hx hret rfl (Or.inl ⟨rfl, Or.inl rfl, z, rfl⟩) hd hr) hq hc hs
theorem Goes.retJ (X : Stand p l e R s m args below meth c T locs cells slots) (hx : p.tables.exec = Jvm.exec) (hlocks : meth.locks = false) {pc : Nat} {Ls : Array Slot} {z r : Int64} {rest : List Value} (hret : meth.sig.returnType = some .long)
    (hd : decode c.code pc = .ok (.lreturn, 1)) (hz : z = r) (hq : Q (some (.long r)) T.heap locs) (hc : cells ≤ kc) (hs : slots ≤ ks) : Goes p e below s Q kc ks (T.setTop (mkF m pc Ls (.long z :: rest))) := by
  subst hz
  exact Goes.ret X (fun h => by rw [hret] at h; cases h) hlocks (fun fs hr => retOut X hx hret rfl (Or.inr (Or.inl ⟨rfl, rfl, z, rfl⟩)) hd hr) hq hc hs
theorem Goes.retR (X : Stand p l e R s m args below meth c T locs cells slots) (hx : p.tables.exec = Jvm.exec) (hlocks : meth.locks = false) {pc : Nat} {Ls : Array Slot} {z r : Value} {t : FieldType} {rest : List Value} (hret : meth.sig.returnType = some t) (ht : t.isReference = true) (hn : narrow t z = z) (hw : z.isRef = true)
    (hd : decode c.code pc = .ok (.areturn, 1)) (hz : z = r) (hq : Q (some r) T.heap locs) (hc : cells ≤ kc) (hs : slots ≤ ks) : Goes p e below s Q kc ks (T.setTop (mkF m pc Ls (z :: rest))) := by
  subst hz
  exact Goes.ret X (fun h => by rw [hret] at h; cases h) hlocks (fun fs hr => retOut X hx hret hn (Or.inr (Or.inr (Or.inr (Or.inr ⟨rfl, ht, hw⟩)))) hd hr) hq hc hs
theorem Goes.retV (X : Stand p l e R s m args below meth c T locs cells slots) (hx : p.tables.exec = Jvm.exec) (hlocks : meth.locks = false) {pc : Nat} {Ls : Array Slot} (hret : meth.sig.returnType = none)
    (hd : decode c.code pc = .ok (.return_, 1)) (hq : Q none T.heap locs) (hc : cells ≤ kc) (hs : slots ≤ ks) : Goes p e below s Q kc ks (T.setTop (mkF m pc Ls [])) :=
  Goes.ret X (fun _ => rfl) hlocks (fun fs hr => X.returnOut hx hret hd hr) hq hc hs
/-- the array at a holds vs -/
def Ara (Z : State) (h : Heap) (a : Addr) (ty : FieldType) (vs : List Value) : Prop := ∃ cl : Cell, Arr Z h a cl ty ∧ cl.slots.toList = vs ∧ vs.length < 2 ^ 31 ∧ (∀ v ∈ vs, fits ty v = true) ∧ ∀ C, ty = .object C → Ovr Z cl.cls C
variable {ty : FieldType} {vs : List Value} {sl : Nat} {v : Value} {ws : List Addr}
theorem Ara.lt (F : Ara Z h a ty vs) : a < h.size := by obtain ⟨c, A, -⟩ := F; exact A.lt
theorem Ara.ext (F : Ara Z h a ty vs) (E : Ext h h') : Ara Z h' a ty vs := by obtain ⟨c, A, r⟩ := F; exact ⟨c, A.ext E, r⟩
theorem Ara.other (F : Ara Z h b ty vs) (W : Wr h h' a sl v) (q : b ≠ a) : Ara Z h' b ty vs := by obtain ⟨c, A, r⟩ := F; exact ⟨c, A.other W q, r⟩
theorem Ara.keep (F : Ara Z h a ty vs) (K : Keep h h' ws) (q : a ∉ ws) : Ara Z h' a ty vs := by obtain ⟨c, A, r⟩ := F; exact ⟨c, ⟨K.2.1 a c A.1 q, A.2⟩, r⟩
theorem fits_dflt (ty : FieldType) : fits ty (defaultValue ty) = true := by cases ty <;> rfl
theorem Ara.new {k : ClassId} {z : Int32} (A : Arr Z h a (newA k ty z) ty) (q : ¬ z < 0) (e : List.replicate z.toNatClampNeg (defaultValue ty) = vs) (O : ∀ C, ty = .object C → Ovr Z k C) : Ara Z h a ty vs := by
  subst e
  refine ⟨_, A, by simp [newA], by simpa using (back32 q).2, fun v hv => ?_, O⟩
  rw [(List.mem_replicate.mp hv).2]; exact fits_dflt ty
theorem Ara.same {j : Int32} {cl : Cell} (A : Arr Z h a cl ty) (e : cl.slots.toList = vs) (hl : vs.length < 2 ^ 31) (hf : ∀ v ∈ vs, fits ty v = true) (O : ∀ C, ty = .object C → Ovr Z cl.cls C) (hv : fits ty v = true) (W : Wr h h' a j.toNatClampNeg v) : Ara Z h' a ty (vs.set j.toNatClampNeg v) := by
  refine ⟨_, A.same W, by simp [Cell.setSlot, ← e], by simpa using hl, fun u hu => ?_, O⟩
  rcases List.mem_or_eq_of_mem_set hu with q | q
  · exact hf u q
  · rw [q]; exact hv
theorem inb {j : Int32} {cl : Cell} (e : cl.slots.toList = vs) (h0 : ¬ j < 0) (hj : j.toNatClampNeg < vs.length) : ¬ (j < 0 ∨ cl.slots.size ≤ j.toNatClampNeg) := by
  rintro (q | q)
  · exact h0 q
  · rw [← e] at hj; simp at hj; omega
theorem getb {j : Int32} {cl : Cell} (e : cl.slots.toList = vs) (hv : vs[j.toNatClampNeg]? = some v) : cl.slots[j.toNatClampNeg]? = some v := by rw [← e] at hv; simpa using hv
theorem ltb {n : Nat} (hv : vs[n]? = some v) : n < vs.length := (List.getElem?_eq_some_iff.mp hv).1
theorem lenb {cl : Cell} (e : cl.slots.toList = vs) : cl.slots.size = vs.length := by rw [← e]; simp
theorem notsta_ara (F : Ara Z h a ty vs) : ∀ c : Cell, h[a]? = some c → c.vm.isStatics = false := fun c hc => by
  obtain ⟨cl, A, -⟩ := F
  cases hc.symm.trans A.1; exact A.plain
theorem Ara.to {vs' : List Value} (F : Ara Z h a ty vs) (q : vs = vs') : Ara Z h a ty vs' := q ▸ F
end Own
theorem own_pn0 : plainName "com/example/zugzwang/zugzwang/game/KriegspielAroundPinLaw" = true := by first | (simp [plainName, overriddenIn]; done) | decide +kernel
theorem own_pn1 : plainName "com/example/zugzwang/zugzwang/game/Kriegspiel" = true := by first | (simp [plainName, overriddenIn]; done) | decide +kernel
theorem own_pd0 : parseMethodDescriptor "(II)J" = some ⟨[.int, .int], some .long⟩ := by decide +kernel
theorem own_pd1 : parseMethodDescriptor "(J)J" = some ⟨[.long], some .long⟩ := by decide +kernel
def f1 (p0 : Int32) (p1 : Int32) : Int64 := (if p0 < (0 : Int32) then (0 : Int64) else (if (7 : Int32) < p0 then (0 : Int64) else (if p1 < (0 : Int32) then (0 : Int64) else (if (7 : Int32) < p1 then (0 : Int64) else ((1 : Int64) <<< (((p1 * (8 : Int32)) + p0) &&& 0x3f).toInt64)))))
theorem own_d1_0 : decode method_2_code 0 = .ok (.iload_n 0, 1) := by decide +kernel
theorem own_d1_1 : decode method_2_code 1 = .ok (.ifCond .lt 19, 3) := by decide +kernel
theorem own_d1_4 : decode method_2_code 4 = .ok (.iload_n 0, 1) := by decide +kernel
theorem own_d1_5 : decode method_2_code 5 = .ok (.bipush 7, 2) := by decide +kernel
theorem own_d1_7 : decode method_2_code 7 = .ok (.if_icmp .gt 13, 3) := by decide +kernel
theorem own_d1_10 : decode method_2_code 10 = .ok (.iload_n 1, 1) := by decide +kernel
theorem own_d1_11 : decode method_2_code 11 = .ok (.ifCond .lt 9, 3) := by decide +kernel
theorem own_d1_14 : decode method_2_code 14 = .ok (.iload_n 1, 1) := by decide +kernel
theorem own_d1_15 : decode method_2_code 15 = .ok (.bipush 7, 2) := by decide +kernel
theorem own_d1_17 : decode method_2_code 17 = .ok (.if_icmp .le 5, 3) := by decide +kernel
theorem own_d1_20 : decode method_2_code 20 = .ok (.lconst 0, 1) := by decide +kernel
theorem own_d1_21 : decode method_2_code 21 = .ok (.lreturn, 1) := by decide +kernel
theorem own_d1_22 : decode method_2_code 22 = .ok (.lconst 1, 1) := by decide +kernel
theorem own_d1_23 : decode method_2_code 23 = .ok (.iload_n 1, 1) := by decide +kernel
theorem own_d1_24 : decode method_2_code 24 = .ok (.bipush 8, 2) := by decide +kernel
theorem own_d1_26 : decode method_2_code 26 = .ok (.imul, 1) := by decide +kernel
theorem own_d1_27 : decode method_2_code 27 = .ok (.iload_n 0, 1) := by decide +kernel
theorem own_d1_28 : decode method_2_code 28 = .ok (.iadd, 1) := by decide +kernel
theorem own_d1_29 : decode method_2_code 29 = .ok (.lshl, 1) := by decide +kernel
theorem own_d1_30 : decode method_2_code 30 = .ok (.lreturn, 1) := by decide +kernel
theorem own_ef1 (m : MethodId) (p0 : Int32) (p1 : Int32) : entryFrame m #[(.int p0), (.int p1)] 2 = mkF m 0 #[.val (.int p0), .val (.int p1)] [] := by first | (simp [entryFrame, mkF, argsToLocals, Value.category, maxLocals]; done) | rfl
abbrev RM1 : Room := ({ frames := 0, cells := 0, slots := 0, locals := 0 } : Room)
abbrev kC1 : Nat := 0
abbrev kS1 : Nat := 0
def Q1 (Z : State) (p0 : Int32) (p1 : Int32) (h0 : Heap) (v : Option Value) (h : Heap) (L : List Loc) : Prop := v = some (.long (f1 p0 p1)) ∧ L = [] ∧ h = h0
set_option maxRecDepth 65536 in
set_option maxHeartbeats 40000000 in
theorem rm1 (l : Launch) (Z : State) (tA : Array Value) (hw : ∀ d ∈ tables_1, d.before tA Z = true) (ws : List Jvm.Cond) (p0 : Int32) (p1 : Int32) (h0 : Heap)  :
    MetFree l (⟨"com/example/zugzwang/zugzwang/game/KriegspielAroundPinLaw", "cell", "(II)J"⟩ : MethodName) (head1 (Jvm.Cond.code (⟨"com/example/zugzwang/zugzwang/game/KriegspielAroundPinLaw", "cell", "(II)J"⟩ : MethodName) method_2_code 2 (some .long) :: ws) RM1) (fun a U => a = #[(.int p0), (.int p1)] ∧ Z.Warmed39 U.vm ∧ U.heap = h0) (fun _ _ _ _ _ => True) (fun _ U o U' => ∃ v L, o = .returned v ∧ Q1 Z p0 p1 h0 v U'.heap L ∧ FrameEnd U o U' L RM1.cells RM1.slots) := by
  refine MetFree.of_bodySF (plainFor_of_name own_pn0) hisR ?_
  intro p e s m args below meth c s₁ Bd hml0 hP hK
  obtain ⟨rfl, hZ, hh⟩ := hP
  have hx := Bd.exec
  have hby := Bd.bytes
  have hml : c.maxLocals = 2 := hml0
  have hown : s.vm.findClass "com/example/zugzwang/zugzwang/game/KriegspielAroundPinLaw" = some m.cls := findClass_of_methodNamed Bd.named
  have hnm := (name_of_methodNamed Bd.named Bd.method).1
  have X0 : Stand p l e RM1 s m #[(.int p0), (.int p1)] below meth c s₁ [] 0 0 := Stand.of_body Bd
  have e0 : s₁.heap = h0 := by rw [← hh, Bd.state]; rfl
  show Goes p e below s (Q1 Z p0 p1 h0) kC1 kS1 (s₁.setTop (entryFrame m #[(.int p0), (.int p1)] 2))
  refine Goes.step (fun t k => castTop (own_ef1 m p0 p1) k) ?_
  show Goes _ _ _ _ _ _ _ (s₁.setTop (mkF m 0 #[.val (.int p0), .val (.int p1)] []))
  refine Goes.step (fun t k => XS.iloadN X0.here hx rfl (hb hby own_d1_0) rfl k) ?_
  show Goes _ _ _ _ _ _ _ (s₁.setTop (mkF m 1 #[.val (.int p0), .val (.int p1)] [(.int p0)]))
  by_cases hc1_1 : p0 < (0 : Int32)
  · refine Goes.step (fun t k => XS.ifYes X0.here hx rfl (pc0 := 1) (pc' := 20) rfl (hb hby own_d1_1) rfl ((if0 _ _).trans (tlt hc1_1).1) (by decide) (by decide) k) ?_
    show Goes _ _ _ _ _ _ _ (s₁.setTop (mkF m 20 #[.val (.int p0), .val (.int p1)] []))
    refine Goes.step (fun t k => XS.lconst X0.here hx rfl (hb hby own_d1_20) k) ?_
    show Goes _ _ _ _ _ _ _ (s₁.setTop (mkF m 21 #[.val (.int p0), .val (.int p1)] [(.long (0 : Int64))]))
    exact Goes.retJ X0 hx Bd.notSynchronized (r := (f1 p0 p1)) Bd.returns (hb hby own_d1_21) ((if_pos hc1_1).symm) ⟨rfl, rfl, e0⟩ (by decide) (by decide)
  · refine Goes.step (fun t k => XS.ifNo X0.here hx rfl (hb hby own_d1_1) rfl ((if0 _ _).trans (flt hc1_1).1) k) ?_
    show Goes _ _ _ _ _ _ _ (s₁.setTop (mkF m 4 #[.val (.int p0), .val (.int p1)] []))
    refine Goes.step (fun t k => XS.iloadN X0.here hx rfl (hb hby own_d1_4) rfl k) ?_
    show Goes _ _ _ _ _ _ _ (s₁.setTop (mkF m 5 #[.val (.int p0), .val (.int p1)] [(.int p0)]))
    refine Goes.step (fun t k => XS.bipush X0.here hx rfl (hb hby own_d1_5) k) ?_
    show Goes _ _ _ _ _ _ _ (s₁.setTop (mkF m 7 #[.val (.int p0), .val (.int p1)] [(.int (7 : Int32)), (.int p0)]))
    by_cases hc7_2 : (7 : Int32) < p0
    · refine Goes.step (fun t k => XS.icmpYes X0.here hx rfl (pc0 := 7) (pc' := 20) rfl (hb hby own_d1_7) rfl (tlt hc7_2).2.2.1 (by decide) (by decide) k) ?_
      show Goes _ _ _ _ _ _ _ (s₁.setTop (mkF m 20 #[.val (.int p0), .val (.int p1)] []))
      refine Goes.step (fun t k => XS.lconst X0.here hx rfl (hb hby own_d1_20) k) ?_
      show Goes _ _ _ _ _ _ _ (s₁.setTop (mkF m 21 #[.val (.int p0), .val (.int p1)] [(.long (0 : Int64))]))
      exact Goes.retJ X0 hx Bd.notSynchronized (r := (f1 p0 p1)) Bd.returns (hb hby own_d1_21) (((if_neg hc1_1).trans (if_pos hc7_2)).symm) ⟨rfl, rfl, e0⟩ (by decide) (by decide)
    · refine Goes.step (fun t k => XS.icmpNo X0.here hx rfl (hb hby own_d1_7) rfl (flt hc7_2).2.2.1 k) ?_
      show Goes _ _ _ _ _ _ _ (s₁.setTop (mkF m 10 #[.val (.int p0), .val (.int p1)] []))
      refine Goes.step (fun t k => XS.iloadN X0.here hx rfl (hb hby own_d1_10) rfl k) ?_
      show Goes _ _ _ _ _ _ _ (s₁.setTop (mkF m 11 #[.val (.int p0), .val (.int p1)] [(.int p1)]))
      by_cases hc11_3 : p1 < (0 : Int32)
      · refine Goes.step (fun t k => XS.ifYes X0.here hx rfl (pc0 := 11) (pc' := 20) rfl (hb hby own_d1_11) rfl ((if0 _ _).trans (tlt hc11_3).1) (by decide) (by decide) k) ?_
        show Goes _ _ _ _ _ _ _ (s₁.setTop (mkF m 20 #[.val (.int p0), .val (.int p1)] []))
        refine Goes.step (fun t k => XS.lconst X0.here hx rfl (hb hby own_d1_20) k) ?_
        show Goes _ _ _ _ _ _ _ (s₁.setTop (mkF m 21 #[.val (.int p0), .val (.int p1)] [(.long (0 : Int64))]))
        exact Goes.retJ X0 hx Bd.notSynchronized (r := (f1 p0 p1)) Bd.returns (hb hby own_d1_21) (((if_neg hc1_1).trans ((if_neg hc7_2).trans (if_pos hc11_3))).symm) ⟨rfl, rfl, e0⟩ (by decide) (by decide)
      · refine Goes.step (fun t k => XS.ifNo X0.here hx rfl (hb hby own_d1_11) rfl ((if0 _ _).trans (flt hc11_3).1) k) ?_
        show Goes _ _ _ _ _ _ _ (s₁.setTop (mkF m 14 #[.val (.int p0), .val (.int p1)] []))
        refine Goes.step (fun t k => XS.iloadN X0.here hx rfl (hb hby own_d1_14) rfl k) ?_
        show Goes _ _ _ _ _ _ _ (s₁.setTop (mkF m 15 #[.val (.int p0), .val (.int p1)] [(.int p1)]))
        refine Goes.step (fun t k => XS.bipush X0.here hx rfl (hb hby own_d1_15) k) ?_
        show Goes _ _ _ _ _ _ _ (s₁.setTop (mkF m 17 #[.val (.int p0), .val (.int p1)] [(.int (7 : Int32)), (.int p1)]))
        by_cases hc17_4 : (7 : Int32) < p1
        · refine Goes.step (fun t k => XS.icmpNo X0.here hx rfl (hb hby own_d1_17) rfl (tlt hc17_4).2.2.2 k) ?_
          show Goes _ _ _ _ _ _ _ (s₁.setTop (mkF m 20 #[.val (.int p0), .val (.int p1)] []))
          refine Goes.step (fun t k => XS.lconst X0.here hx rfl (hb hby own_d1_20) k) ?_
          show Goes _ _ _ _ _ _ _ (s₁.setTop (mkF m 21 #[.val (.int p0), .val (.int p1)] [(.long (0 : Int64))]))
          exact Goes.retJ X0 hx Bd.notSynchronized (r := (f1 p0 p1)) Bd.returns (hb hby own_d1_21) (((if_neg hc1_1).trans ((if_neg hc7_2).trans ((if_neg hc11_3).trans (if_pos hc17_4)))).symm) ⟨rfl, rfl, e0⟩ (by decide) (by decide)
        · refine Goes.step (fun t k => XS.icmpYes X0.here hx rfl (pc0 := 17) (pc' := 22) rfl (hb hby own_d1_17) rfl (flt hc17_4).2.2.2 (by decide) (by decide) k) ?_
          show Goes _ _ _ _ _ _ _ (s₁.setTop (mkF m 22 #[.val (.int p0), .val (.int p1)] []))
          refine Goes.step (fun t k => XS.lconst X0.here hx rfl (hb hby own_d1_22) k) ?_
          show Goes _ _ _ _ _ _ _ (s₁.setTop (mkF m 23 #[.val (.int p0), .val (.int p1)] [(.long (1 : Int64))]))
          refine Goes.step (fun t k => XS.iloadN X0.here hx rfl (hb hby own_d1_23) rfl k) ?_
          show Goes _ _ _ _ _ _ _ (s₁.setTop (mkF m 24 #[.val (.int p0), .val (.int p1)] [(.int p1), (.long (1 : Int64))]))
          refine Goes.step (fun t k => XS.bipush X0.here hx rfl (hb hby own_d1_24) k) ?_
          show Goes _ _ _ _ _ _ _ (s₁.setTop (mkF m 26 #[.val (.int p0), .val (.int p1)] [(.int (8 : Int32)), (.int p1), (.long (1 : Int64))]))
          refine Goes.step (fun t k => XS.imul X0.here hx rfl (hb hby own_d1_26) rfl k) ?_
          show Goes _ _ _ _ _ _ _ (s₁.setTop (mkF m 27 #[.val (.int p0), .val (.int p1)] [(.int (p1 * (8 : Int32))), (.long (1 : Int64))]))
          refine Goes.step (fun t k => XS.iloadN X0.here hx rfl (hb hby own_d1_27) rfl k) ?_
          show Goes _ _ _ _ _ _ _ (s₁.setTop (mkF m 28 #[.val (.int p0), .val (.int p1)] [(.int p0), (.int (p1 * (8 : Int32))), (.long (1 : Int64))]))
          refine Goes.step (fun t k => XS.iadd X0.here hx rfl (hb hby own_d1_28) rfl k) ?_
          show Goes _ _ _ _ _ _ _ (s₁.setTop (mkF m 29 #[.val (.int p0), .val (.int p1)] [(.int ((p1 * (8 : Int32)) + p0)), (.long (1 : Int64))]))
          refine Goes.step (fun t k => XS.lshl X0.here hx rfl (hb hby own_d1_29) rfl k) ?_
          show Goes _ _ _ _ _ _ _ (s₁.setTop (mkF m 30 #[.val (.int p0), .val (.int p1)] [(.long ((1 : Int64) <<< (((p1 * (8 : Int32)) + p0) &&& 0x3f).toInt64))]))
          exact Goes.retJ X0 hx Bd.notSynchronized (r := (f1 p0 p1)) Bd.returns (hb hby own_d1_30) (((if_neg hc1_1).trans ((if_neg hc7_2).trans ((if_neg hc11_3).trans (if_neg hc17_4)))).symm) ⟨rfl, rfl, e0⟩ (by decide) (by decide)
def f2 (q0 : Int64) : Int64 := ((((((q0.toUInt64 >>> ((1 : Int32) &&& 0x3f).toInt64.toUInt64).toInt64) &&& (9187201950435737471 : Int64)) ||| ((q0 <<< ((1 : Int32) &&& 0x3f).toInt64) &&& (-72340172838076674 : Int64))) ||| (((q0 ||| (((q0.toUInt64 >>> ((1 : Int32) &&& 0x3f).toInt64.toUInt64).toInt64) &&& (9187201950435737471 : Int64))) ||| ((q0 <<< ((1 : Int32) &&& 0x3f).toInt64) &&& (-72340172838076674 : Int64))) <<< ((8 : Int32) &&& 0x3f).toInt64)) ||| ((((q0 ||| (((q0.toUInt64 >>> ((1 : Int32) &&& 0x3f).toInt64.toUInt64).toInt64) &&& (9187201950435737471 : Int64))) ||| ((q0 <<< ((1 : Int32) &&& 0x3f).toInt64) &&& (-72340172838076674 : Int64))).toUInt64 >>> ((8 : Int32) &&& 0x3f).toInt64.toUInt64).toInt64))
theorem own_d2_0 : decode prog_22_method_13_code 0 = .ok (.lload_n 0, 1) := by decide +kernel
theorem own_d2_1 : decode prog_22_method_13_code 1 = .ok (.iconst 1, 1) := by decide +kernel
theorem own_d2_2 : decode prog_22_method_13_code 2 = .ok (.lushr, 1) := by decide +kernel
theorem own_d2_3 : decode prog_22_method_13_code 3 = .ok (.ldc2_w 49, 3) := by decide +kernel
theorem own_d2_6 : decode prog_22_method_13_code 6 = .ok (.land, 1) := by decide +kernel
theorem own_d2_7 : decode prog_22_method_13_code 7 = .ok (.lstore_n 2, 1) := by decide +kernel
theorem own_d2_8 : decode prog_22_method_13_code 8 = .ok (.lload_n 0, 1) := by decide +kernel
theorem own_d2_9 : decode prog_22_method_13_code 9 = .ok (.iconst 1, 1) := by decide +kernel
theorem own_d2_10 : decode prog_22_method_13_code 10 = .ok (.lshl, 1) := by decide +kernel
theorem own_d2_11 : decode prog_22_method_13_code 11 = .ok (.ldc2_w 51, 3) := by decide +kernel
theorem own_d2_14 : decode prog_22_method_13_code 14 = .ok (.land, 1) := by decide +kernel
theorem own_d2_15 : decode prog_22_method_13_code 15 = .ok (.lstore 4, 2) := by decide +kernel
theorem own_d2_17 : decode prog_22_method_13_code 17 = .ok (.lload_n 0, 1) := by decide +kernel
theorem own_d2_18 : decode prog_22_method_13_code 18 = .ok (.lload_n 2, 1) := by decide +kernel
theorem own_d2_19 : decode prog_22_method_13_code 19 = .ok (.lor, 1) := by decide +kernel
theorem own_d2_20 : decode prog_22_method_13_code 20 = .ok (.lload 4, 2) := by decide +kernel
theorem own_d2_22 : decode prog_22_method_13_code 22 = .ok (.lor, 1) := by decide +kernel
theorem own_d2_23 : decode prog_22_method_13_code 23 = .ok (.lstore 6, 2) := by decide +kernel
theorem own_d2_25 : decode prog_22_method_13_code 25 = .ok (.lload_n 2, 1) := by decide +kernel
theorem own_d2_26 : decode prog_22_method_13_code 26 = .ok (.lload 4, 2) := by decide +kernel
theorem own_d2_28 : decode prog_22_method_13_code 28 = .ok (.lor, 1) := by decide +kernel
theorem own_d2_29 : decode prog_22_method_13_code 29 = .ok (.lload 6, 2) := by decide +kernel
theorem own_d2_31 : decode prog_22_method_13_code 31 = .ok (.bipush 8, 2) := by decide +kernel
theorem own_d2_33 : decode prog_22_method_13_code 33 = .ok (.lshl, 1) := by decide +kernel
theorem own_d2_34 : decode prog_22_method_13_code 34 = .ok (.lor, 1) := by decide +kernel
theorem own_d2_35 : decode prog_22_method_13_code 35 = .ok (.lload 6, 2) := by decide +kernel
theorem own_d2_37 : decode prog_22_method_13_code 37 = .ok (.bipush 8, 2) := by decide +kernel
theorem own_d2_39 : decode prog_22_method_13_code 39 = .ok (.lushr, 1) := by decide +kernel
theorem own_d2_40 : decode prog_22_method_13_code 40 = .ok (.lor, 1) := by decide +kernel
theorem own_d2_41 : decode prog_22_method_13_code 41 = .ok (.lreturn, 1) := by decide +kernel
theorem own_ef2 (m : MethodId) (q0 : Int64) : entryFrame m #[(.long q0)] 8 = mkF m 0 #[.val (.long q0), .second, .unset, .unset, .unset, .unset, .unset, .unset] [] := by first | (simp [entryFrame, mkF, argsToLocals, Value.category, maxLocals]; done) | rfl
abbrev RM2 : Room := ({ frames := 0, cells := 0, slots := 0, locals := 0 } : Room)
abbrev kC2 : Nat := 0
abbrev kS2 : Nat := 0
def Q2 (Z : State) (q0 : Int64) (h0 : Heap) (v : Option Value) (h : Heap) (L : List Loc) : Prop := v = some (.long (f2 q0)) ∧ L = [] ∧ h = h0
set_option maxRecDepth 65536 in
set_option maxHeartbeats 40000000 in
theorem rm2 (l : Launch) (Z : State) (tA : Array Value) (hw : ∀ d ∈ tables_1, d.before tA Z = true) (ws : List Jvm.Cond) (q0 : Int64) (h0 : Heap)  :
    MetFree l (⟨"com/example/zugzwang/zugzwang/game/Kriegspiel", "around", "(J)J"⟩ : MethodName) (head1 (Jvm.Cond.code (⟨"com/example/zugzwang/zugzwang/game/Kriegspiel", "around", "(J)J"⟩ : MethodName) prog_22_method_13_code 8 (some .long) :: ws) RM2) (fun a U => a = #[(.long q0)] ∧ Z.Warmed39 U.vm ∧ U.heap = h0) (fun _ _ _ _ _ => True) (fun _ U o U' => ∃ v L, o = .returned v ∧ Q2 Z q0 h0 v U'.heap L ∧ FrameEnd U o U' L RM2.cells RM2.slots) := by
  refine MetFree.of_bodySF (plainFor_of_name own_pn1) hisR ?_
  intro p e s m args below meth c s₁ Bd hml0 hP hK
  obtain ⟨rfl, hZ, hh⟩ := hP
  have hx := Bd.exec
  have hby := Bd.bytes
  have hml : c.maxLocals = 8 := hml0
  have hown : s.vm.findClass "com/example/zugzwang/zugzwang/game/Kriegspiel" = some m.cls := findClass_of_methodNamed Bd.named
  have hnm := (name_of_methodNamed Bd.named Bd.method).1
  have X0 : Stand p l e RM2 s m #[(.long q0)] below meth c s₁ [] 0 0 := Stand.of_body Bd
  have e0 : s₁.heap = h0 := by rw [← hh, Bd.state]; rfl
  show Goes p e below s (Q2 Z q0 h0) kC2 kS2 (s₁.setTop (entryFrame m #[(.long q0)] 8))
  refine Goes.step (fun t k => castTop (own_ef2 m q0) k) ?_
  show Goes _ _ _ _ _ _ _ (s₁.setTop (mkF m 0 #[.val (.long q0), .second, .unset, .unset, .unset, .unset, .unset, .unset] []))
  refine Goes.step (fun t k => XS.lloadN X0.here hx rfl (hb hby own_d2_0) rfl k) ?_
  show Goes _ _ _ _ _ _ _ (s₁.setTop (mkF m 1 #[.val (.long q0), .second, .unset, .unset, .unset, .unset, .unset, .unset] [(.long q0)]))
  refine Goes.step (fun t k => XS.iconst X0.here hx rfl (hb hby own_d2_1) k) ?_
  show Goes _ _ _ _ _ _ _ (s₁.setTop (mkF m 2 #[.val (.long q0), .second, .unset, .unset, .unset, .unset, .unset, .unset] [(.int (1 : Int32)), (.long q0)]))
  refine Goes.step (fun t k => XS.lushr X0.here hx rfl (hb hby own_d2_2) rfl k) ?_
  show Goes _ _ _ _ _ _ _ (s₁.setTop (mkF m 3 #[.val (.long q0), .second, .unset, .unset, .unset, .unset, .unset, .unset] [(.long ((q0.toUInt64 >>> ((1 : Int32) &&& 0x3f).toInt64.toUInt64).toInt64))]))
  refine Goes.step (fun t k => X0.ldc2Long hx hown (mvT hZ (hw _ (List.mem_of_getElem? (i := 8) rfl))) (g := (mkF m 3 #[.val (.long q0), .second, .unset, .unset, .unset, .unset, .unset, .unset] [(.long ((q0.toUInt64 >>> ((1 : Int32) &&& 0x3f).toInt64.toUInt64).toInt64))])) rfl (hb hby own_d2_3) _ k) ?_
  show Goes _ _ _ _ _ _ _ (s₁.setTop (mkF m 6 #[.val (.long q0), .second, .unset, .unset, .unset, .unset, .unset, .unset] [(.long (9187201950435737471 : Int64)), (.long ((q0.toUInt64 >>> ((1 : Int32) &&& 0x3f).toInt64.toUInt64).toInt64))]))
  refine Goes.step (fun t k => XS.land X0.here hx rfl (hb hby own_d2_6) rfl k) ?_
  show Goes _ _ _ _ _ _ _ (s₁.setTop (mkF m 7 #[.val (.long q0), .second, .unset, .unset, .unset, .unset, .unset, .unset] [(.long (((q0.toUInt64 >>> ((1 : Int32) &&& 0x3f).toInt64.toUInt64).toInt64) &&& (9187201950435737471 : Int64)))]))
  refine Goes.step (fun t k => XS.lstoreN X0.here hx rfl (hb hby own_d2_7) rfl (l' := #[.val (.long q0), .second, .val (.long (((q0.toUInt64 >>> ((1 : Int32) &&& 0x3f).toInt64.toUInt64).toInt64) &&& (9187201950435737471 : Int64))), .second, .unset, .unset, .unset, .unset]) rfl k) ?_
  show Goes _ _ _ _ _ _ _ (s₁.setTop (mkF m 8 #[.val (.long q0), .second, .val (.long (((q0.toUInt64 >>> ((1 : Int32) &&& 0x3f).toInt64.toUInt64).toInt64) &&& (9187201950435737471 : Int64))), .second, .unset, .unset, .unset, .unset] []))
  generalize hy1 : (((q0.toUInt64 >>> ((1 : Int32) &&& 0x3f).toInt64.toUInt64).toInt64) &&& (9187201950435737471 : Int64)) = y1
  refine Goes.step (fun t k => XS.lloadN X0.here hx rfl (hb hby own_d2_8) rfl k) ?_
  show Goes _ _ _ _ _ _ _ (s₁.setTop (mkF m 9 #[.val (.long q0), .second, .val (.long y1), .second, .unset, .unset, .unset, .unset] [(.long q0)]))
  refine Goes.step (fun t k => XS.iconst X0.here hx rfl (hb hby own_d2_9) k) ?_
  show Goes _ _ _ _ _ _ _ (s₁.setTop (mkF m 10 #[.val (.long q0), .second, .val (.long y1), .second, .unset, .unset, .unset, .unset] [(.int (1 : Int32)), (.long q0)]))
  refine Goes.step (fun t k => XS.lshl X0.here hx rfl (hb hby own_d2_10) rfl k) ?_
  show Goes _ _ _ _ _ _ _ (s₁.setTop (mkF m 11 #[.val (.long q0), .second, .val (.long y1), .second, .unset, .unset, .unset, .unset] [(.long (q0 <<< ((1 : Int32) &&& 0x3f).toInt64))]))
  refine Goes.step (fun t k => X0.ldc2Long hx hown (mvT hZ (hw _ (List.mem_of_getElem? (i := 9) rfl))) (g := (mkF m 11 #[.val (.long q0), .second, .val (.long y1), .second, .unset, .unset, .unset, .unset] [(.long (q0 <<< ((1 : Int32) &&& 0x3f).toInt64))])) rfl (hb hby own_d2_11) _ k) ?_
  show Goes _ _ _ _ _ _ _ (s₁.setTop (mkF m 14 #[.val (.long q0), .second, .val (.long y1), .second, .unset, .unset, .unset, .unset] [(.long (-72340172838076674 : Int64)), (.long (q0 <<< ((1 : Int32) &&& 0x3f).toInt64))]))
  refine Goes.step (fun t k => XS.land X0.here hx rfl (hb hby own_d2_14) rfl k) ?_
  show Goes _ _ _ _ _ _ _ (s₁.setTop (mkF m 15 #[.val (.long q0), .second, .val (.long y1), .second, .unset, .unset, .unset, .unset] [(.long ((q0 <<< ((1 : Int32) &&& 0x3f).toInt64) &&& (-72340172838076674 : Int64)))]))
  refine Goes.step (fun t k => XS.lstore X0.here hx rfl (hb hby own_d2_15) rfl (l' := #[.val (.long q0), .second, .val (.long y1), .second, .val (.long ((q0 <<< ((1 : Int32) &&& 0x3f).toInt64) &&& (-72340172838076674 : Int64))), .second, .unset, .unset]) rfl k) ?_
  show Goes _ _ _ _ _ _ _ (s₁.setTop (mkF m 17 #[.val (.long q0), .second, .val (.long y1), .second, .val (.long ((q0 <<< ((1 : Int32) &&& 0x3f).toInt64) &&& (-72340172838076674 : Int64))), .second, .unset, .unset] []))
  generalize hy2 : ((q0 <<< ((1 : Int32) &&& 0x3f).toInt64) &&& (-72340172838076674 : Int64)) = y2
  refine Goes.step (fun t k => XS.lloadN X0.here hx rfl (hb hby own_d2_17) rfl k) ?_
  show Goes _ _ _ _ _ _ _ (s₁.setTop (mkF m 18 #[.val (.long q0), .second, .val (.long y1), .second, .val (.long y2), .second, .unset, .unset] [(.long q0)]))
  refine Goes.step (fun t k => XS.lloadN X0.here hx rfl (hb hby own_d2_18) rfl k) ?_
  show Goes _ _ _ _ _ _ _ (s₁.setTop (mkF m 19 #[.val (.long q0), .second, .val (.long y1), .second, .val (.long y2), .second, .unset, .unset] [(.long y1), (.long q0)]))
  refine Goes.step (fun t k => XS.lor X0.here hx rfl (hb hby own_d2_19) rfl k) ?_
  show Goes _ _ _ _ _ _ _ (s₁.setTop (mkF m 20 #[.val (.long q0), .second, .val (.long y1), .second, .val (.long y2), .second, .unset, .unset] [(.long (q0 ||| y1))]))
  refine Goes.step (fun t k => XS.lload X0.here hx rfl (hb hby own_d2_20) rfl k) ?_
  show Goes _ _ _ _ _ _ _ (s₁.setTop (mkF m 22 #[.val (.long q0), .second, .val (.long y1), .second, .val (.long y2), .second, .unset, .unset] [(.long y2), (.long (q0 ||| y1))]))
  refine Goes.step (fun t k => XS.lor X0.here hx rfl (hb hby own_d2_22) rfl k) ?_
  show Goes _ _ _ _ _ _ _ (s₁.setTop (mkF m 23 #[.val (.long q0), .second, .val (.long y1), .second, .val (.long y2), .second, .unset, .unset] [(.long ((q0 ||| y1) ||| y2))]))
  refine Goes.step (fun t k => XS.lstore X0.here hx rfl (hb hby own_d2_23) rfl (l' := #[.val (.long q0), .second, .val (.long y1), .second, .val (.long y2), .second, .val (.long ((q0 ||| y1) ||| y2)), .second]) rfl k) ?_
  show Goes _ _ _ _ _ _ _ (s₁.setTop (mkF m 25 #[.val (.long q0), .second, .val (.long y1), .second, .val (.long y2), .second, .val (.long ((q0 ||| y1) ||| y2)), .second] []))
  refine Goes.step (fun t k => XS.lloadN X0.here hx rfl (hb hby own_d2_25) rfl k) ?_
  show Goes _ _ _ _ _ _ _ (s₁.setTop (mkF m 26 #[.val (.long q0), .second, .val (.long y1), .second, .val (.long y2), .second, .val (.long ((q0 ||| y1) ||| y2)), .second] [(.long y1)]))
  refine Goes.step (fun t k => XS.lload X0.here hx rfl (hb hby own_d2_26) rfl k) ?_
  show Goes _ _ _ _ _ _ _ (s₁.setTop (mkF m 28 #[.val (.long q0), .second, .val (.long y1), .second, .val (.long y2), .second, .val (.long ((q0 ||| y1) ||| y2)), .second] [(.long y2), (.long y1)]))
  refine Goes.step (fun t k => XS.lor X0.here hx rfl (hb hby own_d2_28) rfl k) ?_
  show Goes _ _ _ _ _ _ _ (s₁.setTop (mkF m 29 #[.val (.long q0), .second, .val (.long y1), .second, .val (.long y2), .second, .val (.long ((q0 ||| y1) ||| y2)), .second] [(.long (y1 ||| y2))]))
  refine Goes.step (fun t k => XS.lload X0.here hx rfl (hb hby own_d2_29) rfl k) ?_
  show Goes _ _ _ _ _ _ _ (s₁.setTop (mkF m 31 #[.val (.long q0), .second, .val (.long y1), .second, .val (.long y2), .second, .val (.long ((q0 ||| y1) ||| y2)), .second] [(.long ((q0 ||| y1) ||| y2)), (.long (y1 ||| y2))]))
  refine Goes.step (fun t k => XS.bipush X0.here hx rfl (hb hby own_d2_31) k) ?_
  show Goes _ _ _ _ _ _ _ (s₁.setTop (mkF m 33 #[.val (.long q0), .second, .val (.long y1), .second, .val (.long y2), .second, .val (.long ((q0 ||| y1) ||| y2)), .second] [(.int (8 : Int32)), (.long ((q0 ||| y1) ||| y2)), (.long (y1 ||| y2))]))
  refine Goes.step (fun t k => XS.lshl X0.here hx rfl (hb hby own_d2_33) rfl k) ?_
  show Goes _ _ _ _ _ _ _ (s₁.setTop (mkF m 34 #[.val (.long q0), .second, .val (.long y1), .second, .val (.long y2), .second, .val (.long ((q0 ||| y1) ||| y2)), .second] [(.long (((q0 ||| y1) ||| y2) <<< ((8 : Int32) &&& 0x3f).toInt64)), (.long (y1 ||| y2))]))
  refine Goes.step (fun t k => XS.lor X0.here hx rfl (hb hby own_d2_34) rfl k) ?_
  show Goes _ _ _ _ _ _ _ (s₁.setTop (mkF m 35 #[.val (.long q0), .second, .val (.long y1), .second, .val (.long y2), .second, .val (.long ((q0 ||| y1) ||| y2)), .second] [(.long ((y1 ||| y2) ||| (((q0 ||| y1) ||| y2) <<< ((8 : Int32) &&& 0x3f).toInt64)))]))
  refine Goes.step (fun t k => XS.lload X0.here hx rfl (hb hby own_d2_35) rfl k) ?_
  show Goes _ _ _ _ _ _ _ (s₁.setTop (mkF m 37 #[.val (.long q0), .second, .val (.long y1), .second, .val (.long y2), .second, .val (.long ((q0 ||| y1) ||| y2)), .second] [(.long ((q0 ||| y1) ||| y2)), (.long ((y1 ||| y2) ||| (((q0 ||| y1) ||| y2) <<< ((8 : Int32) &&& 0x3f).toInt64)))]))
  refine Goes.step (fun t k => XS.bipush X0.here hx rfl (hb hby own_d2_37) k) ?_
  show Goes _ _ _ _ _ _ _ (s₁.setTop (mkF m 39 #[.val (.long q0), .second, .val (.long y1), .second, .val (.long y2), .second, .val (.long ((q0 ||| y1) ||| y2)), .second] [(.int (8 : Int32)), (.long ((q0 ||| y1) ||| y2)), (.long ((y1 ||| y2) ||| (((q0 ||| y1) ||| y2) <<< ((8 : Int32) &&& 0x3f).toInt64)))]))
  refine Goes.step (fun t k => XS.lushr X0.here hx rfl (hb hby own_d2_39) rfl k) ?_
  show Goes _ _ _ _ _ _ _ (s₁.setTop (mkF m 40 #[.val (.long q0), .second, .val (.long y1), .second, .val (.long y2), .second, .val (.long ((q0 ||| y1) ||| y2)), .second] [(.long ((((q0 ||| y1) ||| y2).toUInt64 >>> ((8 : Int32) &&& 0x3f).toInt64.toUInt64).toInt64)), (.long ((y1 ||| y2) ||| (((q0 ||| y1) ||| y2) <<< ((8 : Int32) &&& 0x3f).toInt64)))]))
  refine Goes.step (fun t k => XS.lor X0.here hx rfl (hb hby own_d2_40) rfl k) ?_
  show Goes _ _ _ _ _ _ _ (s₁.setTop (mkF m 41 #[.val (.long q0), .second, .val (.long y1), .second, .val (.long y2), .second, .val (.long ((q0 ||| y1) ||| y2)), .second] [(.long (((y1 ||| y2) ||| (((q0 ||| y1) ||| y2) <<< ((8 : Int32) &&& 0x3f).toInt64)) ||| ((((q0 ||| y1) ||| y2).toUInt64 >>> ((8 : Int32) &&& 0x3f).toInt64.toUInt64).toInt64)))]))
  subst hy2
  subst hy1
  exact Goes.retJ X0 hx Bd.notSynchronized (r := (f2 q0)) Bd.returns (hb hby own_d2_41) rfl ⟨rfl, rfl, e0⟩ (by decide) (by decide)
def f0 (q0 : Int64) (p1 : Int32) : Int32 := (nar .boolean (if (if (q0 &&& ((((((((f1 (((p1 &&& (63 : Int32)) &&& (7 : Int32)) - (1 : Int32)) ((((p1 &&& (63 : Int32)).toUInt32 >>> ((3 : Int32) &&& 31).toUInt32).toInt32) - (1 : Int32))) ||| (f1 ((p1 &&& (63 : Int32)) &&& (7 : Int32)) ((((p1 &&& (63 : Int32)).toUInt32 >>> ((3 : Int32) &&& 31).toUInt32).toInt32) - (1 : Int32)))) ||| (f1 (((p1 &&& (63 : Int32)) &&& (7 : Int32)) + (1 : Int32)) ((((p1 &&& (63 : Int32)).toUInt32 >>> ((3 : Int32) &&& 31).toUInt32).toInt32) - (1 : Int32)))) ||| (f1 (((p1 &&& (63 : Int32)) &&& (7 : Int32)) - (1 : Int32)) (((p1 &&& (63 : Int32)).toUInt32 >>> ((3 : Int32) &&& 31).toUInt32).toInt32))) ||| (f1 (((p1 &&& (63 : Int32)) &&& (7 : Int32)) + (1 : Int32)) (((p1 &&& (63 : Int32)).toUInt32 >>> ((3 : Int32) &&& 31).toUInt32).toInt32))) ||| (f1 (((p1 &&& (63 : Int32)) &&& (7 : Int32)) - (1 : Int32)) ((((p1 &&& (63 : Int32)).toUInt32 >>> ((3 : Int32) &&& 31).toUInt32).toInt32) + (1 : Int32)))) ||| (f1 ((p1 &&& (63 : Int32)) &&& (7 : Int32)) ((((p1 &&& (63 : Int32)).toUInt32 >>> ((3 : Int32) &&& 31).toUInt32).toInt32) + (1 : Int32)))) ||| (f1 (((p1 &&& (63 : Int32)) &&& (7 : Int32)) + (1 : Int32)) ((((p1 &&& (63 : Int32)).toUInt32 >>> ((3 : Int32) &&& 31).toUInt32).toInt32) + (1 : Int32))))) = (0 : Int64) then (0 : Int32) else (1 : Int32)) = (if ((((f2 q0).toUInt64 >>> ((p1 &&& (63 : Int32)) &&& 0x3f).toInt64.toUInt64).toInt64) &&& (1 : Int64)) = (0 : Int64) then (0 : Int32) else (1 : Int32)) then (1 : Int32) else (0 : Int32)))
theorem own_ef0 (m : MethodId) (q0 : Int64) (p1 : Int32) : entryFrame m #[(.long q0), (.int p1)] maxLocals = mkF m 0 #[.val (.long q0), .second, .val (.int p1), .unset, .unset, .unset, .unset, .unset, .unset, .unset, .unset, .unset] [] := by first | (simp [entryFrame, mkF, argsToLocals, Value.category, maxLocals]; done) | rfl
abbrev kC0 : Nat := 0
abbrev kS0 : Nat := 0
def Q0 (Z : State) (q0 : Int64) (p1 : Int32) (h0 : Heap) (v : Option Value) (h : Heap) (L : List Loc) : Prop := v = some (.int (f0 q0 p1)) ∧ L = [] ∧ h = h0
set_option maxRecDepth 65536 in
set_option maxHeartbeats 40000000 in
theorem rm0 (l : Launch) (Z : State) (tA : Array Value) (hw : ∀ d ∈ tables_1, d.before tA Z = true) (ws : List Jvm.Cond) (q0 : Int64) (p1 : Int32) (h0 : Heap)  :
    MetFree l x (head1 (Jvm.Cond.code x code maxLocals ret :: ws) room_1) (fun a U => a = #[(.long q0), (.int p1)] ∧ Z.Warmed39 U.vm ∧ U.heap = h0) (fun _ _ _ _ _ => True) (fun _ U o U' => ∃ v L, o = .returned v ∧ Q0 Z q0 p1 h0 v U'.heap L ∧ FrameEnd U o U' L kC0 kS0) := by
  refine MetFree.of_bodySF (plainFor_of_name own_pn0) hisR ?_
  intro p e s m args below meth c s₁ Bd hml0 hP hK
  obtain ⟨rfl, hZ, hh⟩ := hP
  have hx := Bd.exec
  have hby := Bd.bytes
  have hml : c.maxLocals = 12 := hml0
  have hown : s.vm.findClass "com/example/zugzwang/zugzwang/game/KriegspielAroundPinLaw" = some m.cls := findClass_of_methodNamed Bd.named
  have hnm := (name_of_methodNamed Bd.named Bd.method).1
  have X0 : Stand p l e room_1 s m #[(.long q0), (.int p1)] below meth c s₁ [] 0 0 := Stand.of_body Bd
  have e0 : s₁.heap = h0 := by rw [← hh, Bd.state]; rfl
  show Goes p e below s (Q0 Z q0 p1 h0) kC0 kS0 (s₁.setTop (entryFrame m #[(.long q0), (.int p1)] maxLocals))
  refine Goes.step (fun t k => castTop (own_ef0 m q0 p1) k) ?_
  show Goes _ _ _ _ _ _ _ (s₁.setTop (mkF m 0 #[.val (.long q0), .second, .val (.int p1), .unset, .unset, .unset, .unset, .unset, .unset, .unset, .unset, .unset] []))
  refine Goes.step (fun t k => XS.iloadN X0.here hx rfl (hb hby at_0) rfl k) ?_
  show Goes _ _ _ _ _ _ _ (s₁.setTop (mkF m 1 #[.val (.long q0), .second, .val (.int p1), .unset, .unset, .unset, .unset, .unset, .unset, .unset, .unset, .unset] [(.int p1)]))
  refine Goes.step (fun t k => XS.bipush X0.here hx rfl (hb hby at_1) k) ?_
  show Goes _ _ _ _ _ _ _ (s₁.setTop (mkF m 3 #[.val (.long q0), .second, .val (.int p1), .unset, .unset, .unset, .unset, .unset, .unset, .unset, .unset, .unset] [(.int (63 : Int32)), (.int p1)]))
  refine Goes.step (fun t k => XS.iand X0.here hx rfl (hb hby at_3) rfl k) ?_
  show Goes _ _ _ _ _ _ _ (s₁.setTop (mkF m 4 #[.val (.long q0), .second, .val (.int p1), .unset, .unset, .unset, .unset, .unset, .unset, .unset, .unset, .unset] [(.int (p1 &&& (63 : Int32)))]))
  refine Goes.step (fun t k => XS.istoreN X0.here hx rfl (hb hby at_4) rfl (l' := #[.val (.long q0), .second, .val (.int p1), .val (.int (p1 &&& (63 : Int32))), .unset, .unset, .unset, .unset, .unset, .unset, .unset, .unset]) rfl k) ?_
  show Goes _ _ _ _ _ _ _ (s₁.setTop (mkF m 5 #[.val (.long q0), .second, .val (.int p1), .val (.int (p1 &&& (63 : Int32))), .unset, .unset, .unset, .unset, .unset, .unset, .unset, .unset] []))
  refine Goes.step (fun t k => XS.iloadN X0.here hx rfl (hb hby at_5) rfl k) ?_
  show Goes _ _ _ _ _ _ _ (s₁.setTop (mkF m 6 #[.val (.long q0), .second, .val (.int p1), .val (.int (p1 &&& (63 : Int32))), .unset, .unset, .unset, .unset, .unset, .unset, .unset, .unset] [(.int (p1 &&& (63 : Int32)))]))
  refine Goes.step (fun t k => XS.bipush X0.here hx rfl (hb hby at_6) k) ?_
  show Goes _ _ _ _ _ _ _ (s₁.setTop (mkF m 8 #[.val (.long q0), .second, .val (.int p1), .val (.int (p1 &&& (63 : Int32))), .unset, .unset, .unset, .unset, .unset, .unset, .unset, .unset] [(.int (7 : Int32)), (.int (p1 &&& (63 : Int32)))]))
  refine Goes.step (fun t k => XS.iand X0.here hx rfl (hb hby at_8) rfl k) ?_
  show Goes _ _ _ _ _ _ _ (s₁.setTop (mkF m 9 #[.val (.long q0), .second, .val (.int p1), .val (.int (p1 &&& (63 : Int32))), .unset, .unset, .unset, .unset, .unset, .unset, .unset, .unset] [(.int ((p1 &&& (63 : Int32)) &&& (7 : Int32)))]))
  refine Goes.step (fun t k => XS.istore X0.here hx rfl (hb hby at_9) rfl (l' := #[.val (.long q0), .second, .val (.int p1), .val (.int (p1 &&& (63 : Int32))), .val (.int ((p1 &&& (63 : Int32)) &&& (7 : Int32))), .unset, .unset, .unset, .unset, .unset, .unset, .unset]) rfl k) ?_
  show Goes _ _ _ _ _ _ _ (s₁.setTop (mkF m 11 #[.val (.long q0), .second, .val (.int p1), .val (.int (p1 &&& (63 : Int32))), .val (.int ((p1 &&& (63 : Int32)) &&& (7 : Int32))), .unset, .unset, .unset, .unset, .unset, .unset, .unset] []))
  generalize hy1 : ((p1 &&& (63 : Int32)) &&& (7 : Int32)) = y1
  refine Goes.step (fun t k => XS.iloadN X0.here hx rfl (hb hby at_11) rfl k) ?_
  show Goes _ _ _ _ _ _ _ (s₁.setTop (mkF m 12 #[.val (.long q0), .second, .val (.int p1), .val (.int (p1 &&& (63 : Int32))), .val (.int y1), .unset, .unset, .unset, .unset, .unset, .unset, .unset] [(.int (p1 &&& (63 : Int32)))]))
  refine Goes.step (fun t k => XS.iconst X0.here hx rfl (hb hby at_12) k) ?_
  show Goes _ _ _ _ _ _ _ (s₁.setTop (mkF m 13 #[.val (.long q0), .second, .val (.int p1), .val (.int (p1 &&& (63 : Int32))), .val (.int y1), .unset, .unset, .unset, .unset, .unset, .unset, .unset] [(.int (3 : Int32)), (.int (p1 &&& (63 : Int32)))]))
  refine Goes.step (fun t k => XS.iushr X0.here hx rfl (hb hby at_13) rfl k) ?_
  show Goes _ _ _ _ _ _ _ (s₁.setTop (mkF m 14 #[.val (.long q0), .second, .val (.int p1), .val (.int (p1 &&& (63 : Int32))), .val (.int y1), .unset, .unset, .unset, .unset, .unset, .unset, .unset] [(.int (((p1 &&& (63 : Int32)).toUInt32 >>> ((3 : Int32) &&& 31).toUInt32).toInt32))]))
  refine Goes.step (fun t k => XS.istore X0.here hx rfl (hb hby at_14) rfl (l' := #[.val (.long q0), .second, .val (.int p1), .val (.int (p1 &&& (63 : Int32))), .val (.int y1), .val (.int (((p1 &&& (63 : Int32)).toUInt32 >>> ((3 : Int32) &&& 31).toUInt32).toInt32)), .unset, .unset, .unset, .unset, .unset, .unset]) rfl k) ?_
  show Goes _ _ _ _ _ _ _ (s₁.setTop (mkF m 16 #[.val (.long q0), .second, .val (.int p1), .val (.int (p1 &&& (63 : Int32))), .val (.int y1), .val (.int (((p1 &&& (63 : Int32)).toUInt32 >>> ((3 : Int32) &&& 31).toUInt32).toInt32)), .unset, .unset, .unset, .unset, .unset, .unset] []))
  generalize hy2 : (((p1 &&& (63 : Int32)).toUInt32 >>> ((3 : Int32) &&& 31).toUInt32).toInt32) = y2
  refine Goes.step (fun t k => XS.iload X0.here hx rfl (hb hby at_16) rfl k) ?_
  show Goes _ _ _ _ _ _ _ (s₁.setTop (mkF m 18 #[.val (.long q0), .second, .val (.int p1), .val (.int (p1 &&& (63 : Int32))), .val (.int y1), .val (.int y2), .unset, .unset, .unset, .unset, .unset, .unset] [(.int y1)]))
  refine Goes.step (fun t k => XS.iconst X0.here hx rfl (hb hby at_18) k) ?_
  show Goes _ _ _ _ _ _ _ (s₁.setTop (mkF m 19 #[.val (.long q0), .second, .val (.int p1), .val (.int (p1 &&& (63 : Int32))), .val (.int y1), .val (.int y2), .unset, .unset, .unset, .unset, .unset, .unset] [(.int (1 : Int32)), (.int y1)]))
  refine Goes.step (fun t k => XS.isub X0.here hx rfl (hb hby at_19) rfl k) ?_
  show Goes _ _ _ _ _ _ _ (s₁.setTop (mkF m 20 #[.val (.long q0), .second, .val (.int p1), .val (.int (p1 &&& (63 : Int32))), .val (.int y1), .val (.int y2), .unset, .unset, .unset, .unset, .unset, .unset] [(.int (y1 - (1 : Int32)))]))
  refine Goes.step (fun t k => XS.iload X0.here hx rfl (hb hby at_20) rfl k) ?_
  show Goes _ _ _ _ _ _ _ (s₁.setTop (mkF m 22 #[.val (.long q0), .second, .val (.int p1), .val (.int (p1 &&& (63 : Int32))), .val (.int y1), .val (.int y2), .unset, .unset, .unset, .unset, .unset, .unset] [(.int y2), (.int (y1 - (1 : Int32)))]))
  refine Goes.step (fun t k => XS.iconst X0.here hx rfl (hb hby at_22) k) ?_
  show Goes _ _ _ _ _ _ _ (s₁.setTop (mkF m 23 #[.val (.long q0), .second, .val (.int p1), .val (.int (p1 &&& (63 : Int32))), .val (.int y1), .val (.int y2), .unset, .unset, .unset, .unset, .unset, .unset] [(.int (1 : Int32)), (.int y2), (.int (y1 - (1 : Int32)))]))
  refine Goes.step (fun t k => XS.isub X0.here hx rfl (hb hby at_23) rfl k) ?_
  show Goes _ _ _ _ _ _ _ (s₁.setTop (mkF m 24 #[.val (.long q0), .second, .val (.int p1), .val (.int (p1 &&& (63 : Int32))), .val (.int y1), .val (.int y2), .unset, .unset, .unset, .unset, .unset, .unset] [(.int (y2 - (1 : Int32))), (.int (y1 - (1 : Int32)))]))
  obtain ⟨_, _, ⟨T3, L3, k3, n3⟩, -, X3, ⟨Lc3, hQ3, l3, y3, z3⟩, st3⟩ := Jvm.LawKit.callS X0 hx (y := (⟨"com/example/zugzwang/zugzwang/game/KriegspielAroundPinLaw", "cell", "(II)J"⟩ : MethodName)) hown (mvT hZ (hw _ (List.mem_of_getElem? (i := 0) rfl))) (mvT hZ (hw _ (List.mem_of_getElem? (i := 1) rfl))) (mvT hZ (hw _ (List.mem_of_getElem? (i := 2) rfl))) (mvT hZ (hw _ (List.mem_of_getElem? (i := 3) rfl))) (by decide) (backOf (W := 0) (rm1 l Z tA hw [] (y1 - (1 : Int32)) (y2 - (1 : Int32)) h0) hZ (hw _ (List.mem_of_getElem? (i := 3) rfl)) (hw _ (List.mem_of_getElem? (i := 2) rfl)) (by decide) (by decide)) (g := (mkF m 24 #[.val (.long q0), .second, .val (.int p1), .val (.int (p1 &&& (63 : Int32))), .val (.int y1), .val (.int y2), .unset, .unset, .unset, .unset, .unset, .unset] [(.int (y2 - (1 : Int32))), (.int (y1 - (1 : Int32)))])) rfl (by rw [hml]; rfl) (argsL := [(.int (y1 - (1 : Int32))), (.int (y2 - (1 : Int32)))]) (rest := []) (lenOf own_pd0 rfl) rfl (by show 2 * 0 + _ ≤ _; exact Nat.le_of_eq rfl) (hb hby at_24) (fun _ _ => ⟨rfl, e0, (by decide : 0 + 0 ≤ _), (by decide : 0 + 0 ≤ _)⟩)
  dsimp only [Pt.U, Pt.locs, Pt.cells, Pt.slots] at X3 l3 y3 z3 st3 hQ3
  subst l3 y3 z3
  obtain ⟨rfl, rfl, e3⟩ := hQ3
  try rw [List.append_nil] at X3
  change Stand _ _ _ _ _ _ _ _ _ _ _ _ 0 0 at X3
  refine Goes.step (fun t k => st3 t k) ?_
  show Goes _ _ _ _ _ _ _ (T3.setTop (mkF m 27 #[.val (.long q0), .second, .val (.int p1), .val (.int (p1 &&& (63 : Int32))), .val (.int y1), .val (.int y2), .unset, .unset, .unset, .unset, .unset, .unset] [(.long (f1 (y1 - (1 : Int32)) (y2 - (1 : Int32))))]))
  refine Goes.step (fun t k => XS.iload X3.here hx rfl (hb hby at_27) rfl k) ?_
  show Goes _ _ _ _ _ _ _ (T3.setTop (mkF m 29 #[.val (.long q0), .second, .val (.int p1), .val (.int (p1 &&& (63 : Int32))), .val (.int y1), .val (.int y2), .unset, .unset, .unset, .unset, .unset, .unset] [(.int y1), (.long (f1 (y1 - (1 : Int32)) (y2 - (1 : Int32))))]))
  refine Goes.step (fun t k => XS.iload X3.here hx rfl (hb hby at_29) rfl k) ?_
  show Goes _ _ _ _ _ _ _ (T3.setTop (mkF m 31 #[.val (.long q0), .second, .val (.int p1), .val (.int (p1 &&& (63 : Int32))), .val (.int y1), .val (.int y2), .unset, .unset, .unset, .unset, .unset, .unset] [(.int y2), (.int y1), (.long (f1 (y1 - (1 : Int32)) (y2 - (1 : Int32))))]))
  refine Goes.step (fun t k => XS.iconst X3.here hx rfl (hb hby at_31) k) ?_
  show Goes _ _ _ _ _ _ _ (T3.setTop (mkF m 32 #[.val (.long q0), .second, .val (.int p1), .val (.int (p1 &&& (63 : Int32))), .val (.int y1), .val (.int y2), .unset, .unset, .unset, .unset, .unset, .unset] [(.int (1 : Int32)), (.int y2), (.int y1), (.long (f1 (y1 - (1 : Int32)) (y2 - (1 : Int32))))]))
  refine Goes.step (fun t k => XS.isub X3.here hx rfl (hb hby at_32) rfl k) ?_
  show Goes _ _ _ _ _ _ _ (T3.setTop (mkF m 33 #[.val (.long q0), .second, .val (.int p1), .val (.int (p1 &&& (63 : Int32))), .val (.int y1), .val (.int y2), .unset, .unset, .unset, .unset, .unset, .unset] [(.int (y2 - (1 : Int32))), (.int y1), (.long (f1 (y1 - (1 : Int32)) (y2 - (1 : Int32))))]))
  obtain ⟨_, _, ⟨T4, L4, k4, n4⟩, -, X4, ⟨Lc4, hQ4, l4, y4, z4⟩, st4⟩ := Jvm.LawKit.callS X3 hx (y := (⟨"com/example/zugzwang/zugzwang/game/KriegspielAroundPinLaw", "cell", "(II)J"⟩ : MethodName)) hown (mvT hZ (hw _ (List.mem_of_getElem? (i := 0) rfl))) (mvT hZ (hw _ (List.mem_of_getElem? (i := 1) rfl))) (mvT hZ (hw _ (List.mem_of_getElem? (i := 2) rfl))) (mvT hZ (hw _ (List.mem_of_getElem? (i := 3) rfl))) (by decide) (backOf (W := 2) (rm1 l Z tA hw [] y1 (y2 - (1 : Int32)) h0) hZ (hw _ (List.mem_of_getElem? (i := 3) rfl)) (hw _ (List.mem_of_getElem? (i := 2) rfl)) (by decide) (by decide)) (g := (mkF m 33 #[.val (.long q0), .second, .val (.int p1), .val (.int (p1 &&& (63 : Int32))), .val (.int y1), .val (.int y2), .unset, .unset, .unset, .unset, .unset, .unset] [(.int (y2 - (1 : Int32))), (.int y1), (.long (f1 (y1 - (1 : Int32)) (y2 - (1 : Int32))))])) rfl (by rw [hml]; rfl) (argsL := [(.int y1), (.int (y2 - (1 : Int32)))]) (rest := [(.long (f1 (y1 - (1 : Int32)) (y2 - (1 : Int32))))]) (lenOf own_pd0 rfl) rfl (by show 2 * 0 + _ ≤ _; exact Nat.le_of_eq rfl) (hb hby at_33) (fun _ _ => ⟨rfl, e3, (by decide : 0 + 0 ≤ _), (by decide : 0 + 0 ≤ _)⟩)
  dsimp only [Pt.U, Pt.locs, Pt.cells, Pt.slots] at X4 l4 y4 z4 st4 hQ4
  subst l4 y4 z4
  obtain ⟨rfl, rfl, e4⟩ := hQ4
  try rw [List.append_nil] at X4
  change Stand _ _ _ _ _ _ _ _ _ _ _ _ 0 0 at X4
  refine Goes.step (fun t k => st4 t k) ?_
  show Goes _ _ _ _ _ _ _ (T4.setTop (mkF m 36 #[.val (.long q0), .second, .val (.int p1), .val (.int (p1 &&& (63 : Int32))), .val (.int y1), .val (.int y2), .unset, .unset, .unset, .unset, .unset, .unset] [(.long (f1 y1 (y2 - (1 : Int32)))), (.long (f1 (y1 - (1 : Int32)) (y2 - (1 : Int32))))]))
  refine Goes.step (fun t k => XS.lor X4.here hx rfl (hb hby at_36) rfl k) ?_
  show Goes _ _ _ _ _ _ _ (T4.setTop (mkF m 37 #[.val (.long q0), .second, .val (.int p1), .val (.int (p1 &&& (63 : Int32))), .val (.int y1), .val (.int y2), .unset, .unset, .unset, .unset, .unset, .unset] [(.long ((f1 (y1 - (1 : Int32)) (y2 - (1 : Int32))) ||| (f1 y1 (y2 - (1 : Int32)))))]))
  refine Goes.step (fun t k => XS.iload X4.here hx rfl (hb hby at_37) rfl k) ?_
  show Goes _ _ _ _ _ _ _ (T4.setTop (mkF m 39 #[.val (.long q0), .second, .val (.int p1), .val (.int (p1 &&& (63 : Int32))), .val (.int y1), .val (.int y2), .unset, .unset, .unset, .unset, .unset, .unset] [(.int y1), (.long ((f1 (y1 - (1 : Int32)) (y2 - (1 : Int32))) ||| (f1 y1 (y2 - (1 : Int32)))))]))
  refine Goes.step (fun t k => XS.iconst X4.here hx rfl (hb hby at_39) k) ?_
  show Goes _ _ _ _ _ _ _ (T4.setTop (mkF m 40 #[.val (.long q0), .second, .val (.int p1), .val (.int (p1 &&& (63 : Int32))), .val (.int y1), .val (.int y2), .unset, .unset, .unset, .unset, .unset, .unset] [(.int (1 : Int32)), (.int y1), (.long ((f1 (y1 - (1 : Int32)) (y2 - (1 : Int32))) ||| (f1 y1 (y2 - (1 : Int32)))))]))
  refine Goes.step (fun t k => XS.iadd X4.here hx rfl (hb hby at_40) rfl k) ?_
  show Goes _ _ _ _ _ _ _ (T4.setTop (mkF m 41 #[.val (.long q0), .second, .val (.int p1), .val (.int (p1 &&& (63 : Int32))), .val (.int y1), .val (.int y2), .unset, .unset, .unset, .unset, .unset, .unset] [(.int (y1 + (1 : Int32))), (.long ((f1 (y1 - (1 : Int32)) (y2 - (1 : Int32))) ||| (f1 y1 (y2 - (1 : Int32)))))]))
  refine Goes.step (fun t k => XS.iload X4.here hx rfl (hb hby at_41) rfl k) ?_
  show Goes _ _ _ _ _ _ _ (T4.setTop (mkF m 43 #[.val (.long q0), .second, .val (.int p1), .val (.int (p1 &&& (63 : Int32))), .val (.int y1), .val (.int y2), .unset, .unset, .unset, .unset, .unset, .unset] [(.int y2), (.int (y1 + (1 : Int32))), (.long ((f1 (y1 - (1 : Int32)) (y2 - (1 : Int32))) ||| (f1 y1 (y2 - (1 : Int32)))))]))
  refine Goes.step (fun t k => XS.iconst X4.here hx rfl (hb hby at_43) k) ?_
  show Goes _ _ _ _ _ _ _ (T4.setTop (mkF m 44 #[.val (.long q0), .second, .val (.int p1), .val (.int (p1 &&& (63 : Int32))), .val (.int y1), .val (.int y2), .unset, .unset, .unset, .unset, .unset, .unset] [(.int (1 : Int32)), (.int y2), (.int (y1 + (1 : Int32))), (.long ((f1 (y1 - (1 : Int32)) (y2 - (1 : Int32))) ||| (f1 y1 (y2 - (1 : Int32)))))]))
  refine Goes.step (fun t k => XS.isub X4.here hx rfl (hb hby at_44) rfl k) ?_
  show Goes _ _ _ _ _ _ _ (T4.setTop (mkF m 45 #[.val (.long q0), .second, .val (.int p1), .val (.int (p1 &&& (63 : Int32))), .val (.int y1), .val (.int y2), .unset, .unset, .unset, .unset, .unset, .unset] [(.int (y2 - (1 : Int32))), (.int (y1 + (1 : Int32))), (.long ((f1 (y1 - (1 : Int32)) (y2 - (1 : Int32))) ||| (f1 y1 (y2 - (1 : Int32)))))]))
  obtain ⟨_, _, ⟨T5, L5, k5, n5⟩, -, X5, ⟨Lc5, hQ5, l5, y5, z5⟩, st5⟩ := Jvm.LawKit.callS X4 hx (y := (⟨"com/example/zugzwang/zugzwang/game/KriegspielAroundPinLaw", "cell", "(II)J"⟩ : MethodName)) hown (mvT hZ (hw _ (List.mem_of_getElem? (i := 0) rfl))) (mvT hZ (hw _ (List.mem_of_getElem? (i := 1) rfl))) (mvT hZ (hw _ (List.mem_of_getElem? (i := 2) rfl))) (mvT hZ (hw _ (List.mem_of_getElem? (i := 3) rfl))) (by decide) (backOf (W := 2) (rm1 l Z tA hw [] (y1 + (1 : Int32)) (y2 - (1 : Int32)) h0) hZ (hw _ (List.mem_of_getElem? (i := 3) rfl)) (hw _ (List.mem_of_getElem? (i := 2) rfl)) (by decide) (by decide)) (g := (mkF m 45 #[.val (.long q0), .second, .val (.int p1), .val (.int (p1 &&& (63 : Int32))), .val (.int y1), .val (.int y2), .unset, .unset, .unset, .unset, .unset, .unset] [(.int (y2 - (1 : Int32))), (.int (y1 + (1 : Int32))), (.long ((f1 (y1 - (1 : Int32)) (y2 - (1 : Int32))) ||| (f1 y1 (y2 - (1 : Int32)))))])) rfl (by rw [hml]; rfl) (argsL := [(.int (y1 + (1 : Int32))), (.int (y2 - (1 : Int32)))]) (rest := [(.long ((f1 (y1 - (1 : Int32)) (y2 - (1 : Int32))) ||| (f1 y1 (y2 - (1 : Int32)))))]) (lenOf own_pd0 rfl) rfl (by show 2 * 0 + _ ≤ _; exact Nat.le_of_eq rfl) (hb hby at_45) (fun _ _ => ⟨rfl, e4, (by decide : 0 + 0 ≤ _), (by decide : 0 + 0 ≤ _)⟩)
  dsimp only [Pt.U, Pt.locs, Pt.cells, Pt.slots] at X5 l5 y5 z5 st5 hQ5
  subst l5 y5 z5
  obtain ⟨rfl, rfl, e5⟩ := hQ5
  try rw [List.append_nil] at X5
  change Stand _ _ _ _ _ _ _ _ _ _ _ _ 0 0 at X5
  refine Goes.step (fun t k => st5 t k) ?_
  show Goes _ _ _ _ _ _ _ (T5.setTop (mkF m 48 #[.val (.long q0), .second, .val (.int p1), .val (.int (p1 &&& (63 : Int32))), .val (.int y1), .val (.int y2), .unset, .unset, .unset, .unset, .unset, .unset] [(.long (f1 (y1 + (1 : Int32)) (y2 - (1 : Int32)))), (.long ((f1 (y1 - (1 : Int32)) (y2 - (1 : Int32))) ||| (f1 y1 (y2 - (1 : Int32)))))]))
  refine Goes.step (fun t k => XS.lor X5.here hx rfl (hb hby at_48) rfl k) ?_
  show Goes _ _ _ _ _ _ _ (T5.setTop (mkF m 49 #[.val (.long q0), .second, .val (.int p1), .val (.int (p1 &&& (63 : Int32))), .val (.int y1), .val (.int y2), .unset, .unset, .unset, .unset, .unset, .unset] [(.long (((f1 (y1 - (1 : Int32)) (y2 - (1 : Int32))) ||| (f1 y1 (y2 - (1 : Int32)))) ||| (f1 (y1 + (1 : Int32)) (y2 - (1 : Int32)))))]))
  refine Goes.step (fun t k => XS.iload X5.here hx rfl (hb hby at_49) rfl k) ?_
  show Goes _ _ _ _ _ _ _ (T5.setTop (mkF m 51 #[.val (.long q0), .second, .val (.int p1), .val (.int (p1 &&& (63 : Int32))), .val (.int y1), .val (.int y2), .unset, .unset, .unset, .unset, .unset, .unset] [(.int y1), (.long (((f1 (y1 - (1 : Int32)) (y2 - (1 : Int32))) ||| (f1 y1 (y2 - (1 : Int32)))) ||| (f1 (y1 + (1 : Int32)) (y2 - (1 : Int32)))))]))
  refine Goes.step (fun t k => XS.iconst X5.here hx rfl (hb hby at_51) k) ?_
  show Goes _ _ _ _ _ _ _ (T5.setTop (mkF m 52 #[.val (.long q0), .second, .val (.int p1), .val (.int (p1 &&& (63 : Int32))), .val (.int y1), .val (.int y2), .unset, .unset, .unset, .unset, .unset, .unset] [(.int (1 : Int32)), (.int y1), (.long (((f1 (y1 - (1 : Int32)) (y2 - (1 : Int32))) ||| (f1 y1 (y2 - (1 : Int32)))) ||| (f1 (y1 + (1 : Int32)) (y2 - (1 : Int32)))))]))
  refine Goes.step (fun t k => XS.isub X5.here hx rfl (hb hby at_52) rfl k) ?_
  show Goes _ _ _ _ _ _ _ (T5.setTop (mkF m 53 #[.val (.long q0), .second, .val (.int p1), .val (.int (p1 &&& (63 : Int32))), .val (.int y1), .val (.int y2), .unset, .unset, .unset, .unset, .unset, .unset] [(.int (y1 - (1 : Int32))), (.long (((f1 (y1 - (1 : Int32)) (y2 - (1 : Int32))) ||| (f1 y1 (y2 - (1 : Int32)))) ||| (f1 (y1 + (1 : Int32)) (y2 - (1 : Int32)))))]))
  refine Goes.step (fun t k => XS.iload X5.here hx rfl (hb hby at_53) rfl k) ?_
  show Goes _ _ _ _ _ _ _ (T5.setTop (mkF m 55 #[.val (.long q0), .second, .val (.int p1), .val (.int (p1 &&& (63 : Int32))), .val (.int y1), .val (.int y2), .unset, .unset, .unset, .unset, .unset, .unset] [(.int y2), (.int (y1 - (1 : Int32))), (.long (((f1 (y1 - (1 : Int32)) (y2 - (1 : Int32))) ||| (f1 y1 (y2 - (1 : Int32)))) ||| (f1 (y1 + (1 : Int32)) (y2 - (1 : Int32)))))]))
  obtain ⟨_, _, ⟨T6, L6, k6, n6⟩, -, X6, ⟨Lc6, hQ6, l6, y6, z6⟩, st6⟩ := Jvm.LawKit.callS X5 hx (y := (⟨"com/example/zugzwang/zugzwang/game/KriegspielAroundPinLaw", "cell", "(II)J"⟩ : MethodName)) hown (mvT hZ (hw _ (List.mem_of_getElem? (i := 0) rfl))) (mvT hZ (hw _ (List.mem_of_getElem? (i := 1) rfl))) (mvT hZ (hw _ (List.mem_of_getElem? (i := 2) rfl))) (mvT hZ (hw _ (List.mem_of_getElem? (i := 3) rfl))) (by decide) (backOf (W := 2) (rm1 l Z tA hw [] (y1 - (1 : Int32)) y2 h0) hZ (hw _ (List.mem_of_getElem? (i := 3) rfl)) (hw _ (List.mem_of_getElem? (i := 2) rfl)) (by decide) (by decide)) (g := (mkF m 55 #[.val (.long q0), .second, .val (.int p1), .val (.int (p1 &&& (63 : Int32))), .val (.int y1), .val (.int y2), .unset, .unset, .unset, .unset, .unset, .unset] [(.int y2), (.int (y1 - (1 : Int32))), (.long (((f1 (y1 - (1 : Int32)) (y2 - (1 : Int32))) ||| (f1 y1 (y2 - (1 : Int32)))) ||| (f1 (y1 + (1 : Int32)) (y2 - (1 : Int32)))))])) rfl (by rw [hml]; rfl) (argsL := [(.int (y1 - (1 : Int32))), (.int y2)]) (rest := [(.long (((f1 (y1 - (1 : Int32)) (y2 - (1 : Int32))) ||| (f1 y1 (y2 - (1 : Int32)))) ||| (f1 (y1 + (1 : Int32)) (y2 - (1 : Int32)))))]) (lenOf own_pd0 rfl) rfl (by show 2 * 0 + _ ≤ _; exact Nat.le_of_eq rfl) (hb hby at_55) (fun _ _ => ⟨rfl, e5, (by decide : 0 + 0 ≤ _), (by decide : 0 + 0 ≤ _)⟩)
  dsimp only [Pt.U, Pt.locs, Pt.cells, Pt.slots] at X6 l6 y6 z6 st6 hQ6
  subst l6 y6 z6
  obtain ⟨rfl, rfl, e6⟩ := hQ6
  try rw [List.append_nil] at X6
  change Stand _ _ _ _ _ _ _ _ _ _ _ _ 0 0 at X6
  refine Goes.step (fun t k => st6 t k) ?_
  show Goes _ _ _ _ _ _ _ (T6.setTop (mkF m 58 #[.val (.long q0), .second, .val (.int p1), .val (.int (p1 &&& (63 : Int32))), .val (.int y1), .val (.int y2), .unset, .unset, .unset, .unset, .unset, .unset] [(.long (f1 (y1 - (1 : Int32)) y2)), (.long (((f1 (y1 - (1 : Int32)) (y2 - (1 : Int32))) ||| (f1 y1 (y2 - (1 : Int32)))) ||| (f1 (y1 + (1 : Int32)) (y2 - (1 : Int32)))))]))
  refine Goes.step (fun t k => XS.lor X6.here hx rfl (hb hby at_58) rfl k) ?_
  show Goes _ _ _ _ _ _ _ (T6.setTop (mkF m 59 #[.val (.long q0), .second, .val (.int p1), .val (.int (p1 &&& (63 : Int32))), .val (.int y1), .val (.int y2), .unset, .unset, .unset, .unset, .unset, .unset] [(.long ((((f1 (y1 - (1 : Int32)) (y2 - (1 : Int32))) ||| (f1 y1 (y2 - (1 : Int32)))) ||| (f1 (y1 + (1 : Int32)) (y2 - (1 : Int32)))) ||| (f1 (y1 - (1 : Int32)) y2)))]))
  refine Goes.step (fun t k => XS.iload X6.here hx rfl (hb hby at_59) rfl k) ?_
  show Goes _ _ _ _ _ _ _ (T6.setTop (mkF m 61 #[.val (.long q0), .second, .val (.int p1), .val (.int (p1 &&& (63 : Int32))), .val (.int y1), .val (.int y2), .unset, .unset, .unset, .unset, .unset, .unset] [(.int y1), (.long ((((f1 (y1 - (1 : Int32)) (y2 - (1 : Int32))) ||| (f1 y1 (y2 - (1 : Int32)))) ||| (f1 (y1 + (1 : Int32)) (y2 - (1 : Int32)))) ||| (f1 (y1 - (1 : Int32)) y2)))]))
  refine Goes.step (fun t k => XS.iconst X6.here hx rfl (hb hby at_61) k) ?_
  show Goes _ _ _ _ _ _ _ (T6.setTop (mkF m 62 #[.val (.long q0), .second, .val (.int p1), .val (.int (p1 &&& (63 : Int32))), .val (.int y1), .val (.int y2), .unset, .unset, .unset, .unset, .unset, .unset] [(.int (1 : Int32)), (.int y1), (.long ((((f1 (y1 - (1 : Int32)) (y2 - (1 : Int32))) ||| (f1 y1 (y2 - (1 : Int32)))) ||| (f1 (y1 + (1 : Int32)) (y2 - (1 : Int32)))) ||| (f1 (y1 - (1 : Int32)) y2)))]))
  refine Goes.step (fun t k => XS.iadd X6.here hx rfl (hb hby at_62) rfl k) ?_
  show Goes _ _ _ _ _ _ _ (T6.setTop (mkF m 63 #[.val (.long q0), .second, .val (.int p1), .val (.int (p1 &&& (63 : Int32))), .val (.int y1), .val (.int y2), .unset, .unset, .unset, .unset, .unset, .unset] [(.int (y1 + (1 : Int32))), (.long ((((f1 (y1 - (1 : Int32)) (y2 - (1 : Int32))) ||| (f1 y1 (y2 - (1 : Int32)))) ||| (f1 (y1 + (1 : Int32)) (y2 - (1 : Int32)))) ||| (f1 (y1 - (1 : Int32)) y2)))]))
  refine Goes.step (fun t k => XS.iload X6.here hx rfl (hb hby at_63) rfl k) ?_
  show Goes _ _ _ _ _ _ _ (T6.setTop (mkF m 65 #[.val (.long q0), .second, .val (.int p1), .val (.int (p1 &&& (63 : Int32))), .val (.int y1), .val (.int y2), .unset, .unset, .unset, .unset, .unset, .unset] [(.int y2), (.int (y1 + (1 : Int32))), (.long ((((f1 (y1 - (1 : Int32)) (y2 - (1 : Int32))) ||| (f1 y1 (y2 - (1 : Int32)))) ||| (f1 (y1 + (1 : Int32)) (y2 - (1 : Int32)))) ||| (f1 (y1 - (1 : Int32)) y2)))]))
  obtain ⟨_, _, ⟨T7, L7, k7, n7⟩, -, X7, ⟨Lc7, hQ7, l7, y7, z7⟩, st7⟩ := Jvm.LawKit.callS X6 hx (y := (⟨"com/example/zugzwang/zugzwang/game/KriegspielAroundPinLaw", "cell", "(II)J"⟩ : MethodName)) hown (mvT hZ (hw _ (List.mem_of_getElem? (i := 0) rfl))) (mvT hZ (hw _ (List.mem_of_getElem? (i := 1) rfl))) (mvT hZ (hw _ (List.mem_of_getElem? (i := 2) rfl))) (mvT hZ (hw _ (List.mem_of_getElem? (i := 3) rfl))) (by decide) (backOf (W := 2) (rm1 l Z tA hw [] (y1 + (1 : Int32)) y2 h0) hZ (hw _ (List.mem_of_getElem? (i := 3) rfl)) (hw _ (List.mem_of_getElem? (i := 2) rfl)) (by decide) (by decide)) (g := (mkF m 65 #[.val (.long q0), .second, .val (.int p1), .val (.int (p1 &&& (63 : Int32))), .val (.int y1), .val (.int y2), .unset, .unset, .unset, .unset, .unset, .unset] [(.int y2), (.int (y1 + (1 : Int32))), (.long ((((f1 (y1 - (1 : Int32)) (y2 - (1 : Int32))) ||| (f1 y1 (y2 - (1 : Int32)))) ||| (f1 (y1 + (1 : Int32)) (y2 - (1 : Int32)))) ||| (f1 (y1 - (1 : Int32)) y2)))])) rfl (by rw [hml]; rfl) (argsL := [(.int (y1 + (1 : Int32))), (.int y2)]) (rest := [(.long ((((f1 (y1 - (1 : Int32)) (y2 - (1 : Int32))) ||| (f1 y1 (y2 - (1 : Int32)))) ||| (f1 (y1 + (1 : Int32)) (y2 - (1 : Int32)))) ||| (f1 (y1 - (1 : Int32)) y2)))]) (lenOf own_pd0 rfl) rfl (by show 2 * 0 + _ ≤ _; exact Nat.le_of_eq rfl) (hb hby at_65) (fun _ _ => ⟨rfl, e6, (by decide : 0 + 0 ≤ _), (by decide : 0 + 0 ≤ _)⟩)
  dsimp only [Pt.U, Pt.locs, Pt.cells, Pt.slots] at X7 l7 y7 z7 st7 hQ7
  subst l7 y7 z7
  obtain ⟨rfl, rfl, e7⟩ := hQ7
  try rw [List.append_nil] at X7
  change Stand _ _ _ _ _ _ _ _ _ _ _ _ 0 0 at X7
  refine Goes.step (fun t k => st7 t k) ?_
  show Goes _ _ _ _ _ _ _ (T7.setTop (mkF m 68 #[.val (.long q0), .second, .val (.int p1), .val (.int (p1 &&& (63 : Int32))), .val (.int y1), .val (.int y2), .unset, .unset, .unset, .unset, .unset, .unset] [(.long (f1 (y1 + (1 : Int32)) y2)), (.long ((((f1 (y1 - (1 : Int32)) (y2 - (1 : Int32))) ||| (f1 y1 (y2 - (1 : Int32)))) ||| (f1 (y1 + (1 : Int32)) (y2 - (1 : Int32)))) ||| (f1 (y1 - (1 : Int32)) y2)))]))
  refine Goes.step (fun t k => XS.lor X7.here hx rfl (hb hby at_68) rfl k) ?_
  show Goes _ _ _ _ _ _ _ (T7.setTop (mkF m 69 #[.val (.long q0), .second, .val (.int p1), .val (.int (p1 &&& (63 : Int32))), .val (.int y1), .val (.int y2), .unset, .unset, .unset, .unset, .unset, .unset] [(.long (((((f1 (y1 - (1 : Int32)) (y2 - (1 : Int32))) ||| (f1 y1 (y2 - (1 : Int32)))) ||| (f1 (y1 + (1 : Int32)) (y2 - (1 : Int32)))) ||| (f1 (y1 - (1 : Int32)) y2)) ||| (f1 (y1 + (1 : Int32)) y2)))]))
  refine Goes.step (fun t k => XS.iload X7.here hx rfl (hb hby at_69) rfl k) ?_
  show Goes _ _ _ _ _ _ _ (T7.setTop (mkF m 71 #[.val (.long q0), .second, .val (.int p1), .val (.int (p1 &&& (63 : Int32))), .val (.int y1), .val (.int y2), .unset, .unset, .unset, .unset, .unset, .unset] [(.int y1), (.long (((((f1 (y1 - (1 : Int32)) (y2 - (1 : Int32))) ||| (f1 y1 (y2 - (1 : Int32)))) ||| (f1 (y1 + (1 : Int32)) (y2 - (1 : Int32)))) ||| (f1 (y1 - (1 : Int32)) y2)) ||| (f1 (y1 + (1 : Int32)) y2)))]))
  refine Goes.step (fun t k => XS.iconst X7.here hx rfl (hb hby at_71) k) ?_
  show Goes _ _ _ _ _ _ _ (T7.setTop (mkF m 72 #[.val (.long q0), .second, .val (.int p1), .val (.int (p1 &&& (63 : Int32))), .val (.int y1), .val (.int y2), .unset, .unset, .unset, .unset, .unset, .unset] [(.int (1 : Int32)), (.int y1), (.long (((((f1 (y1 - (1 : Int32)) (y2 - (1 : Int32))) ||| (f1 y1 (y2 - (1 : Int32)))) ||| (f1 (y1 + (1 : Int32)) (y2 - (1 : Int32)))) ||| (f1 (y1 - (1 : Int32)) y2)) ||| (f1 (y1 + (1 : Int32)) y2)))]))
  refine Goes.step (fun t k => XS.isub X7.here hx rfl (hb hby at_72) rfl k) ?_
  show Goes _ _ _ _ _ _ _ (T7.setTop (mkF m 73 #[.val (.long q0), .second, .val (.int p1), .val (.int (p1 &&& (63 : Int32))), .val (.int y1), .val (.int y2), .unset, .unset, .unset, .unset, .unset, .unset] [(.int (y1 - (1 : Int32))), (.long (((((f1 (y1 - (1 : Int32)) (y2 - (1 : Int32))) ||| (f1 y1 (y2 - (1 : Int32)))) ||| (f1 (y1 + (1 : Int32)) (y2 - (1 : Int32)))) ||| (f1 (y1 - (1 : Int32)) y2)) ||| (f1 (y1 + (1 : Int32)) y2)))]))
  refine Goes.step (fun t k => XS.iload X7.here hx rfl (hb hby at_73) rfl k) ?_
  show Goes _ _ _ _ _ _ _ (T7.setTop (mkF m 75 #[.val (.long q0), .second, .val (.int p1), .val (.int (p1 &&& (63 : Int32))), .val (.int y1), .val (.int y2), .unset, .unset, .unset, .unset, .unset, .unset] [(.int y2), (.int (y1 - (1 : Int32))), (.long (((((f1 (y1 - (1 : Int32)) (y2 - (1 : Int32))) ||| (f1 y1 (y2 - (1 : Int32)))) ||| (f1 (y1 + (1 : Int32)) (y2 - (1 : Int32)))) ||| (f1 (y1 - (1 : Int32)) y2)) ||| (f1 (y1 + (1 : Int32)) y2)))]))
  refine Goes.step (fun t k => XS.iconst X7.here hx rfl (hb hby at_75) k) ?_
  show Goes _ _ _ _ _ _ _ (T7.setTop (mkF m 76 #[.val (.long q0), .second, .val (.int p1), .val (.int (p1 &&& (63 : Int32))), .val (.int y1), .val (.int y2), .unset, .unset, .unset, .unset, .unset, .unset] [(.int (1 : Int32)), (.int y2), (.int (y1 - (1 : Int32))), (.long (((((f1 (y1 - (1 : Int32)) (y2 - (1 : Int32))) ||| (f1 y1 (y2 - (1 : Int32)))) ||| (f1 (y1 + (1 : Int32)) (y2 - (1 : Int32)))) ||| (f1 (y1 - (1 : Int32)) y2)) ||| (f1 (y1 + (1 : Int32)) y2)))]))
  refine Goes.step (fun t k => XS.iadd X7.here hx rfl (hb hby at_76) rfl k) ?_
  show Goes _ _ _ _ _ _ _ (T7.setTop (mkF m 77 #[.val (.long q0), .second, .val (.int p1), .val (.int (p1 &&& (63 : Int32))), .val (.int y1), .val (.int y2), .unset, .unset, .unset, .unset, .unset, .unset] [(.int (y2 + (1 : Int32))), (.int (y1 - (1 : Int32))), (.long (((((f1 (y1 - (1 : Int32)) (y2 - (1 : Int32))) ||| (f1 y1 (y2 - (1 : Int32)))) ||| (f1 (y1 + (1 : Int32)) (y2 - (1 : Int32)))) ||| (f1 (y1 - (1 : Int32)) y2)) ||| (f1 (y1 + (1 : Int32)) y2)))]))
  obtain ⟨_, _, ⟨T8, L8, k8, n8⟩, -, X8, ⟨Lc8, hQ8, l8, y8, z8⟩, st8⟩ := Jvm.LawKit.callS X7 hx (y := (⟨"com/example/zugzwang/zugzwang/game/KriegspielAroundPinLaw", "cell", "(II)J"⟩ : MethodName)) hown (mvT hZ (hw _ (List.mem_of_getElem? (i := 0) rfl))) (mvT hZ (hw _ (List.mem_of_getElem? (i := 1) rfl))) (mvT hZ (hw _ (List.mem_of_getElem? (i := 2) rfl))) (mvT hZ (hw _ (List.mem_of_getElem? (i := 3) rfl))) (by decide) (backOf (W := 2) (rm1 l Z tA hw [] (y1 - (1 : Int32)) (y2 + (1 : Int32)) h0) hZ (hw _ (List.mem_of_getElem? (i := 3) rfl)) (hw _ (List.mem_of_getElem? (i := 2) rfl)) (by decide) (by decide)) (g := (mkF m 77 #[.val (.long q0), .second, .val (.int p1), .val (.int (p1 &&& (63 : Int32))), .val (.int y1), .val (.int y2), .unset, .unset, .unset, .unset, .unset, .unset] [(.int (y2 + (1 : Int32))), (.int (y1 - (1 : Int32))), (.long (((((f1 (y1 - (1 : Int32)) (y2 - (1 : Int32))) ||| (f1 y1 (y2 - (1 : Int32)))) ||| (f1 (y1 + (1 : Int32)) (y2 - (1 : Int32)))) ||| (f1 (y1 - (1 : Int32)) y2)) ||| (f1 (y1 + (1 : Int32)) y2)))])) rfl (by rw [hml]; rfl) (argsL := [(.int (y1 - (1 : Int32))), (.int (y2 + (1 : Int32)))]) (rest := [(.long (((((f1 (y1 - (1 : Int32)) (y2 - (1 : Int32))) ||| (f1 y1 (y2 - (1 : Int32)))) ||| (f1 (y1 + (1 : Int32)) (y2 - (1 : Int32)))) ||| (f1 (y1 - (1 : Int32)) y2)) ||| (f1 (y1 + (1 : Int32)) y2)))]) (lenOf own_pd0 rfl) rfl (by show 2 * 0 + _ ≤ _; exact Nat.le_of_eq rfl) (hb hby at_77) (fun _ _ => ⟨rfl, e7, (by decide : 0 + 0 ≤ _), (by decide : 0 + 0 ≤ _)⟩)
  dsimp only [Pt.U, Pt.locs, Pt.cells, Pt.slots] at X8 l8 y8 z8 st8 hQ8
  subst l8 y8 z8
  obtain ⟨rfl, rfl, e8⟩ := hQ8
  try rw [List.append_nil] at X8
  change Stand _ _ _ _ _ _ _ _ _ _ _ _ 0 0 at X8
  refine Goes.step (fun t k => st8 t k) ?_
  show Goes _ _ _ _ _ _ _ (T8.setTop (mkF m 80 #[.val (.long q0), .second, .val (.int p1), .val (.int (p1 &&& (63 : Int32))), .val (.int y1), .val (.int y2), .unset, .unset, .unset, .unset, .unset, .unset] [(.long (f1 (y1 - (1 : Int32)) (y2 + (1 : Int32)))), (.long (((((f1 (y1 - (1 : Int32)) (y2 - (1 : Int32))) ||| (f1 y1 (y2 - (1 : Int32)))) ||| (f1 (y1 + (1 : Int32)) (y2 - (1 : Int32)))) ||| (f1 (y1 - (1 : Int32)) y2)) ||| (f1 (y1 + (1 : Int32)) y2)))]))
  refine Goes.step (fun t k => XS.lor X8.here hx rfl (hb hby at_80) rfl k) ?_
  show Goes _ _ _ _ _ _ _ (T8.setTop (mkF m 81 #[.val (.long q0), .second, .val (.int p1), .val (.int (p1 &&& (63 : Int32))), .val (.int y1), .val (.int y2), .unset, .unset, .unset, .unset, .unset, .unset] [(.long ((((((f1 (y1 - (1 : Int32)) (y2 - (1 : Int32))) ||| (f1 y1 (y2 - (1 : Int32)))) ||| (f1 (y1 + (1 : Int32)) (y2 - (1 : Int32)))) ||| (f1 (y1 - (1 : Int32)) y2)) ||| (f1 (y1 + (1 : Int32)) y2)) ||| (f1 (y1 - (1 : Int32)) (y2 + (1 : Int32)))))]))
  refine Goes.step (fun t k => XS.iload X8.here hx rfl (hb hby at_81) rfl k) ?_
  show Goes _ _ _ _ _ _ _ (T8.setTop (mkF m 83 #[.val (.long q0), .second, .val (.int p1), .val (.int (p1 &&& (63 : Int32))), .val (.int y1), .val (.int y2), .unset, .unset, .unset, .unset, .unset, .unset] [(.int y1), (.long ((((((f1 (y1 - (1 : Int32)) (y2 - (1 : Int32))) ||| (f1 y1 (y2 - (1 : Int32)))) ||| (f1 (y1 + (1 : Int32)) (y2 - (1 : Int32)))) ||| (f1 (y1 - (1 : Int32)) y2)) ||| (f1 (y1 + (1 : Int32)) y2)) ||| (f1 (y1 - (1 : Int32)) (y2 + (1 : Int32)))))]))
  refine Goes.step (fun t k => XS.iload X8.here hx rfl (hb hby at_83) rfl k) ?_
  show Goes _ _ _ _ _ _ _ (T8.setTop (mkF m 85 #[.val (.long q0), .second, .val (.int p1), .val (.int (p1 &&& (63 : Int32))), .val (.int y1), .val (.int y2), .unset, .unset, .unset, .unset, .unset, .unset] [(.int y2), (.int y1), (.long ((((((f1 (y1 - (1 : Int32)) (y2 - (1 : Int32))) ||| (f1 y1 (y2 - (1 : Int32)))) ||| (f1 (y1 + (1 : Int32)) (y2 - (1 : Int32)))) ||| (f1 (y1 - (1 : Int32)) y2)) ||| (f1 (y1 + (1 : Int32)) y2)) ||| (f1 (y1 - (1 : Int32)) (y2 + (1 : Int32)))))]))
  refine Goes.step (fun t k => XS.iconst X8.here hx rfl (hb hby at_85) k) ?_
  show Goes _ _ _ _ _ _ _ (T8.setTop (mkF m 86 #[.val (.long q0), .second, .val (.int p1), .val (.int (p1 &&& (63 : Int32))), .val (.int y1), .val (.int y2), .unset, .unset, .unset, .unset, .unset, .unset] [(.int (1 : Int32)), (.int y2), (.int y1), (.long ((((((f1 (y1 - (1 : Int32)) (y2 - (1 : Int32))) ||| (f1 y1 (y2 - (1 : Int32)))) ||| (f1 (y1 + (1 : Int32)) (y2 - (1 : Int32)))) ||| (f1 (y1 - (1 : Int32)) y2)) ||| (f1 (y1 + (1 : Int32)) y2)) ||| (f1 (y1 - (1 : Int32)) (y2 + (1 : Int32)))))]))
  refine Goes.step (fun t k => XS.iadd X8.here hx rfl (hb hby at_86) rfl k) ?_
  show Goes _ _ _ _ _ _ _ (T8.setTop (mkF m 87 #[.val (.long q0), .second, .val (.int p1), .val (.int (p1 &&& (63 : Int32))), .val (.int y1), .val (.int y2), .unset, .unset, .unset, .unset, .unset, .unset] [(.int (y2 + (1 : Int32))), (.int y1), (.long ((((((f1 (y1 - (1 : Int32)) (y2 - (1 : Int32))) ||| (f1 y1 (y2 - (1 : Int32)))) ||| (f1 (y1 + (1 : Int32)) (y2 - (1 : Int32)))) ||| (f1 (y1 - (1 : Int32)) y2)) ||| (f1 (y1 + (1 : Int32)) y2)) ||| (f1 (y1 - (1 : Int32)) (y2 + (1 : Int32)))))]))
  obtain ⟨_, _, ⟨T9, L9, k9, n9⟩, -, X9, ⟨Lc9, hQ9, l9, y9, z9⟩, st9⟩ := Jvm.LawKit.callS X8 hx (y := (⟨"com/example/zugzwang/zugzwang/game/KriegspielAroundPinLaw", "cell", "(II)J"⟩ : MethodName)) hown (mvT hZ (hw _ (List.mem_of_getElem? (i := 0) rfl))) (mvT hZ (hw _ (List.mem_of_getElem? (i := 1) rfl))) (mvT hZ (hw _ (List.mem_of_getElem? (i := 2) rfl))) (mvT hZ (hw _ (List.mem_of_getElem? (i := 3) rfl))) (by decide) (backOf (W := 2) (rm1 l Z tA hw [] y1 (y2 + (1 : Int32)) h0) hZ (hw _ (List.mem_of_getElem? (i := 3) rfl)) (hw _ (List.mem_of_getElem? (i := 2) rfl)) (by decide) (by decide)) (g := (mkF m 87 #[.val (.long q0), .second, .val (.int p1), .val (.int (p1 &&& (63 : Int32))), .val (.int y1), .val (.int y2), .unset, .unset, .unset, .unset, .unset, .unset] [(.int (y2 + (1 : Int32))), (.int y1), (.long ((((((f1 (y1 - (1 : Int32)) (y2 - (1 : Int32))) ||| (f1 y1 (y2 - (1 : Int32)))) ||| (f1 (y1 + (1 : Int32)) (y2 - (1 : Int32)))) ||| (f1 (y1 - (1 : Int32)) y2)) ||| (f1 (y1 + (1 : Int32)) y2)) ||| (f1 (y1 - (1 : Int32)) (y2 + (1 : Int32)))))])) rfl (by rw [hml]; rfl) (argsL := [(.int y1), (.int (y2 + (1 : Int32)))]) (rest := [(.long ((((((f1 (y1 - (1 : Int32)) (y2 - (1 : Int32))) ||| (f1 y1 (y2 - (1 : Int32)))) ||| (f1 (y1 + (1 : Int32)) (y2 - (1 : Int32)))) ||| (f1 (y1 - (1 : Int32)) y2)) ||| (f1 (y1 + (1 : Int32)) y2)) ||| (f1 (y1 - (1 : Int32)) (y2 + (1 : Int32)))))]) (lenOf own_pd0 rfl) rfl (by show 2 * 0 + _ ≤ _; exact Nat.le_of_eq rfl) (hb hby at_87) (fun _ _ => ⟨rfl, e8, (by decide : 0 + 0 ≤ _), (by decide : 0 + 0 ≤ _)⟩)
  dsimp only [Pt.U, Pt.locs, Pt.cells, Pt.slots] at X9 l9 y9 z9 st9 hQ9
  subst l9 y9 z9
  obtain ⟨rfl, rfl, e9⟩ := hQ9
  try rw [List.append_nil] at X9
  change Stand _ _ _ _ _ _ _ _ _ _ _ _ 0 0 at X9
  refine Goes.step (fun t k => st9 t k) ?_
  show Goes _ _ _ _ _ _ _ (T9.setTop (mkF m 90 #[.val (.long q0), .second, .val (.int p1), .val (.int (p1 &&& (63 : Int32))), .val (.int y1), .val (.int y2), .unset, .unset, .unset, .unset, .unset, .unset] [(.long (f1 y1 (y2 + (1 : Int32)))), (.long ((((((f1 (y1 - (1 : Int32)) (y2 - (1 : Int32))) ||| (f1 y1 (y2 - (1 : Int32)))) ||| (f1 (y1 + (1 : Int32)) (y2 - (1 : Int32)))) ||| (f1 (y1 - (1 : Int32)) y2)) ||| (f1 (y1 + (1 : Int32)) y2)) ||| (f1 (y1 - (1 : Int32)) (y2 + (1 : Int32)))))]))
  refine Goes.step (fun t k => XS.lor X9.here hx rfl (hb hby at_90) rfl k) ?_
  show Goes _ _ _ _ _ _ _ (T9.setTop (mkF m 91 #[.val (.long q0), .second, .val (.int p1), .val (.int (p1 &&& (63 : Int32))), .val (.int y1), .val (.int y2), .unset, .unset, .unset, .unset, .unset, .unset] [(.long (((((((f1 (y1 - (1 : Int32)) (y2 - (1 : Int32))) ||| (f1 y1 (y2 - (1 : Int32)))) ||| (f1 (y1 + (1 : Int32)) (y2 - (1 : Int32)))) ||| (f1 (y1 - (1 : Int32)) y2)) ||| (f1 (y1 + (1 : Int32)) y2)) ||| (f1 (y1 - (1 : Int32)) (y2 + (1 : Int32)))) ||| (f1 y1 (y2 + (1 : Int32)))))]))
  refine Goes.step (fun t k => XS.iload X9.here hx rfl (hb hby at_91) rfl k) ?_
  show Goes _ _ _ _ _ _ _ (T9.setTop (mkF m 93 #[.val (.long q0), .second, .val (.int p1), .val (.int (p1 &&& (63 : Int32))), .val (.int y1), .val (.int y2), .unset, .unset, .unset, .unset, .unset, .unset] [(.int y1), (.long (((((((f1 (y1 - (1 : Int32)) (y2 - (1 : Int32))) ||| (f1 y1 (y2 - (1 : Int32)))) ||| (f1 (y1 + (1 : Int32)) (y2 - (1 : Int32)))) ||| (f1 (y1 - (1 : Int32)) y2)) ||| (f1 (y1 + (1 : Int32)) y2)) ||| (f1 (y1 - (1 : Int32)) (y2 + (1 : Int32)))) ||| (f1 y1 (y2 + (1 : Int32)))))]))
  refine Goes.step (fun t k => XS.iconst X9.here hx rfl (hb hby at_93) k) ?_
  show Goes _ _ _ _ _ _ _ (T9.setTop (mkF m 94 #[.val (.long q0), .second, .val (.int p1), .val (.int (p1 &&& (63 : Int32))), .val (.int y1), .val (.int y2), .unset, .unset, .unset, .unset, .unset, .unset] [(.int (1 : Int32)), (.int y1), (.long (((((((f1 (y1 - (1 : Int32)) (y2 - (1 : Int32))) ||| (f1 y1 (y2 - (1 : Int32)))) ||| (f1 (y1 + (1 : Int32)) (y2 - (1 : Int32)))) ||| (f1 (y1 - (1 : Int32)) y2)) ||| (f1 (y1 + (1 : Int32)) y2)) ||| (f1 (y1 - (1 : Int32)) (y2 + (1 : Int32)))) ||| (f1 y1 (y2 + (1 : Int32)))))]))
  refine Goes.step (fun t k => XS.iadd X9.here hx rfl (hb hby at_94) rfl k) ?_
  show Goes _ _ _ _ _ _ _ (T9.setTop (mkF m 95 #[.val (.long q0), .second, .val (.int p1), .val (.int (p1 &&& (63 : Int32))), .val (.int y1), .val (.int y2), .unset, .unset, .unset, .unset, .unset, .unset] [(.int (y1 + (1 : Int32))), (.long (((((((f1 (y1 - (1 : Int32)) (y2 - (1 : Int32))) ||| (f1 y1 (y2 - (1 : Int32)))) ||| (f1 (y1 + (1 : Int32)) (y2 - (1 : Int32)))) ||| (f1 (y1 - (1 : Int32)) y2)) ||| (f1 (y1 + (1 : Int32)) y2)) ||| (f1 (y1 - (1 : Int32)) (y2 + (1 : Int32)))) ||| (f1 y1 (y2 + (1 : Int32)))))]))
  refine Goes.step (fun t k => XS.iload X9.here hx rfl (hb hby at_95) rfl k) ?_
  show Goes _ _ _ _ _ _ _ (T9.setTop (mkF m 97 #[.val (.long q0), .second, .val (.int p1), .val (.int (p1 &&& (63 : Int32))), .val (.int y1), .val (.int y2), .unset, .unset, .unset, .unset, .unset, .unset] [(.int y2), (.int (y1 + (1 : Int32))), (.long (((((((f1 (y1 - (1 : Int32)) (y2 - (1 : Int32))) ||| (f1 y1 (y2 - (1 : Int32)))) ||| (f1 (y1 + (1 : Int32)) (y2 - (1 : Int32)))) ||| (f1 (y1 - (1 : Int32)) y2)) ||| (f1 (y1 + (1 : Int32)) y2)) ||| (f1 (y1 - (1 : Int32)) (y2 + (1 : Int32)))) ||| (f1 y1 (y2 + (1 : Int32)))))]))
  refine Goes.step (fun t k => XS.iconst X9.here hx rfl (hb hby at_97) k) ?_
  show Goes _ _ _ _ _ _ _ (T9.setTop (mkF m 98 #[.val (.long q0), .second, .val (.int p1), .val (.int (p1 &&& (63 : Int32))), .val (.int y1), .val (.int y2), .unset, .unset, .unset, .unset, .unset, .unset] [(.int (1 : Int32)), (.int y2), (.int (y1 + (1 : Int32))), (.long (((((((f1 (y1 - (1 : Int32)) (y2 - (1 : Int32))) ||| (f1 y1 (y2 - (1 : Int32)))) ||| (f1 (y1 + (1 : Int32)) (y2 - (1 : Int32)))) ||| (f1 (y1 - (1 : Int32)) y2)) ||| (f1 (y1 + (1 : Int32)) y2)) ||| (f1 (y1 - (1 : Int32)) (y2 + (1 : Int32)))) ||| (f1 y1 (y2 + (1 : Int32)))))]))
  refine Goes.step (fun t k => XS.iadd X9.here hx rfl (hb hby at_98) rfl k) ?_
  show Goes _ _ _ _ _ _ _ (T9.setTop (mkF m 99 #[.val (.long q0), .second, .val (.int p1), .val (.int (p1 &&& (63 : Int32))), .val (.int y1), .val (.int y2), .unset, .unset, .unset, .unset, .unset, .unset] [(.int (y2 + (1 : Int32))), (.int (y1 + (1 : Int32))), (.long (((((((f1 (y1 - (1 : Int32)) (y2 - (1 : Int32))) ||| (f1 y1 (y2 - (1 : Int32)))) ||| (f1 (y1 + (1 : Int32)) (y2 - (1 : Int32)))) ||| (f1 (y1 - (1 : Int32)) y2)) ||| (f1 (y1 + (1 : Int32)) y2)) ||| (f1 (y1 - (1 : Int32)) (y2 + (1 : Int32)))) ||| (f1 y1 (y2 + (1 : Int32)))))]))
  obtain ⟨_, _, ⟨T10, L10, k10, n10⟩, -, X10, ⟨Lc10, hQ10, l10, y10, z10⟩, st10⟩ := Jvm.LawKit.callS X9 hx (y := (⟨"com/example/zugzwang/zugzwang/game/KriegspielAroundPinLaw", "cell", "(II)J"⟩ : MethodName)) hown (mvT hZ (hw _ (List.mem_of_getElem? (i := 0) rfl))) (mvT hZ (hw _ (List.mem_of_getElem? (i := 1) rfl))) (mvT hZ (hw _ (List.mem_of_getElem? (i := 2) rfl))) (mvT hZ (hw _ (List.mem_of_getElem? (i := 3) rfl))) (by decide) (backOf (W := 2) (rm1 l Z tA hw [] (y1 + (1 : Int32)) (y2 + (1 : Int32)) h0) hZ (hw _ (List.mem_of_getElem? (i := 3) rfl)) (hw _ (List.mem_of_getElem? (i := 2) rfl)) (by decide) (by decide)) (g := (mkF m 99 #[.val (.long q0), .second, .val (.int p1), .val (.int (p1 &&& (63 : Int32))), .val (.int y1), .val (.int y2), .unset, .unset, .unset, .unset, .unset, .unset] [(.int (y2 + (1 : Int32))), (.int (y1 + (1 : Int32))), (.long (((((((f1 (y1 - (1 : Int32)) (y2 - (1 : Int32))) ||| (f1 y1 (y2 - (1 : Int32)))) ||| (f1 (y1 + (1 : Int32)) (y2 - (1 : Int32)))) ||| (f1 (y1 - (1 : Int32)) y2)) ||| (f1 (y1 + (1 : Int32)) y2)) ||| (f1 (y1 - (1 : Int32)) (y2 + (1 : Int32)))) ||| (f1 y1 (y2 + (1 : Int32)))))])) rfl (by rw [hml]; rfl) (argsL := [(.int (y1 + (1 : Int32))), (.int (y2 + (1 : Int32)))]) (rest := [(.long (((((((f1 (y1 - (1 : Int32)) (y2 - (1 : Int32))) ||| (f1 y1 (y2 - (1 : Int32)))) ||| (f1 (y1 + (1 : Int32)) (y2 - (1 : Int32)))) ||| (f1 (y1 - (1 : Int32)) y2)) ||| (f1 (y1 + (1 : Int32)) y2)) ||| (f1 (y1 - (1 : Int32)) (y2 + (1 : Int32)))) ||| (f1 y1 (y2 + (1 : Int32)))))]) (lenOf own_pd0 rfl) rfl (by show 2 * 0 + _ ≤ _; exact Nat.le_of_eq rfl) (hb hby at_99) (fun _ _ => ⟨rfl, e9, (by decide : 0 + 0 ≤ _), (by decide : 0 + 0 ≤ _)⟩)
  dsimp only [Pt.U, Pt.locs, Pt.cells, Pt.slots] at X10 l10 y10 z10 st10 hQ10
  subst l10 y10 z10
  obtain ⟨rfl, rfl, e10⟩ := hQ10
  try rw [List.append_nil] at X10
  change Stand _ _ _ _ _ _ _ _ _ _ _ _ 0 0 at X10
  refine Goes.step (fun t k => st10 t k) ?_
  show Goes _ _ _ _ _ _ _ (T10.setTop (mkF m 102 #[.val (.long q0), .second, .val (.int p1), .val (.int (p1 &&& (63 : Int32))), .val (.int y1), .val (.int y2), .unset, .unset, .unset, .unset, .unset, .unset] [(.long (f1 (y1 + (1 : Int32)) (y2 + (1 : Int32)))), (.long (((((((f1 (y1 - (1 : Int32)) (y2 - (1 : Int32))) ||| (f1 y1 (y2 - (1 : Int32)))) ||| (f1 (y1 + (1 : Int32)) (y2 - (1 : Int32)))) ||| (f1 (y1 - (1 : Int32)) y2)) ||| (f1 (y1 + (1 : Int32)) y2)) ||| (f1 (y1 - (1 : Int32)) (y2 + (1 : Int32)))) ||| (f1 y1 (y2 + (1 : Int32)))))]))
  refine Goes.step (fun t k => XS.lor X10.here hx rfl (hb hby at_102) rfl k) ?_
  show Goes _ _ _ _ _ _ _ (T10.setTop (mkF m 103 #[.val (.long q0), .second, .val (.int p1), .val (.int (p1 &&& (63 : Int32))), .val (.int y1), .val (.int y2), .unset, .unset, .unset, .unset, .unset, .unset] [(.long ((((((((f1 (y1 - (1 : Int32)) (y2 - (1 : Int32))) ||| (f1 y1 (y2 - (1 : Int32)))) ||| (f1 (y1 + (1 : Int32)) (y2 - (1 : Int32)))) ||| (f1 (y1 - (1 : Int32)) y2)) ||| (f1 (y1 + (1 : Int32)) y2)) ||| (f1 (y1 - (1 : Int32)) (y2 + (1 : Int32)))) ||| (f1 y1 (y2 + (1 : Int32)))) ||| (f1 (y1 + (1 : Int32)) (y2 + (1 : Int32)))))]))
  refine Goes.step (fun t k => XS.lstore X10.here hx rfl (hb hby at_103) rfl (l' := #[.val (.long q0), .second, .val (.int p1), .val (.int (p1 &&& (63 : Int32))), .val (.int y1), .val (.int y2), .val (.long ((((((((f1 (y1 - (1 : Int32)) (y2 - (1 : Int32))) ||| (f1 y1 (y2 - (1 : Int32)))) ||| (f1 (y1 + (1 : Int32)) (y2 - (1 : Int32)))) ||| (f1 (y1 - (1 : Int32)) y2)) ||| (f1 (y1 + (1 : Int32)) y2)) ||| (f1 (y1 - (1 : Int32)) (y2 + (1 : Int32)))) ||| (f1 y1 (y2 + (1 : Int32)))) ||| (f1 (y1 + (1 : Int32)) (y2 + (1 : Int32))))), .second, .unset, .unset, .unset, .unset]) rfl k) ?_
  show Goes _ _ _ _ _ _ _ (T10.setTop (mkF m 105 #[.val (.long q0), .second, .val (.int p1), .val (.int (p1 &&& (63 : Int32))), .val (.int y1), .val (.int y2), .val (.long ((((((((f1 (y1 - (1 : Int32)) (y2 - (1 : Int32))) ||| (f1 y1 (y2 - (1 : Int32)))) ||| (f1 (y1 + (1 : Int32)) (y2 - (1 : Int32)))) ||| (f1 (y1 - (1 : Int32)) y2)) ||| (f1 (y1 + (1 : Int32)) y2)) ||| (f1 (y1 - (1 : Int32)) (y2 + (1 : Int32)))) ||| (f1 y1 (y2 + (1 : Int32)))) ||| (f1 (y1 + (1 : Int32)) (y2 + (1 : Int32))))), .second, .unset, .unset, .unset, .unset] []))
  generalize hy11 : ((((((((f1 (y1 - (1 : Int32)) (y2 - (1 : Int32))) ||| (f1 y1 (y2 - (1 : Int32)))) ||| (f1 (y1 + (1 : Int32)) (y2 - (1 : Int32)))) ||| (f1 (y1 - (1 : Int32)) y2)) ||| (f1 (y1 + (1 : Int32)) y2)) ||| (f1 (y1 - (1 : Int32)) (y2 + (1 : Int32)))) ||| (f1 y1 (y2 + (1 : Int32)))) ||| (f1 (y1 + (1 : Int32)) (y2 + (1 : Int32)))) = y11
  refine Goes.step (fun t k => XS.lloadN X10.here hx rfl (hb hby at_105) rfl k) ?_
  show Goes _ _ _ _ _ _ _ (T10.setTop (mkF m 106 #[.val (.long q0), .second, .val (.int p1), .val (.int (p1 &&& (63 : Int32))), .val (.int y1), .val (.int y2), .val (.long y11), .second, .unset, .unset, .unset, .unset] [(.long q0)]))
  refine Goes.step (fun t k => XS.lload X10.here hx rfl (hb hby at_106) rfl k) ?_
  show Goes _ _ _ _ _ _ _ (T10.setTop (mkF m 108 #[.val (.long q0), .second, .val (.int p1), .val (.int (p1 &&& (63 : Int32))), .val (.int y1), .val (.int y2), .val (.long y11), .second, .unset, .unset, .unset, .unset] [(.long y11), (.long q0)]))
  refine Goes.step (fun t k => XS.land X10.here hx rfl (hb hby at_108) rfl k) ?_
  show Goes _ _ _ _ _ _ _ (T10.setTop (mkF m 109 #[.val (.long q0), .second, .val (.int p1), .val (.int (p1 &&& (63 : Int32))), .val (.int y1), .val (.int y2), .val (.long y11), .second, .unset, .unset, .unset, .unset] [(.long (q0 &&& y11))]))
  refine Goes.step (fun t k => XS.lconst X10.here hx rfl (hb hby at_109) k) ?_
  show Goes _ _ _ _ _ _ _ (T10.setTop (mkF m 110 #[.val (.long q0), .second, .val (.int p1), .val (.int (p1 &&& (63 : Int32))), .val (.int y1), .val (.int y2), .val (.long y11), .second, .unset, .unset, .unset, .unset] [(.long (0 : Int64)), (.long (q0 &&& y11))]))
  refine Goes.step (fun t k => XS.lcmp X10.here hx rfl (hb hby at_110) rfl k) ?_
  show Goes _ _ _ _ _ _ _ (T10.setTop (mkF m 111 #[.val (.long q0), .second, .val (.int p1), .val (.int (p1 &&& (63 : Int32))), .val (.int y1), .val (.int y2), .val (.long y11), .second, .unset, .unset, .unset, .unset] [(.int (lcmpW (q0 &&& y11) (0 : Int64)))]))
  suffices k13 : ∀ (x13_0 : Int32), x13_0 = (if (q0 &&& y11) = (0 : Int64) then (0 : Int32) else (1 : Int32)) → Goes p e below s (Q0 Z q0 p1 h0) kC0 kS0 (T10.setTop (mkF m 119 #[.val (.long q0), .second, .val (.int p1), .val (.int (p1 &&& (63 : Int32))), .val (.int y1), .val (.int y2), .val (.long y11), .second, .unset, .unset, .unset, .unset] [(.int x13_0)])) by
    by_cases hc111_12 : (q0 &&& y11) = (0 : Int64)
    · refine Goes.step (fun t k => XS.ifYes X10.here hx rfl (pc0 := 111) (pc' := 118) rfl (hb hby at_111) rfl ((if0 _ _).trans (teq ((lw_eq _ _).mpr hc111_12)).1) (by decide) (by decide) k) ?_
      show Goes _ _ _ _ _ _ _ (T10.setTop (mkF m 118 #[.val (.long q0), .second, .val (.int p1), .val (.int (p1 &&& (63 : Int32))), .val (.int y1), .val (.int y2), .val (.long y11), .second, .unset, .unset, .unset, .unset] []))
      refine Goes.step (fun t k => XS.iconst X10.here hx rfl (hb hby at_118) k) ?_
      show Goes _ _ _ _ _ _ _ (T10.setTop (mkF m 119 #[.val (.long q0), .second, .val (.int p1), .val (.int (p1 &&& (63 : Int32))), .val (.int y1), .val (.int y2), .val (.long y11), .second, .unset, .unset, .unset, .unset] [(.int (0 : Int32))]))
      exact k13 _ (if_pos hc111_12).symm
    · refine Goes.step (fun t k => XS.ifNo X10.here hx rfl (hb hby at_111) rfl ((if0 _ _).trans (feq (fun q => hc111_12 ((lw_eq _ _).mp q))).1) k) ?_
      show Goes _ _ _ _ _ _ _ (T10.setTop (mkF m 114 #[.val (.long q0), .second, .val (.int p1), .val (.int (p1 &&& (63 : Int32))), .val (.int y1), .val (.int y2), .val (.long y11), .second, .unset, .unset, .unset, .unset] []))
      refine Goes.step (fun t k => XS.iconst X10.here hx rfl (hb hby at_114) k) ?_
      show Goes _ _ _ _ _ _ _ (T10.setTop (mkF m 115 #[.val (.long q0), .second, .val (.int p1), .val (.int (p1 &&& (63 : Int32))), .val (.int y1), .val (.int y2), .val (.long y11), .second, .unset, .unset, .unset, .unset] [(.int (1 : Int32))]))
      refine Goes.step (fun t k => XS.goto X10.here hx rfl (pc0 := 115) (pc' := 119) rfl (hb hby at_115) (by decide) (by decide) k) ?_
      show Goes _ _ _ _ _ _ _ (T10.setTop (mkF m 119 #[.val (.long q0), .second, .val (.int p1), .val (.int (p1 &&& (63 : Int32))), .val (.int y1), .val (.int y2), .val (.long y11), .second, .unset, .unset, .unset, .unset] [(.int (1 : Int32))]))
      exact k13 _ (if_neg hc111_12).symm
  intro x13_0 hx13_0
  refine Goes.step (fun t k => XS.istore X10.here hx rfl (hb hby at_119) rfl (l' := #[.val (.long q0), .second, .val (.int p1), .val (.int (p1 &&& (63 : Int32))), .val (.int y1), .val (.int y2), .val (.long y11), .second, .val (.int x13_0), .unset, .unset, .unset]) rfl k) ?_
  show Goes _ _ _ _ _ _ _ (T10.setTop (mkF m 121 #[.val (.long q0), .second, .val (.int p1), .val (.int (p1 &&& (63 : Int32))), .val (.int y1), .val (.int y2), .val (.long y11), .second, .val (.int x13_0), .unset, .unset, .unset] []))
  refine Goes.step (fun t k => XS.lloadN X10.here hx rfl (hb hby at_121) rfl k) ?_
  show Goes _ _ _ _ _ _ _ (T10.setTop (mkF m 122 #[.val (.long q0), .second, .val (.int p1), .val (.int (p1 &&& (63 : Int32))), .val (.int y1), .val (.int y2), .val (.long y11), .second, .val (.int x13_0), .unset, .unset, .unset] [(.long q0)]))
  obtain ⟨_, _, ⟨T14, L14, k14, n14⟩, -, X14, ⟨Lc14, hQ14, l14, y14, z14⟩, st14⟩ := Jvm.LawKit.callS X10 hx (y := (⟨"com/example/zugzwang/zugzwang/game/Kriegspiel", "around", "(J)J"⟩ : MethodName)) hown (mvT hZ (hw _ (List.mem_of_getElem? (i := 4) rfl))) (mvT hZ (hw _ (List.mem_of_getElem? (i := 5) rfl))) (mvT hZ (hw _ (List.mem_of_getElem? (i := 6) rfl))) (mvT hZ (hw _ (List.mem_of_getElem? (i := 7) rfl))) (by decide) (backOf (W := 0) (rm2 l Z tA hw [] q0 h0) hZ (hw _ (List.mem_of_getElem? (i := 7) rfl)) (hw _ (List.mem_of_getElem? (i := 6) rfl)) (by decide) (by decide)) (g := (mkF m 122 #[.val (.long q0), .second, .val (.int p1), .val (.int (p1 &&& (63 : Int32))), .val (.int y1), .val (.int y2), .val (.long y11), .second, .val (.int x13_0), .unset, .unset, .unset] [(.long q0)])) rfl (by rw [hml]; rfl) (argsL := [(.long q0)]) (rest := []) (lenOf own_pd1 rfl) rfl (by show 2 * 0 + _ ≤ _; exact Nat.le_of_eq rfl) (hb hby at_122) (fun _ _ => ⟨rfl, e10, (by decide : 0 + 0 ≤ _), (by decide : 0 + 0 ≤ _)⟩)
  dsimp only [Pt.U, Pt.locs, Pt.cells, Pt.slots] at X14 l14 y14 z14 st14 hQ14
  subst l14 y14 z14
  obtain ⟨rfl, rfl, e14⟩ := hQ14
  try rw [List.append_nil] at X14
  change Stand _ _ _ _ _ _ _ _ _ _ _ _ 0 0 at X14
  refine Goes.step (fun t k => st14 t k) ?_
  show Goes _ _ _ _ _ _ _ (T14.setTop (mkF m 125 #[.val (.long q0), .second, .val (.int p1), .val (.int (p1 &&& (63 : Int32))), .val (.int y1), .val (.int y2), .val (.long y11), .second, .val (.int x13_0), .unset, .unset, .unset] [(.long (f2 q0))]))
  refine Goes.step (fun t k => XS.lstore X14.here hx rfl (hb hby at_125) rfl (l' := #[.val (.long q0), .second, .val (.int p1), .val (.int (p1 &&& (63 : Int32))), .val (.int y1), .val (.int y2), .val (.long y11), .second, .val (.int x13_0), .val (.long (f2 q0)), .second, .unset]) rfl k) ?_
  show Goes _ _ _ _ _ _ _ (T14.setTop (mkF m 127 #[.val (.long q0), .second, .val (.int p1), .val (.int (p1 &&& (63 : Int32))), .val (.int y1), .val (.int y2), .val (.long y11), .second, .val (.int x13_0), .val (.long (f2 q0)), .second, .unset] []))
  refine Goes.step (fun t k => XS.lload X14.here hx rfl (hb hby at_127) rfl k) ?_
  show Goes _ _ _ _ _ _ _ (T14.setTop (mkF m 129 #[.val (.long q0), .second, .val (.int p1), .val (.int (p1 &&& (63 : Int32))), .val (.int y1), .val (.int y2), .val (.long y11), .second, .val (.int x13_0), .val (.long (f2 q0)), .second, .unset] [(.long (f2 q0))]))
  refine Goes.step (fun t k => XS.iloadN X14.here hx rfl (hb hby at_129) rfl k) ?_
  show Goes _ _ _ _ _ _ _ (T14.setTop (mkF m 130 #[.val (.long q0), .second, .val (.int p1), .val (.int (p1 &&& (63 : Int32))), .val (.int y1), .val (.int y2), .val (.long y11), .second, .val (.int x13_0), .val (.long (f2 q0)), .second, .unset] [(.int (p1 &&& (63 : Int32))), (.long (f2 q0))]))
  refine Goes.step (fun t k => XS.lushr X14.here hx rfl (hb hby at_130) rfl k) ?_
  show Goes _ _ _ _ _ _ _ (T14.setTop (mkF m 131 #[.val (.long q0), .second, .val (.int p1), .val (.int (p1 &&& (63 : Int32))), .val (.int y1), .val (.int y2), .val (.long y11), .second, .val (.int x13_0), .val (.long (f2 q0)), .second, .unset] [(.long (((f2 q0).toUInt64 >>> ((p1 &&& (63 : Int32)) &&& 0x3f).toInt64.toUInt64).toInt64))]))
  refine Goes.step (fun t k => XS.lconst X14.here hx rfl (hb hby at_131) k) ?_
  show Goes _ _ _ _ _ _ _ (T14.setTop (mkF m 132 #[.val (.long q0), .second, .val (.int p1), .val (.int (p1 &&& (63 : Int32))), .val (.int y1), .val (.int y2), .val (.long y11), .second, .val (.int x13_0), .val (.long (f2 q0)), .second, .unset] [(.long (1 : Int64)), (.long (((f2 q0).toUInt64 >>> ((p1 &&& (63 : Int32)) &&& 0x3f).toInt64.toUInt64).toInt64))]))
  refine Goes.step (fun t k => XS.land X14.here hx rfl (hb hby at_132) rfl k) ?_
  show Goes _ _ _ _ _ _ _ (T14.setTop (mkF m 133 #[.val (.long q0), .second, .val (.int p1), .val (.int (p1 &&& (63 : Int32))), .val (.int y1), .val (.int y2), .val (.long y11), .second, .val (.int x13_0), .val (.long (f2 q0)), .second, .unset] [(.long ((((f2 q0).toUInt64 >>> ((p1 &&& (63 : Int32)) &&& 0x3f).toInt64.toUInt64).toInt64) &&& (1 : Int64)))]))
  refine Goes.step (fun t k => XS.lconst X14.here hx rfl (hb hby at_133) k) ?_
  show Goes _ _ _ _ _ _ _ (T14.setTop (mkF m 134 #[.val (.long q0), .second, .val (.int p1), .val (.int (p1 &&& (63 : Int32))), .val (.int y1), .val (.int y2), .val (.long y11), .second, .val (.int x13_0), .val (.long (f2 q0)), .second, .unset] [(.long (0 : Int64)), (.long ((((f2 q0).toUInt64 >>> ((p1 &&& (63 : Int32)) &&& 0x3f).toInt64.toUInt64).toInt64) &&& (1 : Int64)))]))
  refine Goes.step (fun t k => XS.lcmp X14.here hx rfl (hb hby at_134) rfl k) ?_
  show Goes _ _ _ _ _ _ _ (T14.setTop (mkF m 135 #[.val (.long q0), .second, .val (.int p1), .val (.int (p1 &&& (63 : Int32))), .val (.int y1), .val (.int y2), .val (.long y11), .second, .val (.int x13_0), .val (.long (f2 q0)), .second, .unset] [(.int (lcmpW ((((f2 q0).toUInt64 >>> ((p1 &&& (63 : Int32)) &&& 0x3f).toInt64.toUInt64).toInt64) &&& (1 : Int64)) (0 : Int64)))]))
  suffices k16 : ∀ (x16_0 : Int32), x16_0 = (if ((((f2 q0).toUInt64 >>> ((p1 &&& (63 : Int32)) &&& 0x3f).toInt64.toUInt64).toInt64) &&& (1 : Int64)) = (0 : Int64) then (0 : Int32) else (1 : Int32)) → Goes p e below s (Q0 Z q0 p1 h0) kC0 kS0 (T14.setTop (mkF m 143 #[.val (.long q0), .second, .val (.int p1), .val (.int (p1 &&& (63 : Int32))), .val (.int y1), .val (.int y2), .val (.long y11), .second, .val (.int x13_0), .val (.long (f2 q0)), .second, .unset] [(.int x16_0)])) by
    by_cases hc135_15 : ((((f2 q0).toUInt64 >>> ((p1 &&& (63 : Int32)) &&& 0x3f).toInt64.toUInt64).toInt64) &&& (1 : Int64)) = (0 : Int64)
    · refine Goes.step (fun t k => XS.ifYes X14.here hx rfl (pc0 := 135) (pc' := 142) rfl (hb hby at_135) rfl ((if0 _ _).trans (teq ((lw_eq _ _).mpr hc135_15)).1) (by decide) (by decide) k) ?_
      show Goes _ _ _ _ _ _ _ (T14.setTop (mkF m 142 #[.val (.long q0), .second, .val (.int p1), .val (.int (p1 &&& (63 : Int32))), .val (.int y1), .val (.int y2), .val (.long y11), .second, .val (.int x13_0), .val (.long (f2 q0)), .second, .unset] []))
      refine Goes.step (fun t k => XS.iconst X14.here hx rfl (hb hby at_142) k) ?_
      show Goes _ _ _ _ _ _ _ (T14.setTop (mkF m 143 #[.val (.long q0), .second, .val (.int p1), .val (.int (p1 &&& (63 : Int32))), .val (.int y1), .val (.int y2), .val (.long y11), .second, .val (.int x13_0), .val (.long (f2 q0)), .second, .unset] [(.int (0 : Int32))]))
      exact k16 _ (if_pos hc135_15).symm
    · refine Goes.step (fun t k => XS.ifNo X14.here hx rfl (hb hby at_135) rfl ((if0 _ _).trans (feq (fun q => hc135_15 ((lw_eq _ _).mp q))).1) k) ?_
      show Goes _ _ _ _ _ _ _ (T14.setTop (mkF m 138 #[.val (.long q0), .second, .val (.int p1), .val (.int (p1 &&& (63 : Int32))), .val (.int y1), .val (.int y2), .val (.long y11), .second, .val (.int x13_0), .val (.long (f2 q0)), .second, .unset] []))
      refine Goes.step (fun t k => XS.iconst X14.here hx rfl (hb hby at_138) k) ?_
      show Goes _ _ _ _ _ _ _ (T14.setTop (mkF m 139 #[.val (.long q0), .second, .val (.int p1), .val (.int (p1 &&& (63 : Int32))), .val (.int y1), .val (.int y2), .val (.long y11), .second, .val (.int x13_0), .val (.long (f2 q0)), .second, .unset] [(.int (1 : Int32))]))
      refine Goes.step (fun t k => XS.goto X14.here hx rfl (pc0 := 139) (pc' := 143) rfl (hb hby at_139) (by decide) (by decide) k) ?_
      show Goes _ _ _ _ _ _ _ (T14.setTop (mkF m 143 #[.val (.long q0), .second, .val (.int p1), .val (.int (p1 &&& (63 : Int32))), .val (.int y1), .val (.int y2), .val (.long y11), .second, .val (.int x13_0), .val (.long (f2 q0)), .second, .unset] [(.int (1 : Int32))]))
      exact k16 _ (if_neg hc135_15).symm
  intro x16_0 hx16_0
  refine Goes.step (fun t k => XS.istore X14.here hx rfl (hb hby at_143) rfl (l' := #[.val (.long q0), .second, .val (.int p1), .val (.int (p1 &&& (63 : Int32))), .val (.int y1), .val (.int y2), .val (.long y11), .second, .val (.int x13_0), .val (.long (f2 q0)), .second, .val (.int x16_0)]) rfl k) ?_
  show Goes _ _ _ _ _ _ _ (T14.setTop (mkF m 145 #[.val (.long q0), .second, .val (.int p1), .val (.int (p1 &&& (63 : Int32))), .val (.int y1), .val (.int y2), .val (.long y11), .second, .val (.int x13_0), .val (.long (f2 q0)), .second, .val (.int x16_0)] []))
  refine Goes.step (fun t k => XS.iload X14.here hx rfl (hb hby at_145) rfl k) ?_
  show Goes _ _ _ _ _ _ _ (T14.setTop (mkF m 147 #[.val (.long q0), .second, .val (.int p1), .val (.int (p1 &&& (63 : Int32))), .val (.int y1), .val (.int y2), .val (.long y11), .second, .val (.int x13_0), .val (.long (f2 q0)), .second, .val (.int x16_0)] [(.int x13_0)]))
  refine Goes.step (fun t k => XS.iload X14.here hx rfl (hb hby at_147) rfl k) ?_
  show Goes _ _ _ _ _ _ _ (T14.setTop (mkF m 149 #[.val (.long q0), .second, .val (.int p1), .val (.int (p1 &&& (63 : Int32))), .val (.int y1), .val (.int y2), .val (.long y11), .second, .val (.int x13_0), .val (.long (f2 q0)), .second, .val (.int x16_0)] [(.int x16_0), (.int x13_0)]))
  suffices k18 : ∀ (x18_0 : Int32), x18_0 = (if x13_0 = x16_0 then (1 : Int32) else (0 : Int32)) → Goes p e below s (Q0 Z q0 p1 h0) kC0 kS0 (T14.setTop (mkF m 157 #[.val (.long q0), .second, .val (.int p1), .val (.int (p1 &&& (63 : Int32))), .val (.int y1), .val (.int y2), .val (.long y11), .second, .val (.int x13_0), .val (.long (f2 q0)), .second, .val (.int x16_0)] [(.int x18_0)])) by
    by_cases hc149_17 : x13_0 = x16_0
    · refine Goes.step (fun t k => XS.icmpNo X14.here hx rfl (hb hby at_149) rfl (teq hc149_17).2 k) ?_
      show Goes _ _ _ _ _ _ _ (T14.setTop (mkF m 152 #[.val (.long q0), .second, .val (.int p1), .val (.int (p1 &&& (63 : Int32))), .val (.int y1), .val (.int y2), .val (.long y11), .second, .val (.int x13_0), .val (.long (f2 q0)), .second, .val (.int x16_0)] []))
      refine Goes.step (fun t k => XS.iconst X14.here hx rfl (hb hby at_152) k) ?_
      show Goes _ _ _ _ _ _ _ (T14.setTop (mkF m 153 #[.val (.long q0), .second, .val (.int p1), .val (.int (p1 &&& (63 : Int32))), .val (.int y1), .val (.int y2), .val (.long y11), .second, .val (.int x13_0), .val (.long (f2 q0)), .second, .val (.int x16_0)] [(.int (1 : Int32))]))
      refine Goes.step (fun t k => XS.goto X14.here hx rfl (pc0 := 153) (pc' := 157) rfl (hb hby at_153) (by decide) (by decide) k) ?_
      show Goes _ _ _ _ _ _ _ (T14.setTop (mkF m 157 #[.val (.long q0), .second, .val (.int p1), .val (.int (p1 &&& (63 : Int32))), .val (.int y1), .val (.int y2), .val (.long y11), .second, .val (.int x13_0), .val (.long (f2 q0)), .second, .val (.int x16_0)] [(.int (1 : Int32))]))
      exact k18 _ (if_pos hc149_17).symm
    · refine Goes.step (fun t k => XS.icmpYes X14.here hx rfl (pc0 := 149) (pc' := 156) rfl (hb hby at_149) rfl (feq hc149_17).2 (by decide) (by decide) k) ?_
      show Goes _ _ _ _ _ _ _ (T14.setTop (mkF m 156 #[.val (.long q0), .second, .val (.int p1), .val (.int (p1 &&& (63 : Int32))), .val (.int y1), .val (.int y2), .val (.long y11), .second, .val (.int x13_0), .val (.long (f2 q0)), .second, .val (.int x16_0)] []))
      refine Goes.step (fun t k => XS.iconst X14.here hx rfl (hb hby at_156) k) ?_
      show Goes _ _ _ _ _ _ _ (T14.setTop (mkF m 157 #[.val (.long q0), .second, .val (.int p1), .val (.int (p1 &&& (63 : Int32))), .val (.int y1), .val (.int y2), .val (.long y11), .second, .val (.int x13_0), .val (.long (f2 q0)), .second, .val (.int x16_0)] [(.int (0 : Int32))]))
      exact k18 _ (if_neg hc149_17).symm
  intro x18_0 hx18_0
  subst hx18_0
  subst hx16_0
  subst hx13_0
  subst hy11
  subst hy2
  subst hy1
  exact Goes.retZ X14 hx Bd.notSynchronized (r := (f0 q0 p1)) Bd.returns (by simp) (hb hby at_157) rfl ⟨rfl, rfl, e14⟩ (by decide) (by decide)
def bt (q : Int64) (j : Nat) : Bool := q.toBitVec.getLsbD j
def pw (j : Nat) : Int64 := ⟨⟨BitVec.twoPow 64 j⟩⟩
def orAll (L : List Nat) : Int64 := L.foldr (fun j acc => pw j ||| acc) 0
theorem i64_ext {a b : Int64} (h : a.toBitVec = b.toBitVec) : a = b := Int64.toBitVec_inj.mp h
theorem i64_zero {a : Int64} : a = 0 ↔ ∀ j, bt a j = false := by
  constructor
  · rintro rfl j; simp [bt]
  · intro h; apply i64_ext; apply BitVec.eq_of_getLsbD_eq; intro i hi; simpa [bt] using h i
theorem bt_and (a b : Int64) (j : Nat) : bt (a &&& b) j = (bt a j && bt b j) := by simp [bt]
theorem bt_or (a b : Int64) (j : Nat) : bt (a ||| b) j = (bt a j || bt b j) := by simp [bt]
theorem bt_pw (i j : Nat) : bt (pw i) j = (decide (i < 64) && decide (i = j)) := by
  show (BitVec.twoPow 64 i).getLsbD j = _
  rw [BitVec.getLsbD_twoPow]
theorem bt_orAll (L : List Nat) (j : Nat) : bt (orAll L) j = L.any (fun i => decide (i < 64) && decide (i = j)) := by
  induction L with
  | nil => simp [orAll, bt]
  | cons i t ih =>
    show bt (pw i ||| orAll t) j = _
    rw [bt_or, bt_pw, ih, List.any_cons]
theorem and_orAll (q : Int64) (L : List Nat) : (q &&& orAll L = 0) ↔ ∀ j ∈ L, j < 64 → bt q j = false := by
  rw [i64_zero]
  constructor
  · intro h j hj hl
    have := h j
    rw [bt_and, bt_orAll] at this
    cases hb : bt q j with
    | false => rfl
    | true =>
      rw [hb, Bool.true_and, List.any_eq_false] at this
      exact absurd (by simp [hl]) (this j hj)
  · intro h j
    rw [bt_and, bt_orAll]
    cases hb : bt q j with
    | false => rfl
    | true =>
      rw [Bool.true_and, List.any_eq_false]
      intro i hi q
      simp only [Bool.and_eq_true, decide_eq_true_eq] at q
      obtain ⟨q1, rfl⟩ := q
      rw [h i hi q1] at hb; cases hb
def lawList (k : Nat) : List Nat :=
  let f := k % 8; let r := k / 8
  (if 1 ≤ f && 1 ≤ r then [k - 9] else []) ++ (if 1 ≤ r then [k - 8] else []) ++ (if f ≤ 6 && 1 ≤ r then [k - 7] else []) ++ (if 1 ≤ f then [k - 1] else []) ++ (if f ≤ 6 then [k + 1] else []) ++
  (if 1 ≤ f && r ≤ 6 then [k + 7] else []) ++ (if r ≤ 6 then [k + 8] else []) ++ (if f ≤ 6 && r ≤ 6 then [k + 9] else [])
def nbOf (s : Int32) : Int64 := ((((((((f1 ((s &&& (7 : Int32)) - (1 : Int32)) (((s.toUInt32 >>> ((3 : Int32) &&& 31).toUInt32).toInt32) - (1 : Int32))) ||| (f1 (s &&& (7 : Int32)) (((s.toUInt32 >>> ((3 : Int32) &&& 31).toUInt32).toInt32) - (1 : Int32)))) ||| (f1 ((s &&& (7 : Int32)) + (1 : Int32)) (((s.toUInt32 >>> ((3 : Int32) &&& 31).toUInt32).toInt32) - (1 : Int32)))) ||| (f1 ((s &&& (7 : Int32)) - (1 : Int32)) ((s.toUInt32 >>> ((3 : Int32) &&& 31).toUInt32).toInt32))) ||| (f1 ((s &&& (7 : Int32)) + (1 : Int32)) ((s.toUInt32 >>> ((3 : Int32) &&& 31).toUInt32).toInt32))) ||| (f1 ((s &&& (7 : Int32)) - (1 : Int32)) (((s.toUInt32 >>> ((3 : Int32) &&& 31).toUInt32).toInt32) + (1 : Int32)))) ||| (f1 (s &&& (7 : Int32)) (((s.toUInt32 >>> ((3 : Int32) &&& 31).toUInt32).toInt32) + (1 : Int32)))) ||| (f1 ((s &&& (7 : Int32)) + (1 : Int32)) (((s.toUInt32 >>> ((3 : Int32) &&& 31).toUInt32).toInt32) + (1 : Int32))))
theorem nb_all : ∀ k : Fin 64, nbOf (Int32.ofNat k.1) = orAll (lawList k.1) := by decide +kernel
def wl (i : Nat) : List Nat := if (9187201950435737471 : Int64).toBitVec.getLsbD i then [i + 1] else []
def el (i : Nat) : List Nat := if 1 ≤ i && (-72340172838076674 : Int64).toBitVec.getLsbD i then [i - 1] else []
def arList (k : Nat) : List Nat := wl k ++ el k ++ (if 8 ≤ k then (k - 8) :: (wl (k - 8) ++ el (k - 8)) else []) ++ (k + 8) :: (wl (k + 8) ++ el (k + 8))
theorem lists_same : ∀ k : Fin 64, ∀ j : Fin 64, (lawList k.1).contains j.1 = (arList k.1).contains j.1 := by decide +kernel
theorem bt_ushr (q : Int64) (n : Int32) (k j : Nat) (hk : n.toBitVec.toNat % 64 = k) : bt ((q.toUInt64 >>> (n &&& 0x3f).toInt64.toUInt64).toInt64) j = bt q (k + j) := by
  obtain ⟨h1, h2⟩ := sm64 n k hk
  show ((q.toUInt64 >>> (n &&& 0x3f).toInt64.toUInt64).toBitVec).getLsbD j = _
  rw [UInt64.toBitVec_shiftRight]
  have h3 : (n &&& 0x3f).toInt64.toUInt64.toBitVec = BitVec.ofNat 64 k := h1
  rw [h3]
  have h4 : (BitVec.ofNat 64 k % 64).toNat = k := by simp [BitVec.toNat_umod]; omega
  rw [BitVec.ushiftRight_eq', h4, BitVec.getLsbD_ushiftRight]
  rfl
theorem bt_shl (q : Int64) (n : Int32) (k j : Nat) (hk : n.toBitVec.toNat % 64 = k) : bt (q <<< (n &&& 0x3f).toInt64) j = (decide (j < 64) && !decide (j < k) && bt q (j - k)) := by
  obtain ⟨h1, h2⟩ := sm64 n k hk
  show ((q <<< (n &&& 0x3f).toInt64).toBitVec).getLsbD j = _
  rw [Int64.toBitVec_shiftLeft, h1]
  have h4 : ((BitVec.ofNat 64 k).smod 64).toNat = k := smod64 k h2
  rw [BitVec.shiftLeft_eq', h4, BitVec.getLsbD_shiftLeft]
  rfl
theorem bt_far (q : Int64) (j : Nat) (h : 64 ≤ j) : bt q j = false := BitVec.getLsbD_of_ge _ _ h
def west (q : Int64) : Int64 := ((q.toUInt64 >>> ((1 : Int32) &&& 0x3f).toInt64.toUInt64).toInt64) &&& (9187201950435737471 : Int64)
def east (q : Int64) : Int64 := (q <<< ((1 : Int32) &&& 0x3f).toInt64) &&& (-72340172838076674 : Int64)
theorem bt_west (q : Int64) (i : Nat) : bt (west q) i = (wl i).any (bt q) := by
  unfold west wl
  rw [bt_and, bt_ushr q 1 1 i (by decide)]
  show (bt q (1 + i) && (9187201950435737471 : Int64).toBitVec.getLsbD i) = _
  cases (9187201950435737471 : Int64).toBitVec.getLsbD i <;> simp [Nat.add_comm]
theorem bt_east (q : Int64) (i : Nat) (hi : i < 64) : bt (east q) i = (el i).any (bt q) := by
  unfold east el
  rw [bt_and, bt_shl q 1 1 i (by decide)]
  show ((decide (i < 64) && !decide (i < 1) && bt q (i - 1)) && (-72340172838076674 : Int64).toBitVec.getLsbD i) = _
  have h1 : decide (i < 64) = true := by simpa using hi
  have h2 : (!decide (i < 1)) = decide (1 ≤ i) := by by_cases h : 1 ≤ i <;> simp [h] <;> omega
  rw [h1, h2]
  cases (-72340172838076674 : Int64).toBitVec.getLsbD i <;> cases decide (1 ≤ i) <;> simp
theorem el_far (i : Nat) (h : 64 ≤ i) : el i = [] := by
  unfold el; rw [BitVec.getLsbD_of_ge _ _ h]; simp
theorem bt_east' (q : Int64) (i : Nat) : bt (east q) i = (el i).any (bt q) := by
  by_cases h : i < 64
  · exact bt_east q i h
  · rw [bt_far _ _ (by omega), el_far i (by omega)]; rfl
theorem f2_eq (q : Int64) : f2 q = (((west q ||| east q) ||| (((q ||| west q) ||| east q) <<< ((8 : Int32) &&& 0x3f).toInt64)) ||| ((((q ||| west q) ||| east q).toUInt64 >>> ((8 : Int32) &&& 0x3f).toInt64.toUInt64).toInt64)) := rfl
theorem bt_f2 (q : Int64) (k : Nat) (hk : k < 64) : bt (f2 q) k = (arList k).any (bt q) := by
  rw [f2_eq, bt_or, bt_or, bt_or, bt_shl _ 8 8 k (by decide), bt_ushr _ 8 8 k (by decide)]
  simp only [bt_or, bt_west, bt_east', arList, List.any_append, List.any_cons]
  have h1 : decide (k < 64) = true := by simpa using hk
  rw [h1, Nat.add_comm 8 k]
  by_cases h : 8 ≤ k
  · have h2 : (!decide (k < 8)) = true := by simp; omega
    rw [h2, if_pos h]
    simp only [List.any_append, List.any_cons, Bool.true_and, Bool.or_assoc]
  · have h2 : (!decide (k < 8)) = false := by simp; omega
    rw [h2, if_neg h]
    simp only [List.any_nil, Bool.true_and, Bool.false_and, Bool.or_false, Bool.or_assoc]
theorem any_same (q : Int64) (k : Fin 64) : (arList k.1).any (bt q) = true ↔ ∃ j ∈ lawList k.1, j < 64 ∧ bt q j = true := by
  rw [List.any_eq_true]
  constructor
  · rintro ⟨j, hj, hb⟩
    have hl : j < 64 := by
      rcases Nat.lt_or_ge j 64 with h | h
      · exact h
      · rw [bt_far q j h] at hb; cases hb
    have := lists_same k ⟨j, hl⟩
    rw [List.contains_iff_mem.mpr hj] at this
    exact ⟨j, List.contains_iff_mem.mp this, hl, hb⟩
  · rintro ⟨j, hj, hl, hb⟩
    have := lists_same k ⟨j, hl⟩
    rw [List.contains_iff_mem.mpr hj] at this
    exact ⟨j, List.contains_iff_mem.mp this.symm, hb⟩
theorem and_one64 (z : Int64) : (z &&& 1 = 0) ↔ bt z 0 = false := by
  rw [i64_zero]
  constructor
  · intro h
    have := h 0
    rw [bt_and, (by decide : bt 1 0 = true), Bool.and_true] at this; exact this
  · intro h j
    rw [bt_and]
    cases j with
    | zero => rw [h]; rfl
    | succ j => rw [show bt 1 (j + 1) = false from ?_, Bool.and_false]
                show (1 : Int64).toBitVec.getLsbD (j + 1) = false
                simp
theorem own_core (q : Int64) (k : Fin 64) : (q &&& nbOf (Int32.ofNat k.1) = 0) ↔ ((((f2 q).toUInt64 >>> ((Int32.ofNat k.1) &&& 0x3f).toInt64.toUInt64).toInt64) &&& (1 : Int64)) = 0 := by
  have hk : (Int32.ofNat k.1).toBitVec.toNat % 64 = k.1 := by
    have := k.2
    show (BitVec.ofNat 32 k.1).toNat % 64 = k.1
    rw [BitVec.toNat_ofNat]; omega
  rw [nb_all, and_orAll, and_one64, bt_ushr _ _ k.1 0 hk, Nat.add_zero, bt_f2 _ _ k.2]
  have h := any_same q k
  constructor
  · intro a
    cases hb : (arList k.1).any (bt q) with
    | false => rfl
    | true =>
      obtain ⟨j, h1, h2, h3⟩ := h.mp hb
      rw [a j h1 h2] at h3; cases h3
  · intro a j h1 h2
    cases hb : bt q j with
    | false => rfl
    | true => rw [h.mpr ⟨j, h1, h2, hb⟩] at a; cases a
theorem own_64 (p : Int32) : ∃ k : Fin 64, p &&& 63 = Int32.ofNat k.1 := by
  have h := c_mask p 63 6 (by decide) (by decide)
  have h2 : 0 ≤ (p &&& 63).toInt ∧ (p &&& 63).toInt < 64 := by rw [h]; omega
  refine ⟨⟨(p &&& 63).toInt.toNat, by omega⟩, ?_⟩
  rw [← Int32.toInt_inj, Int32.toInt_ofNat_small (by show (p &&& 63).toInt.toNat < _; omega)]
  show (p &&& 63).toInt = (((p &&& 63).toInt.toNat : Nat) : Int)
  omega
theorem own_plain (q0 : Int64) (p1 : Int32) : f0 q0 p1 = 1 := by
  obtain ⟨k, hk⟩ := own_64 p1
  unfold f0
  rw [hk]
  have h := own_core q0 k
  unfold nbOf at h
  by_cases a : ((((f2 q0).toUInt64 >>> ((Int32.ofNat k.1) &&& 0x3f).toInt64.toUInt64).toInt64) &&& (1 : Int64)) = 0
  · rw [if_pos a, if_pos (h.mpr a)]; decide
  · rw [if_neg a, if_neg (fun q => a (h.mp q))]; decide
set_option maxRecDepth 65536 in
set_option maxHeartbeats 40000000 in
theorem comes_1 {Post : Tables → Env → Array Value → State → Outcome → State → Prop} (hpost : ∀ tb e args s v u, (limb_1_1.after args s (.returned v) u = true ∧ limb_1_2.after args s (.returned v) u = true ∧ True) → FrameEnd s (.returned v) u (Jvm.fieldLocs frame_1_writes args s ++ Jvm.arrayLocs frame_1_arrays args s ++ Jvm.staticLocs frame_1_statics s) 0 0 → Post tb e args s (.returned v) u) :
    ArmFor flags0 classFile x code maxLocals ret World_1 tables_1 room_1 Calls_1 rest_1 Pre_1 Post := by
  intro l hfl _ _ p e ha hc hk s m args below hf hA hF happ hP
  obtain ⟨hcalls, hrest, hpre⟩ := hP
  obtain ⟨-, -, -, hnamed, -, -, -, hat⟩ := (Spec.applies_iff hf).mp happ
  obtain ⟨hg, hn⟩ := and_e (Cond.before_iff.mp (show (Jvm.Cond.and given_1 narrow_1).before args s = true from hpre))
  obtain ⟨g0, gr0⟩ := and_e hg
  obtain ⟨ga0, gr1⟩ := and_e gr0
  have ga1 := gr1
  obtain ⟨w0, w1, rfl⟩ : ∃ w0 w1 : Value, args = #[w0, w1] := by
    have hs : args.size = 2 := by simpa [Cond.value, given_1] using g0
    obtain ⟨L⟩ := args
    match L, hs with
    | [w0, w1], _ => exact ⟨w0, w1, rfl⟩
  have hw := fun d (hd : d ∈ tables_1) => atoms_spec (ws := Jvm.Cond.code x code maxLocals ret :: tables_1) hat d (List.mem_cons_of_mem _ hd)
  have hfit : Fit s := fun {y c} hc i hi => by
    obtain ⟨ha, rfl⟩ := Array.getElem?_eq_some_iff.mp hc
    have q := List.all_eq_true.mp ((Array.all_eq_true_iff_forall_mem.mp hF) _ (Array.getElem_mem ha)) i (List.mem_range.mpr hi)
    simpa [Array.getElem?_eq_getElem hi] using q
  obtain ⟨i0, ei0⟩ := isL_v ga0
  obtain rfl : w0 = (.long i0) := Option.some.inj ei0
  obtain ⟨i1, ei1⟩ := is_v ga1
  obtain rfl : w1 = (.int i1) := Option.some.inj ei1
  obtain ⟨n, o, h1, h2, h3, _, L, rfl, ⟨rfl, rfl, _⟩, hq⟩ := rm0 l s _ hw tables_1 i0 i1  s.heap   p e ha hc hk s m _ below hf ((Spec.applies_iff_loose hf).mp happ).1 ⟨rfl, State.Warmed39.refl s, rfl⟩ trivial
  rw [own_plain i0 i1] at *
  refine ⟨n, _, h1, h2, h3, hpost _ _ _ _ _ _ ⟨Cond.after_iff.mpr rfl, Cond.after_iff.mpr (eq_i res_at (Term.int_eval (1)) rfl), trivial⟩ ⟨hq.1, hq.2.1, (hq.2.2.sift fun y hy => nomatch hy).mono (by decide) (by decide)⟩⟩
theorem main_1_1 : Claimed_1_1 := comes_1 fun _ _ _ _ _ _ h hF => ⟨h.1, hF⟩
theorem main_1_2 : Claimed_1_2 := comes_1 fun _ _ _ _ _ _ h hF => ⟨h.2.1, hF⟩
end Jvm.Pilot.@@N@@
namespace Jvm.Pilot.@@N@@
open Jvm Jvm.ClassFile Sem Op Lib Jvm.Free Jvm.Stand Jvm.Pilot.@@N@@.Jvm.D
/-! MADE BY PROGRAM (witnessworld.py) out of the Statement's table words and the real class files: 9 classes; the members and pool entries that the words name. The judged class is class 1, her method 2. -/
namespace start1
open Jvm.ClassFile
def u (s : String) : CpInfo := .utf8 (stringToUtf16 s)
/-- a pool by its gaps: so many unusable entries, then the entry; so many at the end -/
def gap : Nat → List CpInfo → List CpInfo
  | 0, r => r
  | n + 1, r => .unusable :: gap n r
def poolList (es : List (Nat × CpInfo)) (last : Nat) : List CpInfo := es.foldr (fun e r => gap e.1 (e.2 :: r)) (gap last [])
def pool (es : List (Nat × CpInfo)) (last : Nat) : Array CpInfo := ⟨poolList es last⟩
def fileOf (pool : Array CpInfo) (this : Nat) (attrs : Array Attribute := #[]) (ms : Array MethodInfo := #[]) (fl : Nat := 33) (sup : Nat := 0) (ifs : Array Nat := #[]) (fds : Array FieldInfo := #[]) : ClassFile where
  minorVersion := 0
  majorVersion := 65
  constantPool := pool
  accessFlags := fl
  thisClass := this
  superClass := sup
  interfaces := ifs
  fields := fds
  methods := ms
  attributes := attrs
def plain (name : String) (sup : Option ClassId) : Class where
  name := name
  kind := .ordinary
  loader := none
  accessFlags := 33
  super := sup
  interfaces := #[]
  cf := none
  fields := #[]
  methods := #[]
  instanceTypes := #[]
  staticTypes := #[]
  resolved := #[]
  callSites := []
  init := .initialized
  statics := none
  mirror := none

def pool0 : Array CpInfo := pool [(5, u "<init>"), (0, u "()V"), (1, .class_ 10), (1, u "java/lang/Object")] 113

def k0m0 : Method := { name := "<init>", desc := "()V", sig := { parameters := [], returnType := none }, accessFlags := 1, code := none }
/-- java/lang/Object -/
def k0 : Class := { plain "java/lang/Object" none with
  accessFlags := 33
  interfaces := #[]
  cf := some (fileOf pool0 8 #[] #[{ accessFlags := 1, nameIndex := 5, descriptorIndex := 6, attributes := #[] }] 33 0 #[] #[])
  fields := #[]
  methods := #[k0m0]
  instanceTypes := #[]
  staticTypes := #[]
  resolved := Array.replicate 124 none
  statics := none }

def pool1 : Array CpInfo := pool [(2, .class_ 4), (1, u "java/lang/Object"), (0, u "<init>"), (0, u "()V"), (0, .methodref 8 9), (0, .class_ 10), (0, .nameAndType 11 12), (0, u "com/example/zugzwang/zugzwang/game/KriegspielAroundPinLaw"), (0, u "cell"), (0, u "(II)J"), (0, .methodref 14 15), (0, .class_ 16), (0, .nameAndType 17 18), (0, u "com/example/zugzwang/zugzwang/game/Kriegspiel"), (0, u "around"), (0, u "(J)J"), (3, u "law"), (0, u "(JI)Z")] 2

def k1m0 : Method := { name := "<init>", desc := "()V", sig := { parameters := [], returnType := none }, accessFlags := 2, code := none }
def k1c1 : Code := { maxStack := 4, maxLocals := 2, code := method_2_code, exceptionTable := #[], attributes := #[] }
def k1m1 : Method := { name := "cell", desc := "(II)J", sig := { parameters := [.int, .int], returnType := some .long }, accessFlags := 10, code := some k1c1 }
def k1c2 : Code := { maxStack := 5, maxLocals := 12, code := code, exceptionTable := #[], attributes := #[] }
def k1m2 : Method := { name := "law", desc := "(JI)Z", sig := { parameters := [.long, .int], returnType := some .boolean }, accessFlags := 9, code := some k1c2 }
/-- com/example/zugzwang/zugzwang/game/KriegspielAroundPinLaw -/
def k1 : Class := { plain "com/example/zugzwang/zugzwang/game/KriegspielAroundPinLaw" (some 0) with
  accessFlags := 49
  interfaces := #[]
  cf := some (fileOf pool1 8 #[] #[{ accessFlags := 2, nameIndex := 5, descriptorIndex := 6, attributes := #[] }, { accessFlags := 10, nameIndex := 11, descriptorIndex := 12, attributes := #[] }, { accessFlags := 9, nameIndex := 22, descriptorIndex := 23, attributes := #[] }] 49 2 #[] #[])
  fields := #[]
  methods := #[k1m0, k1m1, k1m2]
  instanceTypes := #[]
  staticTypes := #[]
  resolved := Array.replicate 26 none
  statics := none }

def pool2 : Array CpInfo := pool [(1, .class_ 2), (0, u "com/example/zugzwang/zugzwang/game/Kriegspiel"), (1, .class_ 6), (1, u "java/lang/Object"), (0, u "<init>"), (0, u "()V"), (16, .class_ 27), (1, u "com/example/zugzwang/zugzwang/game/Kriegspiel$Piece"), (21, .long 9187201950435737471), (1, .long 18374403900871474942), (6, u "SIZE"), (0, u "I"), (2, u "SQUARES"), (1, u "TO_SHIFT"), (1, u "PROMOTION_SHIFT"), (1, u "SQUARE_MASK"), (1, u "FILE_A"), (0, u "J"), (2, u "FILE_H"), (13, u "around"), (0, u "(J)J")] 12

def k2m0 : Method := { name := "<init>", desc := "()V", sig := { parameters := [], returnType := none }, accessFlags := 2, code := none }
def k2c1 : Code := { maxStack := 5, maxLocals := 8, code := prog_22_method_13_code, exceptionTable := #[], attributes := #[] }
def k2m1 : Method := { name := "around", desc := "(J)J", sig := { parameters := [.long], returnType := some .long }, accessFlags := 8, code := some k2c1 }
/-- com/example/zugzwang/zugzwang/game/Kriegspiel -/
def k2 : Class := { plain "com/example/zugzwang/zugzwang/game/Kriegspiel" (some 0) with
  accessFlags := 49
  interfaces := #[]
  cf := some (fileOf pool2 1 #[.nestMembers #[25]] #[{ accessFlags := 2, nameIndex := 7, descriptorIndex := 8, attributes := #[] }, { accessFlags := 8, nameIndex := 88, descriptorIndex := 89, attributes := #[] }] 49 4 #[] #[{ accessFlags := 25, nameIndex := 58, descriptorIndex := 59, attributes := #[] }, { accessFlags := 25, nameIndex := 62, descriptorIndex := 59, attributes := #[] }, { accessFlags := 26, nameIndex := 64, descriptorIndex := 59, attributes := #[] }, { accessFlags := 26, nameIndex := 66, descriptorIndex := 59, attributes := #[] }, { accessFlags := 26, nameIndex := 68, descriptorIndex := 59, attributes := #[] }, { accessFlags := 26, nameIndex := 70, descriptorIndex := 71, attributes := #[] }, { accessFlags := 26, nameIndex := 74, descriptorIndex := 71, attributes := #[] }])
  fields := #[{ name := "SIZE", type := .int, accessFlags := 25, slot := 0, constantValue := 0 }, { name := "SQUARES", type := .int, accessFlags := 25, slot := 1, constantValue := 0 }, { name := "TO_SHIFT", type := .int, accessFlags := 26, slot := 2, constantValue := 0 }, { name := "PROMOTION_SHIFT", type := .int, accessFlags := 26, slot := 3, constantValue := 0 }, { name := "SQUARE_MASK", type := .int, accessFlags := 26, slot := 4, constantValue := 0 }, { name := "FILE_A", type := .long, accessFlags := 26, slot := 5, constantValue := 0 }, { name := "FILE_H", type := .long, accessFlags := 26, slot := 6, constantValue := 0 }]
  methods := #[k2m0, k2m1]
  instanceTypes := #[]
  staticTypes := #[.int, .int, .int, .int, .int, .long, .long]
  resolved := Array.replicate 102 none
  statics := none }

def pool3 : Array CpInfo := pool [(1, u "java/lang/Cloneable"), (0, .class_ 1), (0, u "java/lang/Object"), (0, .class_ 3)] 3

/-- java/lang/Cloneable -/
def k3 : Class := { plain "java/lang/Cloneable" (some 0) with
  accessFlags := 1537
  interfaces := #[]
  cf := some (fileOf pool3 2 #[] #[] 1537 4 #[] #[])
  fields := #[]
  methods := #[]
  instanceTypes := #[]
  staticTypes := #[]
  resolved := Array.replicate 8 none
  statics := none }

def pool4 : Array CpInfo := pool [(1, u "java/io/Serializable"), (0, .class_ 1), (0, u "java/lang/Object"), (0, .class_ 3)] 3

/-- java/io/Serializable -/
def k4 : Class := { plain "java/io/Serializable" (some 0) with
  accessFlags := 1537
  interfaces := #[]
  cf := some (fileOf pool4 2 #[] #[] 1537 4 #[] #[])
  fields := #[]
  methods := #[]
  instanceTypes := #[]
  staticTypes := #[]
  resolved := Array.replicate 8 none
  statics := none }

/-- the primitive byte -/
def k5 : Class := { plain "byte" none with kind := .primitive 'B', accessFlags := 0x411 }
/-- [B -/
def k6 : Class := { plain "[B" (some 0) with kind := .array 5 .byte, interfaces := #[3, 4], accessFlags := 1041 }

/-- the primitive int -/
def k7 : Class := { plain "int" none with kind := .primitive 'I', accessFlags := 0x411 }
/-- [I -/
def k8 : Class := { plain "[I" (some 0) with kind := .array 7 .int, interfaces := #[3, 4], accessFlags := 1041 }

def heap : Heap := #[]
def classes : Array Class := #[k0, k1, k2, k3, k4, k5, k6, k7, k8]
def interned : List (Array UInt16 × Addr) := []
def slotsUsed : Nat := 0
def theMethod : MethodId := ⟨1, 2⟩
def args0 : Array Value := #[.long 5, .int 7]
def aboutOver (below : List Frame) : State where
  vm := { classes := classes, interned := interned.toArray }
  heap := heap
  slotsUsed := slotsUsed
  threads := #[{ frames := .invoking theMethod args0 :: below }]
def below0 : List Frame := [.native { method := ⟨0, 0⟩, args := #[] }]
def about1 : State := aboutOver below0
def p0 : Program := .bare "" "" ""
def e0 : Env := launch0.env 0 0 0
theorem w_frames : about1.frames = Frame.invoking theMethod args0 :: below0 := rfl
set_option maxRecDepth 65536 in
theorem w_args : argsFit about1.vm theMethod args0 = true := by decide +kernel
set_option maxRecDepth 65536 in
theorem w_heap : heapFits about1 = true := by decide +kernel
set_option maxRecDepth 65536 in
theorem w_runnable : about1.curStatus? = some .runnable := by decide +kernel
set_option maxRecDepth 65536 in
theorem w_alone : about1.alone = true := by decide +kernel
set_option maxRecDepth 65536 in
theorem w_named : about1.methodNamed? x = some theMethod := by decide +kernel
set_option maxRecDepth 65536 in
theorem w_hears : about1.hears theMethod below0 = true := by decide +kernel
set_option maxRecDepth 65536 in
theorem w_ripe : about1.ripe theMethod args0 below0 = true := by decide +kernel
theorem w_running : about1.status = .running := rfl
set_option maxRecDepth 65536 in
theorem w_room : about1.hasRoom e0.platform room_1 = true :=
  launch0.hasRoom_least _ room_1 (by decide +kernel) (by decide +kernel) (by decide +kernel) (by decide +kernel) (by decide +kernel) (by decide +kernel)
theorem allAtoms_all (ts : List Jvm.Cond) (a : Array Jvm.Value) (st : Jvm.State) : (allAtoms ts).before a st = ts.all (fun c => c.before a st) := by
  induction ts with
  | nil => rfl
  | cons c t ih =>
    show (Jvm.Cond.and c (allAtoms t)).before a st = _
    rw [Jvm.Cond.before_and, ih, List.all_cons]
def words1 : List Jvm.Cond := Jvm.Cond.code x code maxLocals ret :: tables_1
/-- a 'code' word, met by the world's own term for the bytes: nothing is compared byte by byte -/
theorem code_word {y : MethodName} {bytes : ByteArray} {mx : Nat} {rt : Option FieldType} {a : Array Value} {s : State} {m : MethodId} {meth : Method} {c : Code} (h1 : s.methodNamed? y = some m) (h2 : s.vm.method? m = some meth) (h3 : meth.code = some c) (h4 : c.code = bytes)
    (h5 : (c.maxLocals == mx && c.exceptionTable.isEmpty && decide (c.maxStack ≤ mostOperands) && decide (meth.sig.returnType = rt) && !meth.locks && decide (parseMethodDescriptor y.desc = some meth.sig)) = true) : (Jvm.Cond.code y bytes mx rt).before a s = true := by
  simp only [Bool.and_eq_true, beq_iff_eq, Bool.not_eq_true', decide_eq_true_eq] at h5
  obtain ⟨⟨⟨⟨⟨g1, g2⟩, g3⟩, g4⟩, g5⟩, g6⟩ := h5
  simp [Cond.before, Cond.holds, Cond.value, h1, h2, h3, h4, g1, g2, g3, g4, g5, g6]
def isCode : Jvm.Cond → Bool
  | .code _ _ _ _ => true
  | _ => false
theorem all_split {L : List Jvm.Cond} {P : Jvm.Cond → Bool} (h1 : L.all (fun c => isCode c || P c) = true) (h2 : ∀ c ∈ L.filter isCode, P c = true) : L.all P = true := by
  refine List.all_eq_true.mpr fun c hc => ?_
  have h := List.all_eq_true.mp h1 c hc
  rcases Bool.eq_false_or_eq_true (isCode c) with hi | hi
  · exact h2 c (List.mem_filter.mpr ⟨hc, hi⟩)
  · simpa [hi] using h
set_option maxRecDepth 65536 in
theorem w_c0 : (Jvm.Cond.code x code maxLocals ret).before args0 about1 = true := code_word (m := ⟨1, 2⟩) (meth := k1m2) (c := k1c2) (by decide +kernel) rfl rfl rfl (by decide +kernel)
set_option maxRecDepth 65536 in
theorem w_c1 : (Jvm.Cond.code ({ cls := "com/example/zugzwang/zugzwang/game/KriegspielAroundPinLaw", name := "cell", desc := "(II)J" } : Jvm.MethodName) method_2_code (2 : Nat) (Option.some Jvm.ClassFile.FieldType.long)).before args0 about1 = true := code_word (m := ⟨1, 1⟩) (meth := k1m1) (c := k1c1) (by decide +kernel) rfl rfl rfl (by decide +kernel)
set_option maxRecDepth 65536 in
theorem w_c2 : (Jvm.Cond.code ({ cls := "com/example/zugzwang/zugzwang/game/Kriegspiel", name := "around", desc := "(J)J" } : Jvm.MethodName) prog_22_method_13_code (8 : Nat) (Option.some Jvm.ClassFile.FieldType.long)).before args0 about1 = true := code_word (m := ⟨2, 1⟩) (meth := k2m1) (c := k2c1) (by decide +kernel) rfl rfl rfl (by decide +kernel)
def codes1 : List Jvm.Cond := [Jvm.Cond.code x code maxLocals ret, Jvm.Cond.code ({ cls := "com/example/zugzwang/zugzwang/game/KriegspielAroundPinLaw", name := "cell", desc := "(II)J" } : Jvm.MethodName) method_2_code (2 : Nat) (Option.some Jvm.ClassFile.FieldType.long), Jvm.Cond.code ({ cls := "com/example/zugzwang/zugzwang/game/Kriegspiel", name := "around", desc := "(J)J" } : Jvm.MethodName) prog_22_method_13_code (8 : Nat) (Option.some Jvm.ClassFile.FieldType.long)]
set_option maxRecDepth 65536 in
theorem codes_eq : words1.filter isCode = codes1 := rfl
theorem w_codes : ∀ c ∈ words1.filter isCode, c.before args0 about1 = true := by
  rw [codes_eq]
  intro c hc
  simp only [codes1, List.mem_cons, List.not_mem_nil, or_false] at hc
  rcases hc with rfl | rfl | rfl
  · exact w_c0
  · exact w_c1
  · exact w_c2
set_option maxRecDepth 65536 in
theorem w_t1 : words1.all (fun c => isCode c || c.before args0 about1) = true := by decide +kernel
theorem w_tables : (allAtoms (Jvm.Cond.code x code maxLocals ret :: tables_1)).before args0 about1 = true := by
  rw [allAtoms_all]
  show words1.all (fun c => c.before args0 about1) = true
  refine all_split ?_ w_codes
  rw [w_t1]
set_option maxRecDepth 65536 in
theorem w_case : (Jvm.Cond.and given_1 narrow_1).before args0 about1 = true := by decide +kernel
theorem w_applies : (headSpec (Jvm.Cond.code x code maxLocals ret :: tables_1) room_1).applies x e0.platform about1 = true :=
  (Spec.applies_iff w_frames).mpr ⟨w_running, w_runnable, w_alone, w_named, w_hears, w_ripe, w_room, w_tables⟩
theorem atStart : AtStart classFile x code maxLocals ret World_1 tables_1 room_1 Calls_1 rest_1 Pre_1 launch0 p0 e0 about1 theMethod args0 below0 :=
  ⟨lists_1, trivial, launch0.admits_env _ _ _, launch0.least_env, fairChoices_fair.cas, fairChoices_fair.clock, w_frames, w_args, w_heap, w_applies, trivial, trivial, w_case⟩
end start1
theorem witness_1 : WitnessClaimed_1 := ⟨start1.p0, start1.e0, start1.about1, start1.theMethod, start1.args0, start1.below0, start1.atStart⟩
end Jvm.Pilot.@@N@@
