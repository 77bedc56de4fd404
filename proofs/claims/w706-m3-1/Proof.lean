import JvmDerived
import JvmDerived.Pilot.@@N@@Statement
import JvmDerived.Pilot.@@N@@Code
set_option linter.unusedVariables false
set_option linter.unusedSimpArgs false
namespace Jvm.Pilot.@@N@@
open Jvm Jvm.ClassFile Sem Op Lib Jvm.Free Jvm.Stand Jvm.LawKit Jvm.RoadKit Bundle Jvm.Pilot.@@N@@.Jvm.D
section Own0
theorem own_fld_to {Z : State} {h : Heap} {a : Addr} {C n d : String} {v v' : Value} (F : Fld Z h a C n d v) (q : v = v') : Fld Z h a C n d v' := q ▸ F
theorem own_sta_keep {Z : State} {h h' : Heap} {C n d : String} {v : Value} {ws : List Addr} (F : Sta Z h C n d v) (K : Keep h h' ws) (q : ∀ x ∈ ws, ∀ c : Cell, h[x]? = some c → c.vm.isStatics = false) : Sta Z h' C n d v := by
  obtain ⟨cf, i, k, f, st, cell, h1, h2, h3, h4, h5, h6, h7⟩ := F
  exact ⟨cf, i, k, f, st, cell, h1, h2, h3, h4, K.2.1 st cell h5 (fun y => by rw [q st y cell h5] at h6; cases h6), h6, h7⟩
theorem own_ins_keep {Z : State} {h h' : Heap} {a : Addr} {C : String} {bo : Bool} {ws : List Addr} (F : Ins Z h a C bo) (K : Keep h h' ws) : Ins Z h' a C bo := by
  obtain ⟨cell, cT, h1, h2, h3⟩ := F
  obtain ⟨c', e1, e2, e3, -⟩ := K.2.2 a cell h1
  exact ⟨c', cT, e1, h2, by rw [e2, e3]; exact h3⟩
theorem notsta_exa {Z : State} {h : Heap} {a : Addr} {C : String} (F : Exa Z h a C) : ∀ c : Cell, h[a]? = some c → c.vm.isStatics = false := fun c hc => by
  obtain ⟨cell, _, h1, -, -, h4, -⟩ := F
  cases hc.symm.trans h1; exact h4
theorem eqi_v {args : Array Value} {first s : State} {o : Option Outcome} {idx : List Nat} {a : Term} {k : Int32} (h : (Cond.eq a (.int k)).value args first o s idx = some true) : a.eval args first o idx s = some (.int k) := by
  obtain ⟨x, y, e1, e2, k1, k2⟩ := cmp_v (Or.inl h)
  have e3 : (Term.int k).eval args first o idx s = some (.int k) := rfl
  cases e3.symm.trans e2
  cases x <;> simp [Cond.value, e1, e3] at h
  rw [e1, h]
end Own0
section Own
variable {p : Program} {l : Launch} {e : Env} {R : Room} {s : State} {m : MethodId} {args : Array Value} {below : List Frame} {meth : Method} {c : Code} {T T' : State} {locs : List Loc} {cells slots : Nat} {Z : State} {h h' : Heap} {Q : Option Value → Heap → List Loc → Prop} {kc ks : Nat} {a b : Addr}
/-- from T the method comes to its end, and Q holds of what it returns, of the heap and of the written places -/
def Goes (p : Program) (e : Env) (below : List Frame) (s : State) (Q : Option Value → Heap → List Loc → Prop) (kc ks : Nat) (T : State) : Prop :=
  ∃ s₂ o, Steps p.tables e below T s₂ ∧ s₂.status = .running ∧ Ended s₂ below o ∧ ∃ v L, o = .returned v ∧ Q v s₂.heap L ∧ FrameEnd s o s₂ L kc ks
theorem Goes.step (st : ∀ t, Steps p.tables e below T' t → Steps p.tables e below T t) (k : Goes p e below s Q kc ks T') : Goes p e below s Q kc ks T := by
  obtain ⟨s₂, o, h1, h2⟩ := k; exact ⟨s₂, o, st _ h1, h2⟩
theorem Goes.ret (X : Stand p l e R s m args below meth c T locs cells slots) {v : Option Value} (hv : meth.sig.returnType = none → v = none) (hlocks : meth.locks = false) {T₀ : State}
    (st : ∀ fs, (∀ (f : JFrame) (acts : List Action), f.method = m → f.locked = none → f.entered = [] → (doReturn e (T.setTop f) acts v).1 = T.setFrames fs) → Steps p.tables e below T₀ (T.setFrames fs))
    (hq : Q v T.heap locs) (hc : cells ≤ kc) (hs : slots ≤ ks) : Goes p e below s Q kc ks T₀ := by
  obtain ⟨fs, hr, hrun, hended, hW, hsame⟩ := X.leave (v := v) hv hlocks
  exact ⟨_, _, st fs hr, hrun, hended, _, _, rfl, hq, ⟨_, rfl⟩, hW, hsame.mono hc hs⟩
theorem Goes.retZ (X : Stand p l e R s m args below meth c T locs cells slots) (hx : p.tables.exec = Jvm.exec) (hlocks : meth.locks = false) {pc : Nat} {Ls : Array Slot} {z r : Int32} {t : FieldType} {rest : List Value} (hret : meth.sig.returnType = some t) (ht : t = .boolean ∨ t = .byte ∨ t = .char ∨ t = .short)
    (hd : decode c.code pc = .ok (.ireturn, 1)) (hz : nar t z = r) (hq : Q (some (.int r)) T.heap locs) (hc : cells ≤ kc) (hs : slots ≤ ks) : Goes p e below s Q kc ks (T.setTop (mkF m pc Ls (.int z :: rest))) := by
  subst hz
  exact Goes.ret X (fun h => by rw [hret] at h; cases h) hlocks (fun fs hr => retN X hx hret ht hd hr) hq hc hs
theorem Goes.retI (X : Stand p l e R s m args below meth c T locs cells slots) (hx : p.tables.exec = Jvm.exec) (hlocks : meth.locks = false) {pc : Nat} {Ls : Array Slot} {z r : Int32} {rest : List Value} (hret : meth.sig.returnType = some .int)
    (hd : decode c.code pc = .ok (.ireturn, 1)) (hz : z = r) (hq : Q (some (.int r)) T.heap locs) (hc : cells ≤ kc) (hs : slots ≤ ks) : Goes p e below s Q kc ks (T.setTop (mkF m pc Ls (.int z :: rest))) := by
  subst hz
  exact Goes.ret X (fun h => by rw [hret] at h; cases h) hlocks (fun fs hr => retOut X hx hret rfl (Or.inl ⟨rfl, Or.inl rfl, z, rfl⟩) hd hr) hq hc hs
theorem Goes.retJ (X : Stand p l e R s m args below meth c T locs cells slots) (hx : p.tables.exec = Jvm.exec) (hlocks : meth.locks = false) {pc : Nat} {Ls : Array Slot} {z r : Int64} {rest : List Value} (hret : meth.sig.returnType = some .long)
    (hd : decode c.code pc = .ok (.lreturn, 1)) (hz : z = r) (hq : Q (some (.long r)) T.heap locs) (hc : cells ≤ kc) (hs : slots ≤ ks) : Goes p e below s Q kc ks (T.setTop (mkF m pc Ls (.long z :: rest))) := by
  subst hz
  exact Goes.ret X (fun h => by rw [hret] at h; cases h) hlocks (fun fs hr => retOut X hx hret rfl (Or.inr (Or.inl ⟨rfl, rfl, z, rfl⟩)) hd hr) hq hc hs
theorem Goes.retR (X : Stand p l e R s m args below meth c T locs cells slots) (hx : p.tables.exec = Jvm.exec) (hlocks : meth.locks = false) {pc : Nat} {Ls : Array Slot} {z r : Value} {t : FieldType} {rest : List Value} (hret : meth.sig.returnType = some t) (ht : t.isReference = true) (hn : narrow t z = z) (hw : z.isRef = true)
    (hd : decode c.code pc = .ok (.areturn, 1)) (hz : z = r) (hq : Q (some r) T.heap locs) (hc : cells ≤ kc) (hs : slots ≤ ks) : Goes p e below s Q kc ks (T.setTop (mkF m pc Ls (z :: rest))) := by
  subst hz
  exact Goes.ret X (fun h => by rw [hret] at h; cases h) hlocks (fun fs hr => retOut X hx hret hn (Or.inr (Or.inr (Or.inr (Or.inr ⟨rfl, ht, hw⟩)))) hd hr) hq hc hs
theorem Goes.retV (X : Stand p l e R s m args below meth c T locs cells slots) (hx : p.tables.exec = Jvm.exec) (hlocks : meth.locks = false) {pc : Nat} {Ls : Array Slot} (hret : meth.sig.returnType = none)
    (hd : decode c.code pc = .ok (.return_, 1)) (hq : Q none T.heap locs) (hc : cells ≤ kc) (hs : slots ≤ ks) : Goes p e below s Q kc ks (T.setTop (mkF m pc Ls [])) :=
  Goes.ret X (fun _ => rfl) hlocks (fun fs hr => X.returnOut hx hret hd hr) hq hc hs
/-- the array at a holds vs -/
def Ara (Z : State) (h : Heap) (a : Addr) (ty : FieldType) (vs : List Value) : Prop := ∃ cl : Cell, Arr Z h a cl ty ∧ cl.slots.toList = vs ∧ vs.length < 2 ^ 31 ∧ (∀ v ∈ vs, fits ty v = true) ∧ ∀ C, ty = .object C → Ovr Z cl.cls C
variable {ty : FieldType} {vs : List Value} {sl : Nat} {v : Value} {ws : List Addr}
theorem Ara.lt (F : Ara Z h a ty vs) : a < h.size := by obtain ⟨c, A, -⟩ := F; exact A.lt
theorem Ara.ext (F : Ara Z h a ty vs) (E : Ext h h') : Ara Z h' a ty vs := by obtain ⟨c, A, r⟩ := F; exact ⟨c, A.ext E, r⟩
theorem Ara.other (F : Ara Z h b ty vs) (W : Wr h h' a sl v) (q : b ≠ a) : Ara Z h' b ty vs := by obtain ⟨c, A, r⟩ := F; exact ⟨c, A.other W q, r⟩
theorem Ara.keep (F : Ara Z h a ty vs) (K : Keep h h' ws) (q : a ∉ ws) : Ara Z h' a ty vs := by obtain ⟨c, A, r⟩ := F; exact ⟨c, ⟨K.2.1 a c A.1 q, A.2⟩, r⟩
theorem fits_dflt (ty : FieldType) : fits ty (defaultValue ty) = true := by cases ty <;> rfl
theorem Ara.new {k : ClassId} {z : Int32} (A : Arr Z h a (newA k ty z) ty) (q : ¬ z < 0) (e : List.replicate z.toNatClampNeg (defaultValue ty) = vs) (O : ∀ C, ty = .object C → Ovr Z k C) : Ara Z h a ty vs := by
  subst e
  refine ⟨_, A, by simp [newA], by simpa using (back32 q).2, fun v hv => ?_, O⟩
  rw [(List.mem_replicate.mp hv).2]; exact fits_dflt ty
theorem Ara.same {j : Int32} {cl : Cell} (A : Arr Z h a cl ty) (e : cl.slots.toList = vs) (hl : vs.length < 2 ^ 31) (hf : ∀ v ∈ vs, fits ty v = true) (O : ∀ C, ty = .object C → Ovr Z cl.cls C) (hv : fits ty v = true) (W : Wr h h' a j.toNatClampNeg v) : Ara Z h' a ty (vs.set j.toNatClampNeg v) := by
  refine ⟨_, A.same W, by simp [Cell.setSlot, ← e], by simpa using hl, fun u hu => ?_, O⟩
  rcases List.mem_or_eq_of_mem_set hu with q | q
  · exact hf u q
  · rw [q]; exact hv
theorem inb {j : Int32} {cl : Cell} (e : cl.slots.toList = vs) (h0 : ¬ j < 0) (hj : j.toNatClampNeg < vs.length) : ¬ (j < 0 ∨ cl.slots.size ≤ j.toNatClampNeg) := by
  rintro (q | q)
  · exact h0 q
  · rw [← e] at hj; simp at hj; omega
theorem getb {j : Int32} {cl : Cell} (e : cl.slots.toList = vs) (hv : vs[j.toNatClampNeg]? = some v) : cl.slots[j.toNatClampNeg]? = some v := by rw [← e] at hv; simpa using hv
theorem ltb {n : Nat} (hv : vs[n]? = some v) : n < vs.length := (List.getElem?_eq_some_iff.mp hv).1
theorem lenb {cl : Cell} (e : cl.slots.toList = vs) : cl.slots.size = vs.length := by rw [← e]; simp
theorem notsta_ara (F : Ara Z h a ty vs) : ∀ c : Cell, h[a]? = some c → c.vm.isStatics = false := fun c hc => by
  obtain ⟨cl, A, -⟩ := F
  cases hc.symm.trans A.1; exact A.plain
theorem Ara.to {vs' : List Value} (F : Ara Z h a ty vs) (q : vs = vs') : Ara Z h a ty vs' := q ▸ F
end Own

def selL (i : Int32) (ws : List Addr) : Addr := ws.getD i.toNatClampNeg 0
theorem idx13 (p i : Int32) (h : (p &&& 2147483647) % 13 = i) : i = 0 ∨ i = 1 ∨ i = 2 ∨ i = 3 ∨ i = 4 ∨ i = 5 ∨ i = 6 ∨ i = 7 ∨ i = 8 ∨ i = 9 ∨ i = 10 ∨ i = 11 ∨ i = 12 := by
  have h1 := c_mask p 2147483647 31 (by decide) (by decide)
  have h2 := (c_irem (p &&& 2147483647) 13 13 (by decide)).1 (by omega)
  rw [h] at h2
  have h3 : i.toInt = 0 ∨ i.toInt = 1 ∨ i.toInt = 2 ∨ i.toInt = 3 ∨ i.toInt = 4 ∨ i.toInt = 5 ∨ i.toInt = 6 ∨ i.toInt = 7 ∨ i.toInt = 8 ∨ i.toInt = 9 ∨ i.toInt = 10 ∨ i.toInt = 11 ∨ i.toInt = 12 := by omega
  rcases h3 with h | h | h | h | h | h | h | h | h | h | h | h | h <;> simp [← Int32.toInt_inj, h]
theorem own_pn0 : plainName "com/example/replica_scaler/replicascaler/decision/Outcome" = true := by first | (simp [plainName, overriddenIn]; done) | decide +kernel
theorem own_pd0 : parseMethodDescriptor "()Z" = some ⟨[], some .boolean⟩ := by decide +kernel
theorem own_pn1 : plainName "com/example/replica_scaler/replicascaler/decision/OutcomeLacksEvidencePinLaw" = true := by first | (simp [plainName, overriddenIn]; done) | decide +kernel
def f1 (a0 : Addr) (w_UNOBSERVED : Addr) (w_DOWN : Addr) (w_NO_DATA : Addr) : Int32 := (nar .boolean (if a0 = w_UNOBSERVED then (1 : Int32) else (if a0 = w_DOWN then (1 : Int32) else (if a0 = w_NO_DATA then (1 : Int32) else (0 : Int32)))))
theorem own_d1_0 : decode prog_17_method_6_code 0 = .ok (.aload_n 0, 1) := by decide +kernel
theorem own_d1_1 : decode prog_17_method_6_code 1 = .ok (.getstatic 3, 3) := by decide +kernel
theorem own_d1_4 : decode prog_17_method_6_code 4 = .ok (.if_acmp .eq 17, 3) := by decide +kernel
theorem own_d1_7 : decode prog_17_method_6_code 7 = .ok (.aload_n 0, 1) := by decide +kernel
theorem own_d1_8 : decode prog_17_method_6_code 8 = .ok (.getstatic 7, 3) := by decide +kernel
theorem own_d1_11 : decode prog_17_method_6_code 11 = .ok (.if_acmp .eq 10, 3) := by decide +kernel
theorem own_d1_14 : decode prog_17_method_6_code 14 = .ok (.aload_n 0, 1) := by decide +kernel
theorem own_d1_15 : decode prog_17_method_6_code 15 = .ok (.getstatic 10, 3) := by decide +kernel
theorem own_d1_18 : decode prog_17_method_6_code 18 = .ok (.if_acmp .ne 7, 3) := by decide +kernel
theorem own_d1_21 : decode prog_17_method_6_code 21 = .ok (.iconst 1, 1) := by decide +kernel
theorem own_d1_22 : decode prog_17_method_6_code 22 = .ok (.goto 4, 3) := by decide +kernel
theorem own_d1_25 : decode prog_17_method_6_code 25 = .ok (.iconst 0, 1) := by decide +kernel
theorem own_d1_26 : decode prog_17_method_6_code 26 = .ok (.ireturn, 1) := by decide +kernel
theorem own_ef1 (m : MethodId) (a0 : Addr) : entryFrame m #[(.ref a0)] 1 = mkF m 0 #[.val (.ref a0)] [] := by first | (simp [entryFrame, mkF, argsToLocals, Value.category, maxLocals]; done) | rfl
abbrev RM1 : Room := ({ frames := 0, cells := 0, slots := 0, locals := 0 } : Room)
abbrev kC1 : Nat := 0
abbrev kS1 : Nat := 0
def Q1 (Z : State) (a0 : Addr) (w_UNOBSERVED : Addr) (w_DOWN : Addr) (w_NO_DATA : Addr) (h0 : Heap) (v : Option Value) (h : Heap) (L : List Loc) : Prop := v = some (.int (f1 a0 w_UNOBSERVED w_DOWN w_NO_DATA)) ∧ L = [] ∧ h = h0
set_option maxRecDepth 65536 in
set_option maxHeartbeats 40000000 in
theorem rm1 (l : Launch) (Z : State) (tA : Array Value) (hw : ∀ d ∈ tables_1, d.before tA Z = true) (ws : List Jvm.Cond) (a0 : Addr) (w_UNOBSERVED : Addr) (w_DOWN : Addr) (w_NO_DATA : Addr) (h0 : Heap) (H0 : Sta Z h0 "com/example/replica_scaler/replicascaler/decision/Outcome" "UNOBSERVED" "Lcom/example/replica_scaler/replicascaler/decision/Outcome;" (.ref w_UNOBSERVED)) (H1 : Sta Z h0 "com/example/replica_scaler/replicascaler/decision/Outcome" "DOWN" "Lcom/example/replica_scaler/replicascaler/decision/Outcome;" (.ref w_DOWN)) (H2 : Sta Z h0 "com/example/replica_scaler/replicascaler/decision/Outcome" "NO_DATA" "Lcom/example/replica_scaler/replicascaler/decision/Outcome;" (.ref w_NO_DATA)) :
    MetFree l (⟨"com/example/replica_scaler/replicascaler/decision/Outcome", "lacksEvidence", "()Z"⟩ : MethodName) (head1 (Jvm.Cond.code (⟨"com/example/replica_scaler/replicascaler/decision/Outcome", "lacksEvidence", "()Z"⟩ : MethodName) prog_17_method_6_code 1 (some .boolean) :: ws) RM1) (fun a U => a = #[(.ref a0)] ∧ Z.Warmed39 U.vm ∧ U.heap = h0) (fun _ _ _ _ _ => True) (fun _ U o U' => ∃ v L, o = .returned v ∧ Q1 Z a0 w_UNOBSERVED w_DOWN w_NO_DATA h0 v U'.heap L ∧ FrameEnd U o U' L RM1.cells RM1.slots) := by
  refine MetFree.of_bodySF (plainFor_of_name own_pn0) hisR ?_
  intro p e s m args below meth c s₁ Bd hml0 hP hK
  obtain ⟨rfl, hZ, hh⟩ := hP
  have hx := Bd.exec
  have hby := Bd.bytes
  have hml : c.maxLocals = 1 := hml0
  have hown : s.vm.findClass "com/example/replica_scaler/replicascaler/decision/Outcome" = some m.cls := findClass_of_methodNamed Bd.named
  have hnm := (name_of_methodNamed Bd.named Bd.method).1
  have X0 : Stand p l e RM1 s m #[(.ref a0)] below meth c s₁ [] 0 0 := Stand.of_body Bd
  have e0 : s₁.heap = h0 := by rw [← hh, Bd.state]; rfl
  show Goes p e below s (Q1 Z a0 w_UNOBSERVED w_DOWN w_NO_DATA h0) kC1 kS1 (s₁.setTop (entryFrame m #[(.ref a0)] 1))
  refine Goes.step (fun t k => castTop (own_ef1 m a0) k) ?_
  show Goes _ _ _ _ _ _ _ (s₁.setTop (mkF m 0 #[.val (.ref a0)] []))
  refine Goes.step (fun t k => XS.aloadN X0.here hx rfl (hb hby own_d1_0) rfl rfl k) ?_
  show Goes _ _ _ _ _ _ _ (s₁.setTop (mkF m 1 #[.val (.ref a0)] [(.ref a0)]))
  obtain ⟨T1, X1, e1, st1⟩ := getS2 X0 hx hZ hown (host := "") (Or.inl (hw _ (List.mem_of_getElem? (i := 36) rfl))) Via.refl e0 H0 (g := (mkF m 1 #[.val (.ref a0)] [(.ref a0)])) rfl (hb hby own_d1_1)
  refine Goes.step (fun t k => st1 t k) ?_
  show Goes _ _ _ _ _ _ _ (T1.setTop (mkF m 4 #[.val (.ref a0)] [(.ref w_UNOBSERVED), (.ref a0)]))
  suffices k7 : ∀ (T7 : State) (x7_0 : Int32), Stand p l e RM1 s m #[(.ref a0)] below meth c T7 [] 0 0 → T7.heap = h0 → x7_0 = (if a0 = w_UNOBSERVED then (1 : Int32) else (if a0 = w_DOWN then (1 : Int32) else (if a0 = w_NO_DATA then (1 : Int32) else (0 : Int32)))) → Goes p e below s (Q1 Z a0 w_UNOBSERVED w_DOWN w_NO_DATA h0) kC1 kS1 (T7.setTop (mkF m 26 #[.val (.ref a0)] [(.int x7_0)])) by
    by_cases hc4_2 : a0 = w_UNOBSERVED
    · refine Goes.step (fun t k => Jvm.RoadKit.acmp (g := (mkF m 4 #[.val (.ref a0)] [(.ref w_UNOBSERVED), (.ref a0)])) X1 hx rfl rfl rfl (pc0 := 4) (pc' := 21) (same := true) rfl (hb hby own_d1_4) rfl (decide_eq_true (congrArg Value.ref hc4_2)) (by decide) (by decide) k) ?_
      show Goes _ _ _ _ _ _ _ (T1.setTop (mkF m 21 #[.val (.ref a0)] []))
      refine Goes.step (fun t k => XS.iconst X1.here hx rfl (hb hby own_d1_21) k) ?_
      show Goes _ _ _ _ _ _ _ (T1.setTop (mkF m 22 #[.val (.ref a0)] [(.int (1 : Int32))]))
      refine Goes.step (fun t k => XS.goto X1.here hx rfl (pc0 := 22) (pc' := 26) rfl (hb hby own_d1_22) (by decide) (by decide) k) ?_
      show Goes _ _ _ _ _ _ _ (T1.setTop (mkF m 26 #[.val (.ref a0)] [(.int (1 : Int32))]))
      exact k7 _ _ X1 e1 (if_pos hc4_2).symm
    · refine Goes.step (fun t k => Jvm.RoadKit.acmp (g := (mkF m 4 #[.val (.ref a0)] [(.ref w_UNOBSERVED), (.ref a0)])) X1 hx rfl rfl rfl (pc0 := 4) (pc' := 7) (same := false) rfl (hb hby own_d1_4) rfl (decide_eq_false fun q => hc4_2 (Value.ref.inj q)) (by decide) (by decide) k) ?_
      show Goes _ _ _ _ _ _ _ (T1.setTop (mkF m 7 #[.val (.ref a0)] []))
      refine Goes.step (fun t k => XS.aloadN X1.here hx rfl (hb hby own_d1_7) rfl rfl k) ?_
      show Goes _ _ _ _ _ _ _ (T1.setTop (mkF m 8 #[.val (.ref a0)] [(.ref a0)]))
      obtain ⟨T3, X3, e3, st3⟩ := getS2 X1 hx hZ hown (host := "") (Or.inl (hw _ (List.mem_of_getElem? (i := 37) rfl))) Via.refl e1 H1 (g := (mkF m 8 #[.val (.ref a0)] [(.ref a0)])) rfl (hb hby own_d1_8)
      refine Goes.step (fun t k => st3 t k) ?_
      show Goes _ _ _ _ _ _ _ (T3.setTop (mkF m 11 #[.val (.ref a0)] [(.ref w_DOWN), (.ref a0)]))
      by_cases hc11_4 : a0 = w_DOWN
      · refine Goes.step (fun t k => Jvm.RoadKit.acmp (g := (mkF m 11 #[.val (.ref a0)] [(.ref w_DOWN), (.ref a0)])) X3 hx rfl rfl rfl (pc0 := 11) (pc' := 21) (same := true) rfl (hb hby own_d1_11) rfl (decide_eq_true (congrArg Value.ref hc11_4)) (by decide) (by decide) k) ?_
        show Goes _ _ _ _ _ _ _ (T3.setTop (mkF m 21 #[.val (.ref a0)] []))
        refine Goes.step (fun t k => XS.iconst X3.here hx rfl (hb hby own_d1_21) k) ?_
        show Goes _ _ _ _ _ _ _ (T3.setTop (mkF m 22 #[.val (.ref a0)] [(.int (1 : Int32))]))
        refine Goes.step (fun t k => XS.goto X3.here hx rfl (pc0 := 22) (pc' := 26) rfl (hb hby own_d1_22) (by decide) (by decide) k) ?_
        show Goes _ _ _ _ _ _ _ (T3.setTop (mkF m 26 #[.val (.ref a0)] [(.int (1 : Int32))]))
        exact k7 _ _ X3 e3 ((if_neg hc4_2).trans (if_pos hc11_4)).symm
      · refine Goes.step (fun t k => Jvm.RoadKit.acmp (g := (mkF m 11 #[.val (.ref a0)] [(.ref w_DOWN), (.ref a0)])) X3 hx rfl rfl rfl (pc0 := 11) (pc' := 14) (same := false) rfl (hb hby own_d1_11) rfl (decide_eq_false fun q => hc11_4 (Value.ref.inj q)) (by decide) (by decide) k) ?_
        show Goes _ _ _ _ _ _ _ (T3.setTop (mkF m 14 #[.val (.ref a0)] []))
        refine Goes.step (fun t k => XS.aloadN X3.here hx rfl (hb hby own_d1_14) rfl rfl k) ?_
        show Goes _ _ _ _ _ _ _ (T3.setTop (mkF m 15 #[.val (.ref a0)] [(.ref a0)]))
        obtain ⟨T5, X5, e5, st5⟩ := getS2 X3 hx hZ hown (host := "") (Or.inl (hw _ (List.mem_of_getElem? (i := 38) rfl))) Via.refl e3 H2 (g := (mkF m 15 #[.val (.ref a0)] [(.ref a0)])) rfl (hb hby own_d1_15)
        refine Goes.step (fun t k => st5 t k) ?_
        show Goes _ _ _ _ _ _ _ (T5.setTop (mkF m 18 #[.val (.ref a0)] [(.ref w_NO_DATA), (.ref a0)]))
        by_cases hc18_6 : a0 = w_NO_DATA
        · refine Goes.step (fun t k => Jvm.RoadKit.acmp (g := (mkF m 18 #[.val (.ref a0)] [(.ref w_NO_DATA), (.ref a0)])) X5 hx rfl rfl rfl (pc0 := 18) (pc' := 21) (same := true) rfl (hb hby own_d1_18) rfl (decide_eq_true (congrArg Value.ref hc18_6)) (by decide) (by decide) k) ?_
          show Goes _ _ _ _ _ _ _ (T5.setTop (mkF m 21 #[.val (.ref a0)] []))
          refine Goes.step (fun t k => XS.iconst X5.here hx rfl (hb hby own_d1_21) k) ?_
          show Goes _ _ _ _ _ _ _ (T5.setTop (mkF m 22 #[.val (.ref a0)] [(.int (1 : Int32))]))
          refine Goes.step (fun t k => XS.goto X5.here hx rfl (pc0 := 22) (pc' := 26) rfl (hb hby own_d1_22) (by decide) (by decide) k) ?_
          show Goes _ _ _ _ _ _ _ (T5.setTop (mkF m 26 #[.val (.ref a0)] [(.int (1 : Int32))]))
          exact k7 _ _ X5 e5 ((if_neg hc4_2).trans ((if_neg hc11_4).trans (if_pos hc18_6))).symm
        · refine Goes.step (fun t k => Jvm.RoadKit.acmp (g := (mkF m 18 #[.val (.ref a0)] [(.ref w_NO_DATA), (.ref a0)])) X5 hx rfl rfl rfl (pc0 := 18) (pc' := 25) (same := false) rfl (hb hby own_d1_18) rfl (decide_eq_false fun q => hc18_6 (Value.ref.inj q)) (by decide) (by decide) k) ?_
          show Goes _ _ _ _ _ _ _ (T5.setTop (mkF m 25 #[.val (.ref a0)] []))
          refine Goes.step (fun t k => XS.iconst X5.here hx rfl (hb hby own_d1_25) k) ?_
          show Goes _ _ _ _ _ _ _ (T5.setTop (mkF m 26 #[.val (.ref a0)] [(.int (0 : Int32))]))
          exact k7 _ _ X5 e5 ((if_neg hc4_2).trans ((if_neg hc11_4).trans (if_neg hc18_6))).symm
  intro T7 x7_0 X7 e7 hx7_0
  subst hx7_0
  exact Goes.retZ X7 hx Bd.notSynchronized (r := (f1 a0 w_UNOBSERVED w_DOWN w_NO_DATA)) Bd.returns (by simp) (hb hby own_d1_26) rfl ⟨rfl, rfl, e7⟩ (by decide) (by decide)
set_option maxRecDepth 65536 in
set_option maxHeartbeats 4000000 in
theorem own_plain (p0 : Int32) (w_UNOBSERVED : Addr) (w_DOWN : Addr) (w_NO_DATA : Addr) (w_SCALE_UP : Addr) (w_SCALE_DOWN : Addr) (w_AT_TARGET : Addr) (w_HELD : Addr) (w_COOLDOWN : Addr) (w_REJECTED : Addr) (w_BACKED_OFF : Addr) (w_WATCHING : Addr) (w_DEFERRED : Addr) (w_AWAITING_APPROVAL : Addr) (y393 : Int32) (x395_0 : Int32) (y399 : Int32) (x401_0 : Int32) (hy393 : ((p0 &&& (2147483647 : Int32)) % (13 : Int32)) = y393) (hx395_0 : x395_0 = (if y393 < (3 : Int32) then (1 : Int32) else (0 : Int32))) (hy399 : (f1 (selL y393 [w_UNOBSERVED, w_DOWN, w_NO_DATA, w_SCALE_UP, w_SCALE_DOWN, w_AT_TARGET, w_HELD, w_COOLDOWN, w_REJECTED, w_BACKED_OFF, w_WATCHING, w_DEFERRED, w_AWAITING_APPROVAL]) w_UNOBSERVED w_DOWN w_NO_DATA) = y399) (hx401_0 : x401_0 = (if y399 = x395_0 then (1 : Int32) else (0 : Int32))) (ne_w_UNOBSERVED_w_DOWN : w_UNOBSERVED ≠ w_DOWN) (ne_w_UNOBSERVED_w_NO_DATA : w_UNOBSERVED ≠ w_NO_DATA) (ne_w_UNOBSERVED_w_SCALE_UP : w_UNOBSERVED ≠ w_SCALE_UP) (ne_w_UNOBSERVED_w_SCALE_DOWN : w_UNOBSERVED ≠ w_SCALE_DOWN) (ne_w_UNOBSERVED_w_AT_TARGET : w_UNOBSERVED ≠ w_AT_TARGET) (ne_w_UNOBSERVED_w_HELD : w_UNOBSERVED ≠ w_HELD) (ne_w_UNOBSERVED_w_COOLDOWN : w_UNOBSERVED ≠ w_COOLDOWN) (ne_w_UNOBSERVED_w_REJECTED : w_UNOBSERVED ≠ w_REJECTED) (ne_w_UNOBSERVED_w_BACKED_OFF : w_UNOBSERVED ≠ w_BACKED_OFF) (ne_w_UNOBSERVED_w_WATCHING : w_UNOBSERVED ≠ w_WATCHING) (ne_w_UNOBSERVED_w_DEFERRED : w_UNOBSERVED ≠ w_DEFERRED) (ne_w_UNOBSERVED_w_AWAITING_APPROVAL : w_UNOBSERVED ≠ w_AWAITING_APPROVAL) (ne_w_DOWN_w_NO_DATA : w_DOWN ≠ w_NO_DATA) (ne_w_DOWN_w_SCALE_UP : w_DOWN ≠ w_SCALE_UP) (ne_w_DOWN_w_SCALE_DOWN : w_DOWN ≠ w_SCALE_DOWN) (ne_w_DOWN_w_AT_TARGET : w_DOWN ≠ w_AT_TARGET) (ne_w_DOWN_w_HELD : w_DOWN ≠ w_HELD) (ne_w_DOWN_w_COOLDOWN : w_DOWN ≠ w_COOLDOWN) (ne_w_DOWN_w_REJECTED : w_DOWN ≠ w_REJECTED) (ne_w_DOWN_w_BACKED_OFF : w_DOWN ≠ w_BACKED_OFF) (ne_w_DOWN_w_WATCHING : w_DOWN ≠ w_WATCHING) (ne_w_DOWN_w_DEFERRED : w_DOWN ≠ w_DEFERRED) (ne_w_DOWN_w_AWAITING_APPROVAL : w_DOWN ≠ w_AWAITING_APPROVAL) (ne_w_NO_DATA_w_SCALE_UP : w_NO_DATA ≠ w_SCALE_UP) (ne_w_NO_DATA_w_SCALE_DOWN : w_NO_DATA ≠ w_SCALE_DOWN) (ne_w_NO_DATA_w_AT_TARGET : w_NO_DATA ≠ w_AT_TARGET) (ne_w_NO_DATA_w_HELD : w_NO_DATA ≠ w_HELD) (ne_w_NO_DATA_w_COOLDOWN : w_NO_DATA ≠ w_COOLDOWN) (ne_w_NO_DATA_w_REJECTED : w_NO_DATA ≠ w_REJECTED) (ne_w_NO_DATA_w_BACKED_OFF : w_NO_DATA ≠ w_BACKED_OFF) (ne_w_NO_DATA_w_WATCHING : w_NO_DATA ≠ w_WATCHING) (ne_w_NO_DATA_w_DEFERRED : w_NO_DATA ≠ w_DEFERRED) (ne_w_NO_DATA_w_AWAITING_APPROVAL : w_NO_DATA ≠ w_AWAITING_APPROVAL) : nar .boolean x401_0 = (1 : Int32) := by
  have c := idx13 _ _ ‹((p0 &&& (2147483647 : Int32)) % (13 : Int32)) = _›
  rcases c with h | h | h | h | h | h | h | h | h | h | h | h | h
  · subst h; subst_vars; rw [show selL 0 [w_UNOBSERVED, w_DOWN, w_NO_DATA, w_SCALE_UP, w_SCALE_DOWN, w_AT_TARGET, w_HELD, w_COOLDOWN, w_REJECTED, w_BACKED_OFF, w_WATCHING, w_DEFERRED, w_AWAITING_APPROVAL] = w_UNOBSERVED from rfl]; unfold f1; rw [if_pos rfl]; decide
  · subst h; subst_vars; rw [show selL 1 [w_UNOBSERVED, w_DOWN, w_NO_DATA, w_SCALE_UP, w_SCALE_DOWN, w_AT_TARGET, w_HELD, w_COOLDOWN, w_REJECTED, w_BACKED_OFF, w_WATCHING, w_DEFERRED, w_AWAITING_APPROVAL] = w_DOWN from rfl]; unfold f1; rw [if_neg (Ne.symm ne_w_UNOBSERVED_w_DOWN), if_pos rfl]; decide
  · subst h; subst_vars; rw [show selL 2 [w_UNOBSERVED, w_DOWN, w_NO_DATA, w_SCALE_UP, w_SCALE_DOWN, w_AT_TARGET, w_HELD, w_COOLDOWN, w_REJECTED, w_BACKED_OFF, w_WATCHING, w_DEFERRED, w_AWAITING_APPROVAL] = w_NO_DATA from rfl]; unfold f1; rw [if_neg (Ne.symm ne_w_UNOBSERVED_w_NO_DATA), if_neg (Ne.symm ne_w_DOWN_w_NO_DATA), if_pos rfl]; decide
  · subst h; subst_vars; rw [show selL 3 [w_UNOBSERVED, w_DOWN, w_NO_DATA, w_SCALE_UP, w_SCALE_DOWN, w_AT_TARGET, w_HELD, w_COOLDOWN, w_REJECTED, w_BACKED_OFF, w_WATCHING, w_DEFERRED, w_AWAITING_APPROVAL] = w_SCALE_UP from rfl]; unfold f1; rw [if_neg (Ne.symm ne_w_UNOBSERVED_w_SCALE_UP), if_neg (Ne.symm ne_w_DOWN_w_SCALE_UP), if_neg (Ne.symm ne_w_NO_DATA_w_SCALE_UP)]; decide
  · subst h; subst_vars; rw [show selL 4 [w_UNOBSERVED, w_DOWN, w_NO_DATA, w_SCALE_UP, w_SCALE_DOWN, w_AT_TARGET, w_HELD, w_COOLDOWN, w_REJECTED, w_BACKED_OFF, w_WATCHING, w_DEFERRED, w_AWAITING_APPROVAL] = w_SCALE_DOWN from rfl]; unfold f1; rw [if_neg (Ne.symm ne_w_UNOBSERVED_w_SCALE_DOWN), if_neg (Ne.symm ne_w_DOWN_w_SCALE_DOWN), if_neg (Ne.symm ne_w_NO_DATA_w_SCALE_DOWN)]; decide
  · subst h; subst_vars; rw [show selL 5 [w_UNOBSERVED, w_DOWN, w_NO_DATA, w_SCALE_UP, w_SCALE_DOWN, w_AT_TARGET, w_HELD, w_COOLDOWN, w_REJECTED, w_BACKED_OFF, w_WATCHING, w_DEFERRED, w_AWAITING_APPROVAL] = w_AT_TARGET from rfl]; unfold f1; rw [if_neg (Ne.symm ne_w_UNOBSERVED_w_AT_TARGET), if_neg (Ne.symm ne_w_DOWN_w_AT_TARGET), if_neg (Ne.symm ne_w_NO_DATA_w_AT_TARGET)]; decide
  · subst h; subst_vars; rw [show selL 6 [w_UNOBSERVED, w_DOWN, w_NO_DATA, w_SCALE_UP, w_SCALE_DOWN, w_AT_TARGET, w_HELD, w_COOLDOWN, w_REJECTED, w_BACKED_OFF, w_WATCHING, w_DEFERRED, w_AWAITING_APPROVAL] = w_HELD from rfl]; unfold f1; rw [if_neg (Ne.symm ne_w_UNOBSERVED_w_HELD), if_neg (Ne.symm ne_w_DOWN_w_HELD), if_neg (Ne.symm ne_w_NO_DATA_w_HELD)]; decide
  · subst h; subst_vars; rw [show selL 7 [w_UNOBSERVED, w_DOWN, w_NO_DATA, w_SCALE_UP, w_SCALE_DOWN, w_AT_TARGET, w_HELD, w_COOLDOWN, w_REJECTED, w_BACKED_OFF, w_WATCHING, w_DEFERRED, w_AWAITING_APPROVAL] = w_COOLDOWN from rfl]; unfold f1; rw [if_neg (Ne.symm ne_w_UNOBSERVED_w_COOLDOWN), if_neg (Ne.symm ne_w_DOWN_w_COOLDOWN), if_neg (Ne.symm ne_w_NO_DATA_w_COOLDOWN)]; decide
  · subst h; subst_vars; rw [show selL 8 [w_UNOBSERVED, w_DOWN, w_NO_DATA, w_SCALE_UP, w_SCALE_DOWN, w_AT_TARGET, w_HELD, w_COOLDOWN, w_REJECTED, w_BACKED_OFF, w_WATCHING, w_DEFERRED, w_AWAITING_APPROVAL] = w_REJECTED from rfl]; unfold f1; rw [if_neg (Ne.symm ne_w_UNOBSERVED_w_REJECTED), if_neg (Ne.symm ne_w_DOWN_w_REJECTED), if_neg (Ne.symm ne_w_NO_DATA_w_REJECTED)]; decide
  · subst h; subst_vars; rw [show selL 9 [w_UNOBSERVED, w_DOWN, w_NO_DATA, w_SCALE_UP, w_SCALE_DOWN, w_AT_TARGET, w_HELD, w_COOLDOWN, w_REJECTED, w_BACKED_OFF, w_WATCHING, w_DEFERRED, w_AWAITING_APPROVAL] = w_BACKED_OFF from rfl]; unfold f1; rw [if_neg (Ne.symm ne_w_UNOBSERVED_w_BACKED_OFF), if_neg (Ne.symm ne_w_DOWN_w_BACKED_OFF), if_neg (Ne.symm ne_w_NO_DATA_w_BACKED_OFF)]; decide
  · subst h; subst_vars; rw [show selL 10 [w_UNOBSERVED, w_DOWN, w_NO_DATA, w_SCALE_UP, w_SCALE_DOWN, w_AT_TARGET, w_HELD, w_COOLDOWN, w_REJECTED, w_BACKED_OFF, w_WATCHING, w_DEFERRED, w_AWAITING_APPROVAL] = w_WATCHING from rfl]; unfold f1; rw [if_neg (Ne.symm ne_w_UNOBSERVED_w_WATCHING), if_neg (Ne.symm ne_w_DOWN_w_WATCHING), if_neg (Ne.symm ne_w_NO_DATA_w_WATCHING)]; decide
  · subst h; subst_vars; rw [show selL 11 [w_UNOBSERVED, w_DOWN, w_NO_DATA, w_SCALE_UP, w_SCALE_DOWN, w_AT_TARGET, w_HELD, w_COOLDOWN, w_REJECTED, w_BACKED_OFF, w_WATCHING, w_DEFERRED, w_AWAITING_APPROVAL] = w_DEFERRED from rfl]; unfold f1; rw [if_neg (Ne.symm ne_w_UNOBSERVED_w_DEFERRED), if_neg (Ne.symm ne_w_DOWN_w_DEFERRED), if_neg (Ne.symm ne_w_NO_DATA_w_DEFERRED)]; decide
  · subst h; subst_vars; rw [show selL 12 [w_UNOBSERVED, w_DOWN, w_NO_DATA, w_SCALE_UP, w_SCALE_DOWN, w_AT_TARGET, w_HELD, w_COOLDOWN, w_REJECTED, w_BACKED_OFF, w_WATCHING, w_DEFERRED, w_AWAITING_APPROVAL] = w_AWAITING_APPROVAL from rfl]; unfold f1; rw [if_neg (Ne.symm ne_w_UNOBSERVED_w_AWAITING_APPROVAL), if_neg (Ne.symm ne_w_DOWN_w_AWAITING_APPROVAL), if_neg (Ne.symm ne_w_NO_DATA_w_AWAITING_APPROVAL)]; decide
theorem own_ef0 (m : MethodId) (p0 : Int32) : entryFrame m #[(.int p0)] maxLocals = mkF m 0 #[.val (.int p0), .unset, .unset, .unset] [] := by first | (simp [entryFrame, mkF, argsToLocals, Value.category, maxLocals]; done) | rfl
abbrev kC0 : Nat := 1
abbrev kS0 : Nat := 13
def Q0 (Z : State) (p0 : Int32) (w_UNOBSERVED : Addr) (w_DOWN : Addr) (w_NO_DATA : Addr) (w_SCALE_UP : Addr) (w_SCALE_DOWN : Addr) (w_AT_TARGET : Addr) (w_HELD : Addr) (w_COOLDOWN : Addr) (w_REJECTED : Addr) (w_BACKED_OFF : Addr) (w_WATCHING : Addr) (w_DEFERRED : Addr) (w_AWAITING_APPROVAL : Addr) (h0 : Heap) (n0 : Nat) (v : Option Value) (h : Heap) (L : List Loc) : Prop := v = some (.int 1) ∧ Fr n0 L
set_option maxRecDepth 65536 in
set_option maxHeartbeats 40000000 in
theorem rm0 (l : Launch) (Z : State) (tA : Array Value) (hw : ∀ d ∈ tables_1, d.before tA Z = true) (ws : List Jvm.Cond) (p0 : Int32) (w_UNOBSERVED : Addr) (w_DOWN : Addr) (w_NO_DATA : Addr) (w_SCALE_UP : Addr) (w_SCALE_DOWN : Addr) (w_AT_TARGET : Addr) (w_HELD : Addr) (w_COOLDOWN : Addr) (w_REJECTED : Addr) (w_BACKED_OFF : Addr) (w_WATCHING : Addr) (w_DEFERRED : Addr) (w_AWAITING_APPROVAL : Addr) (h0 : Heap) (n0 : Nat) (Z0 : n0 ≤ h0.size) (S_UNOBSERVED : Sta Z h0 "com/example/replica_scaler/replicascaler/decision/Outcome" "UNOBSERVED" "Lcom/example/replica_scaler/replicascaler/decision/Outcome;" (.ref w_UNOBSERVED)) (S_DOWN : Sta Z h0 "com/example/replica_scaler/replicascaler/decision/Outcome" "DOWN" "Lcom/example/replica_scaler/replicascaler/decision/Outcome;" (.ref w_DOWN)) (S_NO_DATA : Sta Z h0 "com/example/replica_scaler/replicascaler/decision/Outcome" "NO_DATA" "Lcom/example/replica_scaler/replicascaler/decision/Outcome;" (.ref w_NO_DATA)) (S_SCALE_UP : Sta Z h0 "com/example/replica_scaler/replicascaler/decision/Outcome" "SCALE_UP" "Lcom/example/replica_scaler/replicascaler/decision/Outcome;" (.ref w_SCALE_UP)) (S_SCALE_DOWN : Sta Z h0 "com/example/replica_scaler/replicascaler/decision/Outcome" "SCALE_DOWN" "Lcom/example/replica_scaler/replicascaler/decision/Outcome;" (.ref w_SCALE_DOWN)) (S_AT_TARGET : Sta Z h0 "com/example/replica_scaler/replicascaler/decision/Outcome" "AT_TARGET" "Lcom/example/replica_scaler/replicascaler/decision/Outcome;" (.ref w_AT_TARGET)) (S_HELD : Sta Z h0 "com/example/replica_scaler/replicascaler/decision/Outcome" "HELD" "Lcom/example/replica_scaler/replicascaler/decision/Outcome;" (.ref w_HELD)) (S_COOLDOWN : Sta Z h0 "com/example/replica_scaler/replicascaler/decision/Outcome" "COOLDOWN" "Lcom/example/replica_scaler/replicascaler/decision/Outcome;" (.ref w_COOLDOWN)) (S_REJECTED : Sta Z h0 "com/example/replica_scaler/replicascaler/decision/Outcome" "REJECTED" "Lcom/example/replica_scaler/replicascaler/decision/Outcome;" (.ref w_REJECTED)) (S_BACKED_OFF : Sta Z h0 "com/example/replica_scaler/replicascaler/decision/Outcome" "BACKED_OFF" "Lcom/example/replica_scaler/replicascaler/decision/Outcome;" (.ref w_BACKED_OFF)) (S_WATCHING : Sta Z h0 "com/example/replica_scaler/replicascaler/decision/Outcome" "WATCHING" "Lcom/example/replica_scaler/replicascaler/decision/Outcome;" (.ref w_WATCHING)) (S_DEFERRED : Sta Z h0 "com/example/replica_scaler/replicascaler/decision/Outcome" "DEFERRED" "Lcom/example/replica_scaler/replicascaler/decision/Outcome;" (.ref w_DEFERRED)) (S_AWAITING_APPROVAL : Sta Z h0 "com/example/replica_scaler/replicascaler/decision/Outcome" "AWAITING_APPROVAL" "Lcom/example/replica_scaler/replicascaler/decision/Outcome;" (.ref w_AWAITING_APPROVAL)) (E_UNOBSERVED : Exa Z h0 w_UNOBSERVED "com/example/replica_scaler/replicascaler/decision/Outcome") (E_DOWN : Exa Z h0 w_DOWN "com/example/replica_scaler/replicascaler/decision/Outcome") (E_NO_DATA : Exa Z h0 w_NO_DATA "com/example/replica_scaler/replicascaler/decision/Outcome") (E_SCALE_UP : Exa Z h0 w_SCALE_UP "com/example/replica_scaler/replicascaler/decision/Outcome") (E_SCALE_DOWN : Exa Z h0 w_SCALE_DOWN "com/example/replica_scaler/replicascaler/decision/Outcome") (E_AT_TARGET : Exa Z h0 w_AT_TARGET "com/example/replica_scaler/replicascaler/decision/Outcome") (E_HELD : Exa Z h0 w_HELD "com/example/replica_scaler/replicascaler/decision/Outcome") (E_COOLDOWN : Exa Z h0 w_COOLDOWN "com/example/replica_scaler/replicascaler/decision/Outcome") (E_REJECTED : Exa Z h0 w_REJECTED "com/example/replica_scaler/replicascaler/decision/Outcome") (E_BACKED_OFF : Exa Z h0 w_BACKED_OFF "com/example/replica_scaler/replicascaler/decision/Outcome") (E_WATCHING : Exa Z h0 w_WATCHING "com/example/replica_scaler/replicascaler/decision/Outcome") (E_DEFERRED : Exa Z h0 w_DEFERRED "com/example/replica_scaler/replicascaler/decision/Outcome") (E_AWAITING_APPROVAL : Exa Z h0 w_AWAITING_APPROVAL "com/example/replica_scaler/replicascaler/decision/Outcome") (ne_w_UNOBSERVED_w_DOWN : w_UNOBSERVED ≠ w_DOWN) (ne_w_UNOBSERVED_w_NO_DATA : w_UNOBSERVED ≠ w_NO_DATA) (ne_w_UNOBSERVED_w_SCALE_UP : w_UNOBSERVED ≠ w_SCALE_UP) (ne_w_UNOBSERVED_w_SCALE_DOWN : w_UNOBSERVED ≠ w_SCALE_DOWN) (ne_w_UNOBSERVED_w_AT_TARGET : w_UNOBSERVED ≠ w_AT_TARGET) (ne_w_UNOBSERVED_w_HELD : w_UNOBSERVED ≠ w_HELD) (ne_w_UNOBSERVED_w_COOLDOWN : w_UNOBSERVED ≠ w_COOLDOWN) (ne_w_UNOBSERVED_w_REJECTED : w_UNOBSERVED ≠ w_REJECTED) (ne_w_UNOBSERVED_w_BACKED_OFF : w_UNOBSERVED ≠ w_BACKED_OFF) (ne_w_UNOBSERVED_w_WATCHING : w_UNOBSERVED ≠ w_WATCHING) (ne_w_UNOBSERVED_w_DEFERRED : w_UNOBSERVED ≠ w_DEFERRED) (ne_w_UNOBSERVED_w_AWAITING_APPROVAL : w_UNOBSERVED ≠ w_AWAITING_APPROVAL) (ne_w_DOWN_w_NO_DATA : w_DOWN ≠ w_NO_DATA) (ne_w_DOWN_w_SCALE_UP : w_DOWN ≠ w_SCALE_UP) (ne_w_DOWN_w_SCALE_DOWN : w_DOWN ≠ w_SCALE_DOWN) (ne_w_DOWN_w_AT_TARGET : w_DOWN ≠ w_AT_TARGET) (ne_w_DOWN_w_HELD : w_DOWN ≠ w_HELD) (ne_w_DOWN_w_COOLDOWN : w_DOWN ≠ w_COOLDOWN) (ne_w_DOWN_w_REJECTED : w_DOWN ≠ w_REJECTED) (ne_w_DOWN_w_BACKED_OFF : w_DOWN ≠ w_BACKED_OFF) (ne_w_DOWN_w_WATCHING : w_DOWN ≠ w_WATCHING) (ne_w_DOWN_w_DEFERRED : w_DOWN ≠ w_DEFERRED) (ne_w_DOWN_w_AWAITING_APPROVAL : w_DOWN ≠ w_AWAITING_APPROVAL) (ne_w_NO_DATA_w_SCALE_UP : w_NO_DATA ≠ w_SCALE_UP) (ne_w_NO_DATA_w_SCALE_DOWN : w_NO_DATA ≠ w_SCALE_DOWN) (ne_w_NO_DATA_w_AT_TARGET : w_NO_DATA ≠ w_AT_TARGET) (ne_w_NO_DATA_w_HELD : w_NO_DATA ≠ w_HELD) (ne_w_NO_DATA_w_COOLDOWN : w_NO_DATA ≠ w_COOLDOWN) (ne_w_NO_DATA_w_REJECTED : w_NO_DATA ≠ w_REJECTED) (ne_w_NO_DATA_w_BACKED_OFF : w_NO_DATA ≠ w_BACKED_OFF) (ne_w_NO_DATA_w_WATCHING : w_NO_DATA ≠ w_WATCHING) (ne_w_NO_DATA_w_DEFERRED : w_NO_DATA ≠ w_DEFERRED) (ne_w_NO_DATA_w_AWAITING_APPROVAL : w_NO_DATA ≠ w_AWAITING_APPROVAL) :
    MetFree l x (head1 (Jvm.Cond.code x code maxLocals ret :: ws) room_1) (fun a U => a = #[(.int p0)] ∧ Z.Warmed39 U.vm ∧ U.heap = h0) (fun _ _ _ _ _ => True) (fun _ U o U' => ∃ v L, o = .returned v ∧ Q0 Z p0 w_UNOBSERVED w_DOWN w_NO_DATA w_SCALE_UP w_SCALE_DOWN w_AT_TARGET w_HELD w_COOLDOWN w_REJECTED w_BACKED_OFF w_WATCHING w_DEFERRED w_AWAITING_APPROVAL h0 n0 v U'.heap L ∧ FrameEnd U o U' L kC0 kS0) := by
  refine MetFree.of_bodySF (plainFor_of_name own_pn1) hisR ?_
  intro p e s m args below meth c s₁ Bd hml0 hP hK
  obtain ⟨rfl, hZ, hh⟩ := hP
  have hx := Bd.exec
  have hby := Bd.bytes
  have hml : c.maxLocals = 4 := hml0
  have hown : s.vm.findClass "com/example/replica_scaler/replicascaler/decision/OutcomeLacksEvidencePinLaw" = some m.cls := findClass_of_methodNamed Bd.named
  have hnm := (name_of_methodNamed Bd.named Bd.method).1
  have X0 : Stand p l e room_1 s m #[(.int p0)] below meth c s₁ [] 0 0 := Stand.of_body Bd
  have e0 : s₁.heap = h0 := by rw [← hh, Bd.state]; rfl
  have N0 := Fr.nil n0
  show Goes p e below s (Q0 Z p0 w_UNOBSERVED w_DOWN w_NO_DATA w_SCALE_UP w_SCALE_DOWN w_AT_TARGET w_HELD w_COOLDOWN w_REJECTED w_BACKED_OFF w_WATCHING w_DEFERRED w_AWAITING_APPROVAL h0 n0) kC0 kS0 (s₁.setTop (entryFrame m #[(.int p0)] maxLocals))
  refine Goes.step (fun t k => castTop (own_ef0 m p0) k) ?_
  show Goes _ _ _ _ _ _ _ (s₁.setTop (mkF m 0 #[.val (.int p0), .unset, .unset, .unset] []))
  refine Goes.step (fun t k => XS.bipush X0.here hx rfl (hb hby at_0) k) ?_
  show Goes _ _ _ _ _ _ _ (s₁.setTop (mkF m 2 #[.val (.int p0), .unset, .unset, .unset] [(.int (13 : Int32))]))
  obtain ⟨T1, h1, k1, X1, e1, E1, A1, O1, st1⟩ := newR X0 hx hZ hown (hw _ (List.mem_of_getElem? (i := 0) rfl)) (hw _ (List.mem_of_getElem? (i := 1) rfl)) e0 (g := (mkF m 2 #[.val (.int p0), .unset, .unset, .unset] [(.int (13 : Int32))])) rfl (hb hby at_2) rfl (by decide) (cap := 13) (by decide) (by decide) (by decide) (by decide)
  obtain ⟨b1, g1⟩ : ∃ z, z = h0.size := ⟨_, rfl⟩
  rw [← g1] at A1 st1
  have ne_w_UNOBSERVED_b1 : w_UNOBSERVED ≠ b1 := Nat.ne_of_lt (Nat.lt_of_lt_of_le E_UNOBSERVED.lt (Nat.le_of_eq g1.symm))
  have ne_w_DOWN_b1 : w_DOWN ≠ b1 := Nat.ne_of_lt (Nat.lt_of_lt_of_le E_DOWN.lt (Nat.le_of_eq g1.symm))
  have ne_w_NO_DATA_b1 : w_NO_DATA ≠ b1 := Nat.ne_of_lt (Nat.lt_of_lt_of_le E_NO_DATA.lt (Nat.le_of_eq g1.symm))
  have ne_w_SCALE_UP_b1 : w_SCALE_UP ≠ b1 := Nat.ne_of_lt (Nat.lt_of_lt_of_le E_SCALE_UP.lt (Nat.le_of_eq g1.symm))
  have ne_w_SCALE_DOWN_b1 : w_SCALE_DOWN ≠ b1 := Nat.ne_of_lt (Nat.lt_of_lt_of_le E_SCALE_DOWN.lt (Nat.le_of_eq g1.symm))
  have ne_w_AT_TARGET_b1 : w_AT_TARGET ≠ b1 := Nat.ne_of_lt (Nat.lt_of_lt_of_le E_AT_TARGET.lt (Nat.le_of_eq g1.symm))
  have ne_w_HELD_b1 : w_HELD ≠ b1 := Nat.ne_of_lt (Nat.lt_of_lt_of_le E_HELD.lt (Nat.le_of_eq g1.symm))
  have ne_w_COOLDOWN_b1 : w_COOLDOWN ≠ b1 := Nat.ne_of_lt (Nat.lt_of_lt_of_le E_COOLDOWN.lt (Nat.le_of_eq g1.symm))
  have ne_w_REJECTED_b1 : w_REJECTED ≠ b1 := Nat.ne_of_lt (Nat.lt_of_lt_of_le E_REJECTED.lt (Nat.le_of_eq g1.symm))
  have ne_w_BACKED_OFF_b1 : w_BACKED_OFF ≠ b1 := Nat.ne_of_lt (Nat.lt_of_lt_of_le E_BACKED_OFF.lt (Nat.le_of_eq g1.symm))
  have ne_w_WATCHING_b1 : w_WATCHING ≠ b1 := Nat.ne_of_lt (Nat.lt_of_lt_of_le E_WATCHING.lt (Nat.le_of_eq g1.symm))
  have ne_w_DEFERRED_b1 : w_DEFERRED ≠ b1 := Nat.ne_of_lt (Nat.lt_of_lt_of_le E_DEFERRED.lt (Nat.le_of_eq g1.symm))
  have ne_w_AWAITING_APPROVAL_b1 : w_AWAITING_APPROVAL ≠ b1 := Nat.ne_of_lt (Nat.lt_of_lt_of_le E_AWAITING_APPROVAL.lt (Nat.le_of_eq g1.symm))
  have Zs1 : n0 ≤ b1 := Nat.le_trans Z0 (Nat.le_of_eq g1.symm)
  have Zh1 : h0.size ≤ b1 := Nat.le_trans (Keep.refl h0 []).1 (Nat.le_of_eq g1.symm)
  have F2 := S_UNOBSERVED.ext E1
  have F3 := S_DOWN.ext E1
  have F4 := S_NO_DATA.ext E1
  have F5 := S_SCALE_UP.ext E1
  have F6 := S_SCALE_DOWN.ext E1
  have F7 := S_AT_TARGET.ext E1
  have F8 := S_HELD.ext E1
  have F9 := S_COOLDOWN.ext E1
  have F10 := S_REJECTED.ext E1
  have F11 := S_BACKED_OFF.ext E1
  have F12 := S_WATCHING.ext E1
  have F13 := S_DEFERRED.ext E1
  have F14 := S_AWAITING_APPROVAL.ext E1
  have F15 := E_UNOBSERVED.ext E1
  have F16 := E_DOWN.ext E1
  have F17 := E_NO_DATA.ext E1
  have F18 := E_SCALE_UP.ext E1
  have F19 := E_SCALE_DOWN.ext E1
  have F20 := E_AT_TARGET.ext E1
  have F21 := E_HELD.ext E1
  have F22 := E_COOLDOWN.ext E1
  have F23 := E_REJECTED.ext E1
  have F24 := E_BACKED_OFF.ext E1
  have F25 := E_WATCHING.ext E1
  have F26 := E_DEFERRED.ext E1
  have F27 := E_AWAITING_APPROVAL.ext E1
  have K1 := (Keep.refl h0 []).ext E1
  have Z1 := Nat.le_trans Z0 E1.1
  have V1 : Ara Z h1 b1 (.object "com/example/replica_scaler/replicascaler/decision/Outcome") [.null, .null, .null, .null, .null, .null, .null, .null, .null, .null, .null, .null, .null] := Ara.new A1 (by decide) rfl (fun _ q => by cases q; exact O1)
  refine Goes.step (fun t k => st1 t k) ?_
  show Goes _ _ _ _ _ _ _ (T1.setTop (mkF m 5 #[.val (.int p0), .unset, .unset, .unset] [(.ref b1)]))
  refine Goes.step (fun t k => XS.dup X1.here hx rfl (hb hby at_5) rfl rfl k) ?_
  show Goes _ _ _ _ _ _ _ (T1.setTop (mkF m 6 #[.val (.int p0), .unset, .unset, .unset] [(.ref b1), (.ref b1)]))
  refine Goes.step (fun t k => XS.iconst X1.here hx rfl (hb hby at_6) k) ?_
  show Goes _ _ _ _ _ _ _ (T1.setTop (mkF m 7 #[.val (.int p0), .unset, .unset, .unset] [(.int (0 : Int32)), (.ref b1), (.ref b1)]))
  obtain ⟨T28, X28, e28, st28⟩ := getS2 X1 hx hZ hown (host := "") (Or.inl (hw _ (List.mem_of_getElem? (i := 2) rfl))) Via.refl e1 F2 (g := (mkF m 7 #[.val (.int p0), .unset, .unset, .unset] [(.int (0 : Int32)), (.ref b1), (.ref b1)])) rfl (hb hby at_7)
  refine Goes.step (fun t k => st28 t k) ?_
  show Goes _ _ _ _ _ _ _ (T28.setTop (mkF m 10 #[.val (.int p0), .unset, .unset, .unset] [(.ref w_UNOBSERVED), (.int (0 : Int32)), (.ref b1), (.ref b1)]))
  obtain ⟨cl29, Ar29, q29, ll29, ff29, oo29⟩ := id V1
  have hn29 : ¬ (0 : Int32) < 0 := by decide
  have hl29 : ((0 : Int32)).toNatClampNeg < ([.null, .null, .null, .null, .null, .null, .null, .null, .null, .null, .null, .null, .null] : List Value).length := Nat.le_of_ble_eq_true rfl
  obtain ⟨T29, h29, X29, e29, W29, st29⟩ := stR X28 hx hZ e28 Ar29 (j := (0 : Int32)) (inb q29 hn29 hl29) rfl (Sto.of Ar29 (oo29 _ rfl) (Ins.self F15)) (g := (mkF m 10 #[.val (.int p0), .unset, .unset, .unset] [(.ref w_UNOBSERVED), (.int (0 : Int32)), (.ref b1), (.ref b1)])) rfl rfl (hb hby at_10)
  have V29 : Ara Z h29 b1 (.object "com/example/replica_scaler/replicascaler/decision/Outcome") [(.ref w_UNOBSERVED), .null, .null, .null, .null, .null, .null, .null, .null, .null, .null, .null, .null] := Ara.same (j := (0 : Int32)) Ar29 q29 ll29 ff29 oo29 rfl W29
  have F30 := F2.wr W29
  have F31 := F3.wr W29
  have F32 := F4.wr W29
  have F33 := F5.wr W29
  have F34 := F6.wr W29
  have F35 := F7.wr W29
  have F36 := F8.wr W29
  have F37 := F9.wr W29
  have F38 := F10.wr W29
  have F39 := F11.wr W29
  have F40 := F12.wr W29
  have F41 := F13.wr W29
  have F42 := F14.wr W29
  have F43 := F15.wr W29
  have F44 := F16.wr W29
  have F45 := F17.wr W29
  have F46 := F18.wr W29
  have F47 := F19.wr W29
  have F48 := F20.wr W29
  have F49 := F21.wr W29
  have F50 := F22.wr W29
  have F51 := F23.wr W29
  have F52 := F24.wr W29
  have F53 := F25.wr W29
  have F54 := F26.wr W29
  have F55 := F27.wr W29
  have K29 := K1.wr W29 (Or.inr Zh1)
  have N29 := Fr.snoc X29 N0 Zs1
  have Z29 := Nat.le_trans Z1 (Nat.le_of_eq W29.size.symm)
  refine Goes.step (fun t k => st29 t k) ?_
  show Goes _ _ _ _ _ _ _ (T29.setTop (mkF m 11 #[.val (.int p0), .unset, .unset, .unset] [(.ref b1)]))
  refine Goes.step (fun t k => XS.dup X29.here hx rfl (hb hby at_11) rfl rfl k) ?_
  show Goes _ _ _ _ _ _ _ (T29.setTop (mkF m 12 #[.val (.int p0), .unset, .unset, .unset] [(.ref b1), (.ref b1)]))
  refine Goes.step (fun t k => XS.iconst X29.here hx rfl (hb hby at_12) k) ?_
  show Goes _ _ _ _ _ _ _ (T29.setTop (mkF m 13 #[.val (.int p0), .unset, .unset, .unset] [(.int (1 : Int32)), (.ref b1), (.ref b1)]))
  obtain ⟨T56, X56, e56, st56⟩ := getS2 X29 hx hZ hown (host := "") (Or.inl (hw _ (List.mem_of_getElem? (i := 6) rfl))) Via.refl e29 F31 (g := (mkF m 13 #[.val (.int p0), .unset, .unset, .unset] [(.int (1 : Int32)), (.ref b1), (.ref b1)])) rfl (hb hby at_13)
  refine Goes.step (fun t k => st56 t k) ?_
  show Goes _ _ _ _ _ _ _ (T56.setTop (mkF m 16 #[.val (.int p0), .unset, .unset, .unset] [(.ref w_DOWN), (.int (1 : Int32)), (.ref b1), (.ref b1)]))
  obtain ⟨cl57, Ar57, q57, ll57, ff57, oo57⟩ := id V29
  have hn57 : ¬ (1 : Int32) < 0 := by decide
  have hl57 : ((1 : Int32)).toNatClampNeg < ([(.ref w_UNOBSERVED), .null, .null, .null, .null, .null, .null, .null, .null, .null, .null, .null, .null] : List Value).length := Nat.le_of_ble_eq_true rfl
  obtain ⟨T57, h57, X57, e57, W57, st57⟩ := stR X56 hx hZ e56 Ar57 (j := (1 : Int32)) (inb q57 hn57 hl57) rfl (Sto.of Ar57 (oo57 _ rfl) (Ins.self F44)) (g := (mkF m 16 #[.val (.int p0), .unset, .unset, .unset] [(.ref w_DOWN), (.int (1 : Int32)), (.ref b1), (.ref b1)])) rfl rfl (hb hby at_16)
  have V57 : Ara Z h57 b1 (.object "com/example/replica_scaler/replicascaler/decision/Outcome") [(.ref w_UNOBSERVED), (.ref w_DOWN), .null, .null, .null, .null, .null, .null, .null, .null, .null, .null, .null] := Ara.same (j := (1 : Int32)) Ar57 q57 ll57 ff57 oo57 rfl W57
  have F58 := F30.wr W57
  have F59 := F31.wr W57
  have F60 := F32.wr W57
  have F61 := F33.wr W57
  have F62 := F34.wr W57
  have F63 := F35.wr W57
  have F64 := F36.wr W57
  have F65 := F37.wr W57
  have F66 := F38.wr W57
  have F67 := F39.wr W57
  have F68 := F40.wr W57
  have F69 := F41.wr W57
  have F70 := F42.wr W57
  have F71 := F43.wr W57
  have F72 := F44.wr W57
  have F73 := F45.wr W57
  have F74 := F46.wr W57
  have F75 := F47.wr W57
  have F76 := F48.wr W57
  have F77 := F49.wr W57
  have F78 := F50.wr W57
  have F79 := F51.wr W57
  have F80 := F52.wr W57
  have F81 := F53.wr W57
  have F82 := F54.wr W57
  have F83 := F55.wr W57
  have K57 := K29.wr W57 (Or.inr Zh1)
  have N57 := Fr.snoc X57 N29 Zs1
  have Z57 := Nat.le_trans Z29 (Nat.le_of_eq W57.size.symm)
  refine Goes.step (fun t k => st57 t k) ?_
  show Goes _ _ _ _ _ _ _ (T57.setTop (mkF m 17 #[.val (.int p0), .unset, .unset, .unset] [(.ref b1)]))
  refine Goes.step (fun t k => XS.dup X57.here hx rfl (hb hby at_17) rfl rfl k) ?_
  show Goes _ _ _ _ _ _ _ (T57.setTop (mkF m 18 #[.val (.int p0), .unset, .unset, .unset] [(.ref b1), (.ref b1)]))
  refine Goes.step (fun t k => XS.iconst X57.here hx rfl (hb hby at_18) k) ?_
  show Goes _ _ _ _ _ _ _ (T57.setTop (mkF m 19 #[.val (.int p0), .unset, .unset, .unset] [(.int (2 : Int32)), (.ref b1), (.ref b1)]))
  obtain ⟨T84, X84, e84, st84⟩ := getS2 X57 hx hZ hown (host := "") (Or.inl (hw _ (List.mem_of_getElem? (i := 8) rfl))) Via.refl e57 F60 (g := (mkF m 19 #[.val (.int p0), .unset, .unset, .unset] [(.int (2 : Int32)), (.ref b1), (.ref b1)])) rfl (hb hby at_19)
  refine Goes.step (fun t k => st84 t k) ?_
  show Goes _ _ _ _ _ _ _ (T84.setTop (mkF m 22 #[.val (.int p0), .unset, .unset, .unset] [(.ref w_NO_DATA), (.int (2 : Int32)), (.ref b1), (.ref b1)]))
  obtain ⟨cl85, Ar85, q85, ll85, ff85, oo85⟩ := id V57
  have hn85 : ¬ (2 : Int32) < 0 := by decide
  have hl85 : ((2 : Int32)).toNatClampNeg < ([(.ref w_UNOBSERVED), (.ref w_DOWN), .null, .null, .null, .null, .null, .null, .null, .null, .null, .null, .null] : List Value).length := Nat.le_of_ble_eq_true rfl
  obtain ⟨T85, h85, X85, e85, W85, st85⟩ := stR X84 hx hZ e84 Ar85 (j := (2 : Int32)) (inb q85 hn85 hl85) rfl (Sto.of Ar85 (oo85 _ rfl) (Ins.self F73)) (g := (mkF m 22 #[.val (.int p0), .unset, .unset, .unset] [(.ref w_NO_DATA), (.int (2 : Int32)), (.ref b1), (.ref b1)])) rfl rfl (hb hby at_22)
  have V85 : Ara Z h85 b1 (.object "com/example/replica_scaler/replicascaler/decision/Outcome") [(.ref w_UNOBSERVED), (.ref w_DOWN), (.ref w_NO_DATA), .null, .null, .null, .null, .null, .null, .null, .null, .null, .null] := Ara.same (j := (2 : Int32)) Ar85 q85 ll85 ff85 oo85 rfl W85
  have F86 := F58.wr W85
  have F87 := F59.wr W85
  have F88 := F60.wr W85
  have F89 := F61.wr W85
  have F90 := F62.wr W85
  have F91 := F63.wr W85
  have F92 := F64.wr W85
  have F93 := F65.wr W85
  have F94 := F66.wr W85
  have F95 := F67.wr W85
  have F96 := F68.wr W85
  have F97 := F69.wr W85
  have F98 := F70.wr W85
  have F99 := F71.wr W85
  have F100 := F72.wr W85
  have F101 := F73.wr W85
  have F102 := F74.wr W85
  have F103 := F75.wr W85
  have F104 := F76.wr W85
  have F105 := F77.wr W85
  have F106 := F78.wr W85
  have F107 := F79.wr W85
  have F108 := F80.wr W85
  have F109 := F81.wr W85
  have F110 := F82.wr W85
  have F111 := F83.wr W85
  have K85 := K57.wr W85 (Or.inr Zh1)
  have N85 := Fr.snoc X85 N57 Zs1
  have Z85 := Nat.le_trans Z57 (Nat.le_of_eq W85.size.symm)
  refine Goes.step (fun t k => st85 t k) ?_
  show Goes _ _ _ _ _ _ _ (T85.setTop (mkF m 23 #[.val (.int p0), .unset, .unset, .unset] [(.ref b1)]))
  refine Goes.step (fun t k => XS.dup X85.here hx rfl (hb hby at_23) rfl rfl k) ?_
  show Goes _ _ _ _ _ _ _ (T85.setTop (mkF m 24 #[.val (.int p0), .unset, .unset, .unset] [(.ref b1), (.ref b1)]))
  refine Goes.step (fun t k => XS.iconst X85.here hx rfl (hb hby at_24) k) ?_
  show Goes _ _ _ _ _ _ _ (T85.setTop (mkF m 25 #[.val (.int p0), .unset, .unset, .unset] [(.int (3 : Int32)), (.ref b1), (.ref b1)]))
  obtain ⟨T112, X112, e112, st112⟩ := getS2 X85 hx hZ hown (host := "") (Or.inl (hw _ (List.mem_of_getElem? (i := 10) rfl))) Via.refl e85 F89 (g := (mkF m 25 #[.val (.int p0), .unset, .unset, .unset] [(.int (3 : Int32)), (.ref b1), (.ref b1)])) rfl (hb hby at_25)
  refine Goes.step (fun t k => st112 t k) ?_
  show Goes _ _ _ _ _ _ _ (T112.setTop (mkF m 28 #[.val (.int p0), .unset, .unset, .unset] [(.ref w_SCALE_UP), (.int (3 : Int32)), (.ref b1), (.ref b1)]))
  obtain ⟨cl113, Ar113, q113, ll113, ff113, oo113⟩ := id V85
  have hn113 : ¬ (3 : Int32) < 0 := by decide
  have hl113 : ((3 : Int32)).toNatClampNeg < ([(.ref w_UNOBSERVED), (.ref w_DOWN), (.ref w_NO_DATA), .null, .null, .null, .null, .null, .null, .null, .null, .null, .null] : List Value).length := Nat.le_of_ble_eq_true rfl
  obtain ⟨T113, h113, X113, e113, W113, st113⟩ := stR X112 hx hZ e112 Ar113 (j := (3 : Int32)) (inb q113 hn113 hl113) rfl (Sto.of Ar113 (oo113 _ rfl) (Ins.self F102)) (g := (mkF m 28 #[.val (.int p0), .unset, .unset, .unset] [(.ref w_SCALE_UP), (.int (3 : Int32)), (.ref b1), (.ref b1)])) rfl rfl (hb hby at_28)
  have V113 : Ara Z h113 b1 (.object "com/example/replica_scaler/replicascaler/decision/Outcome") [(.ref w_UNOBSERVED), (.ref w_DOWN), (.ref w_NO_DATA), (.ref w_SCALE_UP), .null, .null, .null, .null, .null, .null, .null, .null, .null] := Ara.same (j := (3 : Int32)) Ar113 q113 ll113 ff113 oo113 rfl W113
  have F114 := F86.wr W113
  have F115 := F87.wr W113
  have F116 := F88.wr W113
  have F117 := F89.wr W113
  have F118 := F90.wr W113
  have F119 := F91.wr W113
  have F120 := F92.wr W113
  have F121 := F93.wr W113
  have F122 := F94.wr W113
  have F123 := F95.wr W113
  have F124 := F96.wr W113
  have F125 := F97.wr W113
  have F126 := F98.wr W113
  have F127 := F99.wr W113
  have F128 := F100.wr W113
  have F129 := F101.wr W113
  have F130 := F102.wr W113
  have F131 := F103.wr W113
  have F132 := F104.wr W113
  have F133 := F105.wr W113
  have F134 := F106.wr W113
  have F135 := F107.wr W113
  have F136 := F108.wr W113
  have F137 := F109.wr W113
  have F138 := F110.wr W113
  have F139 := F111.wr W113
  have K113 := K85.wr W113 (Or.inr Zh1)
  have N113 := Fr.snoc X113 N85 Zs1
  have Z113 := Nat.le_trans Z85 (Nat.le_of_eq W113.size.symm)
  refine Goes.step (fun t k => st113 t k) ?_
  show Goes _ _ _ _ _ _ _ (T113.setTop (mkF m 29 #[.val (.int p0), .unset, .unset, .unset] [(.ref b1)]))
  refine Goes.step (fun t k => XS.dup X113.here hx rfl (hb hby at_29) rfl rfl k) ?_
  show Goes _ _ _ _ _ _ _ (T113.setTop (mkF m 30 #[.val (.int p0), .unset, .unset, .unset] [(.ref b1), (.ref b1)]))
  refine Goes.step (fun t k => XS.iconst X113.here hx rfl (hb hby at_30) k) ?_
  show Goes _ _ _ _ _ _ _ (T113.setTop (mkF m 31 #[.val (.int p0), .unset, .unset, .unset] [(.int (4 : Int32)), (.ref b1), (.ref b1)]))
  obtain ⟨T140, X140, e140, st140⟩ := getS2 X113 hx hZ hown (host := "") (Or.inl (hw _ (List.mem_of_getElem? (i := 12) rfl))) Via.refl e113 F118 (g := (mkF m 31 #[.val (.int p0), .unset, .unset, .unset] [(.int (4 : Int32)), (.ref b1), (.ref b1)])) rfl (hb hby at_31)
  refine Goes.step (fun t k => st140 t k) ?_
  show Goes _ _ _ _ _ _ _ (T140.setTop (mkF m 34 #[.val (.int p0), .unset, .unset, .unset] [(.ref w_SCALE_DOWN), (.int (4 : Int32)), (.ref b1), (.ref b1)]))
  obtain ⟨cl141, Ar141, q141, ll141, ff141, oo141⟩ := id V113
  have hn141 : ¬ (4 : Int32) < 0 := by decide
  have hl141 : ((4 : Int32)).toNatClampNeg < ([(.ref w_UNOBSERVED), (.ref w_DOWN), (.ref w_NO_DATA), (.ref w_SCALE_UP), .null, .null, .null, .null, .null, .null, .null, .null, .null] : List Value).length := Nat.le_of_ble_eq_true rfl
  obtain ⟨T141, h141, X141, e141, W141, st141⟩ := stR X140 hx hZ e140 Ar141 (j := (4 : Int32)) (inb q141 hn141 hl141) rfl (Sto.of Ar141 (oo141 _ rfl) (Ins.self F131)) (g := (mkF m 34 #[.val (.int p0), .unset, .unset, .unset] [(.ref w_SCALE_DOWN), (.int (4 : Int32)), (.ref b1), (.ref b1)])) rfl rfl (hb hby at_34)
  have V141 : Ara Z h141 b1 (.object "com/example/replica_scaler/replicascaler/decision/Outcome") [(.ref w_UNOBSERVED), (.ref w_DOWN), (.ref w_NO_DATA), (.ref w_SCALE_UP), (.ref w_SCALE_DOWN), .null, .null, .null, .null, .null, .null, .null, .null] := Ara.same (j := (4 : Int32)) Ar141 q141 ll141 ff141 oo141 rfl W141
  have F142 := F114.wr W141
  have F143 := F115.wr W141
  have F144 := F116.wr W141
  have F145 := F117.wr W141
  have F146 := F118.wr W141
  have F147 := F119.wr W141
  have F148 := F120.wr W141
  have F149 := F121.wr W141
  have F150 := F122.wr W141
  have F151 := F123.wr W141
  have F152 := F124.wr W141
  have F153 := F125.wr W141
  have F154 := F126.wr W141
  have F155 := F127.wr W141
  have F156 := F128.wr W141
  have F157 := F129.wr W141
  have F158 := F130.wr W141
  have F159 := F131.wr W141
  have F160 := F132.wr W141
  have F161 := F133.wr W141
  have F162 := F134.wr W141
  have F163 := F135.wr W141
  have F164 := F136.wr W141
  have F165 := F137.wr W141
  have F166 := F138.wr W141
  have F167 := F139.wr W141
  have K141 := K113.wr W141 (Or.inr Zh1)
  have N141 := Fr.snoc X141 N113 Zs1
  have Z141 := Nat.le_trans Z113 (Nat.le_of_eq W141.size.symm)
  refine Goes.step (fun t k => st141 t k) ?_
  show Goes _ _ _ _ _ _ _ (T141.setTop (mkF m 35 #[.val (.int p0), .unset, .unset, .unset] [(.ref b1)]))
  refine Goes.step (fun t k => XS.dup X141.here hx rfl (hb hby at_35) rfl rfl k) ?_
  show Goes _ _ _ _ _ _ _ (T141.setTop (mkF m 36 #[.val (.int p0), .unset, .unset, .unset] [(.ref b1), (.ref b1)]))
  refine Goes.step (fun t k => XS.iconst X141.here hx rfl (hb hby at_36) k) ?_
  show Goes _ _ _ _ _ _ _ (T141.setTop (mkF m 37 #[.val (.int p0), .unset, .unset, .unset] [(.int (5 : Int32)), (.ref b1), (.ref b1)]))
  obtain ⟨T168, X168, e168, st168⟩ := getS2 X141 hx hZ hown (host := "") (Or.inl (hw _ (List.mem_of_getElem? (i := 14) rfl))) Via.refl e141 F147 (g := (mkF m 37 #[.val (.int p0), .unset, .unset, .unset] [(.int (5 : Int32)), (.ref b1), (.ref b1)])) rfl (hb hby at_37)
  refine Goes.step (fun t k => st168 t k) ?_
  show Goes _ _ _ _ _ _ _ (T168.setTop (mkF m 40 #[.val (.int p0), .unset, .unset, .unset] [(.ref w_AT_TARGET), (.int (5 : Int32)), (.ref b1), (.ref b1)]))
  obtain ⟨cl169, Ar169, q169, ll169, ff169, oo169⟩ := id V141
  have hn169 : ¬ (5 : Int32) < 0 := by decide
  have hl169 : ((5 : Int32)).toNatClampNeg < ([(.ref w_UNOBSERVED), (.ref w_DOWN), (.ref w_NO_DATA), (.ref w_SCALE_UP), (.ref w_SCALE_DOWN), .null, .null, .null, .null, .null, .null, .null, .null] : List Value).length := Nat.le_of_ble_eq_true rfl
  obtain ⟨T169, h169, X169, e169, W169, st169⟩ := stR X168 hx hZ e168 Ar169 (j := (5 : Int32)) (inb q169 hn169 hl169) rfl (Sto.of Ar169 (oo169 _ rfl) (Ins.self F160)) (g := (mkF m 40 #[.val (.int p0), .unset, .unset, .unset] [(.ref w_AT_TARGET), (.int (5 : Int32)), (.ref b1), (.ref b1)])) rfl rfl (hb hby at_40)
  have V169 : Ara Z h169 b1 (.object "com/example/replica_scaler/replicascaler/decision/Outcome") [(.ref w_UNOBSERVED), (.ref w_DOWN), (.ref w_NO_DATA), (.ref w_SCALE_UP), (.ref w_SCALE_DOWN), (.ref w_AT_TARGET), .null, .null, .null, .null, .null, .null, .null] := Ara.same (j := (5 : Int32)) Ar169 q169 ll169 ff169 oo169 rfl W169
  have F170 := F142.wr W169
  have F171 := F143.wr W169
  have F172 := F144.wr W169
  have F173 := F145.wr W169
  have F174 := F146.wr W169
  have F175 := F147.wr W169
  have F176 := F148.wr W169
  have F177 := F149.wr W169
  have F178 := F150.wr W169
  have F179 := F151.wr W169
  have F180 := F152.wr W169
  have F181 := F153.wr W169
  have F182 := F154.wr W169
  have F183 := F155.wr W169
  have F184 := F156.wr W169
  have F185 := F157.wr W169
  have F186 := F158.wr W169
  have F187 := F159.wr W169
  have F188 := F160.wr W169
  have F189 := F161.wr W169
  have F190 := F162.wr W169
  have F191 := F163.wr W169
  have F192 := F164.wr W169
  have F193 := F165.wr W169
  have F194 := F166.wr W169
  have F195 := F167.wr W169
  have K169 := K141.wr W169 (Or.inr Zh1)
  have N169 := Fr.snoc X169 N141 Zs1
  have Z169 := Nat.le_trans Z141 (Nat.le_of_eq W169.size.symm)
  refine Goes.step (fun t k => st169 t k) ?_
  show Goes _ _ _ _ _ _ _ (T169.setTop (mkF m 41 #[.val (.int p0), .unset, .unset, .unset] [(.ref b1)]))
  refine Goes.step (fun t k => XS.dup X169.here hx rfl (hb hby at_41) rfl rfl k) ?_
  show Goes _ _ _ _ _ _ _ (T169.setTop (mkF m 42 #[.val (.int p0), .unset, .unset, .unset] [(.ref b1), (.ref b1)]))
  refine Goes.step (fun t k => XS.bipush X169.here hx rfl (hb hby at_42) k) ?_
  show Goes _ _ _ _ _ _ _ (T169.setTop (mkF m 44 #[.val (.int p0), .unset, .unset, .unset] [(.int (6 : Int32)), (.ref b1), (.ref b1)]))
  obtain ⟨T196, X196, e196, st196⟩ := getS2 X169 hx hZ hown (host := "") (Or.inl (hw _ (List.mem_of_getElem? (i := 16) rfl))) Via.refl e169 F176 (g := (mkF m 44 #[.val (.int p0), .unset, .unset, .unset] [(.int (6 : Int32)), (.ref b1), (.ref b1)])) rfl (hb hby at_44)
  refine Goes.step (fun t k => st196 t k) ?_
  show Goes _ _ _ _ _ _ _ (T196.setTop (mkF m 47 #[.val (.int p0), .unset, .unset, .unset] [(.ref w_HELD), (.int (6 : Int32)), (.ref b1), (.ref b1)]))
  obtain ⟨cl197, Ar197, q197, ll197, ff197, oo197⟩ := id V169
  have hn197 : ¬ (6 : Int32) < 0 := by decide
  have hl197 : ((6 : Int32)).toNatClampNeg < ([(.ref w_UNOBSERVED), (.ref w_DOWN), (.ref w_NO_DATA), (.ref w_SCALE_UP), (.ref w_SCALE_DOWN), (.ref w_AT_TARGET), .null, .null, .null, .null, .null, .null, .null] : List Value).length := Nat.le_of_ble_eq_true rfl
  obtain ⟨T197, h197, X197, e197, W197, st197⟩ := stR X196 hx hZ e196 Ar197 (j := (6 : Int32)) (inb q197 hn197 hl197) rfl (Sto.of Ar197 (oo197 _ rfl) (Ins.self F189)) (g := (mkF m 47 #[.val (.int p0), .unset, .unset, .unset] [(.ref w_HELD), (.int (6 : Int32)), (.ref b1), (.ref b1)])) rfl rfl (hb hby at_47)
  have V197 : Ara Z h197 b1 (.object "com/example/replica_scaler/replicascaler/decision/Outcome") [(.ref w_UNOBSERVED), (.ref w_DOWN), (.ref w_NO_DATA), (.ref w_SCALE_UP), (.ref w_SCALE_DOWN), (.ref w_AT_TARGET), (.ref w_HELD), .null, .null, .null, .null, .null, .null] := Ara.same (j := (6 : Int32)) Ar197 q197 ll197 ff197 oo197 rfl W197
  have F198 := F170.wr W197
  have F199 := F171.wr W197
  have F200 := F172.wr W197
  have F201 := F173.wr W197
  have F202 := F174.wr W197
  have F203 := F175.wr W197
  have F204 := F176.wr W197
  have F205 := F177.wr W197
  have F206 := F178.wr W197
  have F207 := F179.wr W197
  have F208 := F180.wr W197
  have F209 := F181.wr W197
  have F210 := F182.wr W197
  have F211 := F183.wr W197
  have F212 := F184.wr W197
  have F213 := F185.wr W197
  have F214 := F186.wr W197
  have F215 := F187.wr W197
  have F216 := F188.wr W197
  have F217 := F189.wr W197
  have F218 := F190.wr W197
  have F219 := F191.wr W197
  have F220 := F192.wr W197
  have F221 := F193.wr W197
  have F222 := F194.wr W197
  have F223 := F195.wr W197
  have K197 := K169.wr W197 (Or.inr Zh1)
  have N197 := Fr.snoc X197 N169 Zs1
  have Z197 := Nat.le_trans Z169 (Nat.le_of_eq W197.size.symm)
  refine Goes.step (fun t k => st197 t k) ?_
  show Goes _ _ _ _ _ _ _ (T197.setTop (mkF m 48 #[.val (.int p0), .unset, .unset, .unset] [(.ref b1)]))
  refine Goes.step (fun t k => XS.dup X197.here hx rfl (hb hby at_48) rfl rfl k) ?_
  show Goes _ _ _ _ _ _ _ (T197.setTop (mkF m 49 #[.val (.int p0), .unset, .unset, .unset] [(.ref b1), (.ref b1)]))
  refine Goes.step (fun t k => XS.bipush X197.here hx rfl (hb hby at_49) k) ?_
  show Goes _ _ _ _ _ _ _ (T197.setTop (mkF m 51 #[.val (.int p0), .unset, .unset, .unset] [(.int (7 : Int32)), (.ref b1), (.ref b1)]))
  obtain ⟨T224, X224, e224, st224⟩ := getS2 X197 hx hZ hown (host := "") (Or.inl (hw _ (List.mem_of_getElem? (i := 18) rfl))) Via.refl e197 F205 (g := (mkF m 51 #[.val (.int p0), .unset, .unset, .unset] [(.int (7 : Int32)), (.ref b1), (.ref b1)])) rfl (hb hby at_51)
  refine Goes.step (fun t k => st224 t k) ?_
  show Goes _ _ _ _ _ _ _ (T224.setTop (mkF m 54 #[.val (.int p0), .unset, .unset, .unset] [(.ref w_COOLDOWN), (.int (7 : Int32)), (.ref b1), (.ref b1)]))
  obtain ⟨cl225, Ar225, q225, ll225, ff225, oo225⟩ := id V197
  have hn225 : ¬ (7 : Int32) < 0 := by decide
  have hl225 : ((7 : Int32)).toNatClampNeg < ([(.ref w_UNOBSERVED), (.ref w_DOWN), (.ref w_NO_DATA), (.ref w_SCALE_UP), (.ref w_SCALE_DOWN), (.ref w_AT_TARGET), (.ref w_HELD), .null, .null, .null, .null, .null, .null] : List Value).length := Nat.le_of_ble_eq_true rfl
  obtain ⟨T225, h225, X225, e225, W225, st225⟩ := stR X224 hx hZ e224 Ar225 (j := (7 : Int32)) (inb q225 hn225 hl225) rfl (Sto.of Ar225 (oo225 _ rfl) (Ins.self F218)) (g := (mkF m 54 #[.val (.int p0), .unset, .unset, .unset] [(.ref w_COOLDOWN), (.int (7 : Int32)), (.ref b1), (.ref b1)])) rfl rfl (hb hby at_54)
  have V225 : Ara Z h225 b1 (.object "com/example/replica_scaler/replicascaler/decision/Outcome") [(.ref w_UNOBSERVED), (.ref w_DOWN), (.ref w_NO_DATA), (.ref w_SCALE_UP), (.ref w_SCALE_DOWN), (.ref w_AT_TARGET), (.ref w_HELD), (.ref w_COOLDOWN), .null, .null, .null, .null, .null] := Ara.same (j := (7 : Int32)) Ar225 q225 ll225 ff225 oo225 rfl W225
  have F226 := F198.wr W225
  have F227 := F199.wr W225
  have F228 := F200.wr W225
  have F229 := F201.wr W225
  have F230 := F202.wr W225
  have F231 := F203.wr W225
  have F232 := F204.wr W225
  have F233 := F205.wr W225
  have F234 := F206.wr W225
  have F235 := F207.wr W225
  have F236 := F208.wr W225
  have F237 := F209.wr W225
  have F238 := F210.wr W225
  have F239 := F211.wr W225
  have F240 := F212.wr W225
  have F241 := F213.wr W225
  have F242 := F214.wr W225
  have F243 := F215.wr W225
  have F244 := F216.wr W225
  have F245 := F217.wr W225
  have F246 := F218.wr W225
  have F247 := F219.wr W225
  have F248 := F220.wr W225
  have F249 := F221.wr W225
  have F250 := F222.wr W225
  have F251 := F223.wr W225
  have K225 := K197.wr W225 (Or.inr Zh1)
  have N225 := Fr.snoc X225 N197 Zs1
  have Z225 := Nat.le_trans Z197 (Nat.le_of_eq W225.size.symm)
  refine Goes.step (fun t k => st225 t k) ?_
  show Goes _ _ _ _ _ _ _ (T225.setTop (mkF m 55 #[.val (.int p0), .unset, .unset, .unset] [(.ref b1)]))
  refine Goes.step (fun t k => XS.dup X225.here hx rfl (hb hby at_55) rfl rfl k) ?_
  show Goes _ _ _ _ _ _ _ (T225.setTop (mkF m 56 #[.val (.int p0), .unset, .unset, .unset] [(.ref b1), (.ref b1)]))
  refine Goes.step (fun t k => XS.bipush X225.here hx rfl (hb hby at_56) k) ?_
  show Goes _ _ _ _ _ _ _ (T225.setTop (mkF m 58 #[.val (.int p0), .unset, .unset, .unset] [(.int (8 : Int32)), (.ref b1), (.ref b1)]))
  obtain ⟨T252, X252, e252, st252⟩ := getS2 X225 hx hZ hown (host := "") (Or.inl (hw _ (List.mem_of_getElem? (i := 20) rfl))) Via.refl e225 F234 (g := (mkF m 58 #[.val (.int p0), .unset, .unset, .unset] [(.int (8 : Int32)), (.ref b1), (.ref b1)])) rfl (hb hby at_58)
  refine Goes.step (fun t k => st252 t k) ?_
  show Goes _ _ _ _ _ _ _ (T252.setTop (mkF m 61 #[.val (.int p0), .unset, .unset, .unset] [(.ref w_REJECTED), (.int (8 : Int32)), (.ref b1), (.ref b1)]))
  obtain ⟨cl253, Ar253, q253, ll253, ff253, oo253⟩ := id V225
  have hn253 : ¬ (8 : Int32) < 0 := by decide
  have hl253 : ((8 : Int32)).toNatClampNeg < ([(.ref w_UNOBSERVED), (.ref w_DOWN), (.ref w_NO_DATA), (.ref w_SCALE_UP), (.ref w_SCALE_DOWN), (.ref w_AT_TARGET), (.ref w_HELD), (.ref w_COOLDOWN), .null, .null, .null, .null, .null] : List Value).length := Nat.le_of_ble_eq_true rfl
  obtain ⟨T253, h253, X253, e253, W253, st253⟩ := stR X252 hx hZ e252 Ar253 (j := (8 : Int32)) (inb q253 hn253 hl253) rfl (Sto.of Ar253 (oo253 _ rfl) (Ins.self F247)) (g := (mkF m 61 #[.val (.int p0), .unset, .unset, .unset] [(.ref w_REJECTED), (.int (8 : Int32)), (.ref b1), (.ref b1)])) rfl rfl (hb hby at_61)
  have V253 : Ara Z h253 b1 (.object "com/example/replica_scaler/replicascaler/decision/Outcome") [(.ref w_UNOBSERVED), (.ref w_DOWN), (.ref w_NO_DATA), (.ref w_SCALE_UP), (.ref w_SCALE_DOWN), (.ref w_AT_TARGET), (.ref w_HELD), (.ref w_COOLDOWN), (.ref w_REJECTED), .null, .null, .null, .null] := Ara.same (j := (8 : Int32)) Ar253 q253 ll253 ff253 oo253 rfl W253
  have F254 := F226.wr W253
  have F255 := F227.wr W253
  have F256 := F228.wr W253
  have F257 := F229.wr W253
  have F258 := F230.wr W253
  have F259 := F231.wr W253
  have F260 := F232.wr W253
  have F261 := F233.wr W253
  have F262 := F234.wr W253
  have F263 := F235.wr W253
  have F264 := F236.wr W253
  have F265 := F237.wr W253
  have F266 := F238.wr W253
  have F267 := F239.wr W253
  have F268 := F240.wr W253
  have F269 := F241.wr W253
  have F270 := F242.wr W253
  have F271 := F243.wr W253
  have F272 := F244.wr W253
  have F273 := F245.wr W253
  have F274 := F246.wr W253
  have F275 := F247.wr W253
  have F276 := F248.wr W253
  have F277 := F249.wr W253
  have F278 := F250.wr W253
  have F279 := F251.wr W253
  have K253 := K225.wr W253 (Or.inr Zh1)
  have N253 := Fr.snoc X253 N225 Zs1
  have Z253 := Nat.le_trans Z225 (Nat.le_of_eq W253.size.symm)
  refine Goes.step (fun t k => st253 t k) ?_
  show Goes _ _ _ _ _ _ _ (T253.setTop (mkF m 62 #[.val (.int p0), .unset, .unset, .unset] [(.ref b1)]))
  refine Goes.step (fun t k => XS.dup X253.here hx rfl (hb hby at_62) rfl rfl k) ?_
  show Goes _ _ _ _ _ _ _ (T253.setTop (mkF m 63 #[.val (.int p0), .unset, .unset, .unset] [(.ref b1), (.ref b1)]))
  refine Goes.step (fun t k => XS.bipush X253.here hx rfl (hb hby at_63) k) ?_
  show Goes _ _ _ _ _ _ _ (T253.setTop (mkF m 65 #[.val (.int p0), .unset, .unset, .unset] [(.int (9 : Int32)), (.ref b1), (.ref b1)]))
  obtain ⟨T280, X280, e280, st280⟩ := getS2 X253 hx hZ hown (host := "") (Or.inl (hw _ (List.mem_of_getElem? (i := 22) rfl))) Via.refl e253 F263 (g := (mkF m 65 #[.val (.int p0), .unset, .unset, .unset] [(.int (9 : Int32)), (.ref b1), (.ref b1)])) rfl (hb hby at_65)
  refine Goes.step (fun t k => st280 t k) ?_
  show Goes _ _ _ _ _ _ _ (T280.setTop (mkF m 68 #[.val (.int p0), .unset, .unset, .unset] [(.ref w_BACKED_OFF), (.int (9 : Int32)), (.ref b1), (.ref b1)]))
  obtain ⟨cl281, Ar281, q281, ll281, ff281, oo281⟩ := id V253
  have hn281 : ¬ (9 : Int32) < 0 := by decide
  have hl281 : ((9 : Int32)).toNatClampNeg < ([(.ref w_UNOBSERVED), (.ref w_DOWN), (.ref w_NO_DATA), (.ref w_SCALE_UP), (.ref w_SCALE_DOWN), (.ref w_AT_TARGET), (.ref w_HELD), (.ref w_COOLDOWN), (.ref w_REJECTED), .null, .null, .null, .null] : List Value).length := Nat.le_of_ble_eq_true rfl
  obtain ⟨T281, h281, X281, e281, W281, st281⟩ := stR X280 hx hZ e280 Ar281 (j := (9 : Int32)) (inb q281 hn281 hl281) rfl (Sto.of Ar281 (oo281 _ rfl) (Ins.self F276)) (g := (mkF m 68 #[.val (.int p0), .unset, .unset, .unset] [(.ref w_BACKED_OFF), (.int (9 : Int32)), (.ref b1), (.ref b1)])) rfl rfl (hb hby at_68)
  have V281 : Ara Z h281 b1 (.object "com/example/replica_scaler/replicascaler/decision/Outcome") [(.ref w_UNOBSERVED), (.ref w_DOWN), (.ref w_NO_DATA), (.ref w_SCALE_UP), (.ref w_SCALE_DOWN), (.ref w_AT_TARGET), (.ref w_HELD), (.ref w_COOLDOWN), (.ref w_REJECTED), (.ref w_BACKED_OFF), .null, .null, .null] := Ara.same (j := (9 : Int32)) Ar281 q281 ll281 ff281 oo281 rfl W281
  have F282 := F254.wr W281
  have F283 := F255.wr W281
  have F284 := F256.wr W281
  have F285 := F257.wr W281
  have F286 := F258.wr W281
  have F287 := F259.wr W281
  have F288 := F260.wr W281
  have F289 := F261.wr W281
  have F290 := F262.wr W281
  have F291 := F263.wr W281
  have F292 := F264.wr W281
  have F293 := F265.wr W281
  have F294 := F266.wr W281
  have F295 := F267.wr W281
  have F296 := F268.wr W281
  have F297 := F269.wr W281
  have F298 := F270.wr W281
  have F299 := F271.wr W281
  have F300 := F272.wr W281
  have F301 := F273.wr W281
  have F302 := F274.wr W281
  have F303 := F275.wr W281
  have F304 := F276.wr W281
  have F305 := F277.wr W281
  have F306 := F278.wr W281
  have F307 := F279.wr W281
  have K281 := K253.wr W281 (Or.inr Zh1)
  have N281 := Fr.snoc X281 N253 Zs1
  have Z281 := Nat.le_trans Z253 (Nat.le_of_eq W281.size.symm)
  refine Goes.step (fun t k => st281 t k) ?_
  show Goes _ _ _ _ _ _ _ (T281.setTop (mkF m 69 #[.val (.int p0), .unset, .unset, .unset] [(.ref b1)]))
  refine Goes.step (fun t k => XS.dup X281.here hx rfl (hb hby at_69) rfl rfl k) ?_
  show Goes _ _ _ _ _ _ _ (T281.setTop (mkF m 70 #[.val (.int p0), .unset, .unset, .unset] [(.ref b1), (.ref b1)]))
  refine Goes.step (fun t k => XS.bipush X281.here hx rfl (hb hby at_70) k) ?_
  show Goes _ _ _ _ _ _ _ (T281.setTop (mkF m 72 #[.val (.int p0), .unset, .unset, .unset] [(.int (10 : Int32)), (.ref b1), (.ref b1)]))
  obtain ⟨T308, X308, e308, st308⟩ := getS2 X281 hx hZ hown (host := "") (Or.inl (hw _ (List.mem_of_getElem? (i := 24) rfl))) Via.refl e281 F292 (g := (mkF m 72 #[.val (.int p0), .unset, .unset, .unset] [(.int (10 : Int32)), (.ref b1), (.ref b1)])) rfl (hb hby at_72)
  refine Goes.step (fun t k => st308 t k) ?_
  show Goes _ _ _ _ _ _ _ (T308.setTop (mkF m 75 #[.val (.int p0), .unset, .unset, .unset] [(.ref w_WATCHING), (.int (10 : Int32)), (.ref b1), (.ref b1)]))
  obtain ⟨cl309, Ar309, q309, ll309, ff309, oo309⟩ := id V281
  have hn309 : ¬ (10 : Int32) < 0 := by decide
  have hl309 : ((10 : Int32)).toNatClampNeg < ([(.ref w_UNOBSERVED), (.ref w_DOWN), (.ref w_NO_DATA), (.ref w_SCALE_UP), (.ref w_SCALE_DOWN), (.ref w_AT_TARGET), (.ref w_HELD), (.ref w_COOLDOWN), (.ref w_REJECTED), (.ref w_BACKED_OFF), .null, .null, .null] : List Value).length := Nat.le_of_ble_eq_true rfl
  obtain ⟨T309, h309, X309, e309, W309, st309⟩ := stR X308 hx hZ e308 Ar309 (j := (10 : Int32)) (inb q309 hn309 hl309) rfl (Sto.of Ar309 (oo309 _ rfl) (Ins.self F305)) (g := (mkF m 75 #[.val (.int p0), .unset, .unset, .unset] [(.ref w_WATCHING), (.int (10 : Int32)), (.ref b1), (.ref b1)])) rfl rfl (hb hby at_75)
  have V309 : Ara Z h309 b1 (.object "com/example/replica_scaler/replicascaler/decision/Outcome") [(.ref w_UNOBSERVED), (.ref w_DOWN), (.ref w_NO_DATA), (.ref w_SCALE_UP), (.ref w_SCALE_DOWN), (.ref w_AT_TARGET), (.ref w_HELD), (.ref w_COOLDOWN), (.ref w_REJECTED), (.ref w_BACKED_OFF), (.ref w_WATCHING), .null, .null] := Ara.same (j := (10 : Int32)) Ar309 q309 ll309 ff309 oo309 rfl W309
  have F310 := F282.wr W309
  have F311 := F283.wr W309
  have F312 := F284.wr W309
  have F313 := F285.wr W309
  have F314 := F286.wr W309
  have F315 := F287.wr W309
  have F316 := F288.wr W309
  have F317 := F289.wr W309
  have F318 := F290.wr W309
  have F319 := F291.wr W309
  have F320 := F292.wr W309
  have F321 := F293.wr W309
  have F322 := F294.wr W309
  have F323 := F295.wr W309
  have F324 := F296.wr W309
  have F325 := F297.wr W309
  have F326 := F298.wr W309
  have F327 := F299.wr W309
  have F328 := F300.wr W309
  have F329 := F301.wr W309
  have F330 := F302.wr W309
  have F331 := F303.wr W309
  have F332 := F304.wr W309
  have F333 := F305.wr W309
  have F334 := F306.wr W309
  have F335 := F307.wr W309
  have K309 := K281.wr W309 (Or.inr Zh1)
  have N309 := Fr.snoc X309 N281 Zs1
  have Z309 := Nat.le_trans Z281 (Nat.le_of_eq W309.size.symm)
  refine Goes.step (fun t k => st309 t k) ?_
  show Goes _ _ _ _ _ _ _ (T309.setTop (mkF m 76 #[.val (.int p0), .unset, .unset, .unset] [(.ref b1)]))
  refine Goes.step (fun t k => XS.dup X309.here hx rfl (hb hby at_76) rfl rfl k) ?_
  show Goes _ _ _ _ _ _ _ (T309.setTop (mkF m 77 #[.val (.int p0), .unset, .unset, .unset] [(.ref b1), (.ref b1)]))
  refine Goes.step (fun t k => XS.bipush X309.here hx rfl (hb hby at_77) k) ?_
  show Goes _ _ _ _ _ _ _ (T309.setTop (mkF m 79 #[.val (.int p0), .unset, .unset, .unset] [(.int (11 : Int32)), (.ref b1), (.ref b1)]))
  obtain ⟨T336, X336, e336, st336⟩ := getS2 X309 hx hZ hown (host := "") (Or.inl (hw _ (List.mem_of_getElem? (i := 26) rfl))) Via.refl e309 F321 (g := (mkF m 79 #[.val (.int p0), .unset, .unset, .unset] [(.int (11 : Int32)), (.ref b1), (.ref b1)])) rfl (hb hby at_79)
  refine Goes.step (fun t k => st336 t k) ?_
  show Goes _ _ _ _ _ _ _ (T336.setTop (mkF m 82 #[.val (.int p0), .unset, .unset, .unset] [(.ref w_DEFERRED), (.int (11 : Int32)), (.ref b1), (.ref b1)]))
  obtain ⟨cl337, Ar337, q337, ll337, ff337, oo337⟩ := id V309
  have hn337 : ¬ (11 : Int32) < 0 := by decide
  have hl337 : ((11 : Int32)).toNatClampNeg < ([(.ref w_UNOBSERVED), (.ref w_DOWN), (.ref w_NO_DATA), (.ref w_SCALE_UP), (.ref w_SCALE_DOWN), (.ref w_AT_TARGET), (.ref w_HELD), (.ref w_COOLDOWN), (.ref w_REJECTED), (.ref w_BACKED_OFF), (.ref w_WATCHING), .null, .null] : List Value).length := Nat.le_of_ble_eq_true rfl
  obtain ⟨T337, h337, X337, e337, W337, st337⟩ := stR X336 hx hZ e336 Ar337 (j := (11 : Int32)) (inb q337 hn337 hl337) rfl (Sto.of Ar337 (oo337 _ rfl) (Ins.self F334)) (g := (mkF m 82 #[.val (.int p0), .unset, .unset, .unset] [(.ref w_DEFERRED), (.int (11 : Int32)), (.ref b1), (.ref b1)])) rfl rfl (hb hby at_82)
  have V337 : Ara Z h337 b1 (.object "com/example/replica_scaler/replicascaler/decision/Outcome") [(.ref w_UNOBSERVED), (.ref w_DOWN), (.ref w_NO_DATA), (.ref w_SCALE_UP), (.ref w_SCALE_DOWN), (.ref w_AT_TARGET), (.ref w_HELD), (.ref w_COOLDOWN), (.ref w_REJECTED), (.ref w_BACKED_OFF), (.ref w_WATCHING), (.ref w_DEFERRED), .null] := Ara.same (j := (11 : Int32)) Ar337 q337 ll337 ff337 oo337 rfl W337
  have F338 := F310.wr W337
  have F339 := F311.wr W337
  have F340 := F312.wr W337
  have F341 := F313.wr W337
  have F342 := F314.wr W337
  have F343 := F315.wr W337
  have F344 := F316.wr W337
  have F345 := F317.wr W337
  have F346 := F318.wr W337
  have F347 := F319.wr W337
  have F348 := F320.wr W337
  have F349 := F321.wr W337
  have F350 := F322.wr W337
  have F351 := F323.wr W337
  have F352 := F324.wr W337
  have F353 := F325.wr W337
  have F354 := F326.wr W337
  have F355 := F327.wr W337
  have F356 := F328.wr W337
  have F357 := F329.wr W337
  have F358 := F330.wr W337
  have F359 := F331.wr W337
  have F360 := F332.wr W337
  have F361 := F333.wr W337
  have F362 := F334.wr W337
  have F363 := F335.wr W337
  have K337 := K309.wr W337 (Or.inr Zh1)
  have N337 := Fr.snoc X337 N309 Zs1
  have Z337 := Nat.le_trans Z309 (Nat.le_of_eq W337.size.symm)
  refine Goes.step (fun t k => st337 t k) ?_
  show Goes _ _ _ _ _ _ _ (T337.setTop (mkF m 83 #[.val (.int p0), .unset, .unset, .unset] [(.ref b1)]))
  refine Goes.step (fun t k => XS.dup X337.here hx rfl (hb hby at_83) rfl rfl k) ?_
  show Goes _ _ _ _ _ _ _ (T337.setTop (mkF m 84 #[.val (.int p0), .unset, .unset, .unset] [(.ref b1), (.ref b1)]))
  refine Goes.step (fun t k => XS.bipush X337.here hx rfl (hb hby at_84) k) ?_
  show Goes _ _ _ _ _ _ _ (T337.setTop (mkF m 86 #[.val (.int p0), .unset, .unset, .unset] [(.int (12 : Int32)), (.ref b1), (.ref b1)]))
  obtain ⟨T364, X364, e364, st364⟩ := getS2 X337 hx hZ hown (host := "") (Or.inl (hw _ (List.mem_of_getElem? (i := 28) rfl))) Via.refl e337 F350 (g := (mkF m 86 #[.val (.int p0), .unset, .unset, .unset] [(.int (12 : Int32)), (.ref b1), (.ref b1)])) rfl (hb hby at_86)
  refine Goes.step (fun t k => st364 t k) ?_
  show Goes _ _ _ _ _ _ _ (T364.setTop (mkF m 89 #[.val (.int p0), .unset, .unset, .unset] [(.ref w_AWAITING_APPROVAL), (.int (12 : Int32)), (.ref b1), (.ref b1)]))
  obtain ⟨cl365, Ar365, q365, ll365, ff365, oo365⟩ := id V337
  have hn365 : ¬ (12 : Int32) < 0 := by decide
  have hl365 : ((12 : Int32)).toNatClampNeg < ([(.ref w_UNOBSERVED), (.ref w_DOWN), (.ref w_NO_DATA), (.ref w_SCALE_UP), (.ref w_SCALE_DOWN), (.ref w_AT_TARGET), (.ref w_HELD), (.ref w_COOLDOWN), (.ref w_REJECTED), (.ref w_BACKED_OFF), (.ref w_WATCHING), (.ref w_DEFERRED), .null] : List Value).length := Nat.le_of_ble_eq_true rfl
  obtain ⟨T365, h365, X365, e365, W365, st365⟩ := stR X364 hx hZ e364 Ar365 (j := (12 : Int32)) (inb q365 hn365 hl365) rfl (Sto.of Ar365 (oo365 _ rfl) (Ins.self F363)) (g := (mkF m 89 #[.val (.int p0), .unset, .unset, .unset] [(.ref w_AWAITING_APPROVAL), (.int (12 : Int32)), (.ref b1), (.ref b1)])) rfl rfl (hb hby at_89)
  have V365 : Ara Z h365 b1 (.object "com/example/replica_scaler/replicascaler/decision/Outcome") [(.ref w_UNOBSERVED), (.ref w_DOWN), (.ref w_NO_DATA), (.ref w_SCALE_UP), (.ref w_SCALE_DOWN), (.ref w_AT_TARGET), (.ref w_HELD), (.ref w_COOLDOWN), (.ref w_REJECTED), (.ref w_BACKED_OFF), (.ref w_WATCHING), (.ref w_DEFERRED), (.ref w_AWAITING_APPROVAL)] := Ara.same (j := (12 : Int32)) Ar365 q365 ll365 ff365 oo365 rfl W365
  have F366 := F338.wr W365
  have F367 := F339.wr W365
  have F368 := F340.wr W365
  have F369 := F341.wr W365
  have F370 := F342.wr W365
  have F371 := F343.wr W365
  have F372 := F344.wr W365
  have F373 := F345.wr W365
  have F374 := F346.wr W365
  have F375 := F347.wr W365
  have F376 := F348.wr W365
  have F377 := F349.wr W365
  have F378 := F350.wr W365
  have F379 := F351.wr W365
  have F380 := F352.wr W365
  have F381 := F353.wr W365
  have F382 := F354.wr W365
  have F383 := F355.wr W365
  have F384 := F356.wr W365
  have F385 := F357.wr W365
  have F386 := F358.wr W365
  have F387 := F359.wr W365
  have F388 := F360.wr W365
  have F389 := F361.wr W365
  have F390 := F362.wr W365
  have F391 := F363.wr W365
  have K365 := K337.wr W365 (Or.inr Zh1)
  have N365 := Fr.snoc X365 N337 Zs1
  have Z365 := Nat.le_trans Z337 (Nat.le_of_eq W365.size.symm)
  refine Goes.step (fun t k => st365 t k) ?_
  show Goes _ _ _ _ _ _ _ (T365.setTop (mkF m 90 #[.val (.int p0), .unset, .unset, .unset] [(.ref b1)]))
  refine Goes.step (fun t k => XS.astoreN X365.here hx rfl (hb hby at_90) rfl rfl (l' := #[.val (.int p0), .val (.ref b1), .unset, .unset]) rfl k) ?_
  show Goes _ _ _ _ _ _ _ (T365.setTop (mkF m 91 #[.val (.int p0), .val (.ref b1), .unset, .unset] []))
  refine Goes.step (fun t k => XS.iloadN X365.here hx rfl (hb hby at_91) rfl k) ?_
  show Goes _ _ _ _ _ _ _ (T365.setTop (mkF m 92 #[.val (.int p0), .val (.ref b1), .unset, .unset] [(.int p0)]))
  refine Goes.step (fun t k => X365.ldcInt hx hown (mvT hZ (hw _ (List.mem_of_getElem? (i := 30) rfl))) (g := (mkF m 92 #[.val (.int p0), .val (.ref b1), .unset, .unset] [(.int p0)])) rfl (hb hby at_92) _ k) ?_
  show Goes _ _ _ _ _ _ _ (T365.setTop (mkF m 94 #[.val (.int p0), .val (.ref b1), .unset, .unset] [(.int (2147483647 : Int32)), (.int p0)]))
  refine Goes.step (fun t k => XS.iand X365.here hx rfl (hb hby at_94) rfl k) ?_
  show Goes _ _ _ _ _ _ _ (T365.setTop (mkF m 95 #[.val (.int p0), .val (.ref b1), .unset, .unset] [(.int (p0 &&& (2147483647 : Int32)))]))
  refine Goes.step (fun t k => XS.bipush X365.here hx rfl (hb hby at_95) k) ?_
  show Goes _ _ _ _ _ _ _ (T365.setTop (mkF m 97 #[.val (.int p0), .val (.ref b1), .unset, .unset] [(.int (13 : Int32)), (.int (p0 &&& (2147483647 : Int32)))]))
  have hnz392 : ¬ ((13 : Int32) = (0 : Int32)) := by decide
  refine Goes.step (fun t k => iremM X365 hx rfl (hb hby at_97) rfl hnz392 k) ?_
  show Goes _ _ _ _ _ _ _ (T365.setTop (mkF m 98 #[.val (.int p0), .val (.ref b1), .unset, .unset] [(.int ((p0 &&& (2147483647 : Int32)) % (13 : Int32)))]))
  refine Goes.step (fun t k => XS.istoreN X365.here hx rfl (hb hby at_98) rfl (l' := #[.val (.int p0), .val (.ref b1), .val (.int ((p0 &&& (2147483647 : Int32)) % (13 : Int32))), .unset]) rfl k) ?_
  show Goes _ _ _ _ _ _ _ (T365.setTop (mkF m 99 #[.val (.int p0), .val (.ref b1), .val (.int ((p0 &&& (2147483647 : Int32)) % (13 : Int32))), .unset] []))
  generalize hy393 : ((p0 &&& (2147483647 : Int32)) % (13 : Int32)) = y393
  refine Goes.step (fun t k => XS.iloadN X365.here hx rfl (hb hby at_99) rfl k) ?_
  show Goes _ _ _ _ _ _ _ (T365.setTop (mkF m 100 #[.val (.int p0), .val (.ref b1), .val (.int y393), .unset] [(.int y393)]))
  refine Goes.step (fun t k => XS.iconst X365.here hx rfl (hb hby at_100) k) ?_
  show Goes _ _ _ _ _ _ _ (T365.setTop (mkF m 101 #[.val (.int p0), .val (.ref b1), .val (.int y393), .unset] [(.int (3 : Int32)), (.int y393)]))
  suffices k395 : ∀ (x395_0 : Int32), x395_0 = (if y393 < (3 : Int32) then (1 : Int32) else (0 : Int32)) → Goes p e below s (Q0 Z p0 w_UNOBSERVED w_DOWN w_NO_DATA w_SCALE_UP w_SCALE_DOWN w_AT_TARGET w_HELD w_COOLDOWN w_REJECTED w_BACKED_OFF w_WATCHING w_DEFERRED w_AWAITING_APPROVAL h0 n0) kC0 kS0 (T365.setTop (mkF m 109 #[.val (.int p0), .val (.ref b1), .val (.int y393), .unset] [(.int x395_0)])) by
    by_cases hc101_394 : y393 < (3 : Int32)
    · refine Goes.step (fun t k => XS.icmpNo X365.here hx rfl (hb hby at_101) rfl (tlt hc101_394).2.1 k) ?_
      show Goes _ _ _ _ _ _ _ (T365.setTop (mkF m 104 #[.val (.int p0), .val (.ref b1), .val (.int y393), .unset] []))
      refine Goes.step (fun t k => XS.iconst X365.here hx rfl (hb hby at_104) k) ?_
      show Goes _ _ _ _ _ _ _ (T365.setTop (mkF m 105 #[.val (.int p0), .val (.ref b1), .val (.int y393), .unset] [(.int (1 : Int32))]))
      refine Goes.step (fun t k => XS.goto X365.here hx rfl (pc0 := 105) (pc' := 109) rfl (hb hby at_105) (by decide) (by decide) k) ?_
      show Goes _ _ _ _ _ _ _ (T365.setTop (mkF m 109 #[.val (.int p0), .val (.ref b1), .val (.int y393), .unset] [(.int (1 : Int32))]))
      exact k395 _ (if_pos hc101_394).symm
    · refine Goes.step (fun t k => XS.icmpYes X365.here hx rfl (pc0 := 101) (pc' := 108) rfl (hb hby at_101) rfl (flt hc101_394).2.1 (by decide) (by decide) k) ?_
      show Goes _ _ _ _ _ _ _ (T365.setTop (mkF m 108 #[.val (.int p0), .val (.ref b1), .val (.int y393), .unset] []))
      refine Goes.step (fun t k => XS.iconst X365.here hx rfl (hb hby at_108) k) ?_
      show Goes _ _ _ _ _ _ _ (T365.setTop (mkF m 109 #[.val (.int p0), .val (.ref b1), .val (.int y393), .unset] [(.int (0 : Int32))]))
      exact k395 _ (if_neg hc101_394).symm
  intro x395_0 hx395_0
  refine Goes.step (fun t k => XS.istoreN X365.here hx rfl (hb hby at_109) rfl (l' := #[.val (.int p0), .val (.ref b1), .val (.int y393), .val (.int x395_0)]) rfl k) ?_
  show Goes _ _ _ _ _ _ _ (T365.setTop (mkF m 110 #[.val (.int p0), .val (.ref b1), .val (.int y393), .val (.int x395_0)] []))
  refine Goes.step (fun t k => XS.aloadN X365.here hx rfl (hb hby at_110) rfl rfl k) ?_
  show Goes _ _ _ _ _ _ _ (T365.setTop (mkF m 111 #[.val (.int p0), .val (.ref b1), .val (.int y393), .val (.int x395_0)] [(.ref b1)]))
  refine Goes.step (fun t k => XS.iloadN X365.here hx rfl (hb hby at_111) rfl k) ?_
  show Goes _ _ _ _ _ _ _ (T365.setTop (mkF m 112 #[.val (.int p0), .val (.ref b1), .val (.int y393), .val (.int x395_0)] [(.int y393), (.ref b1)]))
  have c397 := idx13 _ _ hy393
  have E397 : Exa Z h365 (selL y393 [w_UNOBSERVED, w_DOWN, w_NO_DATA, w_SCALE_UP, w_SCALE_DOWN, w_AT_TARGET, w_HELD, w_COOLDOWN, w_REJECTED, w_BACKED_OFF, w_WATCHING, w_DEFERRED, w_AWAITING_APPROVAL]) "com/example/replica_scaler/replicascaler/decision/Outcome" := by
    clear hy393
    rcases c397 with rfl | rfl | rfl | rfl | rfl | rfl | rfl | rfl | rfl | rfl | rfl | rfl | rfl
    · exact F379
    · exact F380
    · exact F381
    · exact F382
    · exact F383
    · exact F384
    · exact F385
    · exact F386
    · exact F387
    · exact F388
    · exact F389
    · exact F390
    · exact F391
  obtain ⟨cl396, Ar396, q396, ll396, ff396, oo396⟩ := id V365
  have hn396 : ¬ y393 < 0 := by rcases c397 with h | h | h | h | h | h | h | h | h | h | h | h | h <;> rw [h] <;> decide
  have hv396 : ([(.ref w_UNOBSERVED), (.ref w_DOWN), (.ref w_NO_DATA), (.ref w_SCALE_UP), (.ref w_SCALE_DOWN), (.ref w_AT_TARGET), (.ref w_HELD), (.ref w_COOLDOWN), (.ref w_REJECTED), (.ref w_BACKED_OFF), (.ref w_WATCHING), (.ref w_DEFERRED), (.ref w_AWAITING_APPROVAL)] : List Value)[(y393).toNatClampNeg]? = some (.ref (selL y393 [w_UNOBSERVED, w_DOWN, w_NO_DATA, w_SCALE_UP, w_SCALE_DOWN, w_AT_TARGET, w_HELD, w_COOLDOWN, w_REJECTED, w_BACKED_OFF, w_WATCHING, w_DEFERRED, w_AWAITING_APPROVAL])) := by (clear hy393; rcases c397 with rfl | rfl | rfl | rfl | rfl | rfl | rfl | rfl | rfl | rfl | rfl | rfl | rfl <;> rfl)
  refine Goes.step (fun t k => X365.aaload hx (j := y393) (v := (.ref (selL y393 [w_UNOBSERVED, w_DOWN, w_NO_DATA, w_SCALE_UP, w_SCALE_DOWN, w_AT_TARGET, w_HELD, w_COOLDOWN, w_REJECTED, w_BACKED_OFF, w_WATCHING, w_DEFERRED, w_AWAITING_APPROVAL]))) (by rw [e365]; exact Ar396.1) (State.isArrayOf_alike hZ.alike Ar396.2.1) rfl Ar396.2.2 (inb q396 hn396 (ltb hv396)) (getb q396 hv396) (g := (mkF m 112 #[.val (.int p0), .val (.ref b1), .val (.int y393), .val (.int x395_0)] [(.int y393), (.ref b1)])) rfl rfl (hb hby at_112) t k) ?_
  show Goes _ _ _ _ _ _ _ (T365.setTop (mkF m 113 #[.val (.int p0), .val (.ref b1), .val (.int y393), .val (.int x395_0)] [(.ref (selL y393 [w_UNOBSERVED, w_DOWN, w_NO_DATA, w_SCALE_UP, w_SCALE_DOWN, w_AT_TARGET, w_HELD, w_COOLDOWN, w_REJECTED, w_BACKED_OFF, w_WATCHING, w_DEFERRED, w_AWAITING_APPROVAL]))]))
  obtain ⟨cq398, kq398, q398a, q398b, q398c⟩ := isOf hZ e365 E397
  obtain ⟨_, _, ⟨T398, L398, k398, n398⟩, -, X398, ⟨Lc398, hQ398, l398, y398, z398⟩, st398⟩ := X365.virtualBack hx (y := (⟨"com/example/replica_scaler/replicascaler/decision/Outcome", "lacksEvidence", "()Z"⟩ : MethodName)) (z := (⟨"com/example/replica_scaler/replicascaler/decision/Outcome", "lacksEvidence", "()Z"⟩ : MethodName)) hown (mvT hZ (hw _ (List.mem_of_getElem? (i := 31) rfl))) (mvT hZ (hw _ (List.mem_of_getElem? (i := 32) rfl))) (notFace_of_selects (args := #[]) (mvT hZ (hw _ (List.mem_of_getElem? (i := 34) rfl)))) (mvT hZ (hw _ (List.mem_of_getElem? (i := 34) rfl))) (mvT hZ (hw _ (List.mem_of_getElem? (i := 33) rfl))) (by decide) (backOf (W := 0) (rm1 l Z tA hw [] (selL y393 [w_UNOBSERVED, w_DOWN, w_NO_DATA, w_SCALE_UP, w_SCALE_DOWN, w_AT_TARGET, w_HELD, w_COOLDOWN, w_REJECTED, w_BACKED_OFF, w_WATCHING, w_DEFERRED, w_AWAITING_APPROVAL]) w_UNOBSERVED w_DOWN w_NO_DATA h365 F366 F367 F368) hZ (hw _ (List.mem_of_getElem? (i := 35) rfl)) (hw _ (List.mem_of_getElem? (i := 3) rfl)) (by decide) (by decide)) q398a q398c (g := (mkF m 113 #[.val (.int p0), .val (.ref b1), .val (.int y393), .val (.int x395_0)] [(.ref (selL y393 [w_UNOBSERVED, w_DOWN, w_NO_DATA, w_SCALE_UP, w_SCALE_DOWN, w_AT_TARGET, w_HELD, w_COOLDOWN, w_REJECTED, w_BACKED_OFF, w_WATCHING, w_DEFERRED, w_AWAITING_APPROVAL]))])) rfl (by rw [hml]; rfl) (Steps.refl _) (argsL := []) (rest := []) (lenOf own_pd0 rfl) rfl (by show 2 * 0 + _ ≤ _; exact Nat.le_of_eq rfl) (hb hby at_113) (fun _ _ => ⟨rfl, e365, (by decide : 1 + 0 ≤ _), (by decide : 13 + 0 ≤ _)⟩)
  dsimp only [Pt.U, Pt.locs, Pt.cells, Pt.slots] at X398 l398 y398 z398 st398 hQ398
  subst l398 y398 z398
  obtain ⟨rfl, rfl, e398⟩ := hQ398
  try rw [List.append_nil] at X398
  change Stand _ _ _ _ _ _ _ _ _ _ _ _ 1 13 at X398
  refine Goes.step (fun t k => st398.trans k) ?_
  show Goes _ _ _ _ _ _ _ (T398.setTop (mkF m 116 #[.val (.int p0), .val (.ref b1), .val (.int y393), .val (.int x395_0)] [(.int (f1 (selL y393 [w_UNOBSERVED, w_DOWN, w_NO_DATA, w_SCALE_UP, w_SCALE_DOWN, w_AT_TARGET, w_HELD, w_COOLDOWN, w_REJECTED, w_BACKED_OFF, w_WATCHING, w_DEFERRED, w_AWAITING_APPROVAL]) w_UNOBSERVED w_DOWN w_NO_DATA))]))
  generalize hy399 : (f1 (selL y393 [w_UNOBSERVED, w_DOWN, w_NO_DATA, w_SCALE_UP, w_SCALE_DOWN, w_AT_TARGET, w_HELD, w_COOLDOWN, w_REJECTED, w_BACKED_OFF, w_WATCHING, w_DEFERRED, w_AWAITING_APPROVAL]) w_UNOBSERVED w_DOWN w_NO_DATA) = y399
  refine Goes.step (fun t k => XS.iloadN X398.here hx rfl (hb hby at_116) rfl k) ?_
  show Goes _ _ _ _ _ _ _ (T398.setTop (mkF m 117 #[.val (.int p0), .val (.ref b1), .val (.int y393), .val (.int x395_0)] [(.int x395_0), (.int y399)]))
  suffices k401 : ∀ (x401_0 : Int32), x401_0 = (if y399 = x395_0 then (1 : Int32) else (0 : Int32)) → Goes p e below s (Q0 Z p0 w_UNOBSERVED w_DOWN w_NO_DATA w_SCALE_UP w_SCALE_DOWN w_AT_TARGET w_HELD w_COOLDOWN w_REJECTED w_BACKED_OFF w_WATCHING w_DEFERRED w_AWAITING_APPROVAL h0 n0) kC0 kS0 (T398.setTop (mkF m 125 #[.val (.int p0), .val (.ref b1), .val (.int y393), .val (.int x395_0)] [(.int x401_0)])) by
    by_cases hc117_400 : y399 = x395_0
    · refine Goes.step (fun t k => XS.icmpNo X398.here hx rfl (hb hby at_117) rfl (teq hc117_400).2 k) ?_
      show Goes _ _ _ _ _ _ _ (T398.setTop (mkF m 120 #[.val (.int p0), .val (.ref b1), .val (.int y393), .val (.int x395_0)] []))
      refine Goes.step (fun t k => XS.iconst X398.here hx rfl (hb hby at_120) k) ?_
      show Goes _ _ _ _ _ _ _ (T398.setTop (mkF m 121 #[.val (.int p0), .val (.ref b1), .val (.int y393), .val (.int x395_0)] [(.int (1 : Int32))]))
      refine Goes.step (fun t k => XS.goto X398.here hx rfl (pc0 := 121) (pc' := 125) rfl (hb hby at_121) (by decide) (by decide) k) ?_
      show Goes _ _ _ _ _ _ _ (T398.setTop (mkF m 125 #[.val (.int p0), .val (.ref b1), .val (.int y393), .val (.int x395_0)] [(.int (1 : Int32))]))
      exact k401 _ (if_pos hc117_400).symm
    · refine Goes.step (fun t k => XS.icmpYes X398.here hx rfl (pc0 := 117) (pc' := 124) rfl (hb hby at_117) rfl (feq hc117_400).2 (by decide) (by decide) k) ?_
      show Goes _ _ _ _ _ _ _ (T398.setTop (mkF m 124 #[.val (.int p0), .val (.ref b1), .val (.int y393), .val (.int x395_0)] []))
      refine Goes.step (fun t k => XS.iconst X398.here hx rfl (hb hby at_124) k) ?_
      show Goes _ _ _ _ _ _ _ (T398.setTop (mkF m 125 #[.val (.int p0), .val (.ref b1), .val (.int y393), .val (.int x395_0)] [(.int (0 : Int32))]))
      exact k401 _ (if_neg hc117_400).symm
  intro x401_0 hx401_0
  exact Goes.retZ X398 hx Bd.notSynchronized (r := (1 : Int32)) Bd.returns (by simp) (hb hby at_125) (own_plain p0 w_UNOBSERVED w_DOWN w_NO_DATA w_SCALE_UP w_SCALE_DOWN w_AT_TARGET w_HELD w_COOLDOWN w_REJECTED w_BACKED_OFF w_WATCHING w_DEFERRED w_AWAITING_APPROVAL y393 x395_0 y399 x401_0 hy393 hx395_0 hy399 hx401_0 ne_w_UNOBSERVED_w_DOWN ne_w_UNOBSERVED_w_NO_DATA ne_w_UNOBSERVED_w_SCALE_UP ne_w_UNOBSERVED_w_SCALE_DOWN ne_w_UNOBSERVED_w_AT_TARGET ne_w_UNOBSERVED_w_HELD ne_w_UNOBSERVED_w_COOLDOWN ne_w_UNOBSERVED_w_REJECTED ne_w_UNOBSERVED_w_BACKED_OFF ne_w_UNOBSERVED_w_WATCHING ne_w_UNOBSERVED_w_DEFERRED ne_w_UNOBSERVED_w_AWAITING_APPROVAL ne_w_DOWN_w_NO_DATA ne_w_DOWN_w_SCALE_UP ne_w_DOWN_w_SCALE_DOWN ne_w_DOWN_w_AT_TARGET ne_w_DOWN_w_HELD ne_w_DOWN_w_COOLDOWN ne_w_DOWN_w_REJECTED ne_w_DOWN_w_BACKED_OFF ne_w_DOWN_w_WATCHING ne_w_DOWN_w_DEFERRED ne_w_DOWN_w_AWAITING_APPROVAL ne_w_NO_DATA_w_SCALE_UP ne_w_NO_DATA_w_SCALE_DOWN ne_w_NO_DATA_w_AT_TARGET ne_w_NO_DATA_w_HELD ne_w_NO_DATA_w_COOLDOWN ne_w_NO_DATA_w_REJECTED ne_w_NO_DATA_w_BACKED_OFF ne_w_NO_DATA_w_WATCHING ne_w_NO_DATA_w_DEFERRED ne_w_NO_DATA_w_AWAITING_APPROVAL) ⟨rfl, N365⟩ (by decide) (by decide)
set_option maxRecDepth 65536 in
set_option maxHeartbeats 40000000 in
theorem comes_1 {Post : Tables → Env → Array Value → State → Outcome → State → Prop} (hpost : ∀ tb e args s v u, (limb_1_1.after args s (.returned v) u = true ∧ limb_1_2.after args s (.returned v) u = true ∧ True) → FrameEnd s (.returned v) u (Jvm.fieldLocs frame_1_writes args s ++ Jvm.arrayLocs frame_1_arrays args s ++ Jvm.staticLocs frame_1_statics s) 16 128 → Post tb e args s (.returned v) u) :
    ArmFor flags0 classFile x code maxLocals ret World_1 tables_1 room_1 Calls_1 rest_1 Pre_1 Post := by
  intro l hfl _ _ p e ha hc hk s m args below hf hA hF happ hP
  obtain ⟨hcalls, hrest, hpre⟩ := hP
  obtain ⟨-, -, -, hnamed, -, -, -, hat⟩ := (Spec.applies_iff hf).mp happ
  obtain ⟨hg, hn⟩ := and_e (Cond.before_iff.mp (show (Jvm.Cond.and given_1 narrow_1).before args s = true from hpre))
  obtain ⟨g0, gr0⟩ := and_e hg
  have ga0 := gr0
  obtain ⟨w0, rfl⟩ : ∃ w0 : Value, args = #[w0] := by
    have hs : args.size = 1 := by simpa [Cond.value, given_1] using g0
    obtain ⟨L⟩ := args
    match L, hs with
    | [w0], _ => exact ⟨w0, rfl⟩
  have hw := fun d (hd : d ∈ tables_1) => atoms_spec (ws := Jvm.Cond.code x code maxLocals ret :: tables_1) hat d (List.mem_cons_of_mem _ hd)
  have hfit : Fit s := fun {y c} hc i hi => by
    obtain ⟨ha, rfl⟩ := Array.getElem?_eq_some_iff.mp hc
    have q := List.all_eq_true.mp ((Array.all_eq_true_iff_forall_mem.mp hF) _ (Array.getElem_mem ha)) i (List.mem_range.mpr hi)
    simpa [Array.getElem?_eq_getElem hi] using q
  obtain ⟨i0, ei0⟩ := is_v ga0
  obtain rfl : w0 = (.int i0) := Option.some.inj ei0
  obtain ⟨nn0, nr0⟩ := and_e hn
  obtain ⟨nn1, nr1⟩ := and_e nr0
  obtain ⟨nn2, nr2⟩ := and_e nr1
  obtain ⟨nn3, nr3⟩ := and_e nr2
  obtain ⟨nn4, nr4⟩ := and_e nr3
  obtain ⟨nn5, nr5⟩ := and_e nr4
  obtain ⟨nn6, nr6⟩ := and_e nr5
  obtain ⟨nn7, nr7⟩ := and_e nr6
  obtain ⟨nn8, nr8⟩ := and_e nr7
  obtain ⟨nn9, nr9⟩ := and_e nr8
  obtain ⟨nn10, nr10⟩ := and_e nr9
  obtain ⟨nn11, nr11⟩ := and_e nr10
  obtain ⟨nn12, nr12⟩ := and_e nr11
  obtain ⟨nn13, nr13⟩ := and_e nr12
  obtain ⟨nn14, nr14⟩ := and_e nr13
  obtain ⟨nn15, nr15⟩ := and_e nr14
  obtain ⟨nn16, nr16⟩ := and_e nr15
  obtain ⟨nn17, nr17⟩ := and_e nr16
  obtain ⟨nn18, nr18⟩ := and_e nr17
  obtain ⟨nn19, nr19⟩ := and_e nr18
  obtain ⟨nn20, nr20⟩ := and_e nr19
  obtain ⟨nn21, nr21⟩ := and_e nr20
  obtain ⟨nn22, nr22⟩ := and_e nr21
  obtain ⟨nn23, nr23⟩ := and_e nr22
  obtain ⟨nn24, nr24⟩ := and_e nr23
  have nn25 := nr24
  obtain ⟨w_UNOBSERVED, ev_UNOBSERVED⟩ := exa_v nn0
  have E_UNOBSERVED := Exa.start ev_UNOBSERVED nn0
  have S_UNOBSERVED := Sta.start ev_UNOBSERVED (Or.inr ⟨(hw _ (List.mem_of_getElem? (i := 3) rfl)), (hw _ (List.mem_of_getElem? (i := 4) rfl))⟩)
  obtain ⟨w_DOWN, ev_DOWN⟩ := exa_v nn1
  have E_DOWN := Exa.start ev_DOWN nn1
  have S_DOWN := Sta.start ev_DOWN (Or.inr ⟨(hw _ (List.mem_of_getElem? (i := 3) rfl)), (hw _ (List.mem_of_getElem? (i := 7) rfl))⟩)
  obtain ⟨w_NO_DATA, ev_NO_DATA⟩ := exa_v nn2
  have E_NO_DATA := Exa.start ev_NO_DATA nn2
  have S_NO_DATA := Sta.start ev_NO_DATA (Or.inr ⟨(hw _ (List.mem_of_getElem? (i := 3) rfl)), (hw _ (List.mem_of_getElem? (i := 9) rfl))⟩)
  obtain ⟨w_SCALE_UP, ev_SCALE_UP⟩ := exa_v nn3
  have E_SCALE_UP := Exa.start ev_SCALE_UP nn3
  have S_SCALE_UP := Sta.start ev_SCALE_UP (Or.inr ⟨(hw _ (List.mem_of_getElem? (i := 3) rfl)), (hw _ (List.mem_of_getElem? (i := 11) rfl))⟩)
  obtain ⟨w_SCALE_DOWN, ev_SCALE_DOWN⟩ := exa_v nn4
  have E_SCALE_DOWN := Exa.start ev_SCALE_DOWN nn4
  have S_SCALE_DOWN := Sta.start ev_SCALE_DOWN (Or.inr ⟨(hw _ (List.mem_of_getElem? (i := 3) rfl)), (hw _ (List.mem_of_getElem? (i := 13) rfl))⟩)
  obtain ⟨w_AT_TARGET, ev_AT_TARGET⟩ := exa_v nn5
  have E_AT_TARGET := Exa.start ev_AT_TARGET nn5
  have S_AT_TARGET := Sta.start ev_AT_TARGET (Or.inr ⟨(hw _ (List.mem_of_getElem? (i := 3) rfl)), (hw _ (List.mem_of_getElem? (i := 15) rfl))⟩)
  obtain ⟨w_HELD, ev_HELD⟩ := exa_v nn6
  have E_HELD := Exa.start ev_HELD nn6
  have S_HELD := Sta.start ev_HELD (Or.inr ⟨(hw _ (List.mem_of_getElem? (i := 3) rfl)), (hw _ (List.mem_of_getElem? (i := 17) rfl))⟩)
  obtain ⟨w_COOLDOWN, ev_COOLDOWN⟩ := exa_v nn7
  have E_COOLDOWN := Exa.start ev_COOLDOWN nn7
  have S_COOLDOWN := Sta.start ev_COOLDOWN (Or.inr ⟨(hw _ (List.mem_of_getElem? (i := 3) rfl)), (hw _ (List.mem_of_getElem? (i := 19) rfl))⟩)
  obtain ⟨w_REJECTED, ev_REJECTED⟩ := exa_v nn8
  have E_REJECTED := Exa.start ev_REJECTED nn8
  have S_REJECTED := Sta.start ev_REJECTED (Or.inr ⟨(hw _ (List.mem_of_getElem? (i := 3) rfl)), (hw _ (List.mem_of_getElem? (i := 21) rfl))⟩)
  obtain ⟨w_BACKED_OFF, ev_BACKED_OFF⟩ := exa_v nn9
  have E_BACKED_OFF := Exa.start ev_BACKED_OFF nn9
  have S_BACKED_OFF := Sta.start ev_BACKED_OFF (Or.inr ⟨(hw _ (List.mem_of_getElem? (i := 3) rfl)), (hw _ (List.mem_of_getElem? (i := 23) rfl))⟩)
  obtain ⟨w_WATCHING, ev_WATCHING⟩ := exa_v nn10
  have E_WATCHING := Exa.start ev_WATCHING nn10
  have S_WATCHING := Sta.start ev_WATCHING (Or.inr ⟨(hw _ (List.mem_of_getElem? (i := 3) rfl)), (hw _ (List.mem_of_getElem? (i := 25) rfl))⟩)
  obtain ⟨w_DEFERRED, ev_DEFERRED⟩ := exa_v nn11
  have E_DEFERRED := Exa.start ev_DEFERRED nn11
  have S_DEFERRED := Sta.start ev_DEFERRED (Or.inr ⟨(hw _ (List.mem_of_getElem? (i := 3) rfl)), (hw _ (List.mem_of_getElem? (i := 27) rfl))⟩)
  obtain ⟨w_AWAITING_APPROVAL, ev_AWAITING_APPROVAL⟩ := exa_v nn12
  have E_AWAITING_APPROVAL := Exa.start ev_AWAITING_APPROVAL nn12
  have S_AWAITING_APPROVAL := Sta.start ev_AWAITING_APPROVAL (Or.inr ⟨(hw _ (List.mem_of_getElem? (i := 3) rfl)), (hw _ (List.mem_of_getElem? (i := 29) rfl))⟩)
  have D_SCALE_UP_ordinal : Fld s s.heap w_SCALE_UP "java/lang/Enum" "ordinal" "I" (.int (3 : Int32)) := Fld.start ((fld_at ev_SCALE_UP).symm.trans (eqi_v nn13))
  have D_UNOBSERVED_ordinal : Fld s s.heap w_UNOBSERVED "java/lang/Enum" "ordinal" "I" (.int (0 : Int32)) := Fld.start ((fld_at ev_UNOBSERVED).symm.trans (eqi_v nn14))
  have D_DOWN_ordinal : Fld s s.heap w_DOWN "java/lang/Enum" "ordinal" "I" (.int (1 : Int32)) := Fld.start ((fld_at ev_DOWN).symm.trans (eqi_v nn15))
  have D_NO_DATA_ordinal : Fld s s.heap w_NO_DATA "java/lang/Enum" "ordinal" "I" (.int (2 : Int32)) := Fld.start ((fld_at ev_NO_DATA).symm.trans (eqi_v nn16))
  have D_HELD_ordinal : Fld s s.heap w_HELD "java/lang/Enum" "ordinal" "I" (.int (6 : Int32)) := Fld.start ((fld_at ev_HELD).symm.trans (eqi_v nn17))
  have D_AT_TARGET_ordinal : Fld s s.heap w_AT_TARGET "java/lang/Enum" "ordinal" "I" (.int (5 : Int32)) := Fld.start ((fld_at ev_AT_TARGET).symm.trans (eqi_v nn18))
  have D_COOLDOWN_ordinal : Fld s s.heap w_COOLDOWN "java/lang/Enum" "ordinal" "I" (.int (7 : Int32)) := Fld.start ((fld_at ev_COOLDOWN).symm.trans (eqi_v nn19))
  have D_BACKED_OFF_ordinal : Fld s s.heap w_BACKED_OFF "java/lang/Enum" "ordinal" "I" (.int (9 : Int32)) := Fld.start ((fld_at ev_BACKED_OFF).symm.trans (eqi_v nn20))
  have D_DEFERRED_ordinal : Fld s s.heap w_DEFERRED "java/lang/Enum" "ordinal" "I" (.int (11 : Int32)) := Fld.start ((fld_at ev_DEFERRED).symm.trans (eqi_v nn21))
  have D_REJECTED_ordinal : Fld s s.heap w_REJECTED "java/lang/Enum" "ordinal" "I" (.int (8 : Int32)) := Fld.start ((fld_at ev_REJECTED).symm.trans (eqi_v nn22))
  have D_WATCHING_ordinal : Fld s s.heap w_WATCHING "java/lang/Enum" "ordinal" "I" (.int (10 : Int32)) := Fld.start ((fld_at ev_WATCHING).symm.trans (eqi_v nn23))
  have D_AWAITING_APPROVAL_ordinal : Fld s s.heap w_AWAITING_APPROVAL "java/lang/Enum" "ordinal" "I" (.int (12 : Int32)) := Fld.start ((fld_at ev_AWAITING_APPROVAL).symm.trans (eqi_v nn24))
  have D_SCALE_DOWN_ordinal : Fld s s.heap w_SCALE_DOWN "java/lang/Enum" "ordinal" "I" (.int (4 : Int32)) := Fld.start ((fld_at ev_SCALE_DOWN).symm.trans (eqi_v nn25))
  obtain ⟨n, o, h1, h2, h3, _, L, rfl, ⟨rfl, N⟩, hq⟩ := rm0 l s _ hw tables_1 i0 w_UNOBSERVED w_DOWN w_NO_DATA w_SCALE_UP w_SCALE_DOWN w_AT_TARGET w_HELD w_COOLDOWN w_REJECTED w_BACKED_OFF w_WATCHING w_DEFERRED w_AWAITING_APPROVAL s.heap s.heap.size (Nat.le_refl _) S_UNOBSERVED S_DOWN S_NO_DATA S_SCALE_UP S_SCALE_DOWN S_AT_TARGET S_HELD S_COOLDOWN S_REJECTED S_BACKED_OFF S_WATCHING S_DEFERRED S_AWAITING_APPROVAL E_UNOBSERVED E_DOWN E_NO_DATA E_SCALE_UP E_SCALE_DOWN E_AT_TARGET E_HELD E_COOLDOWN E_REJECTED E_BACKED_OFF E_WATCHING E_DEFERRED E_AWAITING_APPROVAL (Fld.ne D_UNOBSERVED_ordinal D_DOWN_ordinal (by decide)) (Fld.ne D_UNOBSERVED_ordinal D_NO_DATA_ordinal (by decide)) (Fld.ne D_UNOBSERVED_ordinal D_SCALE_UP_ordinal (by decide)) (Fld.ne D_UNOBSERVED_ordinal D_SCALE_DOWN_ordinal (by decide)) (Fld.ne D_UNOBSERVED_ordinal D_AT_TARGET_ordinal (by decide)) (Fld.ne D_UNOBSERVED_ordinal D_HELD_ordinal (by decide)) (Fld.ne D_UNOBSERVED_ordinal D_COOLDOWN_ordinal (by decide)) (Fld.ne D_UNOBSERVED_ordinal D_REJECTED_ordinal (by decide)) (Fld.ne D_UNOBSERVED_ordinal D_BACKED_OFF_ordinal (by decide)) (Fld.ne D_UNOBSERVED_ordinal D_WATCHING_ordinal (by decide)) (Fld.ne D_UNOBSERVED_ordinal D_DEFERRED_ordinal (by decide)) (Fld.ne D_UNOBSERVED_ordinal D_AWAITING_APPROVAL_ordinal (by decide)) (Fld.ne D_DOWN_ordinal D_NO_DATA_ordinal (by decide)) (Fld.ne D_DOWN_ordinal D_SCALE_UP_ordinal (by decide)) (Fld.ne D_DOWN_ordinal D_SCALE_DOWN_ordinal (by decide)) (Fld.ne D_DOWN_ordinal D_AT_TARGET_ordinal (by decide)) (Fld.ne D_DOWN_ordinal D_HELD_ordinal (by decide)) (Fld.ne D_DOWN_ordinal D_COOLDOWN_ordinal (by decide)) (Fld.ne D_DOWN_ordinal D_REJECTED_ordinal (by decide)) (Fld.ne D_DOWN_ordinal D_BACKED_OFF_ordinal (by decide)) (Fld.ne D_DOWN_ordinal D_WATCHING_ordinal (by decide)) (Fld.ne D_DOWN_ordinal D_DEFERRED_ordinal (by decide)) (Fld.ne D_DOWN_ordinal D_AWAITING_APPROVAL_ordinal (by decide)) (Fld.ne D_NO_DATA_ordinal D_SCALE_UP_ordinal (by decide)) (Fld.ne D_NO_DATA_ordinal D_SCALE_DOWN_ordinal (by decide)) (Fld.ne D_NO_DATA_ordinal D_AT_TARGET_ordinal (by decide)) (Fld.ne D_NO_DATA_ordinal D_HELD_ordinal (by decide)) (Fld.ne D_NO_DATA_ordinal D_COOLDOWN_ordinal (by decide)) (Fld.ne D_NO_DATA_ordinal D_REJECTED_ordinal (by decide)) (Fld.ne D_NO_DATA_ordinal D_BACKED_OFF_ordinal (by decide)) (Fld.ne D_NO_DATA_ordinal D_WATCHING_ordinal (by decide)) (Fld.ne D_NO_DATA_ordinal D_DEFERRED_ordinal (by decide)) (Fld.ne D_NO_DATA_ordinal D_AWAITING_APPROVAL_ordinal (by decide)) p e ha hc hk s m _ below hf ((Spec.applies_iff_loose hf).mp happ).1 ⟨rfl, State.Warmed39.refl s, rfl⟩ trivial
  refine ⟨n, _, h1, h2, h3, hpost _ _ _ _ _ _ ⟨Cond.after_iff.mpr rfl, Cond.after_iff.mpr (eq_i res_at (Term.int_eval (1)) rfl), trivial⟩ ⟨hq.1, hq.2.1, (hq.2.2.sift fun y hy => Or.inr (N y hy)).mono (by decide) (by decide)⟩⟩
theorem main_1_1 : Claimed_1_1 := comes_1 fun _ _ _ _ _ _ h hF => ⟨h.1, hF⟩
theorem main_1_2 : Claimed_1_2 := comes_1 fun _ _ _ _ _ _ h hF => ⟨h.2.1, hF⟩
end Jvm.Pilot.@@N@@
namespace Jvm.Pilot.@@N@@
open Jvm Jvm.ClassFile Sem Op Lib Jvm.Free Jvm.Stand Jvm.Pilot.@@N@@.Jvm.D
/-! MADE BY PROGRAM (witnessworld.py) out of the Statement's table words and the real class files: 13 classes; the members and pool entries that the words name. The judged class is class 1, her method 1. -/
namespace start1
open Jvm.ClassFile
def u (s : String) : CpInfo := .utf8 (stringToUtf16 s)
/-- a pool by its gaps: so many unusable entries, then the entry; so many at the end -/
def gap : Nat → List CpInfo → List CpInfo
  | 0, r => r
  | n + 1, r => .unusable :: gap n r
def poolList (es : List (Nat × CpInfo)) (last : Nat) : List CpInfo := es.foldr (fun e r => gap e.1 (e.2 :: r)) (gap last [])
def pool (es : List (Nat × CpInfo)) (last : Nat) : Array CpInfo := ⟨poolList es last⟩
def fileOf (pool : Array CpInfo) (this : Nat) (attrs : Array Attribute := #[]) (ms : Array MethodInfo := #[]) (fl : Nat := 33) (sup : Nat := 0) (ifs : Array Nat := #[]) (fds : Array FieldInfo := #[]) : ClassFile where
  minorVersion := 0
  majorVersion := 65
  constantPool := pool
  accessFlags := fl
  thisClass := this
  superClass := sup
  interfaces := ifs
  fields := fds
  methods := ms
  attributes := attrs
def plain (name : String) (sup : Option ClassId) : Class where
  name := name
  kind := .ordinary
  loader := none
  accessFlags := 33
  super := sup
  interfaces := #[]
  cf := none
  fields := #[]
  methods := #[]
  instanceTypes := #[]
  staticTypes := #[]
  resolved := #[]
  callSites := []
  init := .initialized
  statics := none
  mirror := none

def pool0 : Array CpInfo := pool [(5, u "<init>"), (0, u "()V"), (1, .class_ 10), (1, u "java/lang/Object")] 113

def k0m0 : Method := { name := "<init>", desc := "()V", sig := { parameters := [], returnType := none }, accessFlags := 1, code := none }
/-- java/lang/Object -/
def k0 : Class := { plain "java/lang/Object" none with
  accessFlags := 33
  interfaces := #[]
  cf := some (fileOf pool0 8 #[] #[{ accessFlags := 1, nameIndex := 5, descriptorIndex := 6, attributes := #[] }] 33 0 #[] #[])
  fields := #[]
  methods := #[k0m0]
  instanceTypes := #[]
  staticTypes := #[]
  resolved := Array.replicate 124 none
  statics := none }

def pool1 : Array CpInfo := pool [(2, .class_ 4), (1, u "java/lang/Object"), (0, u "<init>"), (0, u "()V"), (0, .class_ 8), (0, u "com/example/replica_scaler/replicascaler/decision/Outcome"), (0, .fieldref 7 10), (0, .nameAndType 11 12), (0, u "UNOBSERVED"), (0, u "Lcom/example/replica_scaler/replicascaler/decision/Outcome;"), (0, .fieldref 7 14), (0, .nameAndType 15 12), (0, u "DOWN"), (0, .fieldref 7 17), (0, .nameAndType 18 12), (0, u "NO_DATA"), (0, .fieldref 7 20), (0, .nameAndType 21 12), (0, u "SCALE_UP"), (0, .fieldref 7 23), (0, .nameAndType 24 12), (0, u "SCALE_DOWN"), (0, .fieldref 7 26), (0, .nameAndType 27 12), (0, u "AT_TARGET"), (0, .fieldref 7 29), (0, .nameAndType 30 12), (0, u "HELD"), (0, .fieldref 7 32), (0, .nameAndType 33 12), (0, u "COOLDOWN"), (0, .fieldref 7 35), (0, .nameAndType 36 12), (0, u "REJECTED"), (0, .fieldref 7 38), (0, .nameAndType 39 12), (0, u "BACKED_OFF"), (0, .fieldref 7 41), (0, .nameAndType 42 12), (0, u "WATCHING"), (0, .fieldref 7 44), (0, .nameAndType 45 12), (0, u "DEFERRED"), (0, .fieldref 7 47), (0, .nameAndType 48 12), (0, u "AWAITING_APPROVAL"), (0, .integer 2147483647), (0, .methodref 7 51), (0, .nameAndType 52 53), (0, u "lacksEvidence"), (0, u "()Z"), (0, .class_ 55), (0, u "com/example/replica_scaler/replicascaler/decision/OutcomeLacksEvidencePinLaw"), (2, u "law"), (0, u "(I)Z")] 5

def k1m0 : Method := { name := "<init>", desc := "()V", sig := { parameters := [], returnType := none }, accessFlags := 2, code := none }
def k1c1 : Code := { maxStack := 4, maxLocals := 4, code := code, exceptionTable := #[], attributes := #[] }
def k1m1 : Method := { name := "law", desc := "(I)Z", sig := { parameters := [.int], returnType := some .boolean }, accessFlags := 9, code := some k1c1 }
/-- com/example/replica_scaler/replicascaler/decision/OutcomeLacksEvidencePinLaw -/
def k1 : Class := { plain "com/example/replica_scaler/replicascaler/decision/OutcomeLacksEvidencePinLaw" (some 0) with
  accessFlags := 49
  interfaces := #[]
  cf := some (fileOf pool1 54 #[] #[{ accessFlags := 2, nameIndex := 5, descriptorIndex := 6, attributes := #[] }, { accessFlags := 9, nameIndex := 58, descriptorIndex := 59, attributes := #[] }] 49 2 #[] #[])
  fields := #[]
  methods := #[k1m0, k1m1]
  instanceTypes := #[]
  staticTypes := #[]
  resolved := Array.replicate 65 none
  statics := none }

def pool2 : Array CpInfo := pool [(1, .class_ 2), (0, u "java/lang/constant/Constable"), (0, .class_ 4), (0, u "java/lang/Object")] 6

/-- java/lang/constant/Constable -/
def k2 : Class := { plain "java/lang/constant/Constable" (some 0) with
  accessFlags := 1537
  interfaces := #[]
  cf := some (fileOf pool2 1 #[] #[] 1537 3 #[] #[])
  fields := #[]
  methods := #[]
  instanceTypes := #[]
  staticTypes := #[]
  resolved := Array.replicate 11 none
  statics := none }

def pool3 : Array CpInfo := pool [(1, .class_ 2), (0, u "java/lang/Comparable"), (0, .class_ 4), (0, u "java/lang/Object")] 7

/-- java/lang/Comparable -/
def k3 : Class := { plain "java/lang/Comparable" (some 0) with
  accessFlags := 1537
  interfaces := #[]
  cf := some (fileOf pool3 1 #[] #[] 1537 3 #[] #[])
  fields := #[]
  methods := #[]
  instanceTypes := #[]
  staticTypes := #[]
  resolved := Array.replicate 12 none
  statics := none }

def pool4 : Array CpInfo := pool [(1, .class_ 2), (0, u "java/io/Serializable"), (0, .class_ 4), (0, u "java/lang/Object")] 2

/-- java/io/Serializable -/
def k4 : Class := { plain "java/io/Serializable" (some 0) with
  accessFlags := 1537
  interfaces := #[]
  cf := some (fileOf pool4 1 #[] #[] 1537 3 #[] #[])
  fields := #[]
  methods := #[]
  instanceTypes := #[]
  staticTypes := #[]
  resolved := Array.replicate 7 none
  statics := none }

def pool5 : Array CpInfo := pool [(2, .class_ 4), (1, u "java/lang/Enum"), (0, u "name"), (0, u "Ljava/lang/String;"), (2, u "ordinal"), (0, u "I"), (1, .class_ 14), (1, u "java/lang/Object"), (4, u "hash"), (86, .class_ 108), (1, u "java/lang/Enum$EnumDesc"), (2, .class_ 112), (0, u "java/lang/constant/Constable"), (0, .class_ 114), (0, u "java/lang/Comparable"), (0, .class_ 116), (0, u "java/io/Serializable")] 87

/-- java/lang/Enum -/
def k5 : Class := { plain "java/lang/Enum" (some 0) with
  accessFlags := 1057
  interfaces := #[2, 3, 4]
  cf := some (fileOf pool5 2 #[.nestMembers #[106]] #[] 1057 12 #[111, 113, 115] #[{ accessFlags := 18, nameIndex := 5, descriptorIndex := 6, attributes := #[] }, { accessFlags := 18, nameIndex := 9, descriptorIndex := 10, attributes := #[] }, { accessFlags := 2, nameIndex := 19, descriptorIndex := 10, attributes := #[] }])
  fields := #[{ name := "name", type := (.object "java/lang/String"), accessFlags := 18, slot := 0, constantValue := 0 }, { name := "ordinal", type := .int, accessFlags := 18, slot := 1, constantValue := 0 }, { name := "hash", type := .int, accessFlags := 2, slot := 2, constantValue := 0 }]
  methods := #[]
  instanceTypes := #[(.object "java/lang/String"), .int, .int]
  staticTypes := #[]
  resolved := Array.replicate 204 none
  statics := none }

def pool6 : Array CpInfo := pool [(1, .class_ 2), (0, u "com/example/replica_scaler/replicascaler/decision/Outcome"), (0, .fieldref 1 4), (0, .nameAndType 5 6), (0, u "UNOBSERVED"), (0, u "Lcom/example/replica_scaler/replicascaler/decision/Outcome;"), (0, .fieldref 1 8), (0, .nameAndType 9 6), (0, u "DOWN"), (0, .fieldref 1 11), (0, .nameAndType 12 6), (0, u "NO_DATA"), (2, u "SCALE_UP"), (2, u "SCALE_DOWN"), (2, u "AT_TARGET"), (2, u "HELD"), (2, u "COOLDOWN"), (2, u "REJECTED"), (2, u "BACKED_OFF"), (2, u "WATCHING"), (2, u "DEFERRED"), (2, u "AWAITING_APPROVAL"), (2, u "$VALUES"), (0, u "[Lcom/example/replica_scaler/replicascaler/decision/Outcome;"), (6, .class_ 55), (1, u "java/lang/Enum"), (40, u "()Z"), (1, u "lacksEvidence")] 4

def k6c0 : Code := { maxStack := 2, maxLocals := 1, code := prog_17_method_6_code, exceptionTable := #[], attributes := #[] }
def k6m0 : Method := { name := "lacksEvidence", desc := "()Z", sig := { parameters := [], returnType := some .boolean }, accessFlags := 0, code := some k6c0 }
/-- com/example/replica_scaler/replicascaler/decision/Outcome -/
def k6 : Class := { plain "com/example/replica_scaler/replicascaler/decision/Outcome" (some 5) with
  accessFlags := 16433
  interfaces := #[]
  cf := some (fileOf pool6 1 #[] #[{ accessFlags := 0, nameIndex := 98, descriptorIndex := 96, attributes := #[] }] 16433 53 #[] #[{ accessFlags := 16409, nameIndex := 5, descriptorIndex := 6, attributes := #[] }, { accessFlags := 16409, nameIndex := 9, descriptorIndex := 6, attributes := #[] }, { accessFlags := 16409, nameIndex := 12, descriptorIndex := 6, attributes := #[] }, { accessFlags := 16409, nameIndex := 15, descriptorIndex := 6, attributes := #[] }, { accessFlags := 16409, nameIndex := 18, descriptorIndex := 6, attributes := #[] }, { accessFlags := 16409, nameIndex := 21, descriptorIndex := 6, attributes := #[] }, { accessFlags := 16409, nameIndex := 24, descriptorIndex := 6, attributes := #[] }, { accessFlags := 16409, nameIndex := 27, descriptorIndex := 6, attributes := #[] }, { accessFlags := 16409, nameIndex := 30, descriptorIndex := 6, attributes := #[] }, { accessFlags := 16409, nameIndex := 33, descriptorIndex := 6, attributes := #[] }, { accessFlags := 16409, nameIndex := 36, descriptorIndex := 6, attributes := #[] }, { accessFlags := 16409, nameIndex := 39, descriptorIndex := 6, attributes := #[] }, { accessFlags := 16409, nameIndex := 42, descriptorIndex := 6, attributes := #[] }, { accessFlags := 4122, nameIndex := 45, descriptorIndex := 46, attributes := #[] }])
  fields := #[{ name := "UNOBSERVED", type := (.object "com/example/replica_scaler/replicascaler/decision/Outcome"), accessFlags := 16409, slot := 0, constantValue := 0 }, { name := "DOWN", type := (.object "com/example/replica_scaler/replicascaler/decision/Outcome"), accessFlags := 16409, slot := 1, constantValue := 0 }, { name := "NO_DATA", type := (.object "com/example/replica_scaler/replicascaler/decision/Outcome"), accessFlags := 16409, slot := 2, constantValue := 0 }, { name := "SCALE_UP", type := (.object "com/example/replica_scaler/replicascaler/decision/Outcome"), accessFlags := 16409, slot := 3, constantValue := 0 }, { name := "SCALE_DOWN", type := (.object "com/example/replica_scaler/replicascaler/decision/Outcome"), accessFlags := 16409, slot := 4, constantValue := 0 }, { name := "AT_TARGET", type := (.object "com/example/replica_scaler/replicascaler/decision/Outcome"), accessFlags := 16409, slot := 5, constantValue := 0 }, { name := "HELD", type := (.object "com/example/replica_scaler/replicascaler/decision/Outcome"), accessFlags := 16409, slot := 6, constantValue := 0 }, { name := "COOLDOWN", type := (.object "com/example/replica_scaler/replicascaler/decision/Outcome"), accessFlags := 16409, slot := 7, constantValue := 0 }, { name := "REJECTED", type := (.object "com/example/replica_scaler/replicascaler/decision/Outcome"), accessFlags := 16409, slot := 8, constantValue := 0 }, { name := "BACKED_OFF", type := (.object "com/example/replica_scaler/replicascaler/decision/Outcome"), accessFlags := 16409, slot := 9, constantValue := 0 }, { name := "WATCHING", type := (.object "com/example/replica_scaler/replicascaler/decision/Outcome"), accessFlags := 16409, slot := 10, constantValue := 0 }, { name := "DEFERRED", type := (.object "com/example/replica_scaler/replicascaler/decision/Outcome"), accessFlags := 16409, slot := 11, constantValue := 0 }, { name := "AWAITING_APPROVAL", type := (.object "com/example/replica_scaler/replicascaler/decision/Outcome"), accessFlags := 16409, slot := 12, constantValue := 0 }, { name := "$VALUES", type := (.array (.object "com/example/replica_scaler/replicascaler/decision/Outcome")), accessFlags := 4122, slot := 13, constantValue := 0 }]
  methods := #[k6m0]
  instanceTypes := #[(.object "java/lang/String"), .int, .int]
  staticTypes := #[(.object "com/example/replica_scaler/replicascaler/decision/Outcome"), (.object "com/example/replica_scaler/replicascaler/decision/Outcome"), (.object "com/example/replica_scaler/replicascaler/decision/Outcome"), (.object "com/example/replica_scaler/replicascaler/decision/Outcome"), (.object "com/example/replica_scaler/replicascaler/decision/Outcome"), (.object "com/example/replica_scaler/replicascaler/decision/Outcome"), (.object "com/example/replica_scaler/replicascaler/decision/Outcome"), (.object "com/example/replica_scaler/replicascaler/decision/Outcome"), (.object "com/example/replica_scaler/replicascaler/decision/Outcome"), (.object "com/example/replica_scaler/replicascaler/decision/Outcome"), (.object "com/example/replica_scaler/replicascaler/decision/Outcome"), (.object "com/example/replica_scaler/replicascaler/decision/Outcome"), (.object "com/example/replica_scaler/replicascaler/decision/Outcome"), (.array (.object "com/example/replica_scaler/replicascaler/decision/Outcome"))]
  resolved := Array.replicate 103 none
  statics := some 0 }

def pool7 : Array CpInfo := pool [(1, u "java/lang/Cloneable"), (0, .class_ 1), (0, u "java/lang/Object"), (0, .class_ 3)] 3

/-- java/lang/Cloneable -/
def k7 : Class := { plain "java/lang/Cloneable" (some 0) with
  accessFlags := 1537
  interfaces := #[]
  cf := some (fileOf pool7 2 #[] #[] 1537 4 #[] #[])
  fields := #[]
  methods := #[]
  instanceTypes := #[]
  staticTypes := #[]
  resolved := Array.replicate 8 none
  statics := none }

/-- the primitive byte -/
def k8 : Class := { plain "byte" none with kind := .primitive 'B', accessFlags := 0x411 }
/-- [B -/
def k9 : Class := { plain "[B" (some 0) with kind := .array 8 .byte, interfaces := #[7, 4], accessFlags := 1041 }

/-- the primitive int -/
def k10 : Class := { plain "int" none with kind := .primitive 'I', accessFlags := 0x411 }
/-- [I -/
def k11 : Class := { plain "[I" (some 0) with kind := .array 10 .int, interfaces := #[7, 4], accessFlags := 1041 }

/-- [Lcom/example/replica_scaler/replicascaler/decision/Outcome; -/
def k12 : Class := { plain "[Lcom/example/replica_scaler/replicascaler/decision/Outcome;" (some 0) with kind := .array 6 (.object "com/example/replica_scaler/replicascaler/decision/Outcome"), interfaces := #[7, 4], accessFlags := 1041 }

def heap : Heap := #[{ cls := 6, slots := #[.ref 1, .ref 2, .ref 3, .ref 4, .ref 5, .ref 6, .ref 7, .ref 8, .ref 9, .ref 10, .ref 11, .ref 12, .ref 13, .null], vm := .statics 6 },
  { cls := 6, slots := #[.null, .int 0, .int 0], vm := .none },
  { cls := 6, slots := #[.null, .int 1, .int 0], vm := .none },
  { cls := 6, slots := #[.null, .int 2, .int 0], vm := .none },
  { cls := 6, slots := #[.null, .int 3, .int 0], vm := .none },
  { cls := 6, slots := #[.null, .int 4, .int 0], vm := .none },
  { cls := 6, slots := #[.null, .int 5, .int 0], vm := .none },
  { cls := 6, slots := #[.null, .int 6, .int 0], vm := .none },
  { cls := 6, slots := #[.null, .int 7, .int 0], vm := .none },
  { cls := 6, slots := #[.null, .int 8, .int 0], vm := .none },
  { cls := 6, slots := #[.null, .int 9, .int 0], vm := .none },
  { cls := 6, slots := #[.null, .int 10, .int 0], vm := .none },
  { cls := 6, slots := #[.null, .int 11, .int 0], vm := .none },
  { cls := 6, slots := #[.null, .int 12, .int 0], vm := .none }]
def classes : Array Class := #[k0, k1, k2, k3, k4, k5, k6, k7, k8, k9, k10, k11, k12]
def interned : List (Array UInt16 × Addr) := []
def slotsUsed : Nat := 53
def theMethod : MethodId := ⟨1, 1⟩
def args0 : Array Value := #[.int 5]
def aboutOver (below : List Frame) : State where
  vm := { classes := classes, interned := interned.toArray }
  heap := heap
  slotsUsed := slotsUsed
  threads := #[{ frames := .invoking theMethod args0 :: below }]
def below0 : List Frame := [.native { method := ⟨0, 0⟩, args := #[] }]
def about1 : State := aboutOver below0
def p0 : Program := .bare "" "" ""
def e0 : Env := launch0.env 0 0 0
theorem w_frames : about1.frames = Frame.invoking theMethod args0 :: below0 := rfl
set_option maxRecDepth 65536 in
theorem w_args : argsFit about1.vm theMethod args0 = true := by decide +kernel
set_option maxRecDepth 65536 in
theorem w_heap : heapFits about1 = true := by decide +kernel
set_option maxRecDepth 65536 in
theorem w_runnable : about1.curStatus? = some .runnable := by decide +kernel
set_option maxRecDepth 65536 in
theorem w_alone : about1.alone = true := by decide +kernel
set_option maxRecDepth 65536 in
theorem w_named : about1.methodNamed? x = some theMethod := by decide +kernel
set_option maxRecDepth 65536 in
theorem w_hears : about1.hears theMethod below0 = true := by decide +kernel
set_option maxRecDepth 65536 in
theorem w_ripe : about1.ripe theMethod args0 below0 = true := by decide +kernel
theorem w_running : about1.status = .running := rfl
set_option maxRecDepth 65536 in
theorem w_room : about1.hasRoom e0.platform room_1 = true :=
  launch0.hasRoom_least _ room_1 (by decide +kernel) (by decide +kernel) (by decide +kernel) (by decide +kernel) (by decide +kernel) (by decide +kernel)
theorem allAtoms_all (ts : List Jvm.Cond) (a : Array Jvm.Value) (st : Jvm.State) : (allAtoms ts).before a st = ts.all (fun c => c.before a st) := by
  induction ts with
  | nil => rfl
  | cons c t ih =>
    show (Jvm.Cond.and c (allAtoms t)).before a st = _
    rw [Jvm.Cond.before_and, ih, List.all_cons]
def words1 : List Jvm.Cond := Jvm.Cond.code x code maxLocals ret :: tables_1
/-- a 'code' word, met by the world's own term for the bytes: nothing is compared byte by byte -/
theorem code_word {y : MethodName} {bytes : ByteArray} {mx : Nat} {rt : Option FieldType} {a : Array Value} {s : State} {m : MethodId} {meth : Method} {c : Code} (h1 : s.methodNamed? y = some m) (h2 : s.vm.method? m = some meth) (h3 : meth.code = some c) (h4 : c.code = bytes)
    (h5 : (c.maxLocals == mx && c.exceptionTable.isEmpty && decide (c.maxStack ≤ mostOperands) && decide (meth.sig.returnType = rt) && !meth.locks && decide (parseMethodDescriptor y.desc = some meth.sig)) = true) : (Jvm.Cond.code y bytes mx rt).before a s = true := by
  simp only [Bool.and_eq_true, beq_iff_eq, Bool.not_eq_true', decide_eq_true_eq] at h5
  obtain ⟨⟨⟨⟨⟨g1, g2⟩, g3⟩, g4⟩, g5⟩, g6⟩ := h5
  simp [Cond.before, Cond.holds, Cond.value, h1, h2, h3, h4, g1, g2, g3, g4, g5, g6]
def isCode : Jvm.Cond → Bool
  | .code _ _ _ _ => true
  | _ => false
theorem all_split {L : List Jvm.Cond} {P : Jvm.Cond → Bool} (h1 : L.all (fun c => isCode c || P c) = true) (h2 : ∀ c ∈ L.filter isCode, P c = true) : L.all P = true := by
  refine List.all_eq_true.mpr fun c hc => ?_
  have h := List.all_eq_true.mp h1 c hc
  rcases Bool.eq_false_or_eq_true (isCode c) with hi | hi
  · exact h2 c (List.mem_filter.mpr ⟨hc, hi⟩)
  · simpa [hi] using h
set_option maxRecDepth 65536 in
theorem w_c0 : (Jvm.Cond.code x code maxLocals ret).before args0 about1 = true := code_word (m := ⟨1, 1⟩) (meth := k1m1) (c := k1c1) (by decide +kernel) rfl rfl rfl (by decide +kernel)
set_option maxRecDepth 65536 in
theorem w_c1 : (Jvm.Cond.code ({ cls := "com/example/replica_scaler/replicascaler/decision/Outcome", name := "lacksEvidence", desc := "()Z" } : Jvm.MethodName) prog_17_method_6_code (1 : Nat) (Option.some Jvm.ClassFile.FieldType.boolean)).before args0 about1 = true := code_word (m := ⟨6, 0⟩) (meth := k6m0) (c := k6c0) (by decide +kernel) rfl rfl rfl (by decide +kernel)
def codes1 : List Jvm.Cond := [Jvm.Cond.code x code maxLocals ret, Jvm.Cond.code ({ cls := "com/example/replica_scaler/replicascaler/decision/Outcome", name := "lacksEvidence", desc := "()Z" } : Jvm.MethodName) prog_17_method_6_code (1 : Nat) (Option.some Jvm.ClassFile.FieldType.boolean)]
set_option maxRecDepth 65536 in
theorem codes_eq : words1.filter isCode = codes1 := rfl
theorem w_codes : ∀ c ∈ words1.filter isCode, c.before args0 about1 = true := by
  rw [codes_eq]
  intro c hc
  simp only [codes1, List.mem_cons, List.not_mem_nil, or_false] at hc
  rcases hc with rfl | rfl
  · exact w_c0
  · exact w_c1
set_option maxRecDepth 65536 in
theorem w_t1 : (words1.take 24).all (fun c => isCode c || c.before args0 about1) = true := by decide +kernel
set_option maxRecDepth 65536 in
theorem w_t2 : (words1.drop 24).all (fun c => isCode c || c.before args0 about1) = true := by decide +kernel
theorem w_tables : (allAtoms (Jvm.Cond.code x code maxLocals ret :: tables_1)).before args0 about1 = true := by
  rw [allAtoms_all]
  show words1.all (fun c => c.before args0 about1) = true
  refine all_split ?_ w_codes
  rw [← List.take_append_drop 24 words1, List.all_append, w_t1, w_t2]
  rfl
set_option maxRecDepth 65536 in
theorem w_case : (Jvm.Cond.and given_1 narrow_1).before args0 about1 = true := by decide +kernel
theorem w_applies : (headSpec (Jvm.Cond.code x code maxLocals ret :: tables_1) room_1).applies x e0.platform about1 = true :=
  (Spec.applies_iff w_frames).mpr ⟨w_running, w_runnable, w_alone, w_named, w_hears, w_ripe, w_room, w_tables⟩
theorem atStart : AtStart classFile x code maxLocals ret World_1 tables_1 room_1 Calls_1 rest_1 Pre_1 launch0 p0 e0 about1 theMethod args0 below0 :=
  ⟨lists_1, trivial, launch0.admits_env _ _ _, launch0.least_env, fairChoices_fair.cas, fairChoices_fair.clock, w_frames, w_args, w_heap, w_applies, trivial, trivial, w_case⟩
end start1
theorem witness_1 : WitnessClaimed_1 := ⟨start1.p0, start1.e0, start1.about1, start1.theMethod, start1.args0, start1.below0, start1.atStart⟩
end Jvm.Pilot.@@N@@
