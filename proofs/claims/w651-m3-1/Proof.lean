import JvmDerived
import JvmDerived.Pilot.@@N@@Statement
import JvmDerived.Pilot.@@N@@Code
set_option linter.unusedVariables false
set_option linter.unusedSimpArgs false
namespace Jvm.Pilot.@@N@@
open Jvm Jvm.ClassFile Sem Op Lib Jvm.Free Jvm.Stand Jvm.LawKit Jvm.RoadKit Bundle Jvm.Pilot.@@N@@.Jvm.D
section Own0
theorem own_fld_to {Z : State} {h : Heap} {a : Addr} {C n d : String} {v v' : Value} (F : Fld Z h a C n d v) (q : v = v') : Fld Z h a C n d v' := q ▸ F
theorem own_sta_keep {Z : State} {h h' : Heap} {C n d : String} {v : Value} {ws : List Addr} (F : Sta Z h C n d v) (K : Keep h h' ws) (q : ∀ x ∈ ws, ∀ c : Cell, h[x]? = some c → c.vm.isStatics = false) : Sta Z h' C n d v := by
  obtain ⟨cf, i, k, f, st, cell, h1, h2, h3, h4, h5, h6, h7⟩ := F
  exact ⟨cf, i, k, f, st, cell, h1, h2, h3, h4, K.2.1 st cell h5 (fun y => by rw [q st y cell h5] at h6; cases h6), h6, h7⟩
theorem own_ins_keep {Z : State} {h h' : Heap} {a : Addr} {C : String} {bo : Bool} {ws : List Addr} (F : Ins Z h a C bo) (K : Keep h h' ws) : Ins Z h' a C bo := by
  obtain ⟨cell, cT, h1, h2, h3⟩ := F
  obtain ⟨c', e1, e2, e3, -⟩ := K.2.2 a cell h1
  exact ⟨c', cT, e1, h2, by rw [e2, e3]; exact h3⟩
theorem notsta_exa {Z : State} {h : Heap} {a : Addr} {C : String} (F : Exa Z h a C) : ∀ c : Cell, h[a]? = some c → c.vm.isStatics = false := fun c hc => by
  obtain ⟨cell, _, h1, -, -, h4, -⟩ := F
  cases hc.symm.trans h1; exact h4
theorem eqi_v {args : Array Value} {first s : State} {o : Option Outcome} {idx : List Nat} {a : Term} {k : Int32} (h : (Cond.eq a (.int k)).value args first o s idx = some true) : a.eval args first o idx s = some (.int k) := by
  obtain ⟨x, y, e1, e2, k1, k2⟩ := cmp_v (Or.inl h)
  have e3 : (Term.int k).eval args first o idx s = some (.int k) := rfl
  cases e3.symm.trans e2
  cases x <;> simp [Cond.value, e1, e3] at h
  rw [e1, h]
end Own0
section Own
variable {p : Program} {l : Launch} {e : Env} {R : Room} {s : State} {m : MethodId} {args : Array Value} {below : List Frame} {meth : Method} {c : Code} {T T' : State} {locs : List Loc} {cells slots : Nat} {Z : State} {h h' : Heap} {Q : Option Value → Heap → List Loc → Prop} {kc ks : Nat} {a b : Addr}
/-- from T the method comes to its end, and Q holds of what it returns, of the heap and of the written places -/
def Goes (p : Program) (e : Env) (below : List Frame) (s : State) (Q : Option Value → Heap → List Loc → Prop) (kc ks : Nat) (T : State) : Prop :=
  ∃ s₂ o, Steps p.tables e below T s₂ ∧ s₂.status = .running ∧ Ended s₂ below o ∧ ∃ v L, o = .returned v ∧ Q v s₂.heap L ∧ FrameEnd s o s₂ L kc ks
theorem Goes.step (st : ∀ t, Steps p.tables e below T' t → Steps p.tables e below T t) (k : Goes p e below s Q kc ks T') : Goes p e below s Q kc ks T := by
  obtain ⟨s₂, o, h1, h2⟩ := k; exact ⟨s₂, o, st _ h1, h2⟩
theorem Goes.ret (X : Stand p l e R s m args below meth c T locs cells slots) {v : Option Value} (hv : meth.sig.returnType = none → v = none) (hlocks : meth.locks = false) {T₀ : State}
    (st : ∀ fs, (∀ (f : JFrame) (acts : List Action), f.method = m → f.locked = none → f.entered = [] → (doReturn e (T.setTop f) acts v).1 = T.setFrames fs) → Steps p.tables e below T₀ (T.setFrames fs))
    (hq : Q v T.heap locs) (hc : cells ≤ kc) (hs : slots ≤ ks) : Goes p e below s Q kc ks T₀ := by
  obtain ⟨fs, hr, hrun, hended, hW, hsame⟩ := X.leave (v := v) hv hlocks
  exact ⟨_, _, st fs hr, hrun, hended, _, _, rfl, hq, ⟨_, rfl⟩, hW, hsame.mono hc hs⟩
theorem Goes.retZ (X : Stand p l e R s m args below meth c T locs cells slots) (hx : p.tables.exec = Jvm.exec) (hlocks : meth.locks = false) {pc : Nat} {Ls : Array Slot} {z r : Int32} {t : FieldType} {rest : List Value} (hret : meth.sig.returnType = some t) (ht : t = .boolean ∨ t = .byte ∨ t = .char ∨ t = .short)
    (hd : decode c.code pc = .ok (.ireturn, 1)) (hz : nar t z = r) (hq : Q (some (.int r)) T.heap locs) (hc : cells ≤ kc) (hs : slots ≤ ks) : Goes p e below s Q kc ks (T.setTop (mkF m pc Ls (.int z :: rest))) := by
  subst hz
  exact Goes.ret X (fun h => by rw [hret] at h; cases h) hlocks (fun fs hr => retN X hx hret ht hd hr) hq hc hs
theorem Goes.retI (X : Stand p l e R s m args below meth c T locs cells slots) (hx : p.tables.exec = Jvm.exec) (hlocks : meth.locks = false) {pc : Nat} {Ls : Array Slot} {z r : Int32} {rest : List Value} (hret : meth.sig.returnType = some .int)
    (hd : decode c.code pc = .ok (.ireturn, 1)) (hz : z = r) (hq : Q (some (.int r)) T.heap locs) (hc : cells ≤ kc) (hs : slots ≤ ks) : Goes p e below s Q kc ks (T.setTop (mkF m pc Ls (.int z :: rest))) := by
  subst hz
  exact Goes.ret X (fun h => by rw [hret] at h; cases h) hlocks (fun fs hr => retOut X hx hret rfl (Or.inl ⟨rfl, Or.inl rfl, z, rfl⟩) hd hr) hq hc hs
theorem Goes.retJ (X : Stand p l e R s m args below meth c T locs cells slots) (hx : p.tables.exec = Jvm.exec) (hlocks : meth.locks = false) {pc : Nat} {Ls : Array Slot} {z r : Int64} {rest : List Value} (hret : meth.sig.returnType = some .long)
    (hd : decode c.code pc = .ok (.lreturn, 1)) (hz : z = r) (hq : Q (some (.long r)) T.heap locs) (hc : cells ≤ kc) (hs : slots ≤ ks) : Goes p e below s Q kc ks (T.setTop (mkF m pc Ls (.long z :: rest))) := by
  subst hz
  exact Goes.ret X (fun h => by rw [hret] at h; cases h) hlocks (fun fs hr => retOut X hx hret rfl (Or.inr (Or.inl ⟨rfl, rfl, z, rfl⟩)) hd hr) hq hc hs
theorem Goes.retD (X : Stand p l e R s m args below meth c T locs cells slots) (hx : p.tables.exec = Jvm.exec) (hlocks : meth.locks = false) {pc : Nat} {Ls : Array Slot} {z r : UInt64} {rest : List Value} (hret : meth.sig.returnType = some .double)
    (hd : decode c.code pc = .ok (.dreturn, 1)) (hz : z = r) (hq : Q (some (.double r)) T.heap locs) (hc : cells ≤ kc) (hs : slots ≤ ks) : Goes p e below s Q kc ks (T.setTop (mkF m pc Ls (.double z :: rest))) := by
  subst hz
  exact Goes.ret X (fun h => by rw [hret] at h; cases h) hlocks (fun fs hr => retOut X hx hret rfl (Or.inr (Or.inr (Or.inl ⟨rfl, rfl, z, rfl⟩))) hd hr) hq hc hs
theorem Goes.retR (X : Stand p l e R s m args below meth c T locs cells slots) (hx : p.tables.exec = Jvm.exec) (hlocks : meth.locks = false) {pc : Nat} {Ls : Array Slot} {z r : Value} {t : FieldType} {rest : List Value} (hret : meth.sig.returnType = some t) (ht : t.isReference = true) (hn : narrow t z = z) (hw : z.isRef = true)
    (hd : decode c.code pc = .ok (.areturn, 1)) (hz : z = r) (hq : Q (some r) T.heap locs) (hc : cells ≤ kc) (hs : slots ≤ ks) : Goes p e below s Q kc ks (T.setTop (mkF m pc Ls (z :: rest))) := by
  subst hz
  exact Goes.ret X (fun h => by rw [hret] at h; cases h) hlocks (fun fs hr => retOut X hx hret hn (Or.inr (Or.inr (Or.inr (Or.inr ⟨rfl, ht, hw⟩)))) hd hr) hq hc hs
theorem Goes.retV (X : Stand p l e R s m args below meth c T locs cells slots) (hx : p.tables.exec = Jvm.exec) (hlocks : meth.locks = false) {pc : Nat} {Ls : Array Slot} (hret : meth.sig.returnType = none)
    (hd : decode c.code pc = .ok (.return_, 1)) (hq : Q none T.heap locs) (hc : cells ≤ kc) (hs : slots ≤ ks) : Goes p e below s Q kc ks (T.setTop (mkF m pc Ls [])) :=
  Goes.ret X (fun _ => rfl) hlocks (fun fs hr => X.returnOut hx hret hd hr) hq hc hs
/-- the array at a holds vs -/
def Ara (Z : State) (h : Heap) (a : Addr) (ty : FieldType) (vs : List Value) : Prop := ∃ cl : Cell, Arr Z h a cl ty ∧ cl.slots.toList = vs ∧ vs.length < 2 ^ 31 ∧ (∀ v ∈ vs, fits ty v = true) ∧ ∀ C, ty = .object C → Ovr Z cl.cls C
variable {ty : FieldType} {vs : List Value} {sl : Nat} {v : Value} {ws : List Addr}
theorem Ara.lt (F : Ara Z h a ty vs) : a < h.size := by obtain ⟨c, A, -⟩ := F; exact A.lt
theorem Ara.ext (F : Ara Z h a ty vs) (E : Ext h h') : Ara Z h' a ty vs := by obtain ⟨c, A, r⟩ := F; exact ⟨c, A.ext E, r⟩
theorem Ara.other (F : Ara Z h b ty vs) (W : Wr h h' a sl v) (q : b ≠ a) : Ara Z h' b ty vs := by obtain ⟨c, A, r⟩ := F; exact ⟨c, A.other W q, r⟩
theorem Ara.keep (F : Ara Z h a ty vs) (K : Keep h h' ws) (q : a ∉ ws) : Ara Z h' a ty vs := by obtain ⟨c, A, r⟩ := F; exact ⟨c, ⟨K.2.1 a c A.1 q, A.2⟩, r⟩
theorem fits_dflt (ty : FieldType) : fits ty (defaultValue ty) = true := by cases ty <;> rfl
theorem Ara.new {k : ClassId} {z : Int32} (A : Arr Z h a (newA k ty z) ty) (q : ¬ z < 0) (e : List.replicate z.toNatClampNeg (defaultValue ty) = vs) (O : ∀ C, ty = .object C → Ovr Z k C) : Ara Z h a ty vs := by
  subst e
  refine ⟨_, A, by simp [newA], by simpa using (back32 q).2, fun v hv => ?_, O⟩
  rw [(List.mem_replicate.mp hv).2]; exact fits_dflt ty
theorem Ara.same {j : Int32} {cl : Cell} (A : Arr Z h a cl ty) (e : cl.slots.toList = vs) (hl : vs.length < 2 ^ 31) (hf : ∀ v ∈ vs, fits ty v = true) (O : ∀ C, ty = .object C → Ovr Z cl.cls C) (hv : fits ty v = true) (W : Wr h h' a j.toNatClampNeg v) : Ara Z h' a ty (vs.set j.toNatClampNeg v) := by
  refine ⟨_, A.same W, by simp [Cell.setSlot, ← e], by simpa using hl, fun u hu => ?_, O⟩
  rcases List.mem_or_eq_of_mem_set hu with q | q
  · exact hf u q
  · rw [q]; exact hv
theorem inb {j : Int32} {cl : Cell} (e : cl.slots.toList = vs) (h0 : ¬ j < 0) (hj : j.toNatClampNeg < vs.length) : ¬ (j < 0 ∨ cl.slots.size ≤ j.toNatClampNeg) := by
  rintro (q | q)
  · exact h0 q
  · rw [← e] at hj; simp at hj; omega
theorem getb {j : Int32} {cl : Cell} (e : cl.slots.toList = vs) (hv : vs[j.toNatClampNeg]? = some v) : cl.slots[j.toNatClampNeg]? = some v := by rw [← e] at hv; simpa using hv
theorem ltb {n : Nat} (hv : vs[n]? = some v) : n < vs.length := (List.getElem?_eq_some_iff.mp hv).1
theorem lenb {cl : Cell} (e : cl.slots.toList = vs) : cl.slots.size = vs.length := by rw [← e]; simp
theorem notsta_ara (F : Ara Z h a ty vs) : ∀ c : Cell, h[a]? = some c → c.vm.isStatics = false := fun c hc => by
  obtain ⟨cl, A, -⟩ := F
  cases hc.symm.trans A.1; exact A.plain
theorem Ara.to {vs' : List Value} (F : Ara Z h a ty vs) (q : vs = vs') : Ara Z h a ty vs' := q ▸ F
end Own
section OwnW
variable {p : Program} {l : Launch} {e : Env} {R : Room} {s : State} {m : MethodId} {args : Array Value} {below : List Frame} {meth : Method} {c : Code} {T T' : State} {locs : List Loc} {cells slots : Nat} {Z : State} {h h' : Heap} {Q : Option Value → Heap → List Loc → Prop} {kc ks : Nat} {a b : Addr}
/-- as Goes, the tables at the end under the wide word (String constants may have been interned) -/
def GoesW (p : Program) (e : Env) (below : List Frame) (s : State) (Q : Option Value → Heap → List Loc → Prop) (kc ks : Nat) (T : State) : Prop :=
  ∃ s₂ o, Steps p.tables e below T s₂ ∧ s₂.status = .running ∧ Ended s₂ below o ∧ ∃ v L, o = .returned v ∧ Q v s₂.heap L ∧ ReturnedEndW s o s₂ L kc ks
theorem GoesW.step (st : ∀ t, Steps p.tables e below T' t → Steps p.tables e below T t) (k : GoesW p e below s Q kc ks T') : GoesW p e below s Q kc ks T := by
  obtain ⟨s₂, o, h1, h2⟩ := k; exact ⟨s₂, o, st _ h1, h2⟩
theorem GoesW.of (k : Goes p e below s Q kc ks T) : GoesW p e below s Q kc ks T := by
  obtain ⟨s₂, o, h1, h2, h3, v, L, h4, h5, h6⟩ := k
  exact ⟨s₂, o, h1, h2, h3, v, L, h4, h5, ReturnedEndW.of_narrow h6.1 h6.2.1 h6.2.2⟩
theorem GoesW.retZ0 (X : Stand p l e R s m args below meth c T locs cells slots) (hx : p.tables.exec = Jvm.exec) (hlocks : meth.locks = false) {pc : Nat} {Ls : Array Slot} {z r : Int32} {t : FieldType} {rest : List Value} (hret : meth.sig.returnType = some t) (ht : t = .boolean ∨ t = .byte ∨ t = .char ∨ t = .short)
    (hd : decode c.code pc = .ok (.ireturn, 1)) (hz : nar t z = r) (hq : Q (some (.int r)) T.heap locs) (hc : cells ≤ kc) (hs : slots ≤ ks) : GoesW p e below s Q kc ks (T.setTop (mkF m pc Ls (.int z :: rest))) := GoesW.of (Goes.retZ X hx hlocks hret ht hd hz hq hc hs)
theorem GoesW.retZ1 {vm₁ : Vm} (X : Stand p l e R (s.setVm vm₁) m args below meth c T locs cells slots) (hx : p.tables.exec = Jvm.exec) (hlocks : meth.locks = false) {pc : Nat} {Ls : Array Slot} {z r : Int32} {t : FieldType} {rest : List Value} (hret : meth.sig.returnType = some t) (ht : t = .boolean ∨ t = .byte ∨ t = .char ∨ t = .short)
    (hd : decode c.code pc = .ok (.ireturn, 1)) (hz : nar t z = r) (hq : Q (some (.int r)) T.heap locs) (hc : cells ≤ kc) (hs : slots ≤ ks) {n : Nat} (hS : s.Since vm₁ n) (hn : n ≤ T.heap.size) : GoesW p e below s Q kc ks (T.setTop (mkF m pc Ls (.int z :: rest))) := by
  subst hz
  obtain ⟨fs, hr, hrun, hended, hE⟩ := X.leaveW hS hn (v := some (.int (nar t z))) (fun h => by rw [hret] at h; cases h) hlocks
  exact ⟨_, _, retN X hx hret ht hd hr, hrun, hended, _, _, rfl, hq, hE.1, hE.2.1, hE.2.2.1, hE.2.2.2.mono hc hs⟩
theorem own_since (s : State) (n : Nat) : s.Since s.vm n := (State.WarmedH.refl s).since n
theorem own_ara {k : ClassId} {ty : FieldType} {vs : List Value} {N : Int32} {d : Value} (F : Arv Z h a k ty N vs d) (hl : N.toNatClampNeg = vs.length) (ho : ∀ C, ty ≠ .object C := by intro C q; cases q) : Ara Z h a ty vs := by
  obtain ⟨c, A, rfl, sz, hN, H, G⟩ := F
  have sz' : c.slots.size = vs.length := by rw [sz, hl]
  refine ⟨c, A, ?_, by rw [← hl]; exact (back32 hN).2, fun v hv => ?_, fun C q => absurd q (ho C)⟩
  · apply List.ext_getElem?
    intro i
    rw [Array.getElem?_toList]
    by_cases hi : i < c.slots.size
    · rw [H i hi]; simp [List.getD, show i < vs.length by omega]
    · rw [Array.getElem?_eq_none (by omega), List.getElem?_eq_none (by omega)]
  · obtain ⟨i, hi, rfl⟩ := List.getElem_of_mem hv
    have := G i (by omega)
    simpa [List.getD, hi] using this
end OwnW

theorem own_len {s : State} {args : Array Value} {t : Term} {a : Addr} {cl : Cell} {ty : FieldType} {k : Int32} (ev : t.eval args s none [] s = some (.ref a)) (A : Arr s s.heap a cl ty) (h : (Cond.eq (Term.length t) (.int k)).value args s none s [] = some true) : cl.slots.size.toInt32 = k ∧ cl.slots.size < 2 ^ 31 := by
  have e := eqi_v h
  have ha : s.arrayAt? a = some cl := Arr.fin (Vm.Alike.refl _) A
  have e2 : (Term.length t).eval args s none [] s = (if cl.slots.size < 2 ^ 31 then some (Value.int cl.slots.size.toInt32) else none) := by
    simp only [Term.eval, ev]
    change (s.arrayAt? a).bind (fun c => if c.slots.size < 2 ^ 31 then some (Value.int c.slots.size.toInt32) else none) = _
    rw [ha]
    rfl
  rw [e2] at e
  by_cases q : cl.slots.size < 2 ^ 31
  · rw [if_pos q] at e
    exact ⟨by injection e with e; injection e, q⟩
  · rw [if_neg q] at e; exact nomatch e
theorem own_el {s : State} {args : Array Value} {t : Term} {a : Addr} {cl : Cell} {ty : FieldType} {j k : Int32} (ev : t.eval args s none [] s = some (.ref a)) (A : Arr s s.heap a cl ty) (h : (Cond.eq (Term.elem t (.int j)) (.int k)).value args s none s [] = some true) : cl.slots[j.toNatClampNeg]? = some (.int k) :=
  (elem_in (eqi_v h) ev rfl A.1).2
theorem own_sz {cl : Cell} {k : Int32} {n : Nat} (h : cl.slots.size.toInt32 = k ∧ cl.slots.size < 2 ^ 31) (hk : k.toNatClampNeg = n) : cl.slots.size = n := by
  have e := len_toInt h.2
  rw [h.1] at e
  have p : ¬ k < 0 := by rw [Int32.lt_iff_toInt_lt, (by decide : (0 : Int32).toInt = 0)]; omega
  have u := nat_of p
  omega
theorem own_l4 {cl : Cell} {a b c d : Value} (h : cl.slots.size = 4) (h0 : cl.slots[0]? = some a) (h1 : cl.slots[1]? = some b) (h2 : cl.slots[2]? = some c) (h3 : cl.slots[3]? = some d) : cl.slots.toList = [a, b, c, d] := by
  apply List.ext_getElem?
  intro i
  rw [Array.getElem?_toList]
  match i with
  | 0 => exact h0
  | 1 => exact h1
  | 2 => exact h2
  | 3 => exact h3
  | n + 4 => rw [Array.getElem?_eq_none (by omega)]; rfl
theorem own_l5 {cl : Cell} {a b c d e : Value} (h : cl.slots.size = 5) (h0 : cl.slots[0]? = some a) (h1 : cl.slots[1]? = some b) (h2 : cl.slots[2]? = some c) (h3 : cl.slots[3]? = some d) (h4 : cl.slots[4]? = some e) : cl.slots.toList = [a, b, c, d, e] := by
  apply List.ext_getElem?
  intro i
  rw [Array.getElem?_toList]
  match i with
  | 0 => exact h0
  | 1 => exact h1
  | 2 => exact h2
  | 3 => exact h3
  | 4 => exact h4
  | n + 5 => rw [Array.getElem?_eq_none (by omega)]; rfl
theorem own_mk {s : State} {a : Addr} {cl : Cell} {vs : List Value} (A : Arr s s.heap a cl .byte) (q : cl.slots.toList = vs) (hl : vs.length < 2 ^ 31) (hf : ∀ v ∈ vs, fits .byte v = true) : Ara s s.heap a .byte vs := ⟨cl, A, q, hl, hf, fun _ z => nomatch z⟩
theorem own_pn0 : plainName "com/example/vigilant_schema/vigilantschema/Node$BooleanNode" = true := by first | (simp [plainName, overriddenIn]; done) | decide +kernel
theorem own_pn1 : plainName "java/lang/StringLatin1" = true := by first | (simp [plainName, overriddenIn]; done) | decide +kernel
theorem own_pd0 : parseMethodDescriptor "([B[B)Z" = some ⟨[(.array .byte), (.array .byte)], some .boolean⟩ := by decide +kernel
theorem own_pn2 : plainName "java/lang/String" = true := by first | (simp [plainName, overriddenIn]; done) | decide +kernel
theorem own_pd1 : parseMethodDescriptor "(Z)Lcom/example/vigilant_schema/vigilantschema/Node$BooleanNode;" = some ⟨[.boolean], some (.object "com/example/vigilant_schema/vigilantschema/Node$BooleanNode")⟩ := by decide +kernel
theorem own_pd2 : parseMethodDescriptor "()Z" = some ⟨[], some .boolean⟩ := by decide +kernel
theorem own_pd3 : parseMethodDescriptor "()Ljava/lang/String;" = some ⟨[], some (.object "java/lang/String")⟩ := by decide +kernel
theorem own_pd4 : parseMethodDescriptor "(Ljava/lang/Object;)Z" = some ⟨[(.object "java/lang/Object")], some .boolean⟩ := by decide +kernel
theorem own_pn3 : plainName "com/example/vigilant_schema/vigilantschema/BooleanNodeOfPinLaw" = true := by first | (simp [plainName, overriddenIn]; done) | decide +kernel
theorem own_strw : ∀ a ∈ Bundle.stringAtoms, a ∈ tables_1 := by decide +kernel
theorem own_d1_0 : decode prog_52_method_3_code 0 = .ok (.iload_n 0, 1) := by decide +kernel
theorem own_d1_1 : decode prog_52_method_3_code 1 = .ok (.ifCond .eq 9, 3) := by decide +kernel
theorem own_d1_4 : decode prog_52_method_3_code 4 = .ok (.getstatic 26, 3) := by decide +kernel
theorem own_d1_7 : decode prog_52_method_3_code 7 = .ok (.goto 6, 3) := by decide +kernel
theorem own_d1_13 : decode prog_52_method_3_code 13 = .ok (.areturn, 1) := by decide +kernel
theorem own_ef1v1 (m : MethodId)  : entryFrame m #[(.int (1 : Int32))] 1 = mkF m 0 #[.val (.int (1 : Int32))] [] := by first | (simp [entryFrame, mkF, argsToLocals, Value.category, maxLocals]; done) | rfl
abbrev RM1v1 : Room := ({ frames := 0, cells := 0, slots := 0, locals := 0 } : Room)
abbrev kC1v1 : Nat := 0
abbrev kS1v1 : Nat := 0
def Q1v1 (Z : State) (w_TRUE : Addr) (w_FALSE : Addr) (h0 : Heap) (v : Option Value) (h : Heap) (L : List Loc) : Prop := v = some (.ref w_TRUE) ∧ L = [] ∧ h = h0
set_option maxRecDepth 65536 in
set_option maxHeartbeats 40000000 in
theorem rm1v1 (l : Launch) (Z : State) (tA : Array Value) (hw : ∀ d ∈ tables_1, d.before tA Z = true) (ws : List Jvm.Cond) (w_TRUE : Addr) (w_FALSE : Addr) (h0 : Heap) (H0 : Sta Z h0 "com/example/vigilant_schema/vigilantschema/Node$BooleanNode" "TRUE" "Lcom/example/vigilant_schema/vigilantschema/Node$BooleanNode;" (.ref w_TRUE)) (H1 : Sta Z h0 "com/example/vigilant_schema/vigilantschema/Node$BooleanNode" "FALSE" "Lcom/example/vigilant_schema/vigilantschema/Node$BooleanNode;" (.ref w_FALSE)) :
    MetFree l (⟨"com/example/vigilant_schema/vigilantschema/Node$BooleanNode", "of", "(Z)Lcom/example/vigilant_schema/vigilantschema/Node$BooleanNode;"⟩ : MethodName) (head1 (Jvm.Cond.code (⟨"com/example/vigilant_schema/vigilantschema/Node$BooleanNode", "of", "(Z)Lcom/example/vigilant_schema/vigilantschema/Node$BooleanNode;"⟩ : MethodName) prog_52_method_3_code 1 (some (.object "com/example/vigilant_schema/vigilantschema/Node$BooleanNode")) :: ws) RM1v1) (fun a U => a = #[(.int (1 : Int32))] ∧ Z.Warmed39 U.vm ∧ U.heap = h0) (fun _ _ _ _ _ => True) (fun _ U o U' => ∃ v L, o = .returned v ∧ Q1v1 Z w_TRUE w_FALSE h0 v U'.heap L ∧ FrameEnd U o U' L RM1v1.cells RM1v1.slots) := by
  refine MetFree.of_bodySF (plainFor_of_name own_pn0) hisR ?_
  intro p e s m args below meth c s₁ Bd hml0 hP hK
  obtain ⟨rfl, hZ, hh⟩ := hP
  have hx := Bd.exec
  have hby := Bd.bytes
  have hml : c.maxLocals = 1 := hml0
  have hown : s.vm.findClass "com/example/vigilant_schema/vigilantschema/Node$BooleanNode" = some m.cls := findClass_of_methodNamed Bd.named
  have hnm := (name_of_methodNamed Bd.named Bd.method).1
  have X0 : Stand p l e RM1v1 s m #[(.int (1 : Int32))] below meth c s₁ [] 0 0 := Stand.of_body Bd
  have e0 : s₁.heap = h0 := by rw [← hh, Bd.state]; rfl
  show Goes p e below s (Q1v1 Z w_TRUE w_FALSE h0) kC1v1 kS1v1 (s₁.setTop (entryFrame m #[(.int (1 : Int32))] 1))
  refine Goes.step (fun t k => castTop (own_ef1v1 m ) k) ?_
  show Goes _ _ _ _ _ _ _ (s₁.setTop (mkF m 0 #[.val (.int (1 : Int32))] []))
  refine Goes.step (fun t k => XS.iloadN X0.here hx rfl (hb hby own_d1_0) rfl k) ?_
  show Goes _ _ _ _ _ _ _ (s₁.setTop (mkF m 1 #[.val (.int (1 : Int32))] [(.int (1 : Int32))]))
  refine Goes.step (fun t k => XS.ifNo X0.here hx rfl (hb hby own_d1_1) rfl ((if0 _ _).trans (feq (by decide)).1) k) ?_
  show Goes _ _ _ _ _ _ _ (s₁.setTop (mkF m 4 #[.val (.int (1 : Int32))] []))
  obtain ⟨T2, X2, e2, st2⟩ := getS2 X0 hx hZ hown (host := "") (Or.inl (hw _ (List.mem_of_getElem? (i := 6) rfl))) Via.refl e0 H0 (g := (mkF m 4 #[.val (.int (1 : Int32))] [])) rfl (hb hby own_d1_4)
  refine Goes.step (fun t k => st2 t k) ?_
  show Goes _ _ _ _ _ _ _ (T2.setTop (mkF m 7 #[.val (.int (1 : Int32))] [(.ref w_TRUE)]))
  refine Goes.step (fun t k => XS.goto X2.here hx rfl (pc0 := 7) (pc' := 13) rfl (hb hby own_d1_7) (by decide) (by decide) k) ?_
  show Goes _ _ _ _ _ _ _ (T2.setTop (mkF m 13 #[.val (.int (1 : Int32))] [(.ref w_TRUE)]))
  exact Goes.retR X2 hx Bd.notSynchronized (r := (.ref w_TRUE)) Bd.returns rfl rfl rfl (hb hby own_d1_13) rfl ⟨rfl, rfl, e2⟩ (by decide) (by decide)
theorem own_d1_10 : decode prog_52_method_3_code 10 = .ok (.getstatic 30, 3) := by decide +kernel
theorem own_ef1v0 (m : MethodId)  : entryFrame m #[(.int (0 : Int32))] 1 = mkF m 0 #[.val (.int (0 : Int32))] [] := by first | (simp [entryFrame, mkF, argsToLocals, Value.category, maxLocals]; done) | rfl
abbrev RM1v0 : Room := ({ frames := 0, cells := 0, slots := 0, locals := 0 } : Room)
abbrev kC1v0 : Nat := 0
abbrev kS1v0 : Nat := 0
def Q1v0 (Z : State) (w_TRUE : Addr) (w_FALSE : Addr) (h0 : Heap) (v : Option Value) (h : Heap) (L : List Loc) : Prop := v = some (.ref w_FALSE) ∧ L = [] ∧ h = h0
set_option maxRecDepth 65536 in
set_option maxHeartbeats 40000000 in
theorem rm1v0 (l : Launch) (Z : State) (tA : Array Value) (hw : ∀ d ∈ tables_1, d.before tA Z = true) (ws : List Jvm.Cond) (w_TRUE : Addr) (w_FALSE : Addr) (h0 : Heap) (H0 : Sta Z h0 "com/example/vigilant_schema/vigilantschema/Node$BooleanNode" "TRUE" "Lcom/example/vigilant_schema/vigilantschema/Node$BooleanNode;" (.ref w_TRUE)) (H1 : Sta Z h0 "com/example/vigilant_schema/vigilantschema/Node$BooleanNode" "FALSE" "Lcom/example/vigilant_schema/vigilantschema/Node$BooleanNode;" (.ref w_FALSE)) :
    MetFree l (⟨"com/example/vigilant_schema/vigilantschema/Node$BooleanNode", "of", "(Z)Lcom/example/vigilant_schema/vigilantschema/Node$BooleanNode;"⟩ : MethodName) (head1 (Jvm.Cond.code (⟨"com/example/vigilant_schema/vigilantschema/Node$BooleanNode", "of", "(Z)Lcom/example/vigilant_schema/vigilantschema/Node$BooleanNode;"⟩ : MethodName) prog_52_method_3_code 1 (some (.object "com/example/vigilant_schema/vigilantschema/Node$BooleanNode")) :: ws) RM1v0) (fun a U => a = #[(.int (0 : Int32))] ∧ Z.Warmed39 U.vm ∧ U.heap = h0) (fun _ _ _ _ _ => True) (fun _ U o U' => ∃ v L, o = .returned v ∧ Q1v0 Z w_TRUE w_FALSE h0 v U'.heap L ∧ FrameEnd U o U' L RM1v0.cells RM1v0.slots) := by
  refine MetFree.of_bodySF (plainFor_of_name own_pn0) hisR ?_
  intro p e s m args below meth c s₁ Bd hml0 hP hK
  obtain ⟨rfl, hZ, hh⟩ := hP
  have hx := Bd.exec
  have hby := Bd.bytes
  have hml : c.maxLocals = 1 := hml0
  have hown : s.vm.findClass "com/example/vigilant_schema/vigilantschema/Node$BooleanNode" = some m.cls := findClass_of_methodNamed Bd.named
  have hnm := (name_of_methodNamed Bd.named Bd.method).1
  have X0 : Stand p l e RM1v0 s m #[(.int (0 : Int32))] below meth c s₁ [] 0 0 := Stand.of_body Bd
  have e0 : s₁.heap = h0 := by rw [← hh, Bd.state]; rfl
  show Goes p e below s (Q1v0 Z w_TRUE w_FALSE h0) kC1v0 kS1v0 (s₁.setTop (entryFrame m #[(.int (0 : Int32))] 1))
  refine Goes.step (fun t k => castTop (own_ef1v0 m ) k) ?_
  show Goes _ _ _ _ _ _ _ (s₁.setTop (mkF m 0 #[.val (.int (0 : Int32))] []))
  refine Goes.step (fun t k => XS.iloadN X0.here hx rfl (hb hby own_d1_0) rfl k) ?_
  show Goes _ _ _ _ _ _ _ (s₁.setTop (mkF m 1 #[.val (.int (0 : Int32))] [(.int (0 : Int32))]))
  refine Goes.step (fun t k => XS.ifYes X0.here hx rfl (pc0 := 1) (pc' := 10) rfl (hb hby own_d1_1) rfl ((if0 _ _).trans (teq (by decide)).1) (by decide) (by decide) k) ?_
  show Goes _ _ _ _ _ _ _ (s₁.setTop (mkF m 10 #[.val (.int (0 : Int32))] []))
  obtain ⟨T2, X2, e2, st2⟩ := getS2 X0 hx hZ hown (host := "") (Or.inl (hw _ (List.mem_of_getElem? (i := 4) rfl))) Via.refl e0 H1 (g := (mkF m 10 #[.val (.int (0 : Int32))] [])) rfl (hb hby own_d1_10)
  refine Goes.step (fun t k => st2 t k) ?_
  show Goes _ _ _ _ _ _ _ (T2.setTop (mkF m 13 #[.val (.int (0 : Int32))] [(.ref w_FALSE)]))
  exact Goes.retR X2 hx Bd.notSynchronized (r := (.ref w_FALSE)) Bd.returns rfl rfl rfl (hb hby own_d1_13) rfl ⟨rfl, rfl, e2⟩ (by decide) (by decide)
def f2 (wV : Int32) : Int32 := (nar .boolean wV)
theorem own_d2_0 : decode prog_52_method_4_code 0 = .ok (.aload_n 0, 1) := by decide +kernel
theorem own_d2_1 : decode prog_52_method_4_code 1 = .ok (.getfield 18, 3) := by decide +kernel
theorem own_d2_4 : decode prog_52_method_4_code 4 = .ok (.ireturn, 1) := by decide +kernel
theorem own_ef2 (m : MethodId) (a0 : Addr) : entryFrame m #[(.ref a0)] 1 = mkF m 0 #[.val (.ref a0)] [] := by first | (simp [entryFrame, mkF, argsToLocals, Value.category, maxLocals]; done) | rfl
abbrev RM2 : Room := ({ frames := 0, cells := 0, slots := 0, locals := 0 } : Room)
abbrev kC2 : Nat := 0
abbrev kS2 : Nat := 0
def Q2 (Z : State) (a0 : Addr) (wV : Int32) (h0 : Heap) (v : Option Value) (h : Heap) (L : List Loc) : Prop := v = some (.int (f2 wV)) ∧ L = [] ∧ h = h0
set_option maxRecDepth 65536 in
set_option maxHeartbeats 40000000 in
theorem rm2 (l : Launch) (Z : State) (tA : Array Value) (hw : ∀ d ∈ tables_1, d.before tA Z = true) (ws : List Jvm.Cond) (a0 : Addr) (wV : Int32) (h0 : Heap) (H0 : Fld Z h0 a0 "com/example/vigilant_schema/vigilantschema/Node$BooleanNode" "value" "Z" (.int wV)) :
    MetFree l (⟨"com/example/vigilant_schema/vigilantschema/Node$BooleanNode", "value", "()Z"⟩ : MethodName) (head1 (Jvm.Cond.code (⟨"com/example/vigilant_schema/vigilantschema/Node$BooleanNode", "value", "()Z"⟩ : MethodName) prog_52_method_4_code 1 (some .boolean) :: ws) RM2) (fun a U => a = #[(.ref a0)] ∧ Z.Warmed39 U.vm ∧ U.heap = h0) (fun _ _ _ _ _ => True) (fun _ U o U' => ∃ v L, o = .returned v ∧ Q2 Z a0 wV h0 v U'.heap L ∧ FrameEnd U o U' L RM2.cells RM2.slots) := by
  refine MetFree.of_bodySF (plainFor_of_name own_pn0) hisR ?_
  intro p e s m args below meth c s₁ Bd hml0 hP hK
  obtain ⟨rfl, hZ, hh⟩ := hP
  have hx := Bd.exec
  have hby := Bd.bytes
  have hml : c.maxLocals = 1 := hml0
  have hown : s.vm.findClass "com/example/vigilant_schema/vigilantschema/Node$BooleanNode" = some m.cls := findClass_of_methodNamed Bd.named
  have hnm := (name_of_methodNamed Bd.named Bd.method).1
  have X0 : Stand p l e RM2 s m #[(.ref a0)] below meth c s₁ [] 0 0 := Stand.of_body Bd
  have e0 : s₁.heap = h0 := by rw [← hh, Bd.state]; rfl
  show Goes p e below s (Q2 Z a0 wV h0) kC2 kS2 (s₁.setTop (entryFrame m #[(.ref a0)] 1))
  refine Goes.step (fun t k => castTop (own_ef2 m a0) k) ?_
  show Goes _ _ _ _ _ _ _ (s₁.setTop (mkF m 0 #[.val (.ref a0)] []))
  refine Goes.step (fun t k => XS.aloadN X0.here hx rfl (hb hby own_d2_0) rfl rfl k) ?_
  show Goes _ _ _ _ _ _ _ (s₁.setTop (mkF m 1 #[.val (.ref a0)] [(.ref a0)]))
  obtain ⟨T1, X1, e1, st1⟩ := getF X0 hx hZ hown (host := "") (Or.inl (hw _ (List.mem_of_getElem? (i := 22) rfl))) Via.refl e0 H0 (g := (mkF m 1 #[.val (.ref a0)] [(.ref a0)])) rfl rfl (hb hby own_d2_1)
  refine Goes.step (fun t k => st1 t k) ?_
  show Goes _ _ _ _ _ _ _ (T1.setTop (mkF m 4 #[.val (.ref a0)] [(.int wV)]))
  exact Goes.retZ X1 hx Bd.notSynchronized (r := (f2 wV)) Bd.returns (by simp) (hb hby own_d2_4) rfl ⟨rfl, rfl, e1⟩ (by decide) (by decide)
theorem own_d3_0 : decode prog_52_method_5_code 0 = .ok (.aload_n 0, 1) := by decide +kernel
theorem own_d3_1 : decode prog_52_method_5_code 1 = .ok (.getfield 22, 3) := by decide +kernel
theorem own_d3_4 : decode prog_52_method_5_code 4 = .ok (.areturn, 1) := by decide +kernel
theorem own_ef3 (m : MethodId) (a0 : Addr) : entryFrame m #[(.ref a0)] 1 = mkF m 0 #[.val (.ref a0)] [] := by first | (simp [entryFrame, mkF, argsToLocals, Value.category, maxLocals]; done) | rfl
abbrev RM3 : Room := ({ frames := 0, cells := 0, slots := 0, locals := 0 } : Room)
abbrev kC3 : Nat := 0
abbrev kS3 : Nat := 0
def Q3 (Z : State) (a0 : Addr) (wW : Addr) (h0 : Heap) (v : Option Value) (h : Heap) (L : List Loc) : Prop := v = some (.ref wW) ∧ L = [] ∧ h = h0
set_option maxRecDepth 65536 in
set_option maxHeartbeats 40000000 in
theorem rm3 (l : Launch) (Z : State) (tA : Array Value) (hw : ∀ d ∈ tables_1, d.before tA Z = true) (ws : List Jvm.Cond) (a0 : Addr) (wW : Addr) (h0 : Heap) (H0 : Fld Z h0 a0 "com/example/vigilant_schema/vigilantschema/Node$BooleanNode" "written" "Ljava/lang/String;" (.ref wW)) :
    MetFree l (⟨"com/example/vigilant_schema/vigilantschema/Node$BooleanNode", "writtenText", "()Ljava/lang/String;"⟩ : MethodName) (head1 (Jvm.Cond.code (⟨"com/example/vigilant_schema/vigilantschema/Node$BooleanNode", "writtenText", "()Ljava/lang/String;"⟩ : MethodName) prog_52_method_5_code 1 (some (.object "java/lang/String")) :: ws) RM3) (fun a U => a = #[(.ref a0)] ∧ Z.Warmed39 U.vm ∧ U.heap = h0) (fun _ _ _ _ _ => True) (fun _ U o U' => ∃ v L, o = .returned v ∧ Q3 Z a0 wW h0 v U'.heap L ∧ FrameEnd U o U' L RM3.cells RM3.slots) := by
  refine MetFree.of_bodySF (plainFor_of_name own_pn0) hisR ?_
  intro p e s m args below meth c s₁ Bd hml0 hP hK
  obtain ⟨rfl, hZ, hh⟩ := hP
  have hx := Bd.exec
  have hby := Bd.bytes
  have hml : c.maxLocals = 1 := hml0
  have hown : s.vm.findClass "com/example/vigilant_schema/vigilantschema/Node$BooleanNode" = some m.cls := findClass_of_methodNamed Bd.named
  have hnm := (name_of_methodNamed Bd.named Bd.method).1
  have X0 : Stand p l e RM3 s m #[(.ref a0)] below meth c s₁ [] 0 0 := Stand.of_body Bd
  have e0 : s₁.heap = h0 := by rw [← hh, Bd.state]; rfl
  show Goes p e below s (Q3 Z a0 wW h0) kC3 kS3 (s₁.setTop (entryFrame m #[(.ref a0)] 1))
  refine Goes.step (fun t k => castTop (own_ef3 m a0) k) ?_
  show Goes _ _ _ _ _ _ _ (s₁.setTop (mkF m 0 #[.val (.ref a0)] []))
  refine Goes.step (fun t k => XS.aloadN X0.here hx rfl (hb hby own_d3_0) rfl rfl k) ?_
  show Goes _ _ _ _ _ _ _ (s₁.setTop (mkF m 1 #[.val (.ref a0)] [(.ref a0)]))
  obtain ⟨T1, X1, e1, st1⟩ := getF X0 hx hZ hown (host := "") (Or.inl (hw _ (List.mem_of_getElem? (i := 29) rfl))) Via.refl e0 H0 (g := (mkF m 1 #[.val (.ref a0)] [(.ref a0)])) rfl rfl (hb hby own_d3_1)
  refine Goes.step (fun t k => st1 t k) ?_
  show Goes _ _ _ _ _ _ _ (T1.setTop (mkF m 4 #[.val (.ref a0)] [(.ref wW)]))
  exact Goes.retR X1 hx Bd.notSynchronized (r := (.ref wW)) Bd.returns rfl rfl rfl (hb hby own_d3_4) rfl ⟨rfl, rfl, e1⟩ (by decide) (by decide)
def f5t  : Int32 := (1 : Int32)
theorem own_d5_0 : decode jdk_43_method_13_code 0 = .ok (.aload_n 0, 1) := by decide +kernel
theorem own_d5_1 : decode jdk_43_method_13_code 1 = .ok (.arraylength, 1) := by decide +kernel
theorem own_d5_2 : decode jdk_43_method_13_code 2 = .ok (.aload_n 1, 1) := by decide +kernel
theorem own_d5_3 : decode jdk_43_method_13_code 3 = .ok (.arraylength, 1) := by decide +kernel
theorem own_d5_4 : decode jdk_43_method_13_code 4 = .ok (.if_icmp .ne 30, 3) := by decide +kernel
theorem own_d5_7 : decode jdk_43_method_13_code 7 = .ok (.iconst 0, 1) := by decide +kernel
theorem own_d5_8 : decode jdk_43_method_13_code 8 = .ok (.istore_n 2, 1) := by decide +kernel
theorem own_d5_9 : decode jdk_43_method_13_code 9 = .ok (.iload_n 2, 1) := by decide +kernel
theorem own_d5_10 : decode jdk_43_method_13_code 10 = .ok (.aload_n 0, 1) := by decide +kernel
theorem own_d5_11 : decode jdk_43_method_13_code 11 = .ok (.arraylength, 1) := by decide +kernel
theorem own_d5_12 : decode jdk_43_method_13_code 12 = .ok (.if_icmp .ge 20, 3) := by decide +kernel
theorem own_d5_15 : decode jdk_43_method_13_code 15 = .ok (.aload_n 0, 1) := by decide +kernel
theorem own_d5_16 : decode jdk_43_method_13_code 16 = .ok (.iload_n 2, 1) := by decide +kernel
theorem own_d5_17 : decode jdk_43_method_13_code 17 = .ok (.baload, 1) := by decide +kernel
theorem own_d5_18 : decode jdk_43_method_13_code 18 = .ok (.aload_n 1, 1) := by decide +kernel
theorem own_d5_19 : decode jdk_43_method_13_code 19 = .ok (.iload_n 2, 1) := by decide +kernel
theorem own_d5_20 : decode jdk_43_method_13_code 20 = .ok (.baload, 1) := by decide +kernel
theorem own_d5_21 : decode jdk_43_method_13_code 21 = .ok (.if_icmp .eq 5, 3) := by decide +kernel
theorem own_d5_26 : decode jdk_43_method_13_code 26 = .ok (.iinc 2 1, 3) := by decide +kernel
theorem own_d5_29 : decode jdk_43_method_13_code 29 = .ok (.goto (-20), 3) := by decide +kernel
theorem own_d5_32 : decode jdk_43_method_13_code 32 = .ok (.iconst 1, 1) := by decide +kernel
theorem own_d5_33 : decode jdk_43_method_13_code 33 = .ok (.ireturn, 1) := by decide +kernel
theorem own_ef5t (m : MethodId) (a0 : Addr) (a1 : Addr) : entryFrame m #[(.ref a0), (.ref a1)] 3 = mkF m 0 #[.val (.ref a0), .val (.ref a1), .unset] [] := by first | (simp [entryFrame, mkF, argsToLocals, Value.category, maxLocals]; done) | rfl
abbrev RM5t : Room := ({ frames := 0, cells := 0, slots := 0, locals := 0 } : Room)
abbrev kC5t : Nat := 0
abbrev kS5t : Nat := 0
def Q5t (Z : State) (a0 : Addr) (a1 : Addr) (h0 : Heap) (v : Option Value) (h : Heap) (L : List Loc) : Prop := v = some (.int f5t) ∧ L = [] ∧ h = h0
set_option maxRecDepth 65536 in
set_option maxHeartbeats 40000000 in
theorem rm5t (l : Launch) (Z : State) (tA : Array Value) (hw : ∀ d ∈ tables_1, d.before tA Z = true) (ws : List Jvm.Cond) (a0 : Addr) (a1 : Addr) (h0 : Heap) (H0 : Ara Z h0 a0 .byte [(.int (116 : Int32)), (.int (114 : Int32)), (.int (117 : Int32)), (.int (101 : Int32))]) (H1 : Ara Z h0 a1 .byte [(.int (116 : Int32)), (.int (114 : Int32)), (.int (117 : Int32)), (.int (101 : Int32))]) :
    MetFree l (⟨"java/lang/StringLatin1", "equals", "([B[B)Z"⟩ : MethodName) (head1 (Jvm.Cond.code (⟨"java/lang/StringLatin1", "equals", "([B[B)Z"⟩ : MethodName) jdk_43_method_13_code 3 (some .boolean) :: ws) RM5t) (fun a U => a = #[(.ref a0), (.ref a1)] ∧ Z.Warmed39 U.vm ∧ U.heap = h0) (fun _ _ _ _ _ => True) (fun _ U o U' => ∃ v L, o = .returned v ∧ Q5t Z a0 a1 h0 v U'.heap L ∧ FrameEnd U o U' L RM5t.cells RM5t.slots) := by
  refine MetFree.of_bodySF (plainFor_of_name own_pn1) hisR ?_
  intro p e s m args below meth c s₁ Bd hml0 hP hK
  obtain ⟨rfl, hZ, hh⟩ := hP
  have hx := Bd.exec
  have hby := Bd.bytes
  have hml : c.maxLocals = 3 := hml0
  have hown : s.vm.findClass "java/lang/StringLatin1" = some m.cls := findClass_of_methodNamed Bd.named
  have hnm := (name_of_methodNamed Bd.named Bd.method).1
  have X0 : Stand p l e RM5t s m #[(.ref a0), (.ref a1)] below meth c s₁ [] 0 0 := Stand.of_body Bd
  have e0 : s₁.heap = h0 := by rw [← hh, Bd.state]; rfl
  show Goes p e below s (Q5t Z a0 a1 h0) kC5t kS5t (s₁.setTop (entryFrame m #[(.ref a0), (.ref a1)] 3))
  refine Goes.step (fun t k => castTop (own_ef5t m a0 a1) k) ?_
  show Goes _ _ _ _ _ _ _ (s₁.setTop (mkF m 0 #[.val (.ref a0), .val (.ref a1), .unset] []))
  refine Goes.step (fun t k => XS.aloadN X0.here hx rfl (hb hby own_d5_0) rfl rfl k) ?_
  show Goes _ _ _ _ _ _ _ (s₁.setTop (mkF m 1 #[.val (.ref a0), .val (.ref a1), .unset] [(.ref a0)]))
  obtain ⟨cl1, Ar1, q1, ll1, ff1, oo1⟩ := id H0
  have hz1 : cl1.slots.size.toInt32 = (4 : Int32) := by rw [lenb q1]; rfl
  refine Goes.step (fun t k => X0.arraylength hx (by rw [e0]; exact Ar1.1) (State.isArrayOf_alike hZ.alike Ar1.2.1) (g := (mkF m 1 #[.val (.ref a0), .val (.ref a1), .unset] [(.ref a0)])) rfl rfl (hb hby own_d5_1) t k) ?_
  show Goes _ _ _ _ _ _ _ (s₁.setTop (mkF m 2 #[.val (.ref a0), .val (.ref a1), .unset] [(.int cl1.slots.size.toInt32)]))
  rw [hz1]
  show Goes _ _ _ _ _ _ _ (s₁.setTop (mkF m 2 #[.val (.ref a0), .val (.ref a1), .unset] [(.int (4 : Int32))]))
  refine Goes.step (fun t k => XS.aloadN X0.here hx rfl (hb hby own_d5_2) rfl rfl k) ?_
  show Goes _ _ _ _ _ _ _ (s₁.setTop (mkF m 3 #[.val (.ref a0), .val (.ref a1), .unset] [(.ref a1), (.int (4 : Int32))]))
  obtain ⟨cl2, Ar2, q2, ll2, ff2, oo2⟩ := id H1
  have hz2 : cl2.slots.size.toInt32 = (4 : Int32) := by rw [lenb q2]; rfl
  refine Goes.step (fun t k => X0.arraylength hx (by rw [e0]; exact Ar2.1) (State.isArrayOf_alike hZ.alike Ar2.2.1) (g := (mkF m 3 #[.val (.ref a0), .val (.ref a1), .unset] [(.ref a1), (.int (4 : Int32))])) rfl rfl (hb hby own_d5_3) t k) ?_
  show Goes _ _ _ _ _ _ _ (s₁.setTop (mkF m 4 #[.val (.ref a0), .val (.ref a1), .unset] [(.int cl2.slots.size.toInt32), (.int (4 : Int32))]))
  rw [hz2]
  show Goes _ _ _ _ _ _ _ (s₁.setTop (mkF m 4 #[.val (.ref a0), .val (.ref a1), .unset] [(.int (4 : Int32)), (.int (4 : Int32))]))
  refine Goes.step (fun t k => XS.icmpNo X0.here hx rfl (hb hby own_d5_4) rfl (teq (by decide)).2 k) ?_
  show Goes _ _ _ _ _ _ _ (s₁.setTop (mkF m 7 #[.val (.ref a0), .val (.ref a1), .unset] []))
  refine Goes.step (fun t k => XS.iconst X0.here hx rfl (hb hby own_d5_7) k) ?_
  show Goes _ _ _ _ _ _ _ (s₁.setTop (mkF m 8 #[.val (.ref a0), .val (.ref a1), .unset] [(.int (0 : Int32))]))
  refine Goes.step (fun t k => XS.istoreN X0.here hx rfl (hb hby own_d5_8) rfl (l' := #[.val (.ref a0), .val (.ref a1), .val (.int (0 : Int32))]) rfl k) ?_
  show Goes _ _ _ _ _ _ _ (s₁.setTop (mkF m 9 #[.val (.ref a0), .val (.ref a1), .val (.int (0 : Int32))] []))
  refine Goes.step (fun t k => XS.iloadN X0.here hx rfl (hb hby own_d5_9) rfl k) ?_
  show Goes _ _ _ _ _ _ _ (s₁.setTop (mkF m 10 #[.val (.ref a0), .val (.ref a1), .val (.int (0 : Int32))] [(.int (0 : Int32))]))
  refine Goes.step (fun t k => XS.aloadN X0.here hx rfl (hb hby own_d5_10) rfl rfl k) ?_
  show Goes _ _ _ _ _ _ _ (s₁.setTop (mkF m 11 #[.val (.ref a0), .val (.ref a1), .val (.int (0 : Int32))] [(.ref a0), (.int (0 : Int32))]))
  obtain ⟨cl4, Ar4, q4, ll4, ff4, oo4⟩ := id H0
  have hz4 : cl4.slots.size.toInt32 = (4 : Int32) := by rw [lenb q4]; rfl
  refine Goes.step (fun t k => X0.arraylength hx (by rw [e0]; exact Ar4.1) (State.isArrayOf_alike hZ.alike Ar4.2.1) (g := (mkF m 11 #[.val (.ref a0), .val (.ref a1), .val (.int (0 : Int32))] [(.ref a0), (.int (0 : Int32))])) rfl rfl (hb hby own_d5_11) t k) ?_
  show Goes _ _ _ _ _ _ _ (s₁.setTop (mkF m 12 #[.val (.ref a0), .val (.ref a1), .val (.int (0 : Int32))] [(.int cl4.slots.size.toInt32), (.int (0 : Int32))]))
  rw [hz4]
  show Goes _ _ _ _ _ _ _ (s₁.setTop (mkF m 12 #[.val (.ref a0), .val (.ref a1), .val (.int (0 : Int32))] [(.int (4 : Int32)), (.int (0 : Int32))]))
  refine Goes.step (fun t k => XS.icmpNo X0.here hx rfl (hb hby own_d5_12) rfl (tlt (by decide)).2.1 k) ?_
  show Goes _ _ _ _ _ _ _ (s₁.setTop (mkF m 15 #[.val (.ref a0), .val (.ref a1), .val (.int (0 : Int32))] []))
  refine Goes.step (fun t k => XS.aloadN X0.here hx rfl (hb hby own_d5_15) rfl rfl k) ?_
  show Goes _ _ _ _ _ _ _ (s₁.setTop (mkF m 16 #[.val (.ref a0), .val (.ref a1), .val (.int (0 : Int32))] [(.ref a0)]))
  refine Goes.step (fun t k => XS.iloadN X0.here hx rfl (hb hby own_d5_16) rfl k) ?_
  show Goes _ _ _ _ _ _ _ (s₁.setTop (mkF m 17 #[.val (.ref a0), .val (.ref a1), .val (.int (0 : Int32))] [(.int (0 : Int32)), (.ref a0)]))
  obtain ⟨cl6, Ar6, q6, ll6, ff6, oo6⟩ := id H0
  have hn6 : ¬ (0 : Int32) < 0 := by decide
  have hv6 : ([(.int (116 : Int32)), (.int (114 : Int32)), (.int (117 : Int32)), (.int (101 : Int32))] : List Value)[((0 : Int32)).toNatClampNeg]? = some (.int (116 : Int32)) := by rfl
  refine Goes.step (fun t k => X0.baloadBytes hx (j := (0 : Int32)) (v := (.int (116 : Int32))) (by rw [e0]; exact Ar6.1) (State.isArrayOf_alike hZ.alike Ar6.2.1) Ar6.2.2 (inb q6 hn6 (ltb hv6)) (getb q6 hv6) (g := (mkF m 17 #[.val (.ref a0), .val (.ref a1), .val (.int (0 : Int32))] [(.int (0 : Int32)), (.ref a0)])) rfl rfl (hb hby own_d5_17) t k) ?_
  show Goes _ _ _ _ _ _ _ (s₁.setTop (mkF m 18 #[.val (.ref a0), .val (.ref a1), .val (.int (0 : Int32))] [(.int (116 : Int32))]))
  refine Goes.step (fun t k => XS.aloadN X0.here hx rfl (hb hby own_d5_18) rfl rfl k) ?_
  show Goes _ _ _ _ _ _ _ (s₁.setTop (mkF m 19 #[.val (.ref a0), .val (.ref a1), .val (.int (0 : Int32))] [(.ref a1), (.int (116 : Int32))]))
  refine Goes.step (fun t k => XS.iloadN X0.here hx rfl (hb hby own_d5_19) rfl k) ?_
  show Goes _ _ _ _ _ _ _ (s₁.setTop (mkF m 20 #[.val (.ref a0), .val (.ref a1), .val (.int (0 : Int32))] [(.int (0 : Int32)), (.ref a1), (.int (116 : Int32))]))
  obtain ⟨cl7, Ar7, q7, ll7, ff7, oo7⟩ := id H1
  have hn7 : ¬ (0 : Int32) < 0 := by decide
  have hv7 : ([(.int (116 : Int32)), (.int (114 : Int32)), (.int (117 : Int32)), (.int (101 : Int32))] : List Value)[((0 : Int32)).toNatClampNeg]? = some (.int (116 : Int32)) := by rfl
  refine Goes.step (fun t k => X0.baloadBytes hx (j := (0 : Int32)) (v := (.int (116 : Int32))) (by rw [e0]; exact Ar7.1) (State.isArrayOf_alike hZ.alike Ar7.2.1) Ar7.2.2 (inb q7 hn7 (ltb hv7)) (getb q7 hv7) (g := (mkF m 20 #[.val (.ref a0), .val (.ref a1), .val (.int (0 : Int32))] [(.int (0 : Int32)), (.ref a1), (.int (116 : Int32))])) rfl rfl (hb hby own_d5_20) t k) ?_
  show Goes _ _ _ _ _ _ _ (s₁.setTop (mkF m 21 #[.val (.ref a0), .val (.ref a1), .val (.int (0 : Int32))] [(.int (116 : Int32)), (.int (116 : Int32))]))
  refine Goes.step (fun t k => XS.icmpYes X0.here hx rfl (pc0 := 21) (pc' := 26) rfl (hb hby own_d5_21) rfl (teq (by decide)).1 (by decide) (by decide) k) ?_
  show Goes _ _ _ _ _ _ _ (s₁.setTop (mkF m 26 #[.val (.ref a0), .val (.ref a1), .val (.int (0 : Int32))] []))
  refine Goes.step (fun t k => XS.iinc X0.here hx rfl (hb hby own_d5_26) rfl (l' := #[.val (.ref a0), .val (.ref a1), .val (.int (1 : Int32))]) rfl k) ?_
  show Goes _ _ _ _ _ _ _ (s₁.setTop (mkF m 29 #[.val (.ref a0), .val (.ref a1), .val (.int (1 : Int32))] []))
  refine Goes.step (fun t k => XS.goto X0.here hx rfl (pc0 := 29) (pc' := 9) rfl (hb hby own_d5_29) (by decide) (by decide) k) ?_
  show Goes _ _ _ _ _ _ _ (s₁.setTop (mkF m 9 #[.val (.ref a0), .val (.ref a1), .val (.int (1 : Int32))] []))
  refine Goes.step (fun t k => XS.iloadN X0.here hx rfl (hb hby own_d5_9) rfl k) ?_
  show Goes _ _ _ _ _ _ _ (s₁.setTop (mkF m 10 #[.val (.ref a0), .val (.ref a1), .val (.int (1 : Int32))] [(.int (1 : Int32))]))
  refine Goes.step (fun t k => XS.aloadN X0.here hx rfl (hb hby own_d5_10) rfl rfl k) ?_
  show Goes _ _ _ _ _ _ _ (s₁.setTop (mkF m 11 #[.val (.ref a0), .val (.ref a1), .val (.int (1 : Int32))] [(.ref a0), (.int (1 : Int32))]))
  obtain ⟨cl9, Ar9, q9, ll9, ff9, oo9⟩ := id H0
  have hz9 : cl9.slots.size.toInt32 = (4 : Int32) := by rw [lenb q9]; rfl
  refine Goes.step (fun t k => X0.arraylength hx (by rw [e0]; exact Ar9.1) (State.isArrayOf_alike hZ.alike Ar9.2.1) (g := (mkF m 11 #[.val (.ref a0), .val (.ref a1), .val (.int (1 : Int32))] [(.ref a0), (.int (1 : Int32))])) rfl rfl (hb hby own_d5_11) t k) ?_
  show Goes _ _ _ _ _ _ _ (s₁.setTop (mkF m 12 #[.val (.ref a0), .val (.ref a1), .val (.int (1 : Int32))] [(.int cl9.slots.size.toInt32), (.int (1 : Int32))]))
  rw [hz9]
  show Goes _ _ _ _ _ _ _ (s₁.setTop (mkF m 12 #[.val (.ref a0), .val (.ref a1), .val (.int (1 : Int32))] [(.int (4 : Int32)), (.int (1 : Int32))]))
  refine Goes.step (fun t k => XS.icmpNo X0.here hx rfl (hb hby own_d5_12) rfl (tlt (by decide)).2.1 k) ?_
  show Goes _ _ _ _ _ _ _ (s₁.setTop (mkF m 15 #[.val (.ref a0), .val (.ref a1), .val (.int (1 : Int32))] []))
  refine Goes.step (fun t k => XS.aloadN X0.here hx rfl (hb hby own_d5_15) rfl rfl k) ?_
  show Goes _ _ _ _ _ _ _ (s₁.setTop (mkF m 16 #[.val (.ref a0), .val (.ref a1), .val (.int (1 : Int32))] [(.ref a0)]))
  refine Goes.step (fun t k => XS.iloadN X0.here hx rfl (hb hby own_d5_16) rfl k) ?_
  show Goes _ _ _ _ _ _ _ (s₁.setTop (mkF m 17 #[.val (.ref a0), .val (.ref a1), .val (.int (1 : Int32))] [(.int (1 : Int32)), (.ref a0)]))
  obtain ⟨cl11, Ar11, q11, ll11, ff11, oo11⟩ := id H0
  have hn11 : ¬ (1 : Int32) < 0 := by decide
  have hv11 : ([(.int (116 : Int32)), (.int (114 : Int32)), (.int (117 : Int32)), (.int (101 : Int32))] : List Value)[((1 : Int32)).toNatClampNeg]? = some (.int (114 : Int32)) := by rfl
  refine Goes.step (fun t k => X0.baloadBytes hx (j := (1 : Int32)) (v := (.int (114 : Int32))) (by rw [e0]; exact Ar11.1) (State.isArrayOf_alike hZ.alike Ar11.2.1) Ar11.2.2 (inb q11 hn11 (ltb hv11)) (getb q11 hv11) (g := (mkF m 17 #[.val (.ref a0), .val (.ref a1), .val (.int (1 : Int32))] [(.int (1 : Int32)), (.ref a0)])) rfl rfl (hb hby own_d5_17) t k) ?_
  show Goes _ _ _ _ _ _ _ (s₁.setTop (mkF m 18 #[.val (.ref a0), .val (.ref a1), .val (.int (1 : Int32))] [(.int (114 : Int32))]))
  refine Goes.step (fun t k => XS.aloadN X0.here hx rfl (hb hby own_d5_18) rfl rfl k) ?_
  show Goes _ _ _ _ _ _ _ (s₁.setTop (mkF m 19 #[.val (.ref a0), .val (.ref a1), .val (.int (1 : Int32))] [(.ref a1), (.int (114 : Int32))]))
  refine Goes.step (fun t k => XS.iloadN X0.here hx rfl (hb hby own_d5_19) rfl k) ?_
  show Goes _ _ _ _ _ _ _ (s₁.setTop (mkF m 20 #[.val (.ref a0), .val (.ref a1), .val (.int (1 : Int32))] [(.int (1 : Int32)), (.ref a1), (.int (114 : Int32))]))
  obtain ⟨cl12, Ar12, q12, ll12, ff12, oo12⟩ := id H1
  have hn12 : ¬ (1 : Int32) < 0 := by decide
  have hv12 : ([(.int (116 : Int32)), (.int (114 : Int32)), (.int (117 : Int32)), (.int (101 : Int32))] : List Value)[((1 : Int32)).toNatClampNeg]? = some (.int (114 : Int32)) := by rfl
  refine Goes.step (fun t k => X0.baloadBytes hx (j := (1 : Int32)) (v := (.int (114 : Int32))) (by rw [e0]; exact Ar12.1) (State.isArrayOf_alike hZ.alike Ar12.2.1) Ar12.2.2 (inb q12 hn12 (ltb hv12)) (getb q12 hv12) (g := (mkF m 20 #[.val (.ref a0), .val (.ref a1), .val (.int (1 : Int32))] [(.int (1 : Int32)), (.ref a1), (.int (114 : Int32))])) rfl rfl (hb hby own_d5_20) t k) ?_
  show Goes _ _ _ _ _ _ _ (s₁.setTop (mkF m 21 #[.val (.ref a0), .val (.ref a1), .val (.int (1 : Int32))] [(.int (114 : Int32)), (.int (114 : Int32))]))
  refine Goes.step (fun t k => XS.icmpYes X0.here hx rfl (pc0 := 21) (pc' := 26) rfl (hb hby own_d5_21) rfl (teq (by decide)).1 (by decide) (by decide) k) ?_
  show Goes _ _ _ _ _ _ _ (s₁.setTop (mkF m 26 #[.val (.ref a0), .val (.ref a1), .val (.int (1 : Int32))] []))
  refine Goes.step (fun t k => XS.iinc X0.here hx rfl (hb hby own_d5_26) rfl (l' := #[.val (.ref a0), .val (.ref a1), .val (.int (2 : Int32))]) rfl k) ?_
  show Goes _ _ _ _ _ _ _ (s₁.setTop (mkF m 29 #[.val (.ref a0), .val (.ref a1), .val (.int (2 : Int32))] []))
  refine Goes.step (fun t k => XS.goto X0.here hx rfl (pc0 := 29) (pc' := 9) rfl (hb hby own_d5_29) (by decide) (by decide) k) ?_
  show Goes _ _ _ _ _ _ _ (s₁.setTop (mkF m 9 #[.val (.ref a0), .val (.ref a1), .val (.int (2 : Int32))] []))
  refine Goes.step (fun t k => XS.iloadN X0.here hx rfl (hb hby own_d5_9) rfl k) ?_
  show Goes _ _ _ _ _ _ _ (s₁.setTop (mkF m 10 #[.val (.ref a0), .val (.ref a1), .val (.int (2 : Int32))] [(.int (2 : Int32))]))
  refine Goes.step (fun t k => XS.aloadN X0.here hx rfl (hb hby own_d5_10) rfl rfl k) ?_
  show Goes _ _ _ _ _ _ _ (s₁.setTop (mkF m 11 #[.val (.ref a0), .val (.ref a1), .val (.int (2 : Int32))] [(.ref a0), (.int (2 : Int32))]))
  obtain ⟨cl14, Ar14, q14, ll14, ff14, oo14⟩ := id H0
  have hz14 : cl14.slots.size.toInt32 = (4 : Int32) := by rw [lenb q14]; rfl
  refine Goes.step (fun t k => X0.arraylength hx (by rw [e0]; exact Ar14.1) (State.isArrayOf_alike hZ.alike Ar14.2.1) (g := (mkF m 11 #[.val (.ref a0), .val (.ref a1), .val (.int (2 : Int32))] [(.ref a0), (.int (2 : Int32))])) rfl rfl (hb hby own_d5_11) t k) ?_
  show Goes _ _ _ _ _ _ _ (s₁.setTop (mkF m 12 #[.val (.ref a0), .val (.ref a1), .val (.int (2 : Int32))] [(.int cl14.slots.size.toInt32), (.int (2 : Int32))]))
  rw [hz14]
  show Goes _ _ _ _ _ _ _ (s₁.setTop (mkF m 12 #[.val (.ref a0), .val (.ref a1), .val (.int (2 : Int32))] [(.int (4 : Int32)), (.int (2 : Int32))]))
  refine Goes.step (fun t k => XS.icmpNo X0.here hx rfl (hb hby own_d5_12) rfl (tlt (by decide)).2.1 k) ?_
  show Goes _ _ _ _ _ _ _ (s₁.setTop (mkF m 15 #[.val (.ref a0), .val (.ref a1), .val (.int (2 : Int32))] []))
  refine Goes.step (fun t k => XS.aloadN X0.here hx rfl (hb hby own_d5_15) rfl rfl k) ?_
  show Goes _ _ _ _ _ _ _ (s₁.setTop (mkF m 16 #[.val (.ref a0), .val (.ref a1), .val (.int (2 : Int32))] [(.ref a0)]))
  refine Goes.step (fun t k => XS.iloadN X0.here hx rfl (hb hby own_d5_16) rfl k) ?_
  show Goes _ _ _ _ _ _ _ (s₁.setTop (mkF m 17 #[.val (.ref a0), .val (.ref a1), .val (.int (2 : Int32))] [(.int (2 : Int32)), (.ref a0)]))
  obtain ⟨cl16, Ar16, q16, ll16, ff16, oo16⟩ := id H0
  have hn16 : ¬ (2 : Int32) < 0 := by decide
  have hv16 : ([(.int (116 : Int32)), (.int (114 : Int32)), (.int (117 : Int32)), (.int (101 : Int32))] : List Value)[((2 : Int32)).toNatClampNeg]? = some (.int (117 : Int32)) := by rfl
  refine Goes.step (fun t k => X0.baloadBytes hx (j := (2 : Int32)) (v := (.int (117 : Int32))) (by rw [e0]; exact Ar16.1) (State.isArrayOf_alike hZ.alike Ar16.2.1) Ar16.2.2 (inb q16 hn16 (ltb hv16)) (getb q16 hv16) (g := (mkF m 17 #[.val (.ref a0), .val (.ref a1), .val (.int (2 : Int32))] [(.int (2 : Int32)), (.ref a0)])) rfl rfl (hb hby own_d5_17) t k) ?_
  show Goes _ _ _ _ _ _ _ (s₁.setTop (mkF m 18 #[.val (.ref a0), .val (.ref a1), .val (.int (2 : Int32))] [(.int (117 : Int32))]))
  refine Goes.step (fun t k => XS.aloadN X0.here hx rfl (hb hby own_d5_18) rfl rfl k) ?_
  show Goes _ _ _ _ _ _ _ (s₁.setTop (mkF m 19 #[.val (.ref a0), .val (.ref a1), .val (.int (2 : Int32))] [(.ref a1), (.int (117 : Int32))]))
  refine Goes.step (fun t k => XS.iloadN X0.here hx rfl (hb hby own_d5_19) rfl k) ?_
  show Goes _ _ _ _ _ _ _ (s₁.setTop (mkF m 20 #[.val (.ref a0), .val (.ref a1), .val (.int (2 : Int32))] [(.int (2 : Int32)), (.ref a1), (.int (117 : Int32))]))
  obtain ⟨cl17, Ar17, q17, ll17, ff17, oo17⟩ := id H1
  have hn17 : ¬ (2 : Int32) < 0 := by decide
  have hv17 : ([(.int (116 : Int32)), (.int (114 : Int32)), (.int (117 : Int32)), (.int (101 : Int32))] : List Value)[((2 : Int32)).toNatClampNeg]? = some (.int (117 : Int32)) := by rfl
  refine Goes.step (fun t k => X0.baloadBytes hx (j := (2 : Int32)) (v := (.int (117 : Int32))) (by rw [e0]; exact Ar17.1) (State.isArrayOf_alike hZ.alike Ar17.2.1) Ar17.2.2 (inb q17 hn17 (ltb hv17)) (getb q17 hv17) (g := (mkF m 20 #[.val (.ref a0), .val (.ref a1), .val (.int (2 : Int32))] [(.int (2 : Int32)), (.ref a1), (.int (117 : Int32))])) rfl rfl (hb hby own_d5_20) t k) ?_
  show Goes _ _ _ _ _ _ _ (s₁.setTop (mkF m 21 #[.val (.ref a0), .val (.ref a1), .val (.int (2 : Int32))] [(.int (117 : Int32)), (.int (117 : Int32))]))
  refine Goes.step (fun t k => XS.icmpYes X0.here hx rfl (pc0 := 21) (pc' := 26) rfl (hb hby own_d5_21) rfl (teq (by decide)).1 (by decide) (by decide) k) ?_
  show Goes _ _ _ _ _ _ _ (s₁.setTop (mkF m 26 #[.val (.ref a0), .val (.ref a1), .val (.int (2 : Int32))] []))
  refine Goes.step (fun t k => XS.iinc X0.here hx rfl (hb hby own_d5_26) rfl (l' := #[.val (.ref a0), .val (.ref a1), .val (.int (3 : Int32))]) rfl k) ?_
  show Goes _ _ _ _ _ _ _ (s₁.setTop (mkF m 29 #[.val (.ref a0), .val (.ref a1), .val (.int (3 : Int32))] []))
  refine Goes.step (fun t k => XS.goto X0.here hx rfl (pc0 := 29) (pc' := 9) rfl (hb hby own_d5_29) (by decide) (by decide) k) ?_
  show Goes _ _ _ _ _ _ _ (s₁.setTop (mkF m 9 #[.val (.ref a0), .val (.ref a1), .val (.int (3 : Int32))] []))
  refine Goes.step (fun t k => XS.iloadN X0.here hx rfl (hb hby own_d5_9) rfl k) ?_
  show Goes _ _ _ _ _ _ _ (s₁.setTop (mkF m 10 #[.val (.ref a0), .val (.ref a1), .val (.int (3 : Int32))] [(.int (3 : Int32))]))
  refine Goes.step (fun t k => XS.aloadN X0.here hx rfl (hb hby own_d5_10) rfl rfl k) ?_
  show Goes _ _ _ _ _ _ _ (s₁.setTop (mkF m 11 #[.val (.ref a0), .val (.ref a1), .val (.int (3 : Int32))] [(.ref a0), (.int (3 : Int32))]))
  obtain ⟨cl19, Ar19, q19, ll19, ff19, oo19⟩ := id H0
  have hz19 : cl19.slots.size.toInt32 = (4 : Int32) := by rw [lenb q19]; rfl
  refine Goes.step (fun t k => X0.arraylength hx (by rw [e0]; exact Ar19.1) (State.isArrayOf_alike hZ.alike Ar19.2.1) (g := (mkF m 11 #[.val (.ref a0), .val (.ref a1), .val (.int (3 : Int32))] [(.ref a0), (.int (3 : Int32))])) rfl rfl (hb hby own_d5_11) t k) ?_
  show Goes _ _ _ _ _ _ _ (s₁.setTop (mkF m 12 #[.val (.ref a0), .val (.ref a1), .val (.int (3 : Int32))] [(.int cl19.slots.size.toInt32), (.int (3 : Int32))]))
  rw [hz19]
  show Goes _ _ _ _ _ _ _ (s₁.setTop (mkF m 12 #[.val (.ref a0), .val (.ref a1), .val (.int (3 : Int32))] [(.int (4 : Int32)), (.int (3 : Int32))]))
  refine Goes.step (fun t k => XS.icmpNo X0.here hx rfl (hb hby own_d5_12) rfl (tlt (by decide)).2.1 k) ?_
  show Goes _ _ _ _ _ _ _ (s₁.setTop (mkF m 15 #[.val (.ref a0), .val (.ref a1), .val (.int (3 : Int32))] []))
  refine Goes.step (fun t k => XS.aloadN X0.here hx rfl (hb hby own_d5_15) rfl rfl k) ?_
  show Goes _ _ _ _ _ _ _ (s₁.setTop (mkF m 16 #[.val (.ref a0), .val (.ref a1), .val (.int (3 : Int32))] [(.ref a0)]))
  refine Goes.step (fun t k => XS.iloadN X0.here hx rfl (hb hby own_d5_16) rfl k) ?_
  show Goes _ _ _ _ _ _ _ (s₁.setTop (mkF m 17 #[.val (.ref a0), .val (.ref a1), .val (.int (3 : Int32))] [(.int (3 : Int32)), (.ref a0)]))
  obtain ⟨cl21, Ar21, q21, ll21, ff21, oo21⟩ := id H0
  have hn21 : ¬ (3 : Int32) < 0 := by decide
  have hv21 : ([(.int (116 : Int32)), (.int (114 : Int32)), (.int (117 : Int32)), (.int (101 : Int32))] : List Value)[((3 : Int32)).toNatClampNeg]? = some (.int (101 : Int32)) := by rfl
  refine Goes.step (fun t k => X0.baloadBytes hx (j := (3 : Int32)) (v := (.int (101 : Int32))) (by rw [e0]; exact Ar21.1) (State.isArrayOf_alike hZ.alike Ar21.2.1) Ar21.2.2 (inb q21 hn21 (ltb hv21)) (getb q21 hv21) (g := (mkF m 17 #[.val (.ref a0), .val (.ref a1), .val (.int (3 : Int32))] [(.int (3 : Int32)), (.ref a0)])) rfl rfl (hb hby own_d5_17) t k) ?_
  show Goes _ _ _ _ _ _ _ (s₁.setTop (mkF m 18 #[.val (.ref a0), .val (.ref a1), .val (.int (3 : Int32))] [(.int (101 : Int32))]))
  refine Goes.step (fun t k => XS.aloadN X0.here hx rfl (hb hby own_d5_18) rfl rfl k) ?_
  show Goes _ _ _ _ _ _ _ (s₁.setTop (mkF m 19 #[.val (.ref a0), .val (.ref a1), .val (.int (3 : Int32))] [(.ref a1), (.int (101 : Int32))]))
  refine Goes.step (fun t k => XS.iloadN X0.here hx rfl (hb hby own_d5_19) rfl k) ?_
  show Goes _ _ _ _ _ _ _ (s₁.setTop (mkF m 20 #[.val (.ref a0), .val (.ref a1), .val (.int (3 : Int32))] [(.int (3 : Int32)), (.ref a1), (.int (101 : Int32))]))
  obtain ⟨cl22, Ar22, q22, ll22, ff22, oo22⟩ := id H1
  have hn22 : ¬ (3 : Int32) < 0 := by decide
  have hv22 : ([(.int (116 : Int32)), (.int (114 : Int32)), (.int (117 : Int32)), (.int (101 : Int32))] : List Value)[((3 : Int32)).toNatClampNeg]? = some (.int (101 : Int32)) := by rfl
  refine Goes.step (fun t k => X0.baloadBytes hx (j := (3 : Int32)) (v := (.int (101 : Int32))) (by rw [e0]; exact Ar22.1) (State.isArrayOf_alike hZ.alike Ar22.2.1) Ar22.2.2 (inb q22 hn22 (ltb hv22)) (getb q22 hv22) (g := (mkF m 20 #[.val (.ref a0), .val (.ref a1), .val (.int (3 : Int32))] [(.int (3 : Int32)), (.ref a1), (.int (101 : Int32))])) rfl rfl (hb hby own_d5_20) t k) ?_
  show Goes _ _ _ _ _ _ _ (s₁.setTop (mkF m 21 #[.val (.ref a0), .val (.ref a1), .val (.int (3 : Int32))] [(.int (101 : Int32)), (.int (101 : Int32))]))
  refine Goes.step (fun t k => XS.icmpYes X0.here hx rfl (pc0 := 21) (pc' := 26) rfl (hb hby own_d5_21) rfl (teq (by decide)).1 (by decide) (by decide) k) ?_
  show Goes _ _ _ _ _ _ _ (s₁.setTop (mkF m 26 #[.val (.ref a0), .val (.ref a1), .val (.int (3 : Int32))] []))
  refine Goes.step (fun t k => XS.iinc X0.here hx rfl (hb hby own_d5_26) rfl (l' := #[.val (.ref a0), .val (.ref a1), .val (.int (4 : Int32))]) rfl k) ?_
  show Goes _ _ _ _ _ _ _ (s₁.setTop (mkF m 29 #[.val (.ref a0), .val (.ref a1), .val (.int (4 : Int32))] []))
  refine Goes.step (fun t k => XS.goto X0.here hx rfl (pc0 := 29) (pc' := 9) rfl (hb hby own_d5_29) (by decide) (by decide) k) ?_
  show Goes _ _ _ _ _ _ _ (s₁.setTop (mkF m 9 #[.val (.ref a0), .val (.ref a1), .val (.int (4 : Int32))] []))
  refine Goes.step (fun t k => XS.iloadN X0.here hx rfl (hb hby own_d5_9) rfl k) ?_
  show Goes _ _ _ _ _ _ _ (s₁.setTop (mkF m 10 #[.val (.ref a0), .val (.ref a1), .val (.int (4 : Int32))] [(.int (4 : Int32))]))
  refine Goes.step (fun t k => XS.aloadN X0.here hx rfl (hb hby own_d5_10) rfl rfl k) ?_
  show Goes _ _ _ _ _ _ _ (s₁.setTop (mkF m 11 #[.val (.ref a0), .val (.ref a1), .val (.int (4 : Int32))] [(.ref a0), (.int (4 : Int32))]))
  obtain ⟨cl24, Ar24, q24, ll24, ff24, oo24⟩ := id H0
  have hz24 : cl24.slots.size.toInt32 = (4 : Int32) := by rw [lenb q24]; rfl
  refine Goes.step (fun t k => X0.arraylength hx (by rw [e0]; exact Ar24.1) (State.isArrayOf_alike hZ.alike Ar24.2.1) (g := (mkF m 11 #[.val (.ref a0), .val (.ref a1), .val (.int (4 : Int32))] [(.ref a0), (.int (4 : Int32))])) rfl rfl (hb hby own_d5_11) t k) ?_
  show Goes _ _ _ _ _ _ _ (s₁.setTop (mkF m 12 #[.val (.ref a0), .val (.ref a1), .val (.int (4 : Int32))] [(.int cl24.slots.size.toInt32), (.int (4 : Int32))]))
  rw [hz24]
  show Goes _ _ _ _ _ _ _ (s₁.setTop (mkF m 12 #[.val (.ref a0), .val (.ref a1), .val (.int (4 : Int32))] [(.int (4 : Int32)), (.int (4 : Int32))]))
  refine Goes.step (fun t k => XS.icmpYes X0.here hx rfl (pc0 := 12) (pc' := 32) rfl (hb hby own_d5_12) rfl (flt (by decide)).2.1 (by decide) (by decide) k) ?_
  show Goes _ _ _ _ _ _ _ (s₁.setTop (mkF m 32 #[.val (.ref a0), .val (.ref a1), .val (.int (4 : Int32))] []))
  refine Goes.step (fun t k => XS.iconst X0.here hx rfl (hb hby own_d5_32) k) ?_
  show Goes _ _ _ _ _ _ _ (s₁.setTop (mkF m 33 #[.val (.ref a0), .val (.ref a1), .val (.int (4 : Int32))] [(.int (1 : Int32))]))
  exact Goes.retZ X0 hx Bd.notSynchronized (r := f5t) Bd.returns (by simp) (hb hby own_d5_33) rfl ⟨rfl, rfl, e0⟩ (by decide) (by decide)
def f4t (a0 : Addr) (a1 : Addr) : Int32 := (if a0 = a1 then (1 : Int32) else (nar .boolean (if f5t = (0 : Int32) then (0 : Int32) else (1 : Int32))))
theorem own_d4_0 : decode jdk_42_method_66_code 0 = .ok (.aload_n 0, 1) := by decide +kernel
theorem own_d4_1 : decode jdk_42_method_66_code 1 = .ok (.aload_n 1, 1) := by decide +kernel
theorem own_d4_2 : decode jdk_42_method_66_code 2 = .ok (.if_acmp .ne 5, 3) := by decide +kernel
theorem own_d4_5 : decode jdk_42_method_66_code 5 = .ok (.iconst 1, 1) := by decide +kernel
theorem own_d4_6 : decode jdk_42_method_66_code 6 = .ok (.ireturn, 1) := by decide +kernel
theorem own_d4_7 : decode jdk_42_method_66_code 7 = .ok (.aload_n 1, 1) := by decide +kernel
theorem own_d4_8 : decode jdk_42_method_66_code 8 = .ok (.instanceof 10, 3) := by decide +kernel
theorem own_d4_11 : decode jdk_42_method_66_code 11 = .ok (.ifCond .eq 43, 3) := by decide +kernel
theorem own_d4_14 : decode jdk_42_method_66_code 14 = .ok (.aload_n 1, 1) := by decide +kernel
theorem own_d4_15 : decode jdk_42_method_66_code 15 = .ok (.checkcast 10, 3) := by decide +kernel
theorem own_d4_18 : decode jdk_42_method_66_code 18 = .ok (.astore_n 2, 1) := by decide +kernel
theorem own_d4_19 : decode jdk_42_method_66_code 19 = .ok (.getstatic 38, 3) := by decide +kernel
theorem own_d4_22 : decode jdk_42_method_66_code 22 = .ok (.ifCond .eq 14, 3) := by decide +kernel
theorem own_d4_25 : decode jdk_42_method_66_code 25 = .ok (.aload_n 0, 1) := by decide +kernel
theorem own_d4_26 : decode jdk_42_method_66_code 26 = .ok (.getfield 15, 3) := by decide +kernel
theorem own_d4_29 : decode jdk_42_method_66_code 29 = .ok (.aload_n 2, 1) := by decide +kernel
theorem own_d4_30 : decode jdk_42_method_66_code 30 = .ok (.getfield 15, 3) := by decide +kernel
theorem own_d4_33 : decode jdk_42_method_66_code 33 = .ok (.if_icmp .ne 21, 3) := by decide +kernel
theorem own_d4_36 : decode jdk_42_method_66_code 36 = .ok (.aload_n 0, 1) := by decide +kernel
theorem own_d4_37 : decode jdk_42_method_66_code 37 = .ok (.getfield 9, 3) := by decide +kernel
theorem own_d4_40 : decode jdk_42_method_66_code 40 = .ok (.aload_n 2, 1) := by decide +kernel
theorem own_d4_41 : decode jdk_42_method_66_code 41 = .ok (.getfield 9, 3) := by decide +kernel
theorem own_d4_44 : decode jdk_42_method_66_code 44 = .ok (.invokestatic 541, 3) := by decide +kernel
theorem own_d4_47 : decode jdk_42_method_66_code 47 = .ok (.ifCond .eq 7, 3) := by decide +kernel
theorem own_d4_50 : decode jdk_42_method_66_code 50 = .ok (.iconst 1, 1) := by decide +kernel
theorem own_d4_51 : decode jdk_42_method_66_code 51 = .ok (.goto 4, 3) := by decide +kernel
theorem own_d4_54 : decode jdk_42_method_66_code 54 = .ok (.iconst 0, 1) := by decide +kernel
theorem own_d4_55 : decode jdk_42_method_66_code 55 = .ok (.ireturn, 1) := by decide +kernel
theorem own_ef4t (m : MethodId) (a0 : Addr) (a1 : Addr) : entryFrame m #[(.ref a0), (.ref a1)] 3 = mkF m 0 #[.val (.ref a0), .val (.ref a1), .unset] [] := by first | (simp [entryFrame, mkF, argsToLocals, Value.category, maxLocals]; done) | rfl
abbrev RM4t : Room := ({ frames := 1, cells := 0, slots := 0, locals := 14 } : Room)
abbrev kC4t : Nat := 0
abbrev kS4t : Nat := 0
def Q4t (Z : State) (a0 : Addr) (a1 : Addr) (wA : Addr) (wB : Addr) (wC : Int32) (h0 : Heap) (v : Option Value) (h : Heap) (L : List Loc) : Prop := v = some (.int (f4t a0 a1)) ∧ L = [] ∧ h = h0
set_option maxRecDepth 65536 in
set_option maxHeartbeats 40000000 in
theorem rm4t (l : Launch) (Z : State) (tA : Array Value) (hw : ∀ d ∈ tables_1, d.before tA Z = true) (ws : List Jvm.Cond) (a0 : Addr) (a1 : Addr) (wA : Addr) (wB : Addr) (wC : Int32) (h0 : Heap) (H0 : Exa Z h0 a0 "java/lang/String") (H1 : Exa Z h0 a1 "java/lang/String") (H2 : Fld Z h0 a0 "java/lang/String" "coder" "B" (.int (0 : Int32))) (H3 : Fld Z h0 a1 "java/lang/String" "coder" "B" (.int (0 : Int32))) (H4 : Fld Z h0 a0 "java/lang/String" "value" "[B" (.ref wA)) (H5 : Fld Z h0 a1 "java/lang/String" "value" "[B" (.ref wB)) (H6 : Ara Z h0 wA .byte [(.int (116 : Int32)), (.int (114 : Int32)), (.int (117 : Int32)), (.int (101 : Int32))]) (H7 : Ara Z h0 wB .byte [(.int (116 : Int32)), (.int (114 : Int32)), (.int (117 : Int32)), (.int (101 : Int32))]) (H8 : Sta Z h0 "java/lang/String" "COMPACT_STRINGS" "Z" (.int wC)) :
    MetFree l (⟨"java/lang/String", "equals", "(Ljava/lang/Object;)Z"⟩ : MethodName) (head1 (Jvm.Cond.code (⟨"java/lang/String", "equals", "(Ljava/lang/Object;)Z"⟩ : MethodName) jdk_42_method_66_code 3 (some .boolean) :: ws) RM4t) (fun a U => a = #[(.ref a0), (.ref a1)] ∧ Z.Warmed39 U.vm ∧ U.heap = h0) (fun _ _ _ _ _ => True) (fun _ U o U' => ∃ v L, o = .returned v ∧ Q4t Z a0 a1 wA wB wC h0 v U'.heap L ∧ FrameEnd U o U' L RM4t.cells RM4t.slots) := by
  refine MetFree.of_bodySF (plainFor_of_name own_pn2) hisR ?_
  intro p e s m args below meth c s₁ Bd hml0 hP hK
  obtain ⟨rfl, hZ, hh⟩ := hP
  have hx := Bd.exec
  have hby := Bd.bytes
  have hml : c.maxLocals = 3 := hml0
  have hown : s.vm.findClass "java/lang/String" = some m.cls := findClass_of_methodNamed Bd.named
  have hnm := (name_of_methodNamed Bd.named Bd.method).1
  have X0 : Stand p l e RM4t s m #[(.ref a0), (.ref a1)] below meth c s₁ [] 0 0 := Stand.of_body Bd
  have e0 : s₁.heap = h0 := by rw [← hh, Bd.state]; rfl
  show Goes p e below s (Q4t Z a0 a1 wA wB wC h0) kC4t kS4t (s₁.setTop (entryFrame m #[(.ref a0), (.ref a1)] 3))
  refine Goes.step (fun t k => castTop (own_ef4t m a0 a1) k) ?_
  show Goes _ _ _ _ _ _ _ (s₁.setTop (mkF m 0 #[.val (.ref a0), .val (.ref a1), .unset] []))
  refine Goes.step (fun t k => XS.aloadN X0.here hx rfl (hb hby own_d4_0) rfl rfl k) ?_
  show Goes _ _ _ _ _ _ _ (s₁.setTop (mkF m 1 #[.val (.ref a0), .val (.ref a1), .unset] [(.ref a0)]))
  refine Goes.step (fun t k => XS.aloadN X0.here hx rfl (hb hby own_d4_1) rfl rfl k) ?_
  show Goes _ _ _ _ _ _ _ (s₁.setTop (mkF m 2 #[.val (.ref a0), .val (.ref a1), .unset] [(.ref a1), (.ref a0)]))
  by_cases hc2_1 : a0 = a1
  · refine Goes.step (fun t k => Jvm.RoadKit.acmp (g := (mkF m 2 #[.val (.ref a0), .val (.ref a1), .unset] [(.ref a1), (.ref a0)])) X0 hx rfl rfl rfl (pc0 := 2) (pc' := 5) (same := true) rfl (hb hby own_d4_2) rfl (decide_eq_true (congrArg Value.ref hc2_1)) (by decide) (by decide) k) ?_
    show Goes _ _ _ _ _ _ _ (s₁.setTop (mkF m 5 #[.val (.ref a0), .val (.ref a1), .unset] []))
    refine Goes.step (fun t k => XS.iconst X0.here hx rfl (hb hby own_d4_5) k) ?_
    show Goes _ _ _ _ _ _ _ (s₁.setTop (mkF m 6 #[.val (.ref a0), .val (.ref a1), .unset] [(.int (1 : Int32))]))
    exact Goes.retZ X0 hx Bd.notSynchronized (r := (f4t a0 a1)) Bd.returns (by simp) (hb hby own_d4_6) ((if_pos hc2_1).symm) ⟨rfl, rfl, e0⟩ (by decide) (by decide)
  · refine Goes.step (fun t k => Jvm.RoadKit.acmp (g := (mkF m 2 #[.val (.ref a0), .val (.ref a1), .unset] [(.ref a1), (.ref a0)])) X0 hx rfl rfl rfl (pc0 := 2) (pc' := 7) (same := false) rfl (hb hby own_d4_2) rfl (decide_eq_false fun q => hc2_1 (Value.ref.inj q)) (by decide) (by decide) k) ?_
    show Goes _ _ _ _ _ _ _ (s₁.setTop (mkF m 7 #[.val (.ref a0), .val (.ref a1), .unset] []))
    refine Goes.step (fun t k => XS.aloadN X0.here hx rfl (hb hby own_d4_7) rfl rfl k) ?_
    show Goes _ _ _ _ _ _ _ (s₁.setTop (mkF m 8 #[.val (.ref a0), .val (.ref a1), .unset] [(.ref a1)]))
    obtain ⟨T2, X2, e2, st2⟩ := instY X0 hx hZ hown (hw _ (List.mem_of_getElem? (i := 36) rfl)) e0 (Ins.self H1) (g := (mkF m 8 #[.val (.ref a0), .val (.ref a1), .unset] [(.ref a1)])) rfl rfl (hb hby own_d4_8)
    refine Goes.step (fun t k => st2 t k) ?_
    show Goes _ _ _ _ _ _ _ (T2.setTop (mkF m 11 #[.val (.ref a0), .val (.ref a1), .unset] [(.int (1 : Int32))]))
    refine Goes.step (fun t k => XS.ifNo X2.here hx rfl (hb hby own_d4_11) rfl ((if0 _ _).trans (feq (by decide)).1) k) ?_
    show Goes _ _ _ _ _ _ _ (T2.setTop (mkF m 14 #[.val (.ref a0), .val (.ref a1), .unset] []))
    refine Goes.step (fun t k => XS.aloadN X2.here hx rfl (hb hby own_d4_14) rfl rfl k) ?_
    show Goes _ _ _ _ _ _ _ (T2.setTop (mkF m 15 #[.val (.ref a0), .val (.ref a1), .unset] [(.ref a1)]))
    obtain ⟨T4, X4, e4, st4⟩ := castY X2 hx hZ hown (hw _ (List.mem_of_getElem? (i := 36) rfl)) e2 (Ins.self H1) (g := (mkF m 15 #[.val (.ref a0), .val (.ref a1), .unset] [(.ref a1)])) rfl rfl (hb hby own_d4_15)
    refine Goes.step (fun t k => st4 t k) ?_
    show Goes _ _ _ _ _ _ _ (T4.setTop (mkF m 18 #[.val (.ref a0), .val (.ref a1), .unset] [(.ref a1)]))
    refine Goes.step (fun t k => XS.astoreN X4.here hx rfl (hb hby own_d4_18) rfl rfl (l' := #[.val (.ref a0), .val (.ref a1), .val (.ref a1)]) rfl k) ?_
    show Goes _ _ _ _ _ _ _ (T4.setTop (mkF m 19 #[.val (.ref a0), .val (.ref a1), .val (.ref a1)] []))
    obtain ⟨T5, X5, e5, st5⟩ := getS2 X4 hx hZ hown (host := "") (Or.inl (hw _ (List.mem_of_getElem? (i := 38) rfl))) Via.refl e4 H8 (g := (mkF m 19 #[.val (.ref a0), .val (.ref a1), .val (.ref a1)] [])) rfl (hb hby own_d4_19)
    refine Goes.step (fun t k => st5 t k) ?_
    show Goes _ _ _ _ _ _ _ (T5.setTop (mkF m 22 #[.val (.ref a0), .val (.ref a1), .val (.ref a1)] [(.int wC)]))
    suffices k18 : ∀ (T18 : State) (x18_0 : Int32), Stand p l e RM4t s m #[(.ref a0), (.ref a1)] below meth c T18 [] 0 0 → T18.heap = h0 → x18_0 = (if f5t = (0 : Int32) then (0 : Int32) else (1 : Int32)) → Goes p e below s (Q4t Z a0 a1 wA wB wC h0) kC4t kS4t (T18.setTop (mkF m 55 #[.val (.ref a0), .val (.ref a1), .val (.ref a1)] [(.int x18_0)])) by
      by_cases hc22_6 : wC = (0 : Int32)
      · refine Goes.step (fun t k => XS.ifYes X5.here hx rfl (pc0 := 22) (pc' := 36) rfl (hb hby own_d4_22) rfl ((if0 _ _).trans (teq hc22_6).1) (by decide) (by decide) k) ?_
        show Goes _ _ _ _ _ _ _ (T5.setTop (mkF m 36 #[.val (.ref a0), .val (.ref a1), .val (.ref a1)] []))
        refine Goes.step (fun t k => XS.aloadN X5.here hx rfl (hb hby own_d4_36) rfl rfl k) ?_
        show Goes _ _ _ _ _ _ _ (T5.setTop (mkF m 37 #[.val (.ref a0), .val (.ref a1), .val (.ref a1)] [(.ref a0)]))
        obtain ⟨T7, X7, e7, st7⟩ := getF X5 hx hZ hown (host := "") (Or.inl (hw _ (List.mem_of_getElem? (i := 40) rfl))) Via.refl e5 H4 (g := (mkF m 37 #[.val (.ref a0), .val (.ref a1), .val (.ref a1)] [(.ref a0)])) rfl rfl (hb hby own_d4_37)
        refine Goes.step (fun t k => st7 t k) ?_
        show Goes _ _ _ _ _ _ _ (T7.setTop (mkF m 40 #[.val (.ref a0), .val (.ref a1), .val (.ref a1)] [(.ref wA)]))
        refine Goes.step (fun t k => XS.aloadN X7.here hx rfl (hb hby own_d4_40) rfl rfl k) ?_
        show Goes _ _ _ _ _ _ _ (T7.setTop (mkF m 41 #[.val (.ref a0), .val (.ref a1), .val (.ref a1)] [(.ref a1), (.ref wA)]))
        obtain ⟨T8, X8, e8, st8⟩ := getF X7 hx hZ hown (host := "") (Or.inl (hw _ (List.mem_of_getElem? (i := 40) rfl))) Via.refl e7 H5 (g := (mkF m 41 #[.val (.ref a0), .val (.ref a1), .val (.ref a1)] [(.ref a1), (.ref wA)])) rfl rfl (hb hby own_d4_41)
        refine Goes.step (fun t k => st8 t k) ?_
        show Goes _ _ _ _ _ _ _ (T8.setTop (mkF m 44 #[.val (.ref a0), .val (.ref a1), .val (.ref a1)] [(.ref wB), (.ref wA)]))
        obtain ⟨_, _, ⟨T9, L9, k9, n9⟩, -, X9, ⟨Lc9, hQ9, l9, y9, z9⟩, st9⟩ := Jvm.LawKit.callS X8 hx (y := (⟨"java/lang/StringLatin1", "equals", "([B[B)Z"⟩ : MethodName)) hown (mvT hZ (hw _ (List.mem_of_getElem? (i := 41) rfl))) (mvT hZ (hw _ (List.mem_of_getElem? (i := 42) rfl))) (mvT hZ (hw _ (List.mem_of_getElem? (i := 43) rfl))) (mvT hZ (hw _ (List.mem_of_getElem? (i := 44) rfl))) (by decide) (backOf (W := 0) (rm5t l Z tA hw [] wA wB h0 H6 H7) hZ (hw _ (List.mem_of_getElem? (i := 44) rfl)) (hw _ (List.mem_of_getElem? (i := 43) rfl)) (by decide) (by decide)) (g := (mkF m 44 #[.val (.ref a0), .val (.ref a1), .val (.ref a1)] [(.ref wB), (.ref wA)])) rfl (by rw [hml]; rfl) (argsL := [(.ref wA), (.ref wB)]) (rest := []) (lenOf own_pd0 rfl) rfl (by show 2 * 0 + _ ≤ _; exact Nat.le_of_eq rfl) (hb hby own_d4_44) (fun _ _ => ⟨rfl, e8, (by decide : 0 + 0 ≤ _), (by decide : 0 + 0 ≤ _)⟩)
        dsimp only [Pt.U, Pt.locs, Pt.cells, Pt.slots] at X9 l9 y9 z9 st9 hQ9
        rw [l9, y9, z9] at X9
        obtain ⟨rfl, rfl, e9⟩ := hQ9
        try rw [List.append_nil] at X9
        change Stand _ _ _ _ _ _ _ _ _ _ _ _ 0 0 at X9
        refine Goes.step (fun t k => st9 t k) ?_
        show Goes _ _ _ _ _ _ _ (T9.setTop (mkF m 47 #[.val (.ref a0), .val (.ref a1), .val (.ref a1)] [(.int f5t)]))
        by_cases hc47_10 : f5t = (0 : Int32)
        · refine Goes.step (fun t k => XS.ifYes X9.here hx rfl (pc0 := 47) (pc' := 54) rfl (hb hby own_d4_47) rfl ((if0 _ _).trans (teq hc47_10).1) (by decide) (by decide) k) ?_
          show Goes _ _ _ _ _ _ _ (T9.setTop (mkF m 54 #[.val (.ref a0), .val (.ref a1), .val (.ref a1)] []))
          refine Goes.step (fun t k => XS.iconst X9.here hx rfl (hb hby own_d4_54) k) ?_
          show Goes _ _ _ _ _ _ _ (T9.setTop (mkF m 55 #[.val (.ref a0), .val (.ref a1), .val (.ref a1)] [(.int (0 : Int32))]))
          exact k18 _ _ X9 e9 (if_pos hc47_10).symm
        · refine Goes.step (fun t k => XS.ifNo X9.here hx rfl (hb hby own_d4_47) rfl ((if0 _ _).trans (feq hc47_10).1) k) ?_
          show Goes _ _ _ _ _ _ _ (T9.setTop (mkF m 50 #[.val (.ref a0), .val (.ref a1), .val (.ref a1)] []))
          refine Goes.step (fun t k => XS.iconst X9.here hx rfl (hb hby own_d4_50) k) ?_
          show Goes _ _ _ _ _ _ _ (T9.setTop (mkF m 51 #[.val (.ref a0), .val (.ref a1), .val (.ref a1)] [(.int (1 : Int32))]))
          refine Goes.step (fun t k => XS.goto X9.here hx rfl (pc0 := 51) (pc' := 55) rfl (hb hby own_d4_51) (by decide) (by decide) k) ?_
          show Goes _ _ _ _ _ _ _ (T9.setTop (mkF m 55 #[.val (.ref a0), .val (.ref a1), .val (.ref a1)] [(.int (1 : Int32))]))
          exact k18 _ _ X9 e9 (if_neg hc47_10).symm
      · refine Goes.step (fun t k => XS.ifNo X5.here hx rfl (hb hby own_d4_22) rfl ((if0 _ _).trans (feq hc22_6).1) k) ?_
        show Goes _ _ _ _ _ _ _ (T5.setTop (mkF m 25 #[.val (.ref a0), .val (.ref a1), .val (.ref a1)] []))
        refine Goes.step (fun t k => XS.aloadN X5.here hx rfl (hb hby own_d4_25) rfl rfl k) ?_
        show Goes _ _ _ _ _ _ _ (T5.setTop (mkF m 26 #[.val (.ref a0), .val (.ref a1), .val (.ref a1)] [(.ref a0)]))
        obtain ⟨T11, X11, e11, st11⟩ := getF X5 hx hZ hown (host := "") (Or.inl (hw _ (List.mem_of_getElem? (i := 39) rfl))) Via.refl e5 H2 (g := (mkF m 26 #[.val (.ref a0), .val (.ref a1), .val (.ref a1)] [(.ref a0)])) rfl rfl (hb hby own_d4_26)
        refine Goes.step (fun t k => st11 t k) ?_
        show Goes _ _ _ _ _ _ _ (T11.setTop (mkF m 29 #[.val (.ref a0), .val (.ref a1), .val (.ref a1)] [(.int (0 : Int32))]))
        refine Goes.step (fun t k => XS.aloadN X11.here hx rfl (hb hby own_d4_29) rfl rfl k) ?_
        show Goes _ _ _ _ _ _ _ (T11.setTop (mkF m 30 #[.val (.ref a0), .val (.ref a1), .val (.ref a1)] [(.ref a1), (.int (0 : Int32))]))
        obtain ⟨T12, X12, e12, st12⟩ := getF X11 hx hZ hown (host := "") (Or.inl (hw _ (List.mem_of_getElem? (i := 39) rfl))) Via.refl e11 H3 (g := (mkF m 30 #[.val (.ref a0), .val (.ref a1), .val (.ref a1)] [(.ref a1), (.int (0 : Int32))])) rfl rfl (hb hby own_d4_30)
        refine Goes.step (fun t k => st12 t k) ?_
        show Goes _ _ _ _ _ _ _ (T12.setTop (mkF m 33 #[.val (.ref a0), .val (.ref a1), .val (.ref a1)] [(.int (0 : Int32)), (.int (0 : Int32))]))
        refine Goes.step (fun t k => XS.icmpNo X12.here hx rfl (hb hby own_d4_33) rfl (teq (by decide)).2 k) ?_
        show Goes _ _ _ _ _ _ _ (T12.setTop (mkF m 36 #[.val (.ref a0), .val (.ref a1), .val (.ref a1)] []))
        refine Goes.step (fun t k => XS.aloadN X12.here hx rfl (hb hby own_d4_36) rfl rfl k) ?_
        show Goes _ _ _ _ _ _ _ (T12.setTop (mkF m 37 #[.val (.ref a0), .val (.ref a1), .val (.ref a1)] [(.ref a0)]))
        obtain ⟨T14, X14, e14, st14⟩ := getF X12 hx hZ hown (host := "") (Or.inl (hw _ (List.mem_of_getElem? (i := 40) rfl))) Via.refl e12 H4 (g := (mkF m 37 #[.val (.ref a0), .val (.ref a1), .val (.ref a1)] [(.ref a0)])) rfl rfl (hb hby own_d4_37)
        refine Goes.step (fun t k => st14 t k) ?_
        show Goes _ _ _ _ _ _ _ (T14.setTop (mkF m 40 #[.val (.ref a0), .val (.ref a1), .val (.ref a1)] [(.ref wA)]))
        refine Goes.step (fun t k => XS.aloadN X14.here hx rfl (hb hby own_d4_40) rfl rfl k) ?_
        show Goes _ _ _ _ _ _ _ (T14.setTop (mkF m 41 #[.val (.ref a0), .val (.ref a1), .val (.ref a1)] [(.ref a1), (.ref wA)]))
        obtain ⟨T15, X15, e15, st15⟩ := getF X14 hx hZ hown (host := "") (Or.inl (hw _ (List.mem_of_getElem? (i := 40) rfl))) Via.refl e14 H5 (g := (mkF m 41 #[.val (.ref a0), .val (.ref a1), .val (.ref a1)] [(.ref a1), (.ref wA)])) rfl rfl (hb hby own_d4_41)
        refine Goes.step (fun t k => st15 t k) ?_
        show Goes _ _ _ _ _ _ _ (T15.setTop (mkF m 44 #[.val (.ref a0), .val (.ref a1), .val (.ref a1)] [(.ref wB), (.ref wA)]))
        obtain ⟨_, _, ⟨T16, L16, k16, n16⟩, -, X16, ⟨Lc16, hQ16, l16, y16, z16⟩, st16⟩ := Jvm.LawKit.callS X15 hx (y := (⟨"java/lang/StringLatin1", "equals", "([B[B)Z"⟩ : MethodName)) hown (mvT hZ (hw _ (List.mem_of_getElem? (i := 41) rfl))) (mvT hZ (hw _ (List.mem_of_getElem? (i := 42) rfl))) (mvT hZ (hw _ (List.mem_of_getElem? (i := 43) rfl))) (mvT hZ (hw _ (List.mem_of_getElem? (i := 44) rfl))) (by decide) (backOf (W := 0) (rm5t l Z tA hw [] wA wB h0 H6 H7) hZ (hw _ (List.mem_of_getElem? (i := 44) rfl)) (hw _ (List.mem_of_getElem? (i := 43) rfl)) (by decide) (by decide)) (g := (mkF m 44 #[.val (.ref a0), .val (.ref a1), .val (.ref a1)] [(.ref wB), (.ref wA)])) rfl (by rw [hml]; rfl) (argsL := [(.ref wA), (.ref wB)]) (rest := []) (lenOf own_pd0 rfl) rfl (by show 2 * 0 + _ ≤ _; exact Nat.le_of_eq rfl) (hb hby own_d4_44) (fun _ _ => ⟨rfl, e15, (by decide : 0 + 0 ≤ _), (by decide : 0 + 0 ≤ _)⟩)
        dsimp only [Pt.U, Pt.locs, Pt.cells, Pt.slots] at X16 l16 y16 z16 st16 hQ16
        rw [l16, y16, z16] at X16
        obtain ⟨rfl, rfl, e16⟩ := hQ16
        try rw [List.append_nil] at X16
        change Stand _ _ _ _ _ _ _ _ _ _ _ _ 0 0 at X16
        refine Goes.step (fun t k => st16 t k) ?_
        show Goes _ _ _ _ _ _ _ (T16.setTop (mkF m 47 #[.val (.ref a0), .val (.ref a1), .val (.ref a1)] [(.int f5t)]))
        by_cases hc47_17 : f5t = (0 : Int32)
        · refine Goes.step (fun t k => XS.ifYes X16.here hx rfl (pc0 := 47) (pc' := 54) rfl (hb hby own_d4_47) rfl ((if0 _ _).trans (teq hc47_17).1) (by decide) (by decide) k) ?_
          show Goes _ _ _ _ _ _ _ (T16.setTop (mkF m 54 #[.val (.ref a0), .val (.ref a1), .val (.ref a1)] []))
          refine Goes.step (fun t k => XS.iconst X16.here hx rfl (hb hby own_d4_54) k) ?_
          show Goes _ _ _ _ _ _ _ (T16.setTop (mkF m 55 #[.val (.ref a0), .val (.ref a1), .val (.ref a1)] [(.int (0 : Int32))]))
          exact k18 _ _ X16 e16 (if_pos hc47_17).symm
        · refine Goes.step (fun t k => XS.ifNo X16.here hx rfl (hb hby own_d4_47) rfl ((if0 _ _).trans (feq hc47_17).1) k) ?_
          show Goes _ _ _ _ _ _ _ (T16.setTop (mkF m 50 #[.val (.ref a0), .val (.ref a1), .val (.ref a1)] []))
          refine Goes.step (fun t k => XS.iconst X16.here hx rfl (hb hby own_d4_50) k) ?_
          show Goes _ _ _ _ _ _ _ (T16.setTop (mkF m 51 #[.val (.ref a0), .val (.ref a1), .val (.ref a1)] [(.int (1 : Int32))]))
          refine Goes.step (fun t k => XS.goto X16.here hx rfl (pc0 := 51) (pc' := 55) rfl (hb hby own_d4_51) (by decide) (by decide) k) ?_
          show Goes _ _ _ _ _ _ _ (T16.setTop (mkF m 55 #[.val (.ref a0), .val (.ref a1), .val (.ref a1)] [(.int (1 : Int32))]))
          exact k18 _ _ X16 e16 (if_neg hc47_17).symm
    intro T18 x18_0 X18 e18 hx18_0
    subst hx18_0
    exact Goes.retZ X18 hx Bd.notSynchronized (r := (f4t a0 a1)) Bd.returns (by simp) (hb hby own_d4_55) ((if_neg hc2_1).symm) ⟨rfl, rfl, e18⟩ (by decide) (by decide)
def f5f  : Int32 := (1 : Int32)
theorem own_ef5f (m : MethodId) (a0 : Addr) (a1 : Addr) : entryFrame m #[(.ref a0), (.ref a1)] 3 = mkF m 0 #[.val (.ref a0), .val (.ref a1), .unset] [] := by first | (simp [entryFrame, mkF, argsToLocals, Value.category, maxLocals]; done) | rfl
abbrev RM5f : Room := ({ frames := 0, cells := 0, slots := 0, locals := 0 } : Room)
abbrev kC5f : Nat := 0
abbrev kS5f : Nat := 0
def Q5f (Z : State) (a0 : Addr) (a1 : Addr) (h0 : Heap) (v : Option Value) (h : Heap) (L : List Loc) : Prop := v = some (.int f5f) ∧ L = [] ∧ h = h0
set_option maxRecDepth 65536 in
set_option maxHeartbeats 40000000 in
theorem rm5f (l : Launch) (Z : State) (tA : Array Value) (hw : ∀ d ∈ tables_1, d.before tA Z = true) (ws : List Jvm.Cond) (a0 : Addr) (a1 : Addr) (h0 : Heap) (H0 : Ara Z h0 a0 .byte [(.int (102 : Int32)), (.int (97 : Int32)), (.int (108 : Int32)), (.int (115 : Int32)), (.int (101 : Int32))]) (H1 : Ara Z h0 a1 .byte [(.int (102 : Int32)), (.int (97 : Int32)), (.int (108 : Int32)), (.int (115 : Int32)), (.int (101 : Int32))]) :
    MetFree l (⟨"java/lang/StringLatin1", "equals", "([B[B)Z"⟩ : MethodName) (head1 (Jvm.Cond.code (⟨"java/lang/StringLatin1", "equals", "([B[B)Z"⟩ : MethodName) jdk_43_method_13_code 3 (some .boolean) :: ws) RM5f) (fun a U => a = #[(.ref a0), (.ref a1)] ∧ Z.Warmed39 U.vm ∧ U.heap = h0) (fun _ _ _ _ _ => True) (fun _ U o U' => ∃ v L, o = .returned v ∧ Q5f Z a0 a1 h0 v U'.heap L ∧ FrameEnd U o U' L RM5f.cells RM5f.slots) := by
  refine MetFree.of_bodySF (plainFor_of_name own_pn1) hisR ?_
  intro p e s m args below meth c s₁ Bd hml0 hP hK
  obtain ⟨rfl, hZ, hh⟩ := hP
  have hx := Bd.exec
  have hby := Bd.bytes
  have hml : c.maxLocals = 3 := hml0
  have hown : s.vm.findClass "java/lang/StringLatin1" = some m.cls := findClass_of_methodNamed Bd.named
  have hnm := (name_of_methodNamed Bd.named Bd.method).1
  have X0 : Stand p l e RM5f s m #[(.ref a0), (.ref a1)] below meth c s₁ [] 0 0 := Stand.of_body Bd
  have e0 : s₁.heap = h0 := by rw [← hh, Bd.state]; rfl
  show Goes p e below s (Q5f Z a0 a1 h0) kC5f kS5f (s₁.setTop (entryFrame m #[(.ref a0), (.ref a1)] 3))
  refine Goes.step (fun t k => castTop (own_ef5f m a0 a1) k) ?_
  show Goes _ _ _ _ _ _ _ (s₁.setTop (mkF m 0 #[.val (.ref a0), .val (.ref a1), .unset] []))
  refine Goes.step (fun t k => XS.aloadN X0.here hx rfl (hb hby own_d5_0) rfl rfl k) ?_
  show Goes _ _ _ _ _ _ _ (s₁.setTop (mkF m 1 #[.val (.ref a0), .val (.ref a1), .unset] [(.ref a0)]))
  obtain ⟨cl1, Ar1, q1, ll1, ff1, oo1⟩ := id H0
  have hz1 : cl1.slots.size.toInt32 = (5 : Int32) := by rw [lenb q1]; rfl
  refine Goes.step (fun t k => X0.arraylength hx (by rw [e0]; exact Ar1.1) (State.isArrayOf_alike hZ.alike Ar1.2.1) (g := (mkF m 1 #[.val (.ref a0), .val (.ref a1), .unset] [(.ref a0)])) rfl rfl (hb hby own_d5_1) t k) ?_
  show Goes _ _ _ _ _ _ _ (s₁.setTop (mkF m 2 #[.val (.ref a0), .val (.ref a1), .unset] [(.int cl1.slots.size.toInt32)]))
  rw [hz1]
  show Goes _ _ _ _ _ _ _ (s₁.setTop (mkF m 2 #[.val (.ref a0), .val (.ref a1), .unset] [(.int (5 : Int32))]))
  refine Goes.step (fun t k => XS.aloadN X0.here hx rfl (hb hby own_d5_2) rfl rfl k) ?_
  show Goes _ _ _ _ _ _ _ (s₁.setTop (mkF m 3 #[.val (.ref a0), .val (.ref a1), .unset] [(.ref a1), (.int (5 : Int32))]))
  obtain ⟨cl2, Ar2, q2, ll2, ff2, oo2⟩ := id H1
  have hz2 : cl2.slots.size.toInt32 = (5 : Int32) := by rw [lenb q2]; rfl
  refine Goes.step (fun t k => X0.arraylength hx (by rw [e0]; exact Ar2.1) (State.isArrayOf_alike hZ.alike Ar2.2.1) (g := (mkF m 3 #[.val (.ref a0), .val (.ref a1), .unset] [(.ref a1), (.int (5 : Int32))])) rfl rfl (hb hby own_d5_3) t k) ?_
  show Goes _ _ _ _ _ _ _ (s₁.setTop (mkF m 4 #[.val (.ref a0), .val (.ref a1), .unset] [(.int cl2.slots.size.toInt32), (.int (5 : Int32))]))
  rw [hz2]
  show Goes _ _ _ _ _ _ _ (s₁.setTop (mkF m 4 #[.val (.ref a0), .val (.ref a1), .unset] [(.int (5 : Int32)), (.int (5 : Int32))]))
  refine Goes.step (fun t k => XS.icmpNo X0.here hx rfl (hb hby own_d5_4) rfl (teq (by decide)).2 k) ?_
  show Goes _ _ _ _ _ _ _ (s₁.setTop (mkF m 7 #[.val (.ref a0), .val (.ref a1), .unset] []))
  refine Goes.step (fun t k => XS.iconst X0.here hx rfl (hb hby own_d5_7) k) ?_
  show Goes _ _ _ _ _ _ _ (s₁.setTop (mkF m 8 #[.val (.ref a0), .val (.ref a1), .unset] [(.int (0 : Int32))]))
  refine Goes.step (fun t k => XS.istoreN X0.here hx rfl (hb hby own_d5_8) rfl (l' := #[.val (.ref a0), .val (.ref a1), .val (.int (0 : Int32))]) rfl k) ?_
  show Goes _ _ _ _ _ _ _ (s₁.setTop (mkF m 9 #[.val (.ref a0), .val (.ref a1), .val (.int (0 : Int32))] []))
  refine Goes.step (fun t k => XS.iloadN X0.here hx rfl (hb hby own_d5_9) rfl k) ?_
  show Goes _ _ _ _ _ _ _ (s₁.setTop (mkF m 10 #[.val (.ref a0), .val (.ref a1), .val (.int (0 : Int32))] [(.int (0 : Int32))]))
  refine Goes.step (fun t k => XS.aloadN X0.here hx rfl (hb hby own_d5_10) rfl rfl k) ?_
  show Goes _ _ _ _ _ _ _ (s₁.setTop (mkF m 11 #[.val (.ref a0), .val (.ref a1), .val (.int (0 : Int32))] [(.ref a0), (.int (0 : Int32))]))
  obtain ⟨cl4, Ar4, q4, ll4, ff4, oo4⟩ := id H0
  have hz4 : cl4.slots.size.toInt32 = (5 : Int32) := by rw [lenb q4]; rfl
  refine Goes.step (fun t k => X0.arraylength hx (by rw [e0]; exact Ar4.1) (State.isArrayOf_alike hZ.alike Ar4.2.1) (g := (mkF m 11 #[.val (.ref a0), .val (.ref a1), .val (.int (0 : Int32))] [(.ref a0), (.int (0 : Int32))])) rfl rfl (hb hby own_d5_11) t k) ?_
  show Goes _ _ _ _ _ _ _ (s₁.setTop (mkF m 12 #[.val (.ref a0), .val (.ref a1), .val (.int (0 : Int32))] [(.int cl4.slots.size.toInt32), (.int (0 : Int32))]))
  rw [hz4]
  show Goes _ _ _ _ _ _ _ (s₁.setTop (mkF m 12 #[.val (.ref a0), .val (.ref a1), .val (.int (0 : Int32))] [(.int (5 : Int32)), (.int (0 : Int32))]))
  refine Goes.step (fun t k => XS.icmpNo X0.here hx rfl (hb hby own_d5_12) rfl (tlt (by decide)).2.1 k) ?_
  show Goes _ _ _ _ _ _ _ (s₁.setTop (mkF m 15 #[.val (.ref a0), .val (.ref a1), .val (.int (0 : Int32))] []))
  refine Goes.step (fun t k => XS.aloadN X0.here hx rfl (hb hby own_d5_15) rfl rfl k) ?_
  show Goes _ _ _ _ _ _ _ (s₁.setTop (mkF m 16 #[.val (.ref a0), .val (.ref a1), .val (.int (0 : Int32))] [(.ref a0)]))
  refine Goes.step (fun t k => XS.iloadN X0.here hx rfl (hb hby own_d5_16) rfl k) ?_
  show Goes _ _ _ _ _ _ _ (s₁.setTop (mkF m 17 #[.val (.ref a0), .val (.ref a1), .val (.int (0 : Int32))] [(.int (0 : Int32)), (.ref a0)]))
  obtain ⟨cl6, Ar6, q6, ll6, ff6, oo6⟩ := id H0
  have hn6 : ¬ (0 : Int32) < 0 := by decide
  have hv6 : ([(.int (102 : Int32)), (.int (97 : Int32)), (.int (108 : Int32)), (.int (115 : Int32)), (.int (101 : Int32))] : List Value)[((0 : Int32)).toNatClampNeg]? = some (.int (102 : Int32)) := by rfl
  refine Goes.step (fun t k => X0.baloadBytes hx (j := (0 : Int32)) (v := (.int (102 : Int32))) (by rw [e0]; exact Ar6.1) (State.isArrayOf_alike hZ.alike Ar6.2.1) Ar6.2.2 (inb q6 hn6 (ltb hv6)) (getb q6 hv6) (g := (mkF m 17 #[.val (.ref a0), .val (.ref a1), .val (.int (0 : Int32))] [(.int (0 : Int32)), (.ref a0)])) rfl rfl (hb hby own_d5_17) t k) ?_
  show Goes _ _ _ _ _ _ _ (s₁.setTop (mkF m 18 #[.val (.ref a0), .val (.ref a1), .val (.int (0 : Int32))] [(.int (102 : Int32))]))
  refine Goes.step (fun t k => XS.aloadN X0.here hx rfl (hb hby own_d5_18) rfl rfl k) ?_
  show Goes _ _ _ _ _ _ _ (s₁.setTop (mkF m 19 #[.val (.ref a0), .val (.ref a1), .val (.int (0 : Int32))] [(.ref a1), (.int (102 : Int32))]))
  refine Goes.step (fun t k => XS.iloadN X0.here hx rfl (hb hby own_d5_19) rfl k) ?_
  show Goes _ _ _ _ _ _ _ (s₁.setTop (mkF m 20 #[.val (.ref a0), .val (.ref a1), .val (.int (0 : Int32))] [(.int (0 : Int32)), (.ref a1), (.int (102 : Int32))]))
  obtain ⟨cl7, Ar7, q7, ll7, ff7, oo7⟩ := id H1
  have hn7 : ¬ (0 : Int32) < 0 := by decide
  have hv7 : ([(.int (102 : Int32)), (.int (97 : Int32)), (.int (108 : Int32)), (.int (115 : Int32)), (.int (101 : Int32))] : List Value)[((0 : Int32)).toNatClampNeg]? = some (.int (102 : Int32)) := by rfl
  refine Goes.step (fun t k => X0.baloadBytes hx (j := (0 : Int32)) (v := (.int (102 : Int32))) (by rw [e0]; exact Ar7.1) (State.isArrayOf_alike hZ.alike Ar7.2.1) Ar7.2.2 (inb q7 hn7 (ltb hv7)) (getb q7 hv7) (g := (mkF m 20 #[.val (.ref a0), .val (.ref a1), .val (.int (0 : Int32))] [(.int (0 : Int32)), (.ref a1), (.int (102 : Int32))])) rfl rfl (hb hby own_d5_20) t k) ?_
  show Goes _ _ _ _ _ _ _ (s₁.setTop (mkF m 21 #[.val (.ref a0), .val (.ref a1), .val (.int (0 : Int32))] [(.int (102 : Int32)), (.int (102 : Int32))]))
  refine Goes.step (fun t k => XS.icmpYes X0.here hx rfl (pc0 := 21) (pc' := 26) rfl (hb hby own_d5_21) rfl (teq (by decide)).1 (by decide) (by decide) k) ?_
  show Goes _ _ _ _ _ _ _ (s₁.setTop (mkF m 26 #[.val (.ref a0), .val (.ref a1), .val (.int (0 : Int32))] []))
  refine Goes.step (fun t k => XS.iinc X0.here hx rfl (hb hby own_d5_26) rfl (l' := #[.val (.ref a0), .val (.ref a1), .val (.int (1 : Int32))]) rfl k) ?_
  show Goes _ _ _ _ _ _ _ (s₁.setTop (mkF m 29 #[.val (.ref a0), .val (.ref a1), .val (.int (1 : Int32))] []))
  refine Goes.step (fun t k => XS.goto X0.here hx rfl (pc0 := 29) (pc' := 9) rfl (hb hby own_d5_29) (by decide) (by decide) k) ?_
  show Goes _ _ _ _ _ _ _ (s₁.setTop (mkF m 9 #[.val (.ref a0), .val (.ref a1), .val (.int (1 : Int32))] []))
  refine Goes.step (fun t k => XS.iloadN X0.here hx rfl (hb hby own_d5_9) rfl k) ?_
  show Goes _ _ _ _ _ _ _ (s₁.setTop (mkF m 10 #[.val (.ref a0), .val (.ref a1), .val (.int (1 : Int32))] [(.int (1 : Int32))]))
  refine Goes.step (fun t k => XS.aloadN X0.here hx rfl (hb hby own_d5_10) rfl rfl k) ?_
  show Goes _ _ _ _ _ _ _ (s₁.setTop (mkF m 11 #[.val (.ref a0), .val (.ref a1), .val (.int (1 : Int32))] [(.ref a0), (.int (1 : Int32))]))
  obtain ⟨cl9, Ar9, q9, ll9, ff9, oo9⟩ := id H0
  have hz9 : cl9.slots.size.toInt32 = (5 : Int32) := by rw [lenb q9]; rfl
  refine Goes.step (fun t k => X0.arraylength hx (by rw [e0]; exact Ar9.1) (State.isArrayOf_alike hZ.alike Ar9.2.1) (g := (mkF m 11 #[.val (.ref a0), .val (.ref a1), .val (.int (1 : Int32))] [(.ref a0), (.int (1 : Int32))])) rfl rfl (hb hby own_d5_11) t k) ?_
  show Goes _ _ _ _ _ _ _ (s₁.setTop (mkF m 12 #[.val (.ref a0), .val (.ref a1), .val (.int (1 : Int32))] [(.int cl9.slots.size.toInt32), (.int (1 : Int32))]))
  rw [hz9]
  show Goes _ _ _ _ _ _ _ (s₁.setTop (mkF m 12 #[.val (.ref a0), .val (.ref a1), .val (.int (1 : Int32))] [(.int (5 : Int32)), (.int (1 : Int32))]))
  refine Goes.step (fun t k => XS.icmpNo X0.here hx rfl (hb hby own_d5_12) rfl (tlt (by decide)).2.1 k) ?_
  show Goes _ _ _ _ _ _ _ (s₁.setTop (mkF m 15 #[.val (.ref a0), .val (.ref a1), .val (.int (1 : Int32))] []))
  refine Goes.step (fun t k => XS.aloadN X0.here hx rfl (hb hby own_d5_15) rfl rfl k) ?_
  show Goes _ _ _ _ _ _ _ (s₁.setTop (mkF m 16 #[.val (.ref a0), .val (.ref a1), .val (.int (1 : Int32))] [(.ref a0)]))
  refine Goes.step (fun t k => XS.iloadN X0.here hx rfl (hb hby own_d5_16) rfl k) ?_
  show Goes _ _ _ _ _ _ _ (s₁.setTop (mkF m 17 #[.val (.ref a0), .val (.ref a1), .val (.int (1 : Int32))] [(.int (1 : Int32)), (.ref a0)]))
  obtain ⟨cl11, Ar11, q11, ll11, ff11, oo11⟩ := id H0
  have hn11 : ¬ (1 : Int32) < 0 := by decide
  have hv11 : ([(.int (102 : Int32)), (.int (97 : Int32)), (.int (108 : Int32)), (.int (115 : Int32)), (.int (101 : Int32))] : List Value)[((1 : Int32)).toNatClampNeg]? = some (.int (97 : Int32)) := by rfl
  refine Goes.step (fun t k => X0.baloadBytes hx (j := (1 : Int32)) (v := (.int (97 : Int32))) (by rw [e0]; exact Ar11.1) (State.isArrayOf_alike hZ.alike Ar11.2.1) Ar11.2.2 (inb q11 hn11 (ltb hv11)) (getb q11 hv11) (g := (mkF m 17 #[.val (.ref a0), .val (.ref a1), .val (.int (1 : Int32))] [(.int (1 : Int32)), (.ref a0)])) rfl rfl (hb hby own_d5_17) t k) ?_
  show Goes _ _ _ _ _ _ _ (s₁.setTop (mkF m 18 #[.val (.ref a0), .val (.ref a1), .val (.int (1 : Int32))] [(.int (97 : Int32))]))
  refine Goes.step (fun t k => XS.aloadN X0.here hx rfl (hb hby own_d5_18) rfl rfl k) ?_
  show Goes _ _ _ _ _ _ _ (s₁.setTop (mkF m 19 #[.val (.ref a0), .val (.ref a1), .val (.int (1 : Int32))] [(.ref a1), (.int (97 : Int32))]))
  refine Goes.step (fun t k => XS.iloadN X0.here hx rfl (hb hby own_d5_19) rfl k) ?_
  show Goes _ _ _ _ _ _ _ (s₁.setTop (mkF m 20 #[.val (.ref a0), .val (.ref a1), .val (.int (1 : Int32))] [(.int (1 : Int32)), (.ref a1), (.int (97 : Int32))]))
  obtain ⟨cl12, Ar12, q12, ll12, ff12, oo12⟩ := id H1
  have hn12 : ¬ (1 : Int32) < 0 := by decide
  have hv12 : ([(.int (102 : Int32)), (.int (97 : Int32)), (.int (108 : Int32)), (.int (115 : Int32)), (.int (101 : Int32))] : List Value)[((1 : Int32)).toNatClampNeg]? = some (.int (97 : Int32)) := by rfl
  refine Goes.step (fun t k => X0.baloadBytes hx (j := (1 : Int32)) (v := (.int (97 : Int32))) (by rw [e0]; exact Ar12.1) (State.isArrayOf_alike hZ.alike Ar12.2.1) Ar12.2.2 (inb q12 hn12 (ltb hv12)) (getb q12 hv12) (g := (mkF m 20 #[.val (.ref a0), .val (.ref a1), .val (.int (1 : Int32))] [(.int (1 : Int32)), (.ref a1), (.int (97 : Int32))])) rfl rfl (hb hby own_d5_20) t k) ?_
  show Goes _ _ _ _ _ _ _ (s₁.setTop (mkF m 21 #[.val (.ref a0), .val (.ref a1), .val (.int (1 : Int32))] [(.int (97 : Int32)), (.int (97 : Int32))]))
  refine Goes.step (fun t k => XS.icmpYes X0.here hx rfl (pc0 := 21) (pc' := 26) rfl (hb hby own_d5_21) rfl (teq (by decide)).1 (by decide) (by decide) k) ?_
  show Goes _ _ _ _ _ _ _ (s₁.setTop (mkF m 26 #[.val (.ref a0), .val (.ref a1), .val (.int (1 : Int32))] []))
  refine Goes.step (fun t k => XS.iinc X0.here hx rfl (hb hby own_d5_26) rfl (l' := #[.val (.ref a0), .val (.ref a1), .val (.int (2 : Int32))]) rfl k) ?_
  show Goes _ _ _ _ _ _ _ (s₁.setTop (mkF m 29 #[.val (.ref a0), .val (.ref a1), .val (.int (2 : Int32))] []))
  refine Goes.step (fun t k => XS.goto X0.here hx rfl (pc0 := 29) (pc' := 9) rfl (hb hby own_d5_29) (by decide) (by decide) k) ?_
  show Goes _ _ _ _ _ _ _ (s₁.setTop (mkF m 9 #[.val (.ref a0), .val (.ref a1), .val (.int (2 : Int32))] []))
  refine Goes.step (fun t k => XS.iloadN X0.here hx rfl (hb hby own_d5_9) rfl k) ?_
  show Goes _ _ _ _ _ _ _ (s₁.setTop (mkF m 10 #[.val (.ref a0), .val (.ref a1), .val (.int (2 : Int32))] [(.int (2 : Int32))]))
  refine Goes.step (fun t k => XS.aloadN X0.here hx rfl (hb hby own_d5_10) rfl rfl k) ?_
  show Goes _ _ _ _ _ _ _ (s₁.setTop (mkF m 11 #[.val (.ref a0), .val (.ref a1), .val (.int (2 : Int32))] [(.ref a0), (.int (2 : Int32))]))
  obtain ⟨cl14, Ar14, q14, ll14, ff14, oo14⟩ := id H0
  have hz14 : cl14.slots.size.toInt32 = (5 : Int32) := by rw [lenb q14]; rfl
  refine Goes.step (fun t k => X0.arraylength hx (by rw [e0]; exact Ar14.1) (State.isArrayOf_alike hZ.alike Ar14.2.1) (g := (mkF m 11 #[.val (.ref a0), .val (.ref a1), .val (.int (2 : Int32))] [(.ref a0), (.int (2 : Int32))])) rfl rfl (hb hby own_d5_11) t k) ?_
  show Goes _ _ _ _ _ _ _ (s₁.setTop (mkF m 12 #[.val (.ref a0), .val (.ref a1), .val (.int (2 : Int32))] [(.int cl14.slots.size.toInt32), (.int (2 : Int32))]))
  rw [hz14]
  show Goes _ _ _ _ _ _ _ (s₁.setTop (mkF m 12 #[.val (.ref a0), .val (.ref a1), .val (.int (2 : Int32))] [(.int (5 : Int32)), (.int (2 : Int32))]))
  refine Goes.step (fun t k => XS.icmpNo X0.here hx rfl (hb hby own_d5_12) rfl (tlt (by decide)).2.1 k) ?_
  show Goes _ _ _ _ _ _ _ (s₁.setTop (mkF m 15 #[.val (.ref a0), .val (.ref a1), .val (.int (2 : Int32))] []))
  refine Goes.step (fun t k => XS.aloadN X0.here hx rfl (hb hby own_d5_15) rfl rfl k) ?_
  show Goes _ _ _ _ _ _ _ (s₁.setTop (mkF m 16 #[.val (.ref a0), .val (.ref a1), .val (.int (2 : Int32))] [(.ref a0)]))
  refine Goes.step (fun t k => XS.iloadN X0.here hx rfl (hb hby own_d5_16) rfl k) ?_
  show Goes _ _ _ _ _ _ _ (s₁.setTop (mkF m 17 #[.val (.ref a0), .val (.ref a1), .val (.int (2 : Int32))] [(.int (2 : Int32)), (.ref a0)]))
  obtain ⟨cl16, Ar16, q16, ll16, ff16, oo16⟩ := id H0
  have hn16 : ¬ (2 : Int32) < 0 := by decide
  have hv16 : ([(.int (102 : Int32)), (.int (97 : Int32)), (.int (108 : Int32)), (.int (115 : Int32)), (.int (101 : Int32))] : List Value)[((2 : Int32)).toNatClampNeg]? = some (.int (108 : Int32)) := by rfl
  refine Goes.step (fun t k => X0.baloadBytes hx (j := (2 : Int32)) (v := (.int (108 : Int32))) (by rw [e0]; exact Ar16.1) (State.isArrayOf_alike hZ.alike Ar16.2.1) Ar16.2.2 (inb q16 hn16 (ltb hv16)) (getb q16 hv16) (g := (mkF m 17 #[.val (.ref a0), .val (.ref a1), .val (.int (2 : Int32))] [(.int (2 : Int32)), (.ref a0)])) rfl rfl (hb hby own_d5_17) t k) ?_
  show Goes _ _ _ _ _ _ _ (s₁.setTop (mkF m 18 #[.val (.ref a0), .val (.ref a1), .val (.int (2 : Int32))] [(.int (108 : Int32))]))
  refine Goes.step (fun t k => XS.aloadN X0.here hx rfl (hb hby own_d5_18) rfl rfl k) ?_
  show Goes _ _ _ _ _ _ _ (s₁.setTop (mkF m 19 #[.val (.ref a0), .val (.ref a1), .val (.int (2 : Int32))] [(.ref a1), (.int (108 : Int32))]))
  refine Goes.step (fun t k => XS.iloadN X0.here hx rfl (hb hby own_d5_19) rfl k) ?_
  show Goes _ _ _ _ _ _ _ (s₁.setTop (mkF m 20 #[.val (.ref a0), .val (.ref a1), .val (.int (2 : Int32))] [(.int (2 : Int32)), (.ref a1), (.int (108 : Int32))]))
  obtain ⟨cl17, Ar17, q17, ll17, ff17, oo17⟩ := id H1
  have hn17 : ¬ (2 : Int32) < 0 := by decide
  have hv17 : ([(.int (102 : Int32)), (.int (97 : Int32)), (.int (108 : Int32)), (.int (115 : Int32)), (.int (101 : Int32))] : List Value)[((2 : Int32)).toNatClampNeg]? = some (.int (108 : Int32)) := by rfl
  refine Goes.step (fun t k => X0.baloadBytes hx (j := (2 : Int32)) (v := (.int (108 : Int32))) (by rw [e0]; exact Ar17.1) (State.isArrayOf_alike hZ.alike Ar17.2.1) Ar17.2.2 (inb q17 hn17 (ltb hv17)) (getb q17 hv17) (g := (mkF m 20 #[.val (.ref a0), .val (.ref a1), .val (.int (2 : Int32))] [(.int (2 : Int32)), (.ref a1), (.int (108 : Int32))])) rfl rfl (hb hby own_d5_20) t k) ?_
  show Goes _ _ _ _ _ _ _ (s₁.setTop (mkF m 21 #[.val (.ref a0), .val (.ref a1), .val (.int (2 : Int32))] [(.int (108 : Int32)), (.int (108 : Int32))]))
  refine Goes.step (fun t k => XS.icmpYes X0.here hx rfl (pc0 := 21) (pc' := 26) rfl (hb hby own_d5_21) rfl (teq (by decide)).1 (by decide) (by decide) k) ?_
  show Goes _ _ _ _ _ _ _ (s₁.setTop (mkF m 26 #[.val (.ref a0), .val (.ref a1), .val (.int (2 : Int32))] []))
  refine Goes.step (fun t k => XS.iinc X0.here hx rfl (hb hby own_d5_26) rfl (l' := #[.val (.ref a0), .val (.ref a1), .val (.int (3 : Int32))]) rfl k) ?_
  show Goes _ _ _ _ _ _ _ (s₁.setTop (mkF m 29 #[.val (.ref a0), .val (.ref a1), .val (.int (3 : Int32))] []))
  refine Goes.step (fun t k => XS.goto X0.here hx rfl (pc0 := 29) (pc' := 9) rfl (hb hby own_d5_29) (by decide) (by decide) k) ?_
  show Goes _ _ _ _ _ _ _ (s₁.setTop (mkF m 9 #[.val (.ref a0), .val (.ref a1), .val (.int (3 : Int32))] []))
  refine Goes.step (fun t k => XS.iloadN X0.here hx rfl (hb hby own_d5_9) rfl k) ?_
  show Goes _ _ _ _ _ _ _ (s₁.setTop (mkF m 10 #[.val (.ref a0), .val (.ref a1), .val (.int (3 : Int32))] [(.int (3 : Int32))]))
  refine Goes.step (fun t k => XS.aloadN X0.here hx rfl (hb hby own_d5_10) rfl rfl k) ?_
  show Goes _ _ _ _ _ _ _ (s₁.setTop (mkF m 11 #[.val (.ref a0), .val (.ref a1), .val (.int (3 : Int32))] [(.ref a0), (.int (3 : Int32))]))
  obtain ⟨cl19, Ar19, q19, ll19, ff19, oo19⟩ := id H0
  have hz19 : cl19.slots.size.toInt32 = (5 : Int32) := by rw [lenb q19]; rfl
  refine Goes.step (fun t k => X0.arraylength hx (by rw [e0]; exact Ar19.1) (State.isArrayOf_alike hZ.alike Ar19.2.1) (g := (mkF m 11 #[.val (.ref a0), .val (.ref a1), .val (.int (3 : Int32))] [(.ref a0), (.int (3 : Int32))])) rfl rfl (hb hby own_d5_11) t k) ?_
  show Goes _ _ _ _ _ _ _ (s₁.setTop (mkF m 12 #[.val (.ref a0), .val (.ref a1), .val (.int (3 : Int32))] [(.int cl19.slots.size.toInt32), (.int (3 : Int32))]))
  rw [hz19]
  show Goes _ _ _ _ _ _ _ (s₁.setTop (mkF m 12 #[.val (.ref a0), .val (.ref a1), .val (.int (3 : Int32))] [(.int (5 : Int32)), (.int (3 : Int32))]))
  refine Goes.step (fun t k => XS.icmpNo X0.here hx rfl (hb hby own_d5_12) rfl (tlt (by decide)).2.1 k) ?_
  show Goes _ _ _ _ _ _ _ (s₁.setTop (mkF m 15 #[.val (.ref a0), .val (.ref a1), .val (.int (3 : Int32))] []))
  refine Goes.step (fun t k => XS.aloadN X0.here hx rfl (hb hby own_d5_15) rfl rfl k) ?_
  show Goes _ _ _ _ _ _ _ (s₁.setTop (mkF m 16 #[.val (.ref a0), .val (.ref a1), .val (.int (3 : Int32))] [(.ref a0)]))
  refine Goes.step (fun t k => XS.iloadN X0.here hx rfl (hb hby own_d5_16) rfl k) ?_
  show Goes _ _ _ _ _ _ _ (s₁.setTop (mkF m 17 #[.val (.ref a0), .val (.ref a1), .val (.int (3 : Int32))] [(.int (3 : Int32)), (.ref a0)]))
  obtain ⟨cl21, Ar21, q21, ll21, ff21, oo21⟩ := id H0
  have hn21 : ¬ (3 : Int32) < 0 := by decide
  have hv21 : ([(.int (102 : Int32)), (.int (97 : Int32)), (.int (108 : Int32)), (.int (115 : Int32)), (.int (101 : Int32))] : List Value)[((3 : Int32)).toNatClampNeg]? = some (.int (115 : Int32)) := by rfl
  refine Goes.step (fun t k => X0.baloadBytes hx (j := (3 : Int32)) (v := (.int (115 : Int32))) (by rw [e0]; exact Ar21.1) (State.isArrayOf_alike hZ.alike Ar21.2.1) Ar21.2.2 (inb q21 hn21 (ltb hv21)) (getb q21 hv21) (g := (mkF m 17 #[.val (.ref a0), .val (.ref a1), .val (.int (3 : Int32))] [(.int (3 : Int32)), (.ref a0)])) rfl rfl (hb hby own_d5_17) t k) ?_
  show Goes _ _ _ _ _ _ _ (s₁.setTop (mkF m 18 #[.val (.ref a0), .val (.ref a1), .val (.int (3 : Int32))] [(.int (115 : Int32))]))
  refine Goes.step (fun t k => XS.aloadN X0.here hx rfl (hb hby own_d5_18) rfl rfl k) ?_
  show Goes _ _ _ _ _ _ _ (s₁.setTop (mkF m 19 #[.val (.ref a0), .val (.ref a1), .val (.int (3 : Int32))] [(.ref a1), (.int (115 : Int32))]))
  refine Goes.step (fun t k => XS.iloadN X0.here hx rfl (hb hby own_d5_19) rfl k) ?_
  show Goes _ _ _ _ _ _ _ (s₁.setTop (mkF m 20 #[.val (.ref a0), .val (.ref a1), .val (.int (3 : Int32))] [(.int (3 : Int32)), (.ref a1), (.int (115 : Int32))]))
  obtain ⟨cl22, Ar22, q22, ll22, ff22, oo22⟩ := id H1
  have hn22 : ¬ (3 : Int32) < 0 := by decide
  have hv22 : ([(.int (102 : Int32)), (.int (97 : Int32)), (.int (108 : Int32)), (.int (115 : Int32)), (.int (101 : Int32))] : List Value)[((3 : Int32)).toNatClampNeg]? = some (.int (115 : Int32)) := by rfl
  refine Goes.step (fun t k => X0.baloadBytes hx (j := (3 : Int32)) (v := (.int (115 : Int32))) (by rw [e0]; exact Ar22.1) (State.isArrayOf_alike hZ.alike Ar22.2.1) Ar22.2.2 (inb q22 hn22 (ltb hv22)) (getb q22 hv22) (g := (mkF m 20 #[.val (.ref a0), .val (.ref a1), .val (.int (3 : Int32))] [(.int (3 : Int32)), (.ref a1), (.int (115 : Int32))])) rfl rfl (hb hby own_d5_20) t k) ?_
  show Goes _ _ _ _ _ _ _ (s₁.setTop (mkF m 21 #[.val (.ref a0), .val (.ref a1), .val (.int (3 : Int32))] [(.int (115 : Int32)), (.int (115 : Int32))]))
  refine Goes.step (fun t k => XS.icmpYes X0.here hx rfl (pc0 := 21) (pc' := 26) rfl (hb hby own_d5_21) rfl (teq (by decide)).1 (by decide) (by decide) k) ?_
  show Goes _ _ _ _ _ _ _ (s₁.setTop (mkF m 26 #[.val (.ref a0), .val (.ref a1), .val (.int (3 : Int32))] []))
  refine Goes.step (fun t k => XS.iinc X0.here hx rfl (hb hby own_d5_26) rfl (l' := #[.val (.ref a0), .val (.ref a1), .val (.int (4 : Int32))]) rfl k) ?_
  show Goes _ _ _ _ _ _ _ (s₁.setTop (mkF m 29 #[.val (.ref a0), .val (.ref a1), .val (.int (4 : Int32))] []))
  refine Goes.step (fun t k => XS.goto X0.here hx rfl (pc0 := 29) (pc' := 9) rfl (hb hby own_d5_29) (by decide) (by decide) k) ?_
  show Goes _ _ _ _ _ _ _ (s₁.setTop (mkF m 9 #[.val (.ref a0), .val (.ref a1), .val (.int (4 : Int32))] []))
  refine Goes.step (fun t k => XS.iloadN X0.here hx rfl (hb hby own_d5_9) rfl k) ?_
  show Goes _ _ _ _ _ _ _ (s₁.setTop (mkF m 10 #[.val (.ref a0), .val (.ref a1), .val (.int (4 : Int32))] [(.int (4 : Int32))]))
  refine Goes.step (fun t k => XS.aloadN X0.here hx rfl (hb hby own_d5_10) rfl rfl k) ?_
  show Goes _ _ _ _ _ _ _ (s₁.setTop (mkF m 11 #[.val (.ref a0), .val (.ref a1), .val (.int (4 : Int32))] [(.ref a0), (.int (4 : Int32))]))
  obtain ⟨cl24, Ar24, q24, ll24, ff24, oo24⟩ := id H0
  have hz24 : cl24.slots.size.toInt32 = (5 : Int32) := by rw [lenb q24]; rfl
  refine Goes.step (fun t k => X0.arraylength hx (by rw [e0]; exact Ar24.1) (State.isArrayOf_alike hZ.alike Ar24.2.1) (g := (mkF m 11 #[.val (.ref a0), .val (.ref a1), .val (.int (4 : Int32))] [(.ref a0), (.int (4 : Int32))])) rfl rfl (hb hby own_d5_11) t k) ?_
  show Goes _ _ _ _ _ _ _ (s₁.setTop (mkF m 12 #[.val (.ref a0), .val (.ref a1), .val (.int (4 : Int32))] [(.int cl24.slots.size.toInt32), (.int (4 : Int32))]))
  rw [hz24]
  show Goes _ _ _ _ _ _ _ (s₁.setTop (mkF m 12 #[.val (.ref a0), .val (.ref a1), .val (.int (4 : Int32))] [(.int (5 : Int32)), (.int (4 : Int32))]))
  refine Goes.step (fun t k => XS.icmpNo X0.here hx rfl (hb hby own_d5_12) rfl (tlt (by decide)).2.1 k) ?_
  show Goes _ _ _ _ _ _ _ (s₁.setTop (mkF m 15 #[.val (.ref a0), .val (.ref a1), .val (.int (4 : Int32))] []))
  refine Goes.step (fun t k => XS.aloadN X0.here hx rfl (hb hby own_d5_15) rfl rfl k) ?_
  show Goes _ _ _ _ _ _ _ (s₁.setTop (mkF m 16 #[.val (.ref a0), .val (.ref a1), .val (.int (4 : Int32))] [(.ref a0)]))
  refine Goes.step (fun t k => XS.iloadN X0.here hx rfl (hb hby own_d5_16) rfl k) ?_
  show Goes _ _ _ _ _ _ _ (s₁.setTop (mkF m 17 #[.val (.ref a0), .val (.ref a1), .val (.int (4 : Int32))] [(.int (4 : Int32)), (.ref a0)]))
  obtain ⟨cl26, Ar26, q26, ll26, ff26, oo26⟩ := id H0
  have hn26 : ¬ (4 : Int32) < 0 := by decide
  have hv26 : ([(.int (102 : Int32)), (.int (97 : Int32)), (.int (108 : Int32)), (.int (115 : Int32)), (.int (101 : Int32))] : List Value)[((4 : Int32)).toNatClampNeg]? = some (.int (101 : Int32)) := by rfl
  refine Goes.step (fun t k => X0.baloadBytes hx (j := (4 : Int32)) (v := (.int (101 : Int32))) (by rw [e0]; exact Ar26.1) (State.isArrayOf_alike hZ.alike Ar26.2.1) Ar26.2.2 (inb q26 hn26 (ltb hv26)) (getb q26 hv26) (g := (mkF m 17 #[.val (.ref a0), .val (.ref a1), .val (.int (4 : Int32))] [(.int (4 : Int32)), (.ref a0)])) rfl rfl (hb hby own_d5_17) t k) ?_
  show Goes _ _ _ _ _ _ _ (s₁.setTop (mkF m 18 #[.val (.ref a0), .val (.ref a1), .val (.int (4 : Int32))] [(.int (101 : Int32))]))
  refine Goes.step (fun t k => XS.aloadN X0.here hx rfl (hb hby own_d5_18) rfl rfl k) ?_
  show Goes _ _ _ _ _ _ _ (s₁.setTop (mkF m 19 #[.val (.ref a0), .val (.ref a1), .val (.int (4 : Int32))] [(.ref a1), (.int (101 : Int32))]))
  refine Goes.step (fun t k => XS.iloadN X0.here hx rfl (hb hby own_d5_19) rfl k) ?_
  show Goes _ _ _ _ _ _ _ (s₁.setTop (mkF m 20 #[.val (.ref a0), .val (.ref a1), .val (.int (4 : Int32))] [(.int (4 : Int32)), (.ref a1), (.int (101 : Int32))]))
  obtain ⟨cl27, Ar27, q27, ll27, ff27, oo27⟩ := id H1
  have hn27 : ¬ (4 : Int32) < 0 := by decide
  have hv27 : ([(.int (102 : Int32)), (.int (97 : Int32)), (.int (108 : Int32)), (.int (115 : Int32)), (.int (101 : Int32))] : List Value)[((4 : Int32)).toNatClampNeg]? = some (.int (101 : Int32)) := by rfl
  refine Goes.step (fun t k => X0.baloadBytes hx (j := (4 : Int32)) (v := (.int (101 : Int32))) (by rw [e0]; exact Ar27.1) (State.isArrayOf_alike hZ.alike Ar27.2.1) Ar27.2.2 (inb q27 hn27 (ltb hv27)) (getb q27 hv27) (g := (mkF m 20 #[.val (.ref a0), .val (.ref a1), .val (.int (4 : Int32))] [(.int (4 : Int32)), (.ref a1), (.int (101 : Int32))])) rfl rfl (hb hby own_d5_20) t k) ?_
  show Goes _ _ _ _ _ _ _ (s₁.setTop (mkF m 21 #[.val (.ref a0), .val (.ref a1), .val (.int (4 : Int32))] [(.int (101 : Int32)), (.int (101 : Int32))]))
  refine Goes.step (fun t k => XS.icmpYes X0.here hx rfl (pc0 := 21) (pc' := 26) rfl (hb hby own_d5_21) rfl (teq (by decide)).1 (by decide) (by decide) k) ?_
  show Goes _ _ _ _ _ _ _ (s₁.setTop (mkF m 26 #[.val (.ref a0), .val (.ref a1), .val (.int (4 : Int32))] []))
  refine Goes.step (fun t k => XS.iinc X0.here hx rfl (hb hby own_d5_26) rfl (l' := #[.val (.ref a0), .val (.ref a1), .val (.int (5 : Int32))]) rfl k) ?_
  show Goes _ _ _ _ _ _ _ (s₁.setTop (mkF m 29 #[.val (.ref a0), .val (.ref a1), .val (.int (5 : Int32))] []))
  refine Goes.step (fun t k => XS.goto X0.here hx rfl (pc0 := 29) (pc' := 9) rfl (hb hby own_d5_29) (by decide) (by decide) k) ?_
  show Goes _ _ _ _ _ _ _ (s₁.setTop (mkF m 9 #[.val (.ref a0), .val (.ref a1), .val (.int (5 : Int32))] []))
  refine Goes.step (fun t k => XS.iloadN X0.here hx rfl (hb hby own_d5_9) rfl k) ?_
  show Goes _ _ _ _ _ _ _ (s₁.setTop (mkF m 10 #[.val (.ref a0), .val (.ref a1), .val (.int (5 : Int32))] [(.int (5 : Int32))]))
  refine Goes.step (fun t k => XS.aloadN X0.here hx rfl (hb hby own_d5_10) rfl rfl k) ?_
  show Goes _ _ _ _ _ _ _ (s₁.setTop (mkF m 11 #[.val (.ref a0), .val (.ref a1), .val (.int (5 : Int32))] [(.ref a0), (.int (5 : Int32))]))
  obtain ⟨cl29, Ar29, q29, ll29, ff29, oo29⟩ := id H0
  have hz29 : cl29.slots.size.toInt32 = (5 : Int32) := by rw [lenb q29]; rfl
  refine Goes.step (fun t k => X0.arraylength hx (by rw [e0]; exact Ar29.1) (State.isArrayOf_alike hZ.alike Ar29.2.1) (g := (mkF m 11 #[.val (.ref a0), .val (.ref a1), .val (.int (5 : Int32))] [(.ref a0), (.int (5 : Int32))])) rfl rfl (hb hby own_d5_11) t k) ?_
  show Goes _ _ _ _ _ _ _ (s₁.setTop (mkF m 12 #[.val (.ref a0), .val (.ref a1), .val (.int (5 : Int32))] [(.int cl29.slots.size.toInt32), (.int (5 : Int32))]))
  rw [hz29]
  show Goes _ _ _ _ _ _ _ (s₁.setTop (mkF m 12 #[.val (.ref a0), .val (.ref a1), .val (.int (5 : Int32))] [(.int (5 : Int32)), (.int (5 : Int32))]))
  refine Goes.step (fun t k => XS.icmpYes X0.here hx rfl (pc0 := 12) (pc' := 32) rfl (hb hby own_d5_12) rfl (flt (by decide)).2.1 (by decide) (by decide) k) ?_
  show Goes _ _ _ _ _ _ _ (s₁.setTop (mkF m 32 #[.val (.ref a0), .val (.ref a1), .val (.int (5 : Int32))] []))
  refine Goes.step (fun t k => XS.iconst X0.here hx rfl (hb hby own_d5_32) k) ?_
  show Goes _ _ _ _ _ _ _ (s₁.setTop (mkF m 33 #[.val (.ref a0), .val (.ref a1), .val (.int (5 : Int32))] [(.int (1 : Int32))]))
  exact Goes.retZ X0 hx Bd.notSynchronized (r := f5f) Bd.returns (by simp) (hb hby own_d5_33) rfl ⟨rfl, rfl, e0⟩ (by decide) (by decide)
def f4f (a0 : Addr) (a1 : Addr) : Int32 := (if a0 = a1 then (1 : Int32) else (nar .boolean (if f5f = (0 : Int32) then (0 : Int32) else (1 : Int32))))
theorem own_ef4f (m : MethodId) (a0 : Addr) (a1 : Addr) : entryFrame m #[(.ref a0), (.ref a1)] 3 = mkF m 0 #[.val (.ref a0), .val (.ref a1), .unset] [] := by first | (simp [entryFrame, mkF, argsToLocals, Value.category, maxLocals]; done) | rfl
abbrev RM4f : Room := ({ frames := 1, cells := 0, slots := 0, locals := 14 } : Room)
abbrev kC4f : Nat := 0
abbrev kS4f : Nat := 0
def Q4f (Z : State) (a0 : Addr) (a1 : Addr) (wA : Addr) (wB : Addr) (wC : Int32) (h0 : Heap) (v : Option Value) (h : Heap) (L : List Loc) : Prop := v = some (.int (f4f a0 a1)) ∧ L = [] ∧ h = h0
set_option maxRecDepth 65536 in
set_option maxHeartbeats 40000000 in
theorem rm4f (l : Launch) (Z : State) (tA : Array Value) (hw : ∀ d ∈ tables_1, d.before tA Z = true) (ws : List Jvm.Cond) (a0 : Addr) (a1 : Addr) (wA : Addr) (wB : Addr) (wC : Int32) (h0 : Heap) (H0 : Exa Z h0 a0 "java/lang/String") (H1 : Exa Z h0 a1 "java/lang/String") (H2 : Fld Z h0 a0 "java/lang/String" "coder" "B" (.int (0 : Int32))) (H3 : Fld Z h0 a1 "java/lang/String" "coder" "B" (.int (0 : Int32))) (H4 : Fld Z h0 a0 "java/lang/String" "value" "[B" (.ref wA)) (H5 : Fld Z h0 a1 "java/lang/String" "value" "[B" (.ref wB)) (H6 : Ara Z h0 wA .byte [(.int (102 : Int32)), (.int (97 : Int32)), (.int (108 : Int32)), (.int (115 : Int32)), (.int (101 : Int32))]) (H7 : Ara Z h0 wB .byte [(.int (102 : Int32)), (.int (97 : Int32)), (.int (108 : Int32)), (.int (115 : Int32)), (.int (101 : Int32))]) (H8 : Sta Z h0 "java/lang/String" "COMPACT_STRINGS" "Z" (.int wC)) :
    MetFree l (⟨"java/lang/String", "equals", "(Ljava/lang/Object;)Z"⟩ : MethodName) (head1 (Jvm.Cond.code (⟨"java/lang/String", "equals", "(Ljava/lang/Object;)Z"⟩ : MethodName) jdk_42_method_66_code 3 (some .boolean) :: ws) RM4f) (fun a U => a = #[(.ref a0), (.ref a1)] ∧ Z.Warmed39 U.vm ∧ U.heap = h0) (fun _ _ _ _ _ => True) (fun _ U o U' => ∃ v L, o = .returned v ∧ Q4f Z a0 a1 wA wB wC h0 v U'.heap L ∧ FrameEnd U o U' L RM4f.cells RM4f.slots) := by
  refine MetFree.of_bodySF (plainFor_of_name own_pn2) hisR ?_
  intro p e s m args below meth c s₁ Bd hml0 hP hK
  obtain ⟨rfl, hZ, hh⟩ := hP
  have hx := Bd.exec
  have hby := Bd.bytes
  have hml : c.maxLocals = 3 := hml0
  have hown : s.vm.findClass "java/lang/String" = some m.cls := findClass_of_methodNamed Bd.named
  have hnm := (name_of_methodNamed Bd.named Bd.method).1
  have X0 : Stand p l e RM4f s m #[(.ref a0), (.ref a1)] below meth c s₁ [] 0 0 := Stand.of_body Bd
  have e0 : s₁.heap = h0 := by rw [← hh, Bd.state]; rfl
  show Goes p e below s (Q4f Z a0 a1 wA wB wC h0) kC4f kS4f (s₁.setTop (entryFrame m #[(.ref a0), (.ref a1)] 3))
  refine Goes.step (fun t k => castTop (own_ef4f m a0 a1) k) ?_
  show Goes _ _ _ _ _ _ _ (s₁.setTop (mkF m 0 #[.val (.ref a0), .val (.ref a1), .unset] []))
  refine Goes.step (fun t k => XS.aloadN X0.here hx rfl (hb hby own_d4_0) rfl rfl k) ?_
  show Goes _ _ _ _ _ _ _ (s₁.setTop (mkF m 1 #[.val (.ref a0), .val (.ref a1), .unset] [(.ref a0)]))
  refine Goes.step (fun t k => XS.aloadN X0.here hx rfl (hb hby own_d4_1) rfl rfl k) ?_
  show Goes _ _ _ _ _ _ _ (s₁.setTop (mkF m 2 #[.val (.ref a0), .val (.ref a1), .unset] [(.ref a1), (.ref a0)]))
  by_cases hc2_1 : a0 = a1
  · refine Goes.step (fun t k => Jvm.RoadKit.acmp (g := (mkF m 2 #[.val (.ref a0), .val (.ref a1), .unset] [(.ref a1), (.ref a0)])) X0 hx rfl rfl rfl (pc0 := 2) (pc' := 5) (same := true) rfl (hb hby own_d4_2) rfl (decide_eq_true (congrArg Value.ref hc2_1)) (by decide) (by decide) k) ?_
    show Goes _ _ _ _ _ _ _ (s₁.setTop (mkF m 5 #[.val (.ref a0), .val (.ref a1), .unset] []))
    refine Goes.step (fun t k => XS.iconst X0.here hx rfl (hb hby own_d4_5) k) ?_
    show Goes _ _ _ _ _ _ _ (s₁.setTop (mkF m 6 #[.val (.ref a0), .val (.ref a1), .unset] [(.int (1 : Int32))]))
    exact Goes.retZ X0 hx Bd.notSynchronized (r := (f4f a0 a1)) Bd.returns (by simp) (hb hby own_d4_6) ((if_pos hc2_1).symm) ⟨rfl, rfl, e0⟩ (by decide) (by decide)
  · refine Goes.step (fun t k => Jvm.RoadKit.acmp (g := (mkF m 2 #[.val (.ref a0), .val (.ref a1), .unset] [(.ref a1), (.ref a0)])) X0 hx rfl rfl rfl (pc0 := 2) (pc' := 7) (same := false) rfl (hb hby own_d4_2) rfl (decide_eq_false fun q => hc2_1 (Value.ref.inj q)) (by decide) (by decide) k) ?_
    show Goes _ _ _ _ _ _ _ (s₁.setTop (mkF m 7 #[.val (.ref a0), .val (.ref a1), .unset] []))
    refine Goes.step (fun t k => XS.aloadN X0.here hx rfl (hb hby own_d4_7) rfl rfl k) ?_
    show Goes _ _ _ _ _ _ _ (s₁.setTop (mkF m 8 #[.val (.ref a0), .val (.ref a1), .unset] [(.ref a1)]))
    obtain ⟨T2, X2, e2, st2⟩ := instY X0 hx hZ hown (hw _ (List.mem_of_getElem? (i := 36) rfl)) e0 (Ins.self H1) (g := (mkF m 8 #[.val (.ref a0), .val (.ref a1), .unset] [(.ref a1)])) rfl rfl (hb hby own_d4_8)
    refine Goes.step (fun t k => st2 t k) ?_
    show Goes _ _ _ _ _ _ _ (T2.setTop (mkF m 11 #[.val (.ref a0), .val (.ref a1), .unset] [(.int (1 : Int32))]))
    refine Goes.step (fun t k => XS.ifNo X2.here hx rfl (hb hby own_d4_11) rfl ((if0 _ _).trans (feq (by decide)).1) k) ?_
    show Goes _ _ _ _ _ _ _ (T2.setTop (mkF m 14 #[.val (.ref a0), .val (.ref a1), .unset] []))
    refine Goes.step (fun t k => XS.aloadN X2.here hx rfl (hb hby own_d4_14) rfl rfl k) ?_
    show Goes _ _ _ _ _ _ _ (T2.setTop (mkF m 15 #[.val (.ref a0), .val (.ref a1), .unset] [(.ref a1)]))
    obtain ⟨T4, X4, e4, st4⟩ := castY X2 hx hZ hown (hw _ (List.mem_of_getElem? (i := 36) rfl)) e2 (Ins.self H1) (g := (mkF m 15 #[.val (.ref a0), .val (.ref a1), .unset] [(.ref a1)])) rfl rfl (hb hby own_d4_15)
    refine Goes.step (fun t k => st4 t k) ?_
    show Goes _ _ _ _ _ _ _ (T4.setTop (mkF m 18 #[.val (.ref a0), .val (.ref a1), .unset] [(.ref a1)]))
    refine Goes.step (fun t k => XS.astoreN X4.here hx rfl (hb hby own_d4_18) rfl rfl (l' := #[.val (.ref a0), .val (.ref a1), .val (.ref a1)]) rfl k) ?_
    show Goes _ _ _ _ _ _ _ (T4.setTop (mkF m 19 #[.val (.ref a0), .val (.ref a1), .val (.ref a1)] []))
    obtain ⟨T5, X5, e5, st5⟩ := getS2 X4 hx hZ hown (host := "") (Or.inl (hw _ (List.mem_of_getElem? (i := 38) rfl))) Via.refl e4 H8 (g := (mkF m 19 #[.val (.ref a0), .val (.ref a1), .val (.ref a1)] [])) rfl (hb hby own_d4_19)
    refine Goes.step (fun t k => st5 t k) ?_
    show Goes _ _ _ _ _ _ _ (T5.setTop (mkF m 22 #[.val (.ref a0), .val (.ref a1), .val (.ref a1)] [(.int wC)]))
    suffices k18 : ∀ (T18 : State) (x18_0 : Int32), Stand p l e RM4f s m #[(.ref a0), (.ref a1)] below meth c T18 [] 0 0 → T18.heap = h0 → x18_0 = (if f5f = (0 : Int32) then (0 : Int32) else (1 : Int32)) → Goes p e below s (Q4f Z a0 a1 wA wB wC h0) kC4f kS4f (T18.setTop (mkF m 55 #[.val (.ref a0), .val (.ref a1), .val (.ref a1)] [(.int x18_0)])) by
      by_cases hc22_6 : wC = (0 : Int32)
      · refine Goes.step (fun t k => XS.ifYes X5.here hx rfl (pc0 := 22) (pc' := 36) rfl (hb hby own_d4_22) rfl ((if0 _ _).trans (teq hc22_6).1) (by decide) (by decide) k) ?_
        show Goes _ _ _ _ _ _ _ (T5.setTop (mkF m 36 #[.val (.ref a0), .val (.ref a1), .val (.ref a1)] []))
        refine Goes.step (fun t k => XS.aloadN X5.here hx rfl (hb hby own_d4_36) rfl rfl k) ?_
        show Goes _ _ _ _ _ _ _ (T5.setTop (mkF m 37 #[.val (.ref a0), .val (.ref a1), .val (.ref a1)] [(.ref a0)]))
        obtain ⟨T7, X7, e7, st7⟩ := getF X5 hx hZ hown (host := "") (Or.inl (hw _ (List.mem_of_getElem? (i := 40) rfl))) Via.refl e5 H4 (g := (mkF m 37 #[.val (.ref a0), .val (.ref a1), .val (.ref a1)] [(.ref a0)])) rfl rfl (hb hby own_d4_37)
        refine Goes.step (fun t k => st7 t k) ?_
        show Goes _ _ _ _ _ _ _ (T7.setTop (mkF m 40 #[.val (.ref a0), .val (.ref a1), .val (.ref a1)] [(.ref wA)]))
        refine Goes.step (fun t k => XS.aloadN X7.here hx rfl (hb hby own_d4_40) rfl rfl k) ?_
        show Goes _ _ _ _ _ _ _ (T7.setTop (mkF m 41 #[.val (.ref a0), .val (.ref a1), .val (.ref a1)] [(.ref a1), (.ref wA)]))
        obtain ⟨T8, X8, e8, st8⟩ := getF X7 hx hZ hown (host := "") (Or.inl (hw _ (List.mem_of_getElem? (i := 40) rfl))) Via.refl e7 H5 (g := (mkF m 41 #[.val (.ref a0), .val (.ref a1), .val (.ref a1)] [(.ref a1), (.ref wA)])) rfl rfl (hb hby own_d4_41)
        refine Goes.step (fun t k => st8 t k) ?_
        show Goes _ _ _ _ _ _ _ (T8.setTop (mkF m 44 #[.val (.ref a0), .val (.ref a1), .val (.ref a1)] [(.ref wB), (.ref wA)]))
        obtain ⟨_, _, ⟨T9, L9, k9, n9⟩, -, X9, ⟨Lc9, hQ9, l9, y9, z9⟩, st9⟩ := Jvm.LawKit.callS X8 hx (y := (⟨"java/lang/StringLatin1", "equals", "([B[B)Z"⟩ : MethodName)) hown (mvT hZ (hw _ (List.mem_of_getElem? (i := 41) rfl))) (mvT hZ (hw _ (List.mem_of_getElem? (i := 42) rfl))) (mvT hZ (hw _ (List.mem_of_getElem? (i := 43) rfl))) (mvT hZ (hw _ (List.mem_of_getElem? (i := 44) rfl))) (by decide) (backOf (W := 0) (rm5f l Z tA hw [] wA wB h0 H6 H7) hZ (hw _ (List.mem_of_getElem? (i := 44) rfl)) (hw _ (List.mem_of_getElem? (i := 43) rfl)) (by decide) (by decide)) (g := (mkF m 44 #[.val (.ref a0), .val (.ref a1), .val (.ref a1)] [(.ref wB), (.ref wA)])) rfl (by rw [hml]; rfl) (argsL := [(.ref wA), (.ref wB)]) (rest := []) (lenOf own_pd0 rfl) rfl (by show 2 * 0 + _ ≤ _; exact Nat.le_of_eq rfl) (hb hby own_d4_44) (fun _ _ => ⟨rfl, e8, (by decide : 0 + 0 ≤ _), (by decide : 0 + 0 ≤ _)⟩)
        dsimp only [Pt.U, Pt.locs, Pt.cells, Pt.slots] at X9 l9 y9 z9 st9 hQ9
        rw [l9, y9, z9] at X9
        obtain ⟨rfl, rfl, e9⟩ := hQ9
        try rw [List.append_nil] at X9
        change Stand _ _ _ _ _ _ _ _ _ _ _ _ 0 0 at X9
        refine Goes.step (fun t k => st9 t k) ?_
        show Goes _ _ _ _ _ _ _ (T9.setTop (mkF m 47 #[.val (.ref a0), .val (.ref a1), .val (.ref a1)] [(.int f5f)]))
        by_cases hc47_10 : f5f = (0 : Int32)
        · refine Goes.step (fun t k => XS.ifYes X9.here hx rfl (pc0 := 47) (pc' := 54) rfl (hb hby own_d4_47) rfl ((if0 _ _).trans (teq hc47_10).1) (by decide) (by decide) k) ?_
          show Goes _ _ _ _ _ _ _ (T9.setTop (mkF m 54 #[.val (.ref a0), .val (.ref a1), .val (.ref a1)] []))
          refine Goes.step (fun t k => XS.iconst X9.here hx rfl (hb hby own_d4_54) k) ?_
          show Goes _ _ _ _ _ _ _ (T9.setTop (mkF m 55 #[.val (.ref a0), .val (.ref a1), .val (.ref a1)] [(.int (0 : Int32))]))
          exact k18 _ _ X9 e9 (if_pos hc47_10).symm
        · refine Goes.step (fun t k => XS.ifNo X9.here hx rfl (hb hby own_d4_47) rfl ((if0 _ _).trans (feq hc47_10).1) k) ?_
          show Goes _ _ _ _ _ _ _ (T9.setTop (mkF m 50 #[.val (.ref a0), .val (.ref a1), .val (.ref a1)] []))
          refine Goes.step (fun t k => XS.iconst X9.here hx rfl (hb hby own_d4_50) k) ?_
          show Goes _ _ _ _ _ _ _ (T9.setTop (mkF m 51 #[.val (.ref a0), .val (.ref a1), .val (.ref a1)] [(.int (1 : Int32))]))
          refine Goes.step (fun t k => XS.goto X9.here hx rfl (pc0 := 51) (pc' := 55) rfl (hb hby own_d4_51) (by decide) (by decide) k) ?_
          show Goes _ _ _ _ _ _ _ (T9.setTop (mkF m 55 #[.val (.ref a0), .val (.ref a1), .val (.ref a1)] [(.int (1 : Int32))]))
          exact k18 _ _ X9 e9 (if_neg hc47_10).symm
      · refine Goes.step (fun t k => XS.ifNo X5.here hx rfl (hb hby own_d4_22) rfl ((if0 _ _).trans (feq hc22_6).1) k) ?_
        show Goes _ _ _ _ _ _ _ (T5.setTop (mkF m 25 #[.val (.ref a0), .val (.ref a1), .val (.ref a1)] []))
        refine Goes.step (fun t k => XS.aloadN X5.here hx rfl (hb hby own_d4_25) rfl rfl k) ?_
        show Goes _ _ _ _ _ _ _ (T5.setTop (mkF m 26 #[.val (.ref a0), .val (.ref a1), .val (.ref a1)] [(.ref a0)]))
        obtain ⟨T11, X11, e11, st11⟩ := getF X5 hx hZ hown (host := "") (Or.inl (hw _ (List.mem_of_getElem? (i := 39) rfl))) Via.refl e5 H2 (g := (mkF m 26 #[.val (.ref a0), .val (.ref a1), .val (.ref a1)] [(.ref a0)])) rfl rfl (hb hby own_d4_26)
        refine Goes.step (fun t k => st11 t k) ?_
        show Goes _ _ _ _ _ _ _ (T11.setTop (mkF m 29 #[.val (.ref a0), .val (.ref a1), .val (.ref a1)] [(.int (0 : Int32))]))
        refine Goes.step (fun t k => XS.aloadN X11.here hx rfl (hb hby own_d4_29) rfl rfl k) ?_
        show Goes _ _ _ _ _ _ _ (T11.setTop (mkF m 30 #[.val (.ref a0), .val (.ref a1), .val (.ref a1)] [(.ref a1), (.int (0 : Int32))]))
        obtain ⟨T12, X12, e12, st12⟩ := getF X11 hx hZ hown (host := "") (Or.inl (hw _ (List.mem_of_getElem? (i := 39) rfl))) Via.refl e11 H3 (g := (mkF m 30 #[.val (.ref a0), .val (.ref a1), .val (.ref a1)] [(.ref a1), (.int (0 : Int32))])) rfl rfl (hb hby own_d4_30)
        refine Goes.step (fun t k => st12 t k) ?_
        show Goes _ _ _ _ _ _ _ (T12.setTop (mkF m 33 #[.val (.ref a0), .val (.ref a1), .val (.ref a1)] [(.int (0 : Int32)), (.int (0 : Int32))]))
        refine Goes.step (fun t k => XS.icmpNo X12.here hx rfl (hb hby own_d4_33) rfl (teq (by decide)).2 k) ?_
        show Goes _ _ _ _ _ _ _ (T12.setTop (mkF m 36 #[.val (.ref a0), .val (.ref a1), .val (.ref a1)] []))
        refine Goes.step (fun t k => XS.aloadN X12.here hx rfl (hb hby own_d4_36) rfl rfl k) ?_
        show Goes _ _ _ _ _ _ _ (T12.setTop (mkF m 37 #[.val (.ref a0), .val (.ref a1), .val (.ref a1)] [(.ref a0)]))
        obtain ⟨T14, X14, e14, st14⟩ := getF X12 hx hZ hown (host := "") (Or.inl (hw _ (List.mem_of_getElem? (i := 40) rfl))) Via.refl e12 H4 (g := (mkF m 37 #[.val (.ref a0), .val (.ref a1), .val (.ref a1)] [(.ref a0)])) rfl rfl (hb hby own_d4_37)
        refine Goes.step (fun t k => st14 t k) ?_
        show Goes _ _ _ _ _ _ _ (T14.setTop (mkF m 40 #[.val (.ref a0), .val (.ref a1), .val (.ref a1)] [(.ref wA)]))
        refine Goes.step (fun t k => XS.aloadN X14.here hx rfl (hb hby own_d4_40) rfl rfl k) ?_
        show Goes _ _ _ _ _ _ _ (T14.setTop (mkF m 41 #[.val (.ref a0), .val (.ref a1), .val (.ref a1)] [(.ref a1), (.ref wA)]))
        obtain ⟨T15, X15, e15, st15⟩ := getF X14 hx hZ hown (host := "") (Or.inl (hw _ (List.mem_of_getElem? (i := 40) rfl))) Via.refl e14 H5 (g := (mkF m 41 #[.val (.ref a0), .val (.ref a1), .val (.ref a1)] [(.ref a1), (.ref wA)])) rfl rfl (hb hby own_d4_41)
        refine Goes.step (fun t k => st15 t k) ?_
        show Goes _ _ _ _ _ _ _ (T15.setTop (mkF m 44 #[.val (.ref a0), .val (.ref a1), .val (.ref a1)] [(.ref wB), (.ref wA)]))
        obtain ⟨_, _, ⟨T16, L16, k16, n16⟩, -, X16, ⟨Lc16, hQ16, l16, y16, z16⟩, st16⟩ := Jvm.LawKit.callS X15 hx (y := (⟨"java/lang/StringLatin1", "equals", "([B[B)Z"⟩ : MethodName)) hown (mvT hZ (hw _ (List.mem_of_getElem? (i := 41) rfl))) (mvT hZ (hw _ (List.mem_of_getElem? (i := 42) rfl))) (mvT hZ (hw _ (List.mem_of_getElem? (i := 43) rfl))) (mvT hZ (hw _ (List.mem_of_getElem? (i := 44) rfl))) (by decide) (backOf (W := 0) (rm5f l Z tA hw [] wA wB h0 H6 H7) hZ (hw _ (List.mem_of_getElem? (i := 44) rfl)) (hw _ (List.mem_of_getElem? (i := 43) rfl)) (by decide) (by decide)) (g := (mkF m 44 #[.val (.ref a0), .val (.ref a1), .val (.ref a1)] [(.ref wB), (.ref wA)])) rfl (by rw [hml]; rfl) (argsL := [(.ref wA), (.ref wB)]) (rest := []) (lenOf own_pd0 rfl) rfl (by show 2 * 0 + _ ≤ _; exact Nat.le_of_eq rfl) (hb hby own_d4_44) (fun _ _ => ⟨rfl, e15, (by decide : 0 + 0 ≤ _), (by decide : 0 + 0 ≤ _)⟩)
        dsimp only [Pt.U, Pt.locs, Pt.cells, Pt.slots] at X16 l16 y16 z16 st16 hQ16
        rw [l16, y16, z16] at X16
        obtain ⟨rfl, rfl, e16⟩ := hQ16
        try rw [List.append_nil] at X16
        change Stand _ _ _ _ _ _ _ _ _ _ _ _ 0 0 at X16
        refine Goes.step (fun t k => st16 t k) ?_
        show Goes _ _ _ _ _ _ _ (T16.setTop (mkF m 47 #[.val (.ref a0), .val (.ref a1), .val (.ref a1)] [(.int f5f)]))
        by_cases hc47_17 : f5f = (0 : Int32)
        · refine Goes.step (fun t k => XS.ifYes X16.here hx rfl (pc0 := 47) (pc' := 54) rfl (hb hby own_d4_47) rfl ((if0 _ _).trans (teq hc47_17).1) (by decide) (by decide) k) ?_
          show Goes _ _ _ _ _ _ _ (T16.setTop (mkF m 54 #[.val (.ref a0), .val (.ref a1), .val (.ref a1)] []))
          refine Goes.step (fun t k => XS.iconst X16.here hx rfl (hb hby own_d4_54) k) ?_
          show Goes _ _ _ _ _ _ _ (T16.setTop (mkF m 55 #[.val (.ref a0), .val (.ref a1), .val (.ref a1)] [(.int (0 : Int32))]))
          exact k18 _ _ X16 e16 (if_pos hc47_17).symm
        · refine Goes.step (fun t k => XS.ifNo X16.here hx rfl (hb hby own_d4_47) rfl ((if0 _ _).trans (feq hc47_17).1) k) ?_
          show Goes _ _ _ _ _ _ _ (T16.setTop (mkF m 50 #[.val (.ref a0), .val (.ref a1), .val (.ref a1)] []))
          refine Goes.step (fun t k => XS.iconst X16.here hx rfl (hb hby own_d4_50) k) ?_
          show Goes _ _ _ _ _ _ _ (T16.setTop (mkF m 51 #[.val (.ref a0), .val (.ref a1), .val (.ref a1)] [(.int (1 : Int32))]))
          refine Goes.step (fun t k => XS.goto X16.here hx rfl (pc0 := 51) (pc' := 55) rfl (hb hby own_d4_51) (by decide) (by decide) k) ?_
          show Goes _ _ _ _ _ _ _ (T16.setTop (mkF m 55 #[.val (.ref a0), .val (.ref a1), .val (.ref a1)] [(.int (1 : Int32))]))
          exact k18 _ _ X16 e16 (if_neg hc47_17).symm
    intro T18 x18_0 X18 e18 hx18_0
    subst hx18_0
    exact Goes.retZ X18 hx Bd.notSynchronized (r := (f4f a0 a1)) Bd.returns (by simp) (hb hby own_d4_55) ((if_neg hc2_1).symm) ⟨rfl, rfl, e18⟩ (by decide) (by decide)
theorem own_f4t (a b : Addr) : f4t a b = 1 := by
  unfold f4t
  split <;> decide
theorem own_f4f (a b : Addr) : f4f a b = 1 := by
  unfold f4f
  split <;> decide
set_option maxRecDepth 65536 in
set_option maxHeartbeats 4000000 in
theorem own_plain (s_TRUE : Addr) (lt10 : Addr) (x41_0 : Int32) (hx41_0 : x41_0 = (if (f2 (1 : Int32)) = (1 : Int32) then (if (f4t lt10 s_TRUE) = (0 : Int32) then (0 : Int32) else (if (f2 (0 : Int32)) = (0 : Int32) then (1 : Int32) else (0 : Int32))) else (0 : Int32))) : nar .boolean x41_0 = (1 : Int32) := by
  rw [hx41_0, show f4t _ _ = 1 from own_f4t _ _]; decide
set_option maxRecDepth 65536 in
set_option maxHeartbeats 4000000 in
theorem own_plain_2 (s_FALSE : Addr) (lt49 : Addr) (x80_0 : Int32) (hx80_0 : x80_0 = (if (f2 (0 : Int32)) = (0 : Int32) then (if (f4f lt49 s_FALSE) = (0 : Int32) then (0 : Int32) else (if (f2 (1 : Int32)) = (1 : Int32) then (1 : Int32) else (0 : Int32))) else (0 : Int32))) : nar .boolean x80_0 = (1 : Int32) := by
  rw [hx80_0, show f4f _ _ = 1 from own_f4f _ _]; decide
theorem own_ef0 (m : MethodId) (p0 : Int32) : entryFrame m #[(.int p0)] maxLocals = mkF m 0 #[.val (.int p0), .unset, .unset, .unset, .unset, .unset, .unset] [] := by first | (simp [entryFrame, mkF, argsToLocals, Value.category, maxLocals]; done) | rfl
abbrev kC0 : Nat := 2
abbrev kS0 : Nat := 24
def Q0 (Z : State) (p0 : Int32) (w_TRUE : Addr) (s_TRUE : Addr) (v_TRUE : Addr) (w_FALSE : Addr) (s_FALSE : Addr) (v_FALSE : Addr) (wC : Int32) (h0 : Heap) (n0 : Nat) (v : Option Value) (h : Heap) (L : List Loc) : Prop := v = some (.int 1) ∧ Fr n0 L
set_option maxRecDepth 65536 in
set_option maxHeartbeats 40000000 in
theorem rm0 (l : Launch) (Z : State) (tA : Array Value) (hw : ∀ d ∈ tables_1, d.before tA Z = true) (ws : List Jvm.Cond) (p0 : Int32) (w_TRUE : Addr) (s_TRUE : Addr) (v_TRUE : Addr) (w_FALSE : Addr) (s_FALSE : Addr) (v_FALSE : Addr) (wC : Int32) (h0 : Heap) (n0 : Nat) (Z0 : n0 ≤ h0.size) (S_TRUE : Sta Z h0 "com/example/vigilant_schema/vigilantschema/Node$BooleanNode" "TRUE" "Lcom/example/vigilant_schema/vigilantschema/Node$BooleanNode;" (.ref w_TRUE)) (E_TRUE : Exa Z h0 w_TRUE "com/example/vigilant_schema/vigilantschema/Node$BooleanNode") (V_TRUE : Fld Z h0 w_TRUE "com/example/vigilant_schema/vigilantschema/Node$BooleanNode" "value" "Z" (.int (1 : Int32))) (W_TRUE : Fld Z h0 w_TRUE "com/example/vigilant_schema/vigilantschema/Node$BooleanNode" "written" "Ljava/lang/String;" (.ref s_TRUE)) (Es_TRUE : Exa Z h0 s_TRUE "java/lang/String") (Cs_TRUE : Fld Z h0 s_TRUE "java/lang/String" "coder" "B" (.int (0 : Int32))) (Vs_TRUE : Fld Z h0 s_TRUE "java/lang/String" "value" "[B" (.ref v_TRUE)) (As_TRUE : Ara Z h0 v_TRUE .byte [(.int (116 : Int32)), (.int (114 : Int32)), (.int (117 : Int32)), (.int (101 : Int32))]) (S_FALSE : Sta Z h0 "com/example/vigilant_schema/vigilantschema/Node$BooleanNode" "FALSE" "Lcom/example/vigilant_schema/vigilantschema/Node$BooleanNode;" (.ref w_FALSE)) (E_FALSE : Exa Z h0 w_FALSE "com/example/vigilant_schema/vigilantschema/Node$BooleanNode") (V_FALSE : Fld Z h0 w_FALSE "com/example/vigilant_schema/vigilantschema/Node$BooleanNode" "value" "Z" (.int (0 : Int32))) (W_FALSE : Fld Z h0 w_FALSE "com/example/vigilant_schema/vigilantschema/Node$BooleanNode" "written" "Ljava/lang/String;" (.ref s_FALSE)) (Es_FALSE : Exa Z h0 s_FALSE "java/lang/String") (Cs_FALSE : Fld Z h0 s_FALSE "java/lang/String" "coder" "B" (.int (0 : Int32))) (Vs_FALSE : Fld Z h0 s_FALSE "java/lang/String" "value" "[B" (.ref v_FALSE)) (As_FALSE : Ara Z h0 v_FALSE .byte [(.int (102 : Int32)), (.int (97 : Int32)), (.int (108 : Int32)), (.int (115 : Int32)), (.int (101 : Int32))]) (S_c : Sta Z h0 "java/lang/String" "COMPACT_STRINGS" "Z" (.int wC)) (nTF : w_TRUE ≠ w_FALSE) (hheld : ∀ q ∈ consts_1, Jvm.Lit.constHeld Z q.1 q.2) (hcw : Jvm.Lit.compactW.before tA Z = true) :
    MetFree l x (head1 (Jvm.Cond.code x code maxLocals ret :: ws) room_1) (fun a U => a = #[(.int p0)] ∧ U = Z ∧ U.heap = h0) (fun _ _ _ _ _ => True) (fun _ U o U' => ∃ v L, o = .returned v ∧ Q0 Z p0 w_TRUE s_TRUE v_TRUE w_FALSE s_FALSE v_FALSE wC h0 n0 v U'.heap L ∧ ReturnedEndW U o U' L kC0 kS0) := by
  refine MetFree.of_bodySF (plainFor_of_name own_pn3) hisR ?_
  intro p e s m args below meth c s₁ Bd hml0 hP hK
  obtain ⟨rfl, hsZ, hh⟩ := hP
  have hZ : Z.Warmed39 s.vm := hsZ ▸ State.Warmed39.refl Z
  have hx := Bd.exec
  have hby := Bd.bytes
  have hml : c.maxLocals = 7 := hml0
  have hown : s.vm.findClass "com/example/vigilant_schema/vigilantschema/BooleanNodeOfPinLaw" = some m.cls := findClass_of_methodNamed Bd.named
  have hnm := (name_of_methodNamed Bd.named Bd.method).1
  have X0 : Stand p l e room_1 s m #[(.int p0)] below meth c s₁ [] 0 0 := Stand.of_body Bd
  have e0 : s₁.heap = h0 := by rw [← hh, Bd.state]; rfl
  have N0 := Fr.nil n0
  show GoesW p e below s (Q0 Z p0 w_TRUE s_TRUE v_TRUE w_FALSE s_FALSE v_FALSE wC h0 n0) kC0 kS0 (s₁.setTop (entryFrame m #[(.int p0)] maxLocals))
  refine GoesW.step (fun t k => castTop (own_ef0 m p0) k) ?_
  have hkeep : ∀ (b : Addr) (cl : Cell), Z.heap[b]? = some cl → s.heap[b]? = some cl := fun b cl q => by rw [hsZ]; exact q
  have hib : IB Z s.vm [] := by rw [hsZ]; exact IB.start
  show GoesW _ _ _ _ _ _ _ (s₁.setTop (mkF m 0 #[.val (.int p0), .unset, .unset, .unset, .unset, .unset, .unset] []))
  refine GoesW.step (fun t k => XS.iloadN X0.here hx rfl (hb hby at_0) rfl k) ?_
  show GoesW _ _ _ _ _ _ _ (s₁.setTop (mkF m 1 #[.val (.int p0), .unset, .unset, .unset, .unset, .unset, .unset] [(.int p0)]))
  refine GoesW.step (fun t k => XS.iconst X0.here hx rfl (hb hby at_1) k) ?_
  show GoesW _ _ _ _ _ _ _ (s₁.setTop (mkF m 2 #[.val (.int p0), .unset, .unset, .unset, .unset, .unset, .unset] [(.int (1 : Int32)), (.int p0)]))
  refine GoesW.step (fun t k => XS.iand X0.here hx rfl (hb hby at_2) rfl k) ?_
  show GoesW _ _ _ _ _ _ _ (s₁.setTop (mkF m 3 #[.val (.int p0), .unset, .unset, .unset, .unset, .unset, .unset] [(.int (p0 &&& (1 : Int32)))]))
  suffices k2 : ∀ (x2_0 : Int32), x2_0 = (if (p0 &&& (1 : Int32)) = (0 : Int32) then (0 : Int32) else (1 : Int32)) → GoesW p e below s (Q0 Z p0 w_TRUE s_TRUE v_TRUE w_FALSE s_FALSE v_FALSE wC h0 n0) kC0 kS0 (s₁.setTop (mkF m 11 #[.val (.int p0), .unset, .unset, .unset, .unset, .unset, .unset] [(.int x2_0)])) by
    by_cases hc3_1 : (p0 &&& (1 : Int32)) = (0 : Int32)
    · refine GoesW.step (fun t k => XS.ifYes X0.here hx rfl (pc0 := 3) (pc' := 10) rfl (hb hby at_3) rfl ((if0 _ _).trans (teq hc3_1).1) (by decide) (by decide) k) ?_
      show GoesW _ _ _ _ _ _ _ (s₁.setTop (mkF m 10 #[.val (.int p0), .unset, .unset, .unset, .unset, .unset, .unset] []))
      refine GoesW.step (fun t k => XS.iconst X0.here hx rfl (hb hby at_10) k) ?_
      show GoesW _ _ _ _ _ _ _ (s₁.setTop (mkF m 11 #[.val (.int p0), .unset, .unset, .unset, .unset, .unset, .unset] [(.int (0 : Int32))]))
      exact k2 _ (if_pos hc3_1).symm
    · refine GoesW.step (fun t k => XS.ifNo X0.here hx rfl (hb hby at_3) rfl ((if0 _ _).trans (feq hc3_1).1) k) ?_
      show GoesW _ _ _ _ _ _ _ (s₁.setTop (mkF m 6 #[.val (.int p0), .unset, .unset, .unset, .unset, .unset, .unset] []))
      refine GoesW.step (fun t k => XS.iconst X0.here hx rfl (hb hby at_6) k) ?_
      show GoesW _ _ _ _ _ _ _ (s₁.setTop (mkF m 7 #[.val (.int p0), .unset, .unset, .unset, .unset, .unset, .unset] [(.int (1 : Int32))]))
      refine GoesW.step (fun t k => XS.goto X0.here hx rfl (pc0 := 7) (pc' := 11) rfl (hb hby at_7) (by decide) (by decide) k) ?_
      show GoesW _ _ _ _ _ _ _ (s₁.setTop (mkF m 11 #[.val (.int p0), .unset, .unset, .unset, .unset, .unset, .unset] [(.int (1 : Int32))]))
      exact k2 _ (if_neg hc3_1).symm
  intro x2_0 hx2_0
  refine GoesW.step (fun t k => XS.istoreN X0.here hx rfl (hb hby at_11) rfl (l' := #[.val (.int p0), .val (.int x2_0), .unset, .unset, .unset, .unset, .unset]) rfl k) ?_
  show GoesW _ _ _ _ _ _ _ (s₁.setTop (mkF m 12 #[.val (.int p0), .val (.int x2_0), .unset, .unset, .unset, .unset, .unset] []))
  have h2 : x2_0 = 1 ∨ x2_0 = 0 := by rw [hx2_0]; split; exact Or.inr rfl; exact Or.inl rfl
  rcases h2 with rfl | rfl
  · show GoesW _ _ _ _ _ _ _ (s₁.setTop (mkF m 12 #[.val (.int p0), .val (.int (1 : Int32)), .unset, .unset, .unset, .unset, .unset] []))
    refine GoesW.step (fun t k => XS.iloadN X0.here hx rfl (hb hby at_12) rfl k) ?_
    show GoesW _ _ _ _ _ _ _ (s₁.setTop (mkF m 13 #[.val (.int p0), .val (.int (1 : Int32)), .unset, .unset, .unset, .unset, .unset] [(.int (1 : Int32))]))
    obtain ⟨_, _, ⟨T3, L3, k3, n3⟩, -, X3, ⟨Lc3, hQ3, l3, y3, z3⟩, st3⟩ := Jvm.LawKit.callS X0 hx (y := (⟨"com/example/vigilant_schema/vigilantschema/Node$BooleanNode", "of", "(Z)Lcom/example/vigilant_schema/vigilantschema/Node$BooleanNode;"⟩ : MethodName)) hown (mvT hZ (hw _ (List.mem_of_getElem? (i := 0) rfl))) (mvT hZ (hw _ (List.mem_of_getElem? (i := 1) rfl))) (mvT hZ (hw _ (List.mem_of_getElem? (i := 2) rfl))) (mvT hZ (hw _ (List.mem_of_getElem? (i := 3) rfl))) (by decide) (backOf (W := 0) (rm1v1 l Z tA hw [] w_TRUE w_FALSE h0 S_TRUE S_FALSE) hZ (hw _ (List.mem_of_getElem? (i := 3) rfl)) (hw _ (List.mem_of_getElem? (i := 2) rfl)) (by decide) (by decide)) (g := (mkF m 13 #[.val (.int p0), .val (.int (1 : Int32)), .unset, .unset, .unset, .unset, .unset] [(.int (1 : Int32))])) rfl (by rw [hml]; rfl) (argsL := [(.int (1 : Int32))]) (rest := []) (lenOf own_pd1 rfl) rfl (by show 2 * 0 + _ ≤ _; exact Nat.le_of_eq rfl) (hb hby at_13) (fun _ _ => ⟨rfl, e0, (by decide : 0 + 0 ≤ _), (by decide : 0 + 0 ≤ _)⟩)
    dsimp only [Pt.U, Pt.locs, Pt.cells, Pt.slots] at X3 l3 y3 z3 st3 hQ3
    rw [l3, y3, z3] at X3
    obtain ⟨rfl, rfl, e3⟩ := hQ3
    try rw [List.append_nil] at X3
    change Stand _ _ _ _ _ _ _ _ _ _ _ _ 0 0 at X3
    refine GoesW.step (fun t k => st3 t k) ?_
    show GoesW _ _ _ _ _ _ _ (T3.setTop (mkF m 16 #[.val (.int p0), .val (.int (1 : Int32)), .unset, .unset, .unset, .unset, .unset] [(.ref w_TRUE)]))
    refine GoesW.step (fun t k => XS.astoreN X3.here hx rfl (hb hby at_16) rfl rfl (l' := #[.val (.int p0), .val (.int (1 : Int32)), .val (.ref w_TRUE), .unset, .unset, .unset, .unset]) rfl k) ?_
    show GoesW _ _ _ _ _ _ _ (T3.setTop (mkF m 17 #[.val (.int p0), .val (.int (1 : Int32)), .val (.ref w_TRUE), .unset, .unset, .unset, .unset] []))
    refine GoesW.step (fun t k => XS.iloadN X3.here hx rfl (hb hby at_17) rfl k) ?_
    show GoesW _ _ _ _ _ _ _ (T3.setTop (mkF m 18 #[.val (.int p0), .val (.int (1 : Int32)), .val (.ref w_TRUE), .unset, .unset, .unset, .unset] [(.int (1 : Int32))]))
    obtain ⟨_, _, ⟨T4, L4, k4, n4⟩, -, X4, ⟨Lc4, hQ4, l4, y4, z4⟩, st4⟩ := Jvm.LawKit.callS X3 hx (y := (⟨"com/example/vigilant_schema/vigilantschema/Node$BooleanNode", "of", "(Z)Lcom/example/vigilant_schema/vigilantschema/Node$BooleanNode;"⟩ : MethodName)) hown (mvT hZ (hw _ (List.mem_of_getElem? (i := 0) rfl))) (mvT hZ (hw _ (List.mem_of_getElem? (i := 1) rfl))) (mvT hZ (hw _ (List.mem_of_getElem? (i := 2) rfl))) (mvT hZ (hw _ (List.mem_of_getElem? (i := 3) rfl))) (by decide) (backOf (W := 0) (rm1v1 l Z tA hw [] w_TRUE w_FALSE h0 S_TRUE S_FALSE) hZ (hw _ (List.mem_of_getElem? (i := 3) rfl)) (hw _ (List.mem_of_getElem? (i := 2) rfl)) (by decide) (by decide)) (g := (mkF m 18 #[.val (.int p0), .val (.int (1 : Int32)), .val (.ref w_TRUE), .unset, .unset, .unset, .unset] [(.int (1 : Int32))])) rfl (by rw [hml]; rfl) (argsL := [(.int (1 : Int32))]) (rest := []) (lenOf own_pd1 rfl) rfl (by show 2 * 0 + _ ≤ _; exact Nat.le_of_eq rfl) (hb hby at_18) (fun _ _ => ⟨rfl, e3, (by decide : 0 + 0 ≤ _), (by decide : 0 + 0 ≤ _)⟩)
    dsimp only [Pt.U, Pt.locs, Pt.cells, Pt.slots] at X4 l4 y4 z4 st4 hQ4
    rw [l4, y4, z4] at X4
    obtain ⟨rfl, rfl, e4⟩ := hQ4
    try rw [List.append_nil] at X4
    change Stand _ _ _ _ _ _ _ _ _ _ _ _ 0 0 at X4
    refine GoesW.step (fun t k => st4 t k) ?_
    show GoesW _ _ _ _ _ _ _ (T4.setTop (mkF m 21 #[.val (.int p0), .val (.int (1 : Int32)), .val (.ref w_TRUE), .unset, .unset, .unset, .unset] [(.ref w_TRUE)]))
    refine GoesW.step (fun t k => XS.astoreN X4.here hx rfl (hb hby at_21) rfl rfl (l' := #[.val (.int p0), .val (.int (1 : Int32)), .val (.ref w_TRUE), .val (.ref w_TRUE), .unset, .unset, .unset]) rfl k) ?_
    show GoesW _ _ _ _ _ _ _ (T4.setTop (mkF m 22 #[.val (.int p0), .val (.int (1 : Int32)), .val (.ref w_TRUE), .val (.ref w_TRUE), .unset, .unset, .unset] []))
    refine GoesW.step (fun t k => XS.iloadN X4.here hx rfl (hb hby at_22) rfl k) ?_
    show GoesW _ _ _ _ _ _ _ (T4.setTop (mkF m 23 #[.val (.int p0), .val (.int (1 : Int32)), .val (.ref w_TRUE), .val (.ref w_TRUE), .unset, .unset, .unset] [(.int (1 : Int32))]))
    refine GoesW.step (fun t k => XS.ifYes X4.here hx rfl (pc0 := 23) (pc' := 30) rfl (hb hby at_23) rfl ((if0 _ _).trans (feq (by decide)).2) (by decide) (by decide) k) ?_
    show GoesW _ _ _ _ _ _ _ (T4.setTop (mkF m 30 #[.val (.int p0), .val (.int (1 : Int32)), .val (.ref w_TRUE), .val (.ref w_TRUE), .unset, .unset, .unset] []))
    refine GoesW.step (fun t k => XS.iconst X4.here hx rfl (hb hby at_30) k) ?_
    show GoesW _ _ _ _ _ _ _ (T4.setTop (mkF m 31 #[.val (.int p0), .val (.int (1 : Int32)), .val (.ref w_TRUE), .val (.ref w_TRUE), .unset, .unset, .unset] [(.int (0 : Int32))]))
    obtain ⟨_, _, ⟨T6, L6, k6, n6⟩, -, X6, ⟨Lc6, hQ6, l6, y6, z6⟩, st6⟩ := Jvm.LawKit.callS X4 hx (y := (⟨"com/example/vigilant_schema/vigilantschema/Node$BooleanNode", "of", "(Z)Lcom/example/vigilant_schema/vigilantschema/Node$BooleanNode;"⟩ : MethodName)) hown (mvT hZ (hw _ (List.mem_of_getElem? (i := 0) rfl))) (mvT hZ (hw _ (List.mem_of_getElem? (i := 1) rfl))) (mvT hZ (hw _ (List.mem_of_getElem? (i := 2) rfl))) (mvT hZ (hw _ (List.mem_of_getElem? (i := 3) rfl))) (by decide) (backOf (W := 0) (rm1v0 l Z tA hw [] w_TRUE w_FALSE h0 S_TRUE S_FALSE) hZ (hw _ (List.mem_of_getElem? (i := 3) rfl)) (hw _ (List.mem_of_getElem? (i := 2) rfl)) (by decide) (by decide)) (g := (mkF m 31 #[.val (.int p0), .val (.int (1 : Int32)), .val (.ref w_TRUE), .val (.ref w_TRUE), .unset, .unset, .unset] [(.int (0 : Int32))])) rfl (by rw [hml]; rfl) (argsL := [(.int (0 : Int32))]) (rest := []) (lenOf own_pd1 rfl) rfl (by show 2 * 0 + _ ≤ _; exact Nat.le_of_eq rfl) (hb hby at_31) (fun _ _ => ⟨rfl, e4, (by decide : 0 + 0 ≤ _), (by decide : 0 + 0 ≤ _)⟩)
    dsimp only [Pt.U, Pt.locs, Pt.cells, Pt.slots] at X6 l6 y6 z6 st6 hQ6
    rw [l6, y6, z6] at X6
    obtain ⟨rfl, rfl, e6⟩ := hQ6
    try rw [List.append_nil] at X6
    change Stand _ _ _ _ _ _ _ _ _ _ _ _ 0 0 at X6
    refine GoesW.step (fun t k => st6 t k) ?_
    show GoesW _ _ _ _ _ _ _ (T6.setTop (mkF m 34 #[.val (.int p0), .val (.int (1 : Int32)), .val (.ref w_TRUE), .val (.ref w_TRUE), .unset, .unset, .unset] [(.ref w_FALSE)]))
    refine GoesW.step (fun t k => XS.astore X6.here hx rfl (hb hby at_34) rfl rfl (l' := #[.val (.int p0), .val (.int (1 : Int32)), .val (.ref w_TRUE), .val (.ref w_TRUE), .val (.ref w_FALSE), .unset, .unset]) rfl k) ?_
    show GoesW _ _ _ _ _ _ _ (T6.setTop (mkF m 36 #[.val (.int p0), .val (.int (1 : Int32)), .val (.ref w_TRUE), .val (.ref w_TRUE), .val (.ref w_FALSE), .unset, .unset] []))
    refine GoesW.step (fun t k => XS.aloadN X6.here hx rfl (hb hby at_36) rfl rfl k) ?_
    show GoesW _ _ _ _ _ _ _ (T6.setTop (mkF m 37 #[.val (.int p0), .val (.int (1 : Int32)), .val (.ref w_TRUE), .val (.ref w_TRUE), .val (.ref w_FALSE), .unset, .unset] [(.ref w_TRUE)]))
    refine GoesW.step (fun t k => XS.ifnullNo X6.here hx rfl (hb hby at_37) rfl k) ?_
    show GoesW _ _ _ _ _ _ _ (T6.setTop (mkF m 40 #[.val (.int p0), .val (.int (1 : Int32)), .val (.ref w_TRUE), .val (.ref w_TRUE), .val (.ref w_FALSE), .unset, .unset] []))
    refine GoesW.step (fun t k => XS.aload X6.here hx rfl (hb hby at_40) rfl rfl k) ?_
    show GoesW _ _ _ _ _ _ _ (T6.setTop (mkF m 42 #[.val (.int p0), .val (.int (1 : Int32)), .val (.ref w_TRUE), .val (.ref w_TRUE), .val (.ref w_FALSE), .unset, .unset] [(.ref w_FALSE)]))
    refine GoesW.step (fun t k => XS.ifnonnullYes X6.here hx rfl (pc0 := 42) (pc' := 47) rfl (hb hby at_42) rfl (by decide) (by decide) k) ?_
    show GoesW _ _ _ _ _ _ _ (T6.setTop (mkF m 47 #[.val (.int p0), .val (.int (1 : Int32)), .val (.ref w_TRUE), .val (.ref w_TRUE), .val (.ref w_FALSE), .unset, .unset] []))
    refine GoesW.step (fun t k => XS.iloadN X6.here hx rfl (hb hby at_47) rfl k) ?_
    show GoesW _ _ _ _ _ _ _ (T6.setTop (mkF m 48 #[.val (.int p0), .val (.int (1 : Int32)), .val (.ref w_TRUE), .val (.ref w_TRUE), .val (.ref w_FALSE), .unset, .unset] [(.int (1 : Int32))]))
    refine GoesW.step (fun t k => XS.ifNo X6.here hx rfl (hb hby at_48) rfl ((if0 _ _).trans (feq (by decide)).1) k) ?_
    show GoesW _ _ _ _ _ _ _ (T6.setTop (mkF m 51 #[.val (.int p0), .val (.int (1 : Int32)), .val (.ref w_TRUE), .val (.ref w_TRUE), .val (.ref w_FALSE), .unset, .unset] []))
    obtain ⟨lt10, T10, h10, kk10, lb10, kc10, X10, e10, E10, hS10, hK10, hZ10, hown10, Ea10, Ca10, Va10, Ba10, -, -, IB10, -, st10⟩ := ldcSVL (s := s) (vm0 := s.vm) X6 hx hZ hown (hw _ (List.mem_of_getElem? (i := 45) rfl)) (fun a ha => hw _ (own_strw a ha)) e6 (own_since s h0.size) (Nat.le_refl _) (Fr.nil _) hkeep hib (by decide) (hheld _ (List.mem_of_getElem? (i := 0) (rfl : consts_1[0]? = some ("com/example/vigilant_schema/vigilantschema/BooleanNodeOfPinLaw", 13)))) hcw (vs := [(.int (116 : Int32)), (.int (114 : Int32)), (.int (117 : Int32)), (.int (101 : Int32))]) (z := (4 : Int32)) ⟨by decide, by first | rfl | decide⟩ (by decide) rfl (g := (mkF m 51 #[.val (.int p0), .val (.int (1 : Int32)), .val (.ref w_TRUE), .val (.ref w_TRUE), .val (.ref w_FALSE), .unset, .unset] [])) rfl (hb hby at_51) (n := 16) (by decide) (by decide) (by decide) (by decide)
    have F11 := S_TRUE.ext E10
    have F12 := E_TRUE.ext E10
    have F13 := V_TRUE.ext E10
    have F14 := W_TRUE.ext E10
    have F15 := Es_TRUE.ext E10
    have F16 := Cs_TRUE.ext E10
    have F17 := Vs_TRUE.ext E10
    have F18 := As_TRUE.ext E10
    have F19 := S_FALSE.ext E10
    have F20 := E_FALSE.ext E10
    have F21 := V_FALSE.ext E10
    have F22 := W_FALSE.ext E10
    have F23 := Es_FALSE.ext E10
    have F24 := Cs_FALSE.ext E10
    have F25 := Vs_FALSE.ext E10
    have F26 := As_FALSE.ext E10
    have F27 := S_c.ext E10
    have K10 := (Keep.refl h0 []).ext E10
    have Z10 := Nat.le_trans Z0 E10.1
    replace hZ := hZ10
    replace hown := hown10
    have Bb10 : Ara Z h10 lb10 .byte [(.int (116 : Int32)), (.int (114 : Int32)), (.int (117 : Int32)), (.int (101 : Int32))] := own_ara Ba10 rfl
    refine GoesW.step (fun t k => st10 t k) ?_
    show GoesW _ _ _ _ _ _ _ (T10.setTop (mkF m 53 #[.val (.int p0), .val (.int (1 : Int32)), .val (.ref w_TRUE), .val (.ref w_TRUE), .val (.ref w_FALSE), .unset, .unset] [(.ref lt10)]))
    refine GoesW.step (fun t k => XS.goto X10.here hx rfl (pc0 := 53) (pc' := 58) rfl (hb hby at_53) (by decide) (by decide) k) ?_
    show GoesW _ _ _ _ _ _ _ (T10.setTop (mkF m 58 #[.val (.int p0), .val (.int (1 : Int32)), .val (.ref w_TRUE), .val (.ref w_TRUE), .val (.ref w_FALSE), .unset, .unset] [(.ref lt10)]))
    refine GoesW.step (fun t k => XS.astore X10.here hx rfl (hb hby at_58) rfl rfl (l' := #[.val (.int p0), .val (.int (1 : Int32)), .val (.ref w_TRUE), .val (.ref w_TRUE), .val (.ref w_FALSE), .val (.ref lt10), .unset]) rfl k) ?_
    show GoesW _ _ _ _ _ _ _ (T10.setTop (mkF m 60 #[.val (.int p0), .val (.int (1 : Int32)), .val (.ref w_TRUE), .val (.ref w_TRUE), .val (.ref w_FALSE), .val (.ref lt10), .unset] []))
    refine GoesW.step (fun t k => XS.iloadN X10.here hx rfl (hb hby at_60) rfl k) ?_
    show GoesW _ _ _ _ _ _ _ (T10.setTop (mkF m 61 #[.val (.int p0), .val (.int (1 : Int32)), .val (.ref w_TRUE), .val (.ref w_TRUE), .val (.ref w_FALSE), .val (.ref lt10), .unset] [(.int (1 : Int32))]))
    refine GoesW.step (fun t k => XS.ifNo X10.here hx rfl (hb hby at_61) rfl ((if0 _ _).trans (feq (by decide)).1) k) ?_
    show GoesW _ _ _ _ _ _ _ (T10.setTop (mkF m 64 #[.val (.int p0), .val (.int (1 : Int32)), .val (.ref w_TRUE), .val (.ref w_TRUE), .val (.ref w_FALSE), .val (.ref lt10), .unset] []))
    obtain ⟨T29, X29, e29, st29⟩ := getS2 X10 hx hZ hown (host := "") (Or.inl (hw _ (List.mem_of_getElem? (i := 46) rfl))) Via.refl e10 F11 (g := (mkF m 64 #[.val (.int p0), .val (.int (1 : Int32)), .val (.ref w_TRUE), .val (.ref w_TRUE), .val (.ref w_FALSE), .val (.ref lt10), .unset] [])) rfl (hb hby at_64)
    refine GoesW.step (fun t k => st29 t k) ?_
    show GoesW _ _ _ _ _ _ _ (T29.setTop (mkF m 67 #[.val (.int p0), .val (.int (1 : Int32)), .val (.ref w_TRUE), .val (.ref w_TRUE), .val (.ref w_FALSE), .val (.ref lt10), .unset] [(.ref w_TRUE)]))
    refine GoesW.step (fun t k => XS.goto X29.here hx rfl (pc0 := 67) (pc' := 73) rfl (hb hby at_67) (by decide) (by decide) k) ?_
    show GoesW _ _ _ _ _ _ _ (T29.setTop (mkF m 73 #[.val (.int p0), .val (.int (1 : Int32)), .val (.ref w_TRUE), .val (.ref w_TRUE), .val (.ref w_FALSE), .val (.ref lt10), .unset] [(.ref w_TRUE)]))
    refine GoesW.step (fun t k => XS.astore X29.here hx rfl (hb hby at_73) rfl rfl (l' := #[.val (.int p0), .val (.int (1 : Int32)), .val (.ref w_TRUE), .val (.ref w_TRUE), .val (.ref w_FALSE), .val (.ref lt10), .val (.ref w_TRUE)]) rfl k) ?_
    show GoesW _ _ _ _ _ _ _ (T29.setTop (mkF m 75 #[.val (.int p0), .val (.int (1 : Int32)), .val (.ref w_TRUE), .val (.ref w_TRUE), .val (.ref w_FALSE), .val (.ref lt10), .val (.ref w_TRUE)] []))
    refine GoesW.step (fun t k => XS.aloadN X29.here hx rfl (hb hby at_75) rfl rfl k) ?_
    show GoesW _ _ _ _ _ _ _ (T29.setTop (mkF m 76 #[.val (.int p0), .val (.int (1 : Int32)), .val (.ref w_TRUE), .val (.ref w_TRUE), .val (.ref w_FALSE), .val (.ref lt10), .val (.ref w_TRUE)] [(.ref w_TRUE)]))
    obtain ⟨cq30, kq30, q30a, q30b, q30c⟩ := isOf hZ e29 F12
    obtain ⟨_, _, ⟨T30, L30, k30, n30⟩, -, X30, ⟨Lc30, hQ30, l30, y30, z30⟩, st30⟩ := X29.virtualBack hx (y := (⟨"com/example/vigilant_schema/vigilantschema/Node$BooleanNode", "value", "()Z"⟩ : MethodName)) (z := (⟨"com/example/vigilant_schema/vigilantschema/Node$BooleanNode", "value", "()Z"⟩ : MethodName)) hown (mvT hZ (hw _ (List.mem_of_getElem? (i := 17) rfl))) (mvT hZ (hw _ (List.mem_of_getElem? (i := 18) rfl))) (notFace_of_selects (args := #[]) (mvT hZ (hw _ (List.mem_of_getElem? (i := 20) rfl)))) (mvT hZ (hw _ (List.mem_of_getElem? (i := 20) rfl))) (mvT hZ (hw _ (List.mem_of_getElem? (i := 19) rfl))) (by decide) (backOf (W := 0) (rm2 l Z tA hw [] w_TRUE (1 : Int32) h10 F13) hZ (hw _ (List.mem_of_getElem? (i := 21) rfl)) (hw _ (List.mem_of_getElem? (i := 2) rfl)) (by decide) (by decide)) q30a q30c (g := (mkF m 76 #[.val (.int p0), .val (.int (1 : Int32)), .val (.ref w_TRUE), .val (.ref w_TRUE), .val (.ref w_FALSE), .val (.ref lt10), .val (.ref w_TRUE)] [(.ref w_TRUE)])) rfl (by rw [hml]; rfl) (Steps.refl _) (argsL := []) (rest := []) (lenOf own_pd2 rfl) rfl (by show 2 * 0 + _ ≤ _; exact Nat.le_of_eq rfl) (hb hby at_76) (fun _ _ => ⟨rfl, e29, (by decide : 2 + 0 ≤ _), (by decide : 20 + 0 ≤ _)⟩)
    dsimp only [Pt.U, Pt.locs, Pt.cells, Pt.slots] at X30 l30 y30 z30 st30 hQ30
    rw [l30, y30, z30] at X30
    obtain ⟨rfl, rfl, e30⟩ := hQ30
    try rw [List.append_nil] at X30
    change Stand _ _ _ _ _ _ _ _ _ _ _ _ 2 20 at X30
    refine GoesW.step (fun t k => st30.trans k) ?_
    show GoesW _ _ _ _ _ _ _ (T30.setTop (mkF m 79 #[.val (.int p0), .val (.int (1 : Int32)), .val (.ref w_TRUE), .val (.ref w_TRUE), .val (.ref w_FALSE), .val (.ref lt10), .val (.ref w_TRUE)] [(.int (f2 (1 : Int32)))]))
    refine GoesW.step (fun t k => XS.iloadN X30.here hx rfl (hb hby at_79) rfl k) ?_
    show GoesW _ _ _ _ _ _ _ (T30.setTop (mkF m 80 #[.val (.int p0), .val (.int (1 : Int32)), .val (.ref w_TRUE), .val (.ref w_TRUE), .val (.ref w_FALSE), .val (.ref lt10), .val (.ref w_TRUE)] [(.int (1 : Int32)), (.int (f2 (1 : Int32)))]))
    suffices k41 : ∀ (T41 : State) (x41_0 : Int32), Stand p l e room_1 (s.setVm T10.vm) m #[(.int p0)] below meth c T41 [] 2 20 → T41.heap = h10 → x41_0 = (if (f2 (1 : Int32)) = (1 : Int32) then (if (f4t lt10 s_TRUE) = (0 : Int32) then (0 : Int32) else (if (f2 (0 : Int32)) = (0 : Int32) then (1 : Int32) else (0 : Int32))) else (0 : Int32)) → GoesW p e below s (Q0 Z p0 w_TRUE s_TRUE v_TRUE w_FALSE s_FALSE v_FALSE wC h0 n0) kC0 kS0 (T41.setTop (mkF m 134 #[.val (.int p0), .val (.int (1 : Int32)), .val (.ref w_TRUE), .val (.ref w_TRUE), .val (.ref w_FALSE), .val (.ref lt10), .val (.ref w_TRUE)] [(.int x41_0)])) by
      by_cases hc80_31 : (f2 (1 : Int32)) = (1 : Int32)
      · refine GoesW.step (fun t k => XS.icmpNo X30.here hx rfl (hb hby at_80) rfl (teq hc80_31).2 k) ?_
        show GoesW _ _ _ _ _ _ _ (T30.setTop (mkF m 83 #[.val (.int p0), .val (.int (1 : Int32)), .val (.ref w_TRUE), .val (.ref w_TRUE), .val (.ref w_FALSE), .val (.ref lt10), .val (.ref w_TRUE)] []))
        refine GoesW.step (fun t k => XS.aload X30.here hx rfl (hb hby at_83) rfl rfl k) ?_
        show GoesW _ _ _ _ _ _ _ (T30.setTop (mkF m 85 #[.val (.int p0), .val (.int (1 : Int32)), .val (.ref w_TRUE), .val (.ref w_TRUE), .val (.ref w_FALSE), .val (.ref lt10), .val (.ref w_TRUE)] [(.ref lt10)]))
        refine GoesW.step (fun t k => XS.aloadN X30.here hx rfl (hb hby at_85) rfl rfl k) ?_
        show GoesW _ _ _ _ _ _ _ (T30.setTop (mkF m 86 #[.val (.int p0), .val (.int (1 : Int32)), .val (.ref w_TRUE), .val (.ref w_TRUE), .val (.ref w_FALSE), .val (.ref lt10), .val (.ref w_TRUE)] [(.ref w_TRUE), (.ref lt10)]))
        obtain ⟨cq32, kq32, q32a, q32b, q32c⟩ := isOf hZ e30 F12
        obtain ⟨_, _, ⟨T32, L32, k32, n32⟩, -, X32, ⟨Lc32, hQ32, l32, y32, z32⟩, st32⟩ := X30.virtualBack hx (y := (⟨"com/example/vigilant_schema/vigilantschema/Node$BooleanNode", "writtenText", "()Ljava/lang/String;"⟩ : MethodName)) (z := (⟨"com/example/vigilant_schema/vigilantschema/Node$BooleanNode", "writtenText", "()Ljava/lang/String;"⟩ : MethodName)) hown (mvT hZ (hw _ (List.mem_of_getElem? (i := 24) rfl))) (mvT hZ (hw _ (List.mem_of_getElem? (i := 25) rfl))) (notFace_of_selects (args := #[]) (mvT hZ (hw _ (List.mem_of_getElem? (i := 27) rfl)))) (mvT hZ (hw _ (List.mem_of_getElem? (i := 27) rfl))) (mvT hZ (hw _ (List.mem_of_getElem? (i := 26) rfl))) (by decide) (backOf (W := 1) (rm3 l Z tA hw [] w_TRUE s_TRUE h10 F14) hZ (hw _ (List.mem_of_getElem? (i := 28) rfl)) (hw _ (List.mem_of_getElem? (i := 2) rfl)) (by decide) (by decide)) q32a q32c (g := (mkF m 86 #[.val (.int p0), .val (.int (1 : Int32)), .val (.ref w_TRUE), .val (.ref w_TRUE), .val (.ref w_FALSE), .val (.ref lt10), .val (.ref w_TRUE)] [(.ref w_TRUE), (.ref lt10)])) rfl (by rw [hml]; rfl) (Steps.refl _) (argsL := []) (rest := [(.ref lt10)]) (lenOf own_pd3 rfl) rfl (by show 2 * 0 + _ ≤ _; exact Nat.le_of_eq rfl) (hb hby at_86) (fun _ _ => ⟨rfl, e30, (by decide : 2 + 0 ≤ _), (by decide : 20 + 0 ≤ _)⟩)
        dsimp only [Pt.U, Pt.locs, Pt.cells, Pt.slots] at X32 l32 y32 z32 st32 hQ32
        rw [l32, y32, z32] at X32
        obtain ⟨rfl, rfl, e32⟩ := hQ32
        try rw [List.append_nil] at X32
        change Stand _ _ _ _ _ _ _ _ _ _ _ _ 2 20 at X32
        refine GoesW.step (fun t k => st32.trans k) ?_
        show GoesW _ _ _ _ _ _ _ (T32.setTop (mkF m 89 #[.val (.int p0), .val (.int (1 : Int32)), .val (.ref w_TRUE), .val (.ref w_TRUE), .val (.ref w_FALSE), .val (.ref lt10), .val (.ref w_TRUE)] [(.ref s_TRUE), (.ref lt10)]))
        obtain ⟨cq33, kq33, q33a, q33b, q33c⟩ := isOf hZ e32 Ea10
        obtain ⟨_, _, ⟨T33, L33, k33, n33⟩, -, X33, ⟨Lc33, hQ33, l33, y33, z33⟩, st33⟩ := X32.virtualBack hx (y := (⟨"java/lang/String", "equals", "(Ljava/lang/Object;)Z"⟩ : MethodName)) (z := (⟨"java/lang/String", "equals", "(Ljava/lang/Object;)Z"⟩ : MethodName)) hown (mvT hZ (hw _ (List.mem_of_getElem? (i := 31) rfl))) (mvT hZ (hw _ (List.mem_of_getElem? (i := 32) rfl))) (notFace_of_selects (args := #[]) (mvT hZ (hw _ (List.mem_of_getElem? (i := 34) rfl)))) (mvT hZ (hw _ (List.mem_of_getElem? (i := 34) rfl))) (mvT hZ (hw _ (List.mem_of_getElem? (i := 33) rfl))) (by decide) (backOf (W := 0) (rm4t l Z tA hw [] lt10 s_TRUE lb10 v_TRUE wC h10 Ea10 F15 Ca10 F16 Va10 F17 Bb10 F18 F27) hZ (hw _ (List.mem_of_getElem? (i := 35) rfl)) (hw _ (List.mem_of_getElem? (i := 9) rfl)) (by decide) (by decide)) q33a q33c (g := (mkF m 89 #[.val (.int p0), .val (.int (1 : Int32)), .val (.ref w_TRUE), .val (.ref w_TRUE), .val (.ref w_FALSE), .val (.ref lt10), .val (.ref w_TRUE)] [(.ref s_TRUE), (.ref lt10)])) rfl (by rw [hml]; rfl) (Steps.refl _) (argsL := [(.ref s_TRUE)]) (rest := []) (lenOf own_pd4 rfl) rfl (by show 2 * 0 + _ ≤ _; exact Nat.le_of_eq rfl) (hb hby at_89) (fun _ _ => ⟨rfl, e32, (by decide : 2 + 0 ≤ _), (by decide : 20 + 0 ≤ _)⟩)
        dsimp only [Pt.U, Pt.locs, Pt.cells, Pt.slots] at X33 l33 y33 z33 st33 hQ33
        rw [l33, y33, z33] at X33
        obtain ⟨rfl, rfl, e33⟩ := hQ33
        try rw [List.append_nil] at X33
        change Stand _ _ _ _ _ _ _ _ _ _ _ _ 2 20 at X33
        refine GoesW.step (fun t k => st33.trans k) ?_
        show GoesW _ _ _ _ _ _ _ (T33.setTop (mkF m 92 #[.val (.int p0), .val (.int (1 : Int32)), .val (.ref w_TRUE), .val (.ref w_TRUE), .val (.ref w_FALSE), .val (.ref lt10), .val (.ref w_TRUE)] [(.int (f4t lt10 s_TRUE))]))
        by_cases hc92_34 : (f4t lt10 s_TRUE) = (0 : Int32)
        · refine GoesW.step (fun t k => XS.ifYes X33.here hx rfl (pc0 := 92) (pc' := 133) rfl (hb hby at_92) rfl ((if0 _ _).trans (teq hc92_34).1) (by decide) (by decide) k) ?_
          show GoesW _ _ _ _ _ _ _ (T33.setTop (mkF m 133 #[.val (.int p0), .val (.int (1 : Int32)), .val (.ref w_TRUE), .val (.ref w_TRUE), .val (.ref w_FALSE), .val (.ref lt10), .val (.ref w_TRUE)] []))
          refine GoesW.step (fun t k => XS.iconst X33.here hx rfl (hb hby at_133) k) ?_
          show GoesW _ _ _ _ _ _ _ (T33.setTop (mkF m 134 #[.val (.int p0), .val (.int (1 : Int32)), .val (.ref w_TRUE), .val (.ref w_TRUE), .val (.ref w_FALSE), .val (.ref lt10), .val (.ref w_TRUE)] [(.int (0 : Int32))]))
          exact k41 _ _ X33 e33 ((if_pos hc80_31).trans (if_pos hc92_34)).symm
        · refine GoesW.step (fun t k => XS.ifNo X33.here hx rfl (hb hby at_92) rfl ((if0 _ _).trans (feq hc92_34).1) k) ?_
          show GoesW _ _ _ _ _ _ _ (T33.setTop (mkF m 95 #[.val (.int p0), .val (.int (1 : Int32)), .val (.ref w_TRUE), .val (.ref w_TRUE), .val (.ref w_FALSE), .val (.ref lt10), .val (.ref w_TRUE)] []))
          refine GoesW.step (fun t k => XS.aloadN X33.here hx rfl (hb hby at_95) rfl rfl k) ?_
          show GoesW _ _ _ _ _ _ _ (T33.setTop (mkF m 96 #[.val (.int p0), .val (.int (1 : Int32)), .val (.ref w_TRUE), .val (.ref w_TRUE), .val (.ref w_FALSE), .val (.ref lt10), .val (.ref w_TRUE)] [(.ref w_TRUE)]))
          refine GoesW.step (fun t k => XS.aloadN X33.here hx rfl (hb hby at_96) rfl rfl k) ?_
          show GoesW _ _ _ _ _ _ _ (T33.setTop (mkF m 97 #[.val (.int p0), .val (.int (1 : Int32)), .val (.ref w_TRUE), .val (.ref w_TRUE), .val (.ref w_FALSE), .val (.ref lt10), .val (.ref w_TRUE)] [(.ref w_TRUE), (.ref w_TRUE)]))
          refine GoesW.step (fun t k => Jvm.RoadKit.acmp (g := (mkF m 97 #[.val (.int p0), .val (.int (1 : Int32)), .val (.ref w_TRUE), .val (.ref w_TRUE), .val (.ref w_FALSE), .val (.ref lt10), .val (.ref w_TRUE)] [(.ref w_TRUE), (.ref w_TRUE)])) X33 hx rfl rfl rfl (pc0 := 97) (pc' := 100) (same := true) rfl (hb hby at_97) rfl (decide_eq_true (congrArg Value.ref rfl)) (by decide) (by decide) k) ?_
          show GoesW _ _ _ _ _ _ _ (T33.setTop (mkF m 100 #[.val (.int p0), .val (.int (1 : Int32)), .val (.ref w_TRUE), .val (.ref w_TRUE), .val (.ref w_FALSE), .val (.ref lt10), .val (.ref w_TRUE)] []))
          refine GoesW.step (fun t k => XS.aloadN X33.here hx rfl (hb hby at_100) rfl rfl k) ?_
          show GoesW _ _ _ _ _ _ _ (T33.setTop (mkF m 101 #[.val (.int p0), .val (.int (1 : Int32)), .val (.ref w_TRUE), .val (.ref w_TRUE), .val (.ref w_FALSE), .val (.ref lt10), .val (.ref w_TRUE)] [(.ref w_TRUE)]))
          refine GoesW.step (fun t k => XS.aload X33.here hx rfl (hb hby at_101) rfl rfl k) ?_
          show GoesW _ _ _ _ _ _ _ (T33.setTop (mkF m 103 #[.val (.int p0), .val (.int (1 : Int32)), .val (.ref w_TRUE), .val (.ref w_TRUE), .val (.ref w_FALSE), .val (.ref lt10), .val (.ref w_TRUE)] [(.ref w_TRUE), (.ref w_TRUE)]))
          refine GoesW.step (fun t k => Jvm.RoadKit.acmp (g := (mkF m 103 #[.val (.int p0), .val (.int (1 : Int32)), .val (.ref w_TRUE), .val (.ref w_TRUE), .val (.ref w_FALSE), .val (.ref lt10), .val (.ref w_TRUE)] [(.ref w_TRUE), (.ref w_TRUE)])) X33 hx rfl rfl rfl (pc0 := 103) (pc' := 106) (same := true) rfl (hb hby at_103) rfl (decide_eq_true (congrArg Value.ref rfl)) (by decide) (by decide) k) ?_
          show GoesW _ _ _ _ _ _ _ (T33.setTop (mkF m 106 #[.val (.int p0), .val (.int (1 : Int32)), .val (.ref w_TRUE), .val (.ref w_TRUE), .val (.ref w_FALSE), .val (.ref lt10), .val (.ref w_TRUE)] []))
          refine GoesW.step (fun t k => XS.aloadN X33.here hx rfl (hb hby at_106) rfl rfl k) ?_
          show GoesW _ _ _ _ _ _ _ (T33.setTop (mkF m 107 #[.val (.int p0), .val (.int (1 : Int32)), .val (.ref w_TRUE), .val (.ref w_TRUE), .val (.ref w_FALSE), .val (.ref lt10), .val (.ref w_TRUE)] [(.ref w_TRUE)]))
          refine GoesW.step (fun t k => XS.aload X33.here hx rfl (hb hby at_107) rfl rfl k) ?_
          show GoesW _ _ _ _ _ _ _ (T33.setTop (mkF m 109 #[.val (.int p0), .val (.int (1 : Int32)), .val (.ref w_TRUE), .val (.ref w_TRUE), .val (.ref w_FALSE), .val (.ref lt10), .val (.ref w_TRUE)] [(.ref w_FALSE), (.ref w_TRUE)]))
          refine GoesW.step (fun t k => Jvm.RoadKit.acmp (g := (mkF m 109 #[.val (.int p0), .val (.int (1 : Int32)), .val (.ref w_TRUE), .val (.ref w_TRUE), .val (.ref w_FALSE), .val (.ref lt10), .val (.ref w_TRUE)] [(.ref w_FALSE), (.ref w_TRUE)])) X33 hx rfl rfl rfl (pc0 := 109) (pc' := 112) (same := false) rfl (hb hby at_109) rfl (decide_eq_false fun q => nTF (Value.ref.inj q)) (by decide) (by decide) k) ?_
          show GoesW _ _ _ _ _ _ _ (T33.setTop (mkF m 112 #[.val (.int p0), .val (.int (1 : Int32)), .val (.ref w_TRUE), .val (.ref w_TRUE), .val (.ref w_FALSE), .val (.ref lt10), .val (.ref w_TRUE)] []))
          refine GoesW.step (fun t k => XS.aload X33.here hx rfl (hb hby at_112) rfl rfl k) ?_
          show GoesW _ _ _ _ _ _ _ (T33.setTop (mkF m 114 #[.val (.int p0), .val (.int (1 : Int32)), .val (.ref w_TRUE), .val (.ref w_TRUE), .val (.ref w_FALSE), .val (.ref lt10), .val (.ref w_TRUE)] [(.ref w_FALSE)]))
          obtain ⟨cq38, kq38, q38a, q38b, q38c⟩ := isOf hZ e33 F20
          obtain ⟨_, _, ⟨T38, L38, k38, n38⟩, -, X38, ⟨Lc38, hQ38, l38, y38, z38⟩, st38⟩ := X33.virtualBack hx (y := (⟨"com/example/vigilant_schema/vigilantschema/Node$BooleanNode", "value", "()Z"⟩ : MethodName)) (z := (⟨"com/example/vigilant_schema/vigilantschema/Node$BooleanNode", "value", "()Z"⟩ : MethodName)) hown (mvT hZ (hw _ (List.mem_of_getElem? (i := 17) rfl))) (mvT hZ (hw _ (List.mem_of_getElem? (i := 18) rfl))) (notFace_of_selects (args := #[]) (mvT hZ (hw _ (List.mem_of_getElem? (i := 20) rfl)))) (mvT hZ (hw _ (List.mem_of_getElem? (i := 20) rfl))) (mvT hZ (hw _ (List.mem_of_getElem? (i := 19) rfl))) (by decide) (backOf (W := 0) (rm2 l Z tA hw [] w_FALSE (0 : Int32) h10 F21) hZ (hw _ (List.mem_of_getElem? (i := 21) rfl)) (hw _ (List.mem_of_getElem? (i := 2) rfl)) (by decide) (by decide)) q38a q38c (g := (mkF m 114 #[.val (.int p0), .val (.int (1 : Int32)), .val (.ref w_TRUE), .val (.ref w_TRUE), .val (.ref w_FALSE), .val (.ref lt10), .val (.ref w_TRUE)] [(.ref w_FALSE)])) rfl (by rw [hml]; rfl) (Steps.refl _) (argsL := []) (rest := []) (lenOf own_pd2 rfl) rfl (by show 2 * 0 + _ ≤ _; exact Nat.le_of_eq rfl) (hb hby at_114) (fun _ _ => ⟨rfl, e33, (by decide : 2 + 0 ≤ _), (by decide : 20 + 0 ≤ _)⟩)
          dsimp only [Pt.U, Pt.locs, Pt.cells, Pt.slots] at X38 l38 y38 z38 st38 hQ38
          rw [l38, y38, z38] at X38
          obtain ⟨rfl, rfl, e38⟩ := hQ38
          try rw [List.append_nil] at X38
          change Stand _ _ _ _ _ _ _ _ _ _ _ _ 2 20 at X38
          refine GoesW.step (fun t k => st38.trans k) ?_
          show GoesW _ _ _ _ _ _ _ (T38.setTop (mkF m 117 #[.val (.int p0), .val (.int (1 : Int32)), .val (.ref w_TRUE), .val (.ref w_TRUE), .val (.ref w_FALSE), .val (.ref lt10), .val (.ref w_TRUE)] [(.int (f2 (0 : Int32)))]))
          refine GoesW.step (fun t k => XS.iloadN X38.here hx rfl (hb hby at_117) rfl k) ?_
          show GoesW _ _ _ _ _ _ _ (T38.setTop (mkF m 118 #[.val (.int p0), .val (.int (1 : Int32)), .val (.ref w_TRUE), .val (.ref w_TRUE), .val (.ref w_FALSE), .val (.ref lt10), .val (.ref w_TRUE)] [(.int (1 : Int32)), (.int (f2 (0 : Int32)))]))
          refine GoesW.step (fun t k => XS.ifYes X38.here hx rfl (pc0 := 118) (pc' := 125) rfl (hb hby at_118) rfl ((if0 _ _).trans (feq (by decide)).2) (by decide) (by decide) k) ?_
          show GoesW _ _ _ _ _ _ _ (T38.setTop (mkF m 125 #[.val (.int p0), .val (.int (1 : Int32)), .val (.ref w_TRUE), .val (.ref w_TRUE), .val (.ref w_FALSE), .val (.ref lt10), .val (.ref w_TRUE)] [(.int (f2 (0 : Int32)))]))
          refine GoesW.step (fun t k => XS.iconst X38.here hx rfl (hb hby at_125) k) ?_
          show GoesW _ _ _ _ _ _ _ (T38.setTop (mkF m 126 #[.val (.int p0), .val (.int (1 : Int32)), .val (.ref w_TRUE), .val (.ref w_TRUE), .val (.ref w_FALSE), .val (.ref lt10), .val (.ref w_TRUE)] [(.int (0 : Int32)), (.int (f2 (0 : Int32)))]))
          by_cases hc126_40 : (f2 (0 : Int32)) = (0 : Int32)
          · refine GoesW.step (fun t k => XS.icmpNo X38.here hx rfl (hb hby at_126) rfl (teq hc126_40).2 k) ?_
            show GoesW _ _ _ _ _ _ _ (T38.setTop (mkF m 129 #[.val (.int p0), .val (.int (1 : Int32)), .val (.ref w_TRUE), .val (.ref w_TRUE), .val (.ref w_FALSE), .val (.ref lt10), .val (.ref w_TRUE)] []))
            refine GoesW.step (fun t k => XS.iconst X38.here hx rfl (hb hby at_129) k) ?_
            show GoesW _ _ _ _ _ _ _ (T38.setTop (mkF m 130 #[.val (.int p0), .val (.int (1 : Int32)), .val (.ref w_TRUE), .val (.ref w_TRUE), .val (.ref w_FALSE), .val (.ref lt10), .val (.ref w_TRUE)] [(.int (1 : Int32))]))
            refine GoesW.step (fun t k => XS.goto X38.here hx rfl (pc0 := 130) (pc' := 134) rfl (hb hby at_130) (by decide) (by decide) k) ?_
            show GoesW _ _ _ _ _ _ _ (T38.setTop (mkF m 134 #[.val (.int p0), .val (.int (1 : Int32)), .val (.ref w_TRUE), .val (.ref w_TRUE), .val (.ref w_FALSE), .val (.ref lt10), .val (.ref w_TRUE)] [(.int (1 : Int32))]))
            exact k41 _ _ X38 e38 ((if_pos hc80_31).trans ((if_neg hc92_34).trans (if_pos hc126_40))).symm
          · refine GoesW.step (fun t k => XS.icmpYes X38.here hx rfl (pc0 := 126) (pc' := 133) rfl (hb hby at_126) rfl (feq hc126_40).2 (by decide) (by decide) k) ?_
            show GoesW _ _ _ _ _ _ _ (T38.setTop (mkF m 133 #[.val (.int p0), .val (.int (1 : Int32)), .val (.ref w_TRUE), .val (.ref w_TRUE), .val (.ref w_FALSE), .val (.ref lt10), .val (.ref w_TRUE)] []))
            refine GoesW.step (fun t k => XS.iconst X38.here hx rfl (hb hby at_133) k) ?_
            show GoesW _ _ _ _ _ _ _ (T38.setTop (mkF m 134 #[.val (.int p0), .val (.int (1 : Int32)), .val (.ref w_TRUE), .val (.ref w_TRUE), .val (.ref w_FALSE), .val (.ref lt10), .val (.ref w_TRUE)] [(.int (0 : Int32))]))
            exact k41 _ _ X38 e38 ((if_pos hc80_31).trans ((if_neg hc92_34).trans (if_neg hc126_40))).symm
      · refine GoesW.step (fun t k => XS.icmpYes X30.here hx rfl (pc0 := 80) (pc' := 133) rfl (hb hby at_80) rfl (feq hc80_31).2 (by decide) (by decide) k) ?_
        show GoesW _ _ _ _ _ _ _ (T30.setTop (mkF m 133 #[.val (.int p0), .val (.int (1 : Int32)), .val (.ref w_TRUE), .val (.ref w_TRUE), .val (.ref w_FALSE), .val (.ref lt10), .val (.ref w_TRUE)] []))
        refine GoesW.step (fun t k => XS.iconst X30.here hx rfl (hb hby at_133) k) ?_
        show GoesW _ _ _ _ _ _ _ (T30.setTop (mkF m 134 #[.val (.int p0), .val (.int (1 : Int32)), .val (.ref w_TRUE), .val (.ref w_TRUE), .val (.ref w_FALSE), .val (.ref lt10), .val (.ref w_TRUE)] [(.int (0 : Int32))]))
        exact k41 _ _ X30 e30 (if_neg hc80_31).symm
    intro T41 x41_0 X41 e41 hx41_0
    exact GoesW.retZ1 X41 hx Bd.notSynchronized (r := (1 : Int32)) Bd.returns (by simp) (hb hby at_134) (own_plain s_TRUE lt10 x41_0 hx41_0) ⟨rfl, N0⟩ (by decide) (by decide) hS10 (by rw [e41]; exact hK10)
  · show GoesW _ _ _ _ _ _ _ (s₁.setTop (mkF m 12 #[.val (.int p0), .val (.int (0 : Int32)), .unset, .unset, .unset, .unset, .unset] []))
    refine GoesW.step (fun t k => XS.iloadN X0.here hx rfl (hb hby at_12) rfl k) ?_
    show GoesW _ _ _ _ _ _ _ (s₁.setTop (mkF m 13 #[.val (.int p0), .val (.int (0 : Int32)), .unset, .unset, .unset, .unset, .unset] [(.int (0 : Int32))]))
    obtain ⟨_, _, ⟨T42, L42, k42, n42⟩, -, X42, ⟨Lc42, hQ42, l42, y42, z42⟩, st42⟩ := Jvm.LawKit.callS X0 hx (y := (⟨"com/example/vigilant_schema/vigilantschema/Node$BooleanNode", "of", "(Z)Lcom/example/vigilant_schema/vigilantschema/Node$BooleanNode;"⟩ : MethodName)) hown (mvT hZ (hw _ (List.mem_of_getElem? (i := 0) rfl))) (mvT hZ (hw _ (List.mem_of_getElem? (i := 1) rfl))) (mvT hZ (hw _ (List.mem_of_getElem? (i := 2) rfl))) (mvT hZ (hw _ (List.mem_of_getElem? (i := 3) rfl))) (by decide) (backOf (W := 0) (rm1v0 l Z tA hw [] w_TRUE w_FALSE h0 S_TRUE S_FALSE) hZ (hw _ (List.mem_of_getElem? (i := 3) rfl)) (hw _ (List.mem_of_getElem? (i := 2) rfl)) (by decide) (by decide)) (g := (mkF m 13 #[.val (.int p0), .val (.int (0 : Int32)), .unset, .unset, .unset, .unset, .unset] [(.int (0 : Int32))])) rfl (by rw [hml]; rfl) (argsL := [(.int (0 : Int32))]) (rest := []) (lenOf own_pd1 rfl) rfl (by show 2 * 0 + _ ≤ _; exact Nat.le_of_eq rfl) (hb hby at_13) (fun _ _ => ⟨rfl, e0, (by decide : 0 + 0 ≤ _), (by decide : 0 + 0 ≤ _)⟩)
    dsimp only [Pt.U, Pt.locs, Pt.cells, Pt.slots] at X42 l42 y42 z42 st42 hQ42
    rw [l42, y42, z42] at X42
    obtain ⟨rfl, rfl, e42⟩ := hQ42
    try rw [List.append_nil] at X42
    change Stand _ _ _ _ _ _ _ _ _ _ _ _ 0 0 at X42
    refine GoesW.step (fun t k => st42 t k) ?_
    show GoesW _ _ _ _ _ _ _ (T42.setTop (mkF m 16 #[.val (.int p0), .val (.int (0 : Int32)), .unset, .unset, .unset, .unset, .unset] [(.ref w_FALSE)]))
    refine GoesW.step (fun t k => XS.astoreN X42.here hx rfl (hb hby at_16) rfl rfl (l' := #[.val (.int p0), .val (.int (0 : Int32)), .val (.ref w_FALSE), .unset, .unset, .unset, .unset]) rfl k) ?_
    show GoesW _ _ _ _ _ _ _ (T42.setTop (mkF m 17 #[.val (.int p0), .val (.int (0 : Int32)), .val (.ref w_FALSE), .unset, .unset, .unset, .unset] []))
    refine GoesW.step (fun t k => XS.iloadN X42.here hx rfl (hb hby at_17) rfl k) ?_
    show GoesW _ _ _ _ _ _ _ (T42.setTop (mkF m 18 #[.val (.int p0), .val (.int (0 : Int32)), .val (.ref w_FALSE), .unset, .unset, .unset, .unset] [(.int (0 : Int32))]))
    obtain ⟨_, _, ⟨T43, L43, k43, n43⟩, -, X43, ⟨Lc43, hQ43, l43, y43, z43⟩, st43⟩ := Jvm.LawKit.callS X42 hx (y := (⟨"com/example/vigilant_schema/vigilantschema/Node$BooleanNode", "of", "(Z)Lcom/example/vigilant_schema/vigilantschema/Node$BooleanNode;"⟩ : MethodName)) hown (mvT hZ (hw _ (List.mem_of_getElem? (i := 0) rfl))) (mvT hZ (hw _ (List.mem_of_getElem? (i := 1) rfl))) (mvT hZ (hw _ (List.mem_of_getElem? (i := 2) rfl))) (mvT hZ (hw _ (List.mem_of_getElem? (i := 3) rfl))) (by decide) (backOf (W := 0) (rm1v0 l Z tA hw [] w_TRUE w_FALSE h0 S_TRUE S_FALSE) hZ (hw _ (List.mem_of_getElem? (i := 3) rfl)) (hw _ (List.mem_of_getElem? (i := 2) rfl)) (by decide) (by decide)) (g := (mkF m 18 #[.val (.int p0), .val (.int (0 : Int32)), .val (.ref w_FALSE), .unset, .unset, .unset, .unset] [(.int (0 : Int32))])) rfl (by rw [hml]; rfl) (argsL := [(.int (0 : Int32))]) (rest := []) (lenOf own_pd1 rfl) rfl (by show 2 * 0 + _ ≤ _; exact Nat.le_of_eq rfl) (hb hby at_18) (fun _ _ => ⟨rfl, e42, (by decide : 0 + 0 ≤ _), (by decide : 0 + 0 ≤ _)⟩)
    dsimp only [Pt.U, Pt.locs, Pt.cells, Pt.slots] at X43 l43 y43 z43 st43 hQ43
    rw [l43, y43, z43] at X43
    obtain ⟨rfl, rfl, e43⟩ := hQ43
    try rw [List.append_nil] at X43
    change Stand _ _ _ _ _ _ _ _ _ _ _ _ 0 0 at X43
    refine GoesW.step (fun t k => st43 t k) ?_
    show GoesW _ _ _ _ _ _ _ (T43.setTop (mkF m 21 #[.val (.int p0), .val (.int (0 : Int32)), .val (.ref w_FALSE), .unset, .unset, .unset, .unset] [(.ref w_FALSE)]))
    refine GoesW.step (fun t k => XS.astoreN X43.here hx rfl (hb hby at_21) rfl rfl (l' := #[.val (.int p0), .val (.int (0 : Int32)), .val (.ref w_FALSE), .val (.ref w_FALSE), .unset, .unset, .unset]) rfl k) ?_
    show GoesW _ _ _ _ _ _ _ (T43.setTop (mkF m 22 #[.val (.int p0), .val (.int (0 : Int32)), .val (.ref w_FALSE), .val (.ref w_FALSE), .unset, .unset, .unset] []))
    refine GoesW.step (fun t k => XS.iloadN X43.here hx rfl (hb hby at_22) rfl k) ?_
    show GoesW _ _ _ _ _ _ _ (T43.setTop (mkF m 23 #[.val (.int p0), .val (.int (0 : Int32)), .val (.ref w_FALSE), .val (.ref w_FALSE), .unset, .unset, .unset] [(.int (0 : Int32))]))
    refine GoesW.step (fun t k => XS.ifNo X43.here hx rfl (hb hby at_23) rfl ((if0 _ _).trans (teq (by decide)).2) k) ?_
    show GoesW _ _ _ _ _ _ _ (T43.setTop (mkF m 26 #[.val (.int p0), .val (.int (0 : Int32)), .val (.ref w_FALSE), .val (.ref w_FALSE), .unset, .unset, .unset] []))
    refine GoesW.step (fun t k => XS.iconst X43.here hx rfl (hb hby at_26) k) ?_
    show GoesW _ _ _ _ _ _ _ (T43.setTop (mkF m 27 #[.val (.int p0), .val (.int (0 : Int32)), .val (.ref w_FALSE), .val (.ref w_FALSE), .unset, .unset, .unset] [(.int (1 : Int32))]))
    refine GoesW.step (fun t k => XS.goto X43.here hx rfl (pc0 := 27) (pc' := 31) rfl (hb hby at_27) (by decide) (by decide) k) ?_
    show GoesW _ _ _ _ _ _ _ (T43.setTop (mkF m 31 #[.val (.int p0), .val (.int (0 : Int32)), .val (.ref w_FALSE), .val (.ref w_FALSE), .unset, .unset, .unset] [(.int (1 : Int32))]))
    obtain ⟨_, _, ⟨T45, L45, k45, n45⟩, -, X45, ⟨Lc45, hQ45, l45, y45, z45⟩, st45⟩ := Jvm.LawKit.callS X43 hx (y := (⟨"com/example/vigilant_schema/vigilantschema/Node$BooleanNode", "of", "(Z)Lcom/example/vigilant_schema/vigilantschema/Node$BooleanNode;"⟩ : MethodName)) hown (mvT hZ (hw _ (List.mem_of_getElem? (i := 0) rfl))) (mvT hZ (hw _ (List.mem_of_getElem? (i := 1) rfl))) (mvT hZ (hw _ (List.mem_of_getElem? (i := 2) rfl))) (mvT hZ (hw _ (List.mem_of_getElem? (i := 3) rfl))) (by decide) (backOf (W := 0) (rm1v1 l Z tA hw [] w_TRUE w_FALSE h0 S_TRUE S_FALSE) hZ (hw _ (List.mem_of_getElem? (i := 3) rfl)) (hw _ (List.mem_of_getElem? (i := 2) rfl)) (by decide) (by decide)) (g := (mkF m 31 #[.val (.int p0), .val (.int (0 : Int32)), .val (.ref w_FALSE), .val (.ref w_FALSE), .unset, .unset, .unset] [(.int (1 : Int32))])) rfl (by rw [hml]; rfl) (argsL := [(.int (1 : Int32))]) (rest := []) (lenOf own_pd1 rfl) rfl (by show 2 * 0 + _ ≤ _; exact Nat.le_of_eq rfl) (hb hby at_31) (fun _ _ => ⟨rfl, e43, (by decide : 0 + 0 ≤ _), (by decide : 0 + 0 ≤ _)⟩)
    dsimp only [Pt.U, Pt.locs, Pt.cells, Pt.slots] at X45 l45 y45 z45 st45 hQ45
    rw [l45, y45, z45] at X45
    obtain ⟨rfl, rfl, e45⟩ := hQ45
    try rw [List.append_nil] at X45
    change Stand _ _ _ _ _ _ _ _ _ _ _ _ 0 0 at X45
    refine GoesW.step (fun t k => st45 t k) ?_
    show GoesW _ _ _ _ _ _ _ (T45.setTop (mkF m 34 #[.val (.int p0), .val (.int (0 : Int32)), .val (.ref w_FALSE), .val (.ref w_FALSE), .unset, .unset, .unset] [(.ref w_TRUE)]))
    refine GoesW.step (fun t k => XS.astore X45.here hx rfl (hb hby at_34) rfl rfl (l' := #[.val (.int p0), .val (.int (0 : Int32)), .val (.ref w_FALSE), .val (.ref w_FALSE), .val (.ref w_TRUE), .unset, .unset]) rfl k) ?_
    show GoesW _ _ _ _ _ _ _ (T45.setTop (mkF m 36 #[.val (.int p0), .val (.int (0 : Int32)), .val (.ref w_FALSE), .val (.ref w_FALSE), .val (.ref w_TRUE), .unset, .unset] []))
    refine GoesW.step (fun t k => XS.aloadN X45.here hx rfl (hb hby at_36) rfl rfl k) ?_
    show GoesW _ _ _ _ _ _ _ (T45.setTop (mkF m 37 #[.val (.int p0), .val (.int (0 : Int32)), .val (.ref w_FALSE), .val (.ref w_FALSE), .val (.ref w_TRUE), .unset, .unset] [(.ref w_FALSE)]))
    refine GoesW.step (fun t k => XS.ifnullNo X45.here hx rfl (hb hby at_37) rfl k) ?_
    show GoesW _ _ _ _ _ _ _ (T45.setTop (mkF m 40 #[.val (.int p0), .val (.int (0 : Int32)), .val (.ref w_FALSE), .val (.ref w_FALSE), .val (.ref w_TRUE), .unset, .unset] []))
    refine GoesW.step (fun t k => XS.aload X45.here hx rfl (hb hby at_40) rfl rfl k) ?_
    show GoesW _ _ _ _ _ _ _ (T45.setTop (mkF m 42 #[.val (.int p0), .val (.int (0 : Int32)), .val (.ref w_FALSE), .val (.ref w_FALSE), .val (.ref w_TRUE), .unset, .unset] [(.ref w_TRUE)]))
    refine GoesW.step (fun t k => XS.ifnonnullYes X45.here hx rfl (pc0 := 42) (pc' := 47) rfl (hb hby at_42) rfl (by decide) (by decide) k) ?_
    show GoesW _ _ _ _ _ _ _ (T45.setTop (mkF m 47 #[.val (.int p0), .val (.int (0 : Int32)), .val (.ref w_FALSE), .val (.ref w_FALSE), .val (.ref w_TRUE), .unset, .unset] []))
    refine GoesW.step (fun t k => XS.iloadN X45.here hx rfl (hb hby at_47) rfl k) ?_
    show GoesW _ _ _ _ _ _ _ (T45.setTop (mkF m 48 #[.val (.int p0), .val (.int (0 : Int32)), .val (.ref w_FALSE), .val (.ref w_FALSE), .val (.ref w_TRUE), .unset, .unset] [(.int (0 : Int32))]))
    refine GoesW.step (fun t k => XS.ifYes X45.here hx rfl (pc0 := 48) (pc' := 56) rfl (hb hby at_48) rfl ((if0 _ _).trans (teq (by decide)).1) (by decide) (by decide) k) ?_
    show GoesW _ _ _ _ _ _ _ (T45.setTop (mkF m 56 #[.val (.int p0), .val (.int (0 : Int32)), .val (.ref w_FALSE), .val (.ref w_FALSE), .val (.ref w_TRUE), .unset, .unset] []))
    obtain ⟨lt49, T49, h49, kk49, lb49, kc49, X49, e49, E49, hS49, hK49, hZ49, hown49, Ea49, Ca49, Va49, Ba49, -, -, IB49, -, st49⟩ := ldcSVL (s := s) (vm0 := s.vm) X45 hx hZ hown (hw _ (List.mem_of_getElem? (i := 8) rfl)) (fun a ha => hw _ (own_strw a ha)) e45 (own_since s h0.size) (Nat.le_refl _) (Fr.nil _) hkeep hib (by decide) (hheld _ (List.mem_of_getElem? (i := 1) (rfl : consts_1[1]? = some ("com/example/vigilant_schema/vigilantschema/BooleanNodeOfPinLaw", 15)))) hcw (vs := [(.int (102 : Int32)), (.int (97 : Int32)), (.int (108 : Int32)), (.int (115 : Int32)), (.int (101 : Int32))]) (z := (5 : Int32)) ⟨by decide, by first | rfl | decide⟩ (by decide) rfl (g := (mkF m 56 #[.val (.int p0), .val (.int (0 : Int32)), .val (.ref w_FALSE), .val (.ref w_FALSE), .val (.ref w_TRUE), .unset, .unset] [])) rfl (hb hby at_56) (n := 20) (by decide) (by decide) (by decide) (by decide)
    have F50 := S_TRUE.ext E49
    have F51 := E_TRUE.ext E49
    have F52 := V_TRUE.ext E49
    have F53 := W_TRUE.ext E49
    have F54 := Es_TRUE.ext E49
    have F55 := Cs_TRUE.ext E49
    have F56 := Vs_TRUE.ext E49
    have F57 := As_TRUE.ext E49
    have F58 := S_FALSE.ext E49
    have F59 := E_FALSE.ext E49
    have F60 := V_FALSE.ext E49
    have F61 := W_FALSE.ext E49
    have F62 := Es_FALSE.ext E49
    have F63 := Cs_FALSE.ext E49
    have F64 := Vs_FALSE.ext E49
    have F65 := As_FALSE.ext E49
    have F66 := S_c.ext E49
    have K49 := (Keep.refl h0 []).ext E49
    have Z49 := Nat.le_trans Z0 E49.1
    replace hZ := hZ49
    replace hown := hown49
    have Bb49 : Ara Z h49 lb49 .byte [(.int (102 : Int32)), (.int (97 : Int32)), (.int (108 : Int32)), (.int (115 : Int32)), (.int (101 : Int32))] := own_ara Ba49 rfl
    refine GoesW.step (fun t k => st49 t k) ?_
    show GoesW _ _ _ _ _ _ _ (T49.setTop (mkF m 58 #[.val (.int p0), .val (.int (0 : Int32)), .val (.ref w_FALSE), .val (.ref w_FALSE), .val (.ref w_TRUE), .unset, .unset] [(.ref lt49)]))
    refine GoesW.step (fun t k => XS.astore X49.here hx rfl (hb hby at_58) rfl rfl (l' := #[.val (.int p0), .val (.int (0 : Int32)), .val (.ref w_FALSE), .val (.ref w_FALSE), .val (.ref w_TRUE), .val (.ref lt49), .unset]) rfl k) ?_
    show GoesW _ _ _ _ _ _ _ (T49.setTop (mkF m 60 #[.val (.int p0), .val (.int (0 : Int32)), .val (.ref w_FALSE), .val (.ref w_FALSE), .val (.ref w_TRUE), .val (.ref lt49), .unset] []))
    refine GoesW.step (fun t k => XS.iloadN X49.here hx rfl (hb hby at_60) rfl k) ?_
    show GoesW _ _ _ _ _ _ _ (T49.setTop (mkF m 61 #[.val (.int p0), .val (.int (0 : Int32)), .val (.ref w_FALSE), .val (.ref w_FALSE), .val (.ref w_TRUE), .val (.ref lt49), .unset] [(.int (0 : Int32))]))
    refine GoesW.step (fun t k => XS.ifYes X49.here hx rfl (pc0 := 61) (pc' := 70) rfl (hb hby at_61) rfl ((if0 _ _).trans (teq (by decide)).1) (by decide) (by decide) k) ?_
    show GoesW _ _ _ _ _ _ _ (T49.setTop (mkF m 70 #[.val (.int p0), .val (.int (0 : Int32)), .val (.ref w_FALSE), .val (.ref w_FALSE), .val (.ref w_TRUE), .val (.ref lt49), .unset] []))
    obtain ⟨T68, X68, e68, st68⟩ := getS2 X49 hx hZ hown (host := "") (Or.inl (hw _ (List.mem_of_getElem? (i := 16) rfl))) Via.refl e49 F58 (g := (mkF m 70 #[.val (.int p0), .val (.int (0 : Int32)), .val (.ref w_FALSE), .val (.ref w_FALSE), .val (.ref w_TRUE), .val (.ref lt49), .unset] [])) rfl (hb hby at_70)
    refine GoesW.step (fun t k => st68 t k) ?_
    show GoesW _ _ _ _ _ _ _ (T68.setTop (mkF m 73 #[.val (.int p0), .val (.int (0 : Int32)), .val (.ref w_FALSE), .val (.ref w_FALSE), .val (.ref w_TRUE), .val (.ref lt49), .unset] [(.ref w_FALSE)]))
    refine GoesW.step (fun t k => XS.astore X68.here hx rfl (hb hby at_73) rfl rfl (l' := #[.val (.int p0), .val (.int (0 : Int32)), .val (.ref w_FALSE), .val (.ref w_FALSE), .val (.ref w_TRUE), .val (.ref lt49), .val (.ref w_FALSE)]) rfl k) ?_
    show GoesW _ _ _ _ _ _ _ (T68.setTop (mkF m 75 #[.val (.int p0), .val (.int (0 : Int32)), .val (.ref w_FALSE), .val (.ref w_FALSE), .val (.ref w_TRUE), .val (.ref lt49), .val (.ref w_FALSE)] []))
    refine GoesW.step (fun t k => XS.aloadN X68.here hx rfl (hb hby at_75) rfl rfl k) ?_
    show GoesW _ _ _ _ _ _ _ (T68.setTop (mkF m 76 #[.val (.int p0), .val (.int (0 : Int32)), .val (.ref w_FALSE), .val (.ref w_FALSE), .val (.ref w_TRUE), .val (.ref lt49), .val (.ref w_FALSE)] [(.ref w_FALSE)]))
    obtain ⟨cq69, kq69, q69a, q69b, q69c⟩ := isOf hZ e68 F59
    obtain ⟨_, _, ⟨T69, L69, k69, n69⟩, -, X69, ⟨Lc69, hQ69, l69, y69, z69⟩, st69⟩ := X68.virtualBack hx (y := (⟨"com/example/vigilant_schema/vigilantschema/Node$BooleanNode", "value", "()Z"⟩ : MethodName)) (z := (⟨"com/example/vigilant_schema/vigilantschema/Node$BooleanNode", "value", "()Z"⟩ : MethodName)) hown (mvT hZ (hw _ (List.mem_of_getElem? (i := 17) rfl))) (mvT hZ (hw _ (List.mem_of_getElem? (i := 18) rfl))) (notFace_of_selects (args := #[]) (mvT hZ (hw _ (List.mem_of_getElem? (i := 20) rfl)))) (mvT hZ (hw _ (List.mem_of_getElem? (i := 20) rfl))) (mvT hZ (hw _ (List.mem_of_getElem? (i := 19) rfl))) (by decide) (backOf (W := 0) (rm2 l Z tA hw [] w_FALSE (0 : Int32) h49 F60) hZ (hw _ (List.mem_of_getElem? (i := 21) rfl)) (hw _ (List.mem_of_getElem? (i := 2) rfl)) (by decide) (by decide)) q69a q69c (g := (mkF m 76 #[.val (.int p0), .val (.int (0 : Int32)), .val (.ref w_FALSE), .val (.ref w_FALSE), .val (.ref w_TRUE), .val (.ref lt49), .val (.ref w_FALSE)] [(.ref w_FALSE)])) rfl (by rw [hml]; rfl) (Steps.refl _) (argsL := []) (rest := []) (lenOf own_pd2 rfl) rfl (by show 2 * 0 + _ ≤ _; exact Nat.le_of_eq rfl) (hb hby at_76) (fun _ _ => ⟨rfl, e68, (by decide : 2 + 0 ≤ _), (by decide : 24 + 0 ≤ _)⟩)
    dsimp only [Pt.U, Pt.locs, Pt.cells, Pt.slots] at X69 l69 y69 z69 st69 hQ69
    rw [l69, y69, z69] at X69
    obtain ⟨rfl, rfl, e69⟩ := hQ69
    try rw [List.append_nil] at X69
    change Stand _ _ _ _ _ _ _ _ _ _ _ _ 2 24 at X69
    refine GoesW.step (fun t k => st69.trans k) ?_
    show GoesW _ _ _ _ _ _ _ (T69.setTop (mkF m 79 #[.val (.int p0), .val (.int (0 : Int32)), .val (.ref w_FALSE), .val (.ref w_FALSE), .val (.ref w_TRUE), .val (.ref lt49), .val (.ref w_FALSE)] [(.int (f2 (0 : Int32)))]))
    refine GoesW.step (fun t k => XS.iloadN X69.here hx rfl (hb hby at_79) rfl k) ?_
    show GoesW _ _ _ _ _ _ _ (T69.setTop (mkF m 80 #[.val (.int p0), .val (.int (0 : Int32)), .val (.ref w_FALSE), .val (.ref w_FALSE), .val (.ref w_TRUE), .val (.ref lt49), .val (.ref w_FALSE)] [(.int (0 : Int32)), (.int (f2 (0 : Int32)))]))
    suffices k80 : ∀ (T80 : State) (x80_0 : Int32), Stand p l e room_1 (s.setVm T49.vm) m #[(.int p0)] below meth c T80 [] 2 24 → T80.heap = h49 → x80_0 = (if (f2 (0 : Int32)) = (0 : Int32) then (if (f4f lt49 s_FALSE) = (0 : Int32) then (0 : Int32) else (if (f2 (1 : Int32)) = (1 : Int32) then (1 : Int32) else (0 : Int32))) else (0 : Int32)) → GoesW p e below s (Q0 Z p0 w_TRUE s_TRUE v_TRUE w_FALSE s_FALSE v_FALSE wC h0 n0) kC0 kS0 (T80.setTop (mkF m 134 #[.val (.int p0), .val (.int (0 : Int32)), .val (.ref w_FALSE), .val (.ref w_FALSE), .val (.ref w_TRUE), .val (.ref lt49), .val (.ref w_FALSE)] [(.int x80_0)])) by
      by_cases hc80_70 : (f2 (0 : Int32)) = (0 : Int32)
      · refine GoesW.step (fun t k => XS.icmpNo X69.here hx rfl (hb hby at_80) rfl (teq hc80_70).2 k) ?_
        show GoesW _ _ _ _ _ _ _ (T69.setTop (mkF m 83 #[.val (.int p0), .val (.int (0 : Int32)), .val (.ref w_FALSE), .val (.ref w_FALSE), .val (.ref w_TRUE), .val (.ref lt49), .val (.ref w_FALSE)] []))
        refine GoesW.step (fun t k => XS.aload X69.here hx rfl (hb hby at_83) rfl rfl k) ?_
        show GoesW _ _ _ _ _ _ _ (T69.setTop (mkF m 85 #[.val (.int p0), .val (.int (0 : Int32)), .val (.ref w_FALSE), .val (.ref w_FALSE), .val (.ref w_TRUE), .val (.ref lt49), .val (.ref w_FALSE)] [(.ref lt49)]))
        refine GoesW.step (fun t k => XS.aloadN X69.here hx rfl (hb hby at_85) rfl rfl k) ?_
        show GoesW _ _ _ _ _ _ _ (T69.setTop (mkF m 86 #[.val (.int p0), .val (.int (0 : Int32)), .val (.ref w_FALSE), .val (.ref w_FALSE), .val (.ref w_TRUE), .val (.ref lt49), .val (.ref w_FALSE)] [(.ref w_FALSE), (.ref lt49)]))
        obtain ⟨cq71, kq71, q71a, q71b, q71c⟩ := isOf hZ e69 F59
        obtain ⟨_, _, ⟨T71, L71, k71, n71⟩, -, X71, ⟨Lc71, hQ71, l71, y71, z71⟩, st71⟩ := X69.virtualBack hx (y := (⟨"com/example/vigilant_schema/vigilantschema/Node$BooleanNode", "writtenText", "()Ljava/lang/String;"⟩ : MethodName)) (z := (⟨"com/example/vigilant_schema/vigilantschema/Node$BooleanNode", "writtenText", "()Ljava/lang/String;"⟩ : MethodName)) hown (mvT hZ (hw _ (List.mem_of_getElem? (i := 24) rfl))) (mvT hZ (hw _ (List.mem_of_getElem? (i := 25) rfl))) (notFace_of_selects (args := #[]) (mvT hZ (hw _ (List.mem_of_getElem? (i := 27) rfl)))) (mvT hZ (hw _ (List.mem_of_getElem? (i := 27) rfl))) (mvT hZ (hw _ (List.mem_of_getElem? (i := 26) rfl))) (by decide) (backOf (W := 1) (rm3 l Z tA hw [] w_FALSE s_FALSE h49 F61) hZ (hw _ (List.mem_of_getElem? (i := 28) rfl)) (hw _ (List.mem_of_getElem? (i := 2) rfl)) (by decide) (by decide)) q71a q71c (g := (mkF m 86 #[.val (.int p0), .val (.int (0 : Int32)), .val (.ref w_FALSE), .val (.ref w_FALSE), .val (.ref w_TRUE), .val (.ref lt49), .val (.ref w_FALSE)] [(.ref w_FALSE), (.ref lt49)])) rfl (by rw [hml]; rfl) (Steps.refl _) (argsL := []) (rest := [(.ref lt49)]) (lenOf own_pd3 rfl) rfl (by show 2 * 0 + _ ≤ _; exact Nat.le_of_eq rfl) (hb hby at_86) (fun _ _ => ⟨rfl, e69, (by decide : 2 + 0 ≤ _), (by decide : 24 + 0 ≤ _)⟩)
        dsimp only [Pt.U, Pt.locs, Pt.cells, Pt.slots] at X71 l71 y71 z71 st71 hQ71
        rw [l71, y71, z71] at X71
        obtain ⟨rfl, rfl, e71⟩ := hQ71
        try rw [List.append_nil] at X71
        change Stand _ _ _ _ _ _ _ _ _ _ _ _ 2 24 at X71
        refine GoesW.step (fun t k => st71.trans k) ?_
        show GoesW _ _ _ _ _ _ _ (T71.setTop (mkF m 89 #[.val (.int p0), .val (.int (0 : Int32)), .val (.ref w_FALSE), .val (.ref w_FALSE), .val (.ref w_TRUE), .val (.ref lt49), .val (.ref w_FALSE)] [(.ref s_FALSE), (.ref lt49)]))
        obtain ⟨cq72, kq72, q72a, q72b, q72c⟩ := isOf hZ e71 Ea49
        obtain ⟨_, _, ⟨T72, L72, k72, n72⟩, -, X72, ⟨Lc72, hQ72, l72, y72, z72⟩, st72⟩ := X71.virtualBack hx (y := (⟨"java/lang/String", "equals", "(Ljava/lang/Object;)Z"⟩ : MethodName)) (z := (⟨"java/lang/String", "equals", "(Ljava/lang/Object;)Z"⟩ : MethodName)) hown (mvT hZ (hw _ (List.mem_of_getElem? (i := 31) rfl))) (mvT hZ (hw _ (List.mem_of_getElem? (i := 32) rfl))) (notFace_of_selects (args := #[]) (mvT hZ (hw _ (List.mem_of_getElem? (i := 34) rfl)))) (mvT hZ (hw _ (List.mem_of_getElem? (i := 34) rfl))) (mvT hZ (hw _ (List.mem_of_getElem? (i := 33) rfl))) (by decide) (backOf (W := 0) (rm4f l Z tA hw [] lt49 s_FALSE lb49 v_FALSE wC h49 Ea49 F62 Ca49 F63 Va49 F64 Bb49 F65 F66) hZ (hw _ (List.mem_of_getElem? (i := 35) rfl)) (hw _ (List.mem_of_getElem? (i := 9) rfl)) (by decide) (by decide)) q72a q72c (g := (mkF m 89 #[.val (.int p0), .val (.int (0 : Int32)), .val (.ref w_FALSE), .val (.ref w_FALSE), .val (.ref w_TRUE), .val (.ref lt49), .val (.ref w_FALSE)] [(.ref s_FALSE), (.ref lt49)])) rfl (by rw [hml]; rfl) (Steps.refl _) (argsL := [(.ref s_FALSE)]) (rest := []) (lenOf own_pd4 rfl) rfl (by show 2 * 0 + _ ≤ _; exact Nat.le_of_eq rfl) (hb hby at_89) (fun _ _ => ⟨rfl, e71, (by decide : 2 + 0 ≤ _), (by decide : 24 + 0 ≤ _)⟩)
        dsimp only [Pt.U, Pt.locs, Pt.cells, Pt.slots] at X72 l72 y72 z72 st72 hQ72
        rw [l72, y72, z72] at X72
        obtain ⟨rfl, rfl, e72⟩ := hQ72
        try rw [List.append_nil] at X72
        change Stand _ _ _ _ _ _ _ _ _ _ _ _ 2 24 at X72
        refine GoesW.step (fun t k => st72.trans k) ?_
        show GoesW _ _ _ _ _ _ _ (T72.setTop (mkF m 92 #[.val (.int p0), .val (.int (0 : Int32)), .val (.ref w_FALSE), .val (.ref w_FALSE), .val (.ref w_TRUE), .val (.ref lt49), .val (.ref w_FALSE)] [(.int (f4f lt49 s_FALSE))]))
        by_cases hc92_73 : (f4f lt49 s_FALSE) = (0 : Int32)
        · refine GoesW.step (fun t k => XS.ifYes X72.here hx rfl (pc0 := 92) (pc' := 133) rfl (hb hby at_92) rfl ((if0 _ _).trans (teq hc92_73).1) (by decide) (by decide) k) ?_
          show GoesW _ _ _ _ _ _ _ (T72.setTop (mkF m 133 #[.val (.int p0), .val (.int (0 : Int32)), .val (.ref w_FALSE), .val (.ref w_FALSE), .val (.ref w_TRUE), .val (.ref lt49), .val (.ref w_FALSE)] []))
          refine GoesW.step (fun t k => XS.iconst X72.here hx rfl (hb hby at_133) k) ?_
          show GoesW _ _ _ _ _ _ _ (T72.setTop (mkF m 134 #[.val (.int p0), .val (.int (0 : Int32)), .val (.ref w_FALSE), .val (.ref w_FALSE), .val (.ref w_TRUE), .val (.ref lt49), .val (.ref w_FALSE)] [(.int (0 : Int32))]))
          exact k80 _ _ X72 e72 ((if_pos hc80_70).trans (if_pos hc92_73)).symm
        · refine GoesW.step (fun t k => XS.ifNo X72.here hx rfl (hb hby at_92) rfl ((if0 _ _).trans (feq hc92_73).1) k) ?_
          show GoesW _ _ _ _ _ _ _ (T72.setTop (mkF m 95 #[.val (.int p0), .val (.int (0 : Int32)), .val (.ref w_FALSE), .val (.ref w_FALSE), .val (.ref w_TRUE), .val (.ref lt49), .val (.ref w_FALSE)] []))
          refine GoesW.step (fun t k => XS.aloadN X72.here hx rfl (hb hby at_95) rfl rfl k) ?_
          show GoesW _ _ _ _ _ _ _ (T72.setTop (mkF m 96 #[.val (.int p0), .val (.int (0 : Int32)), .val (.ref w_FALSE), .val (.ref w_FALSE), .val (.ref w_TRUE), .val (.ref lt49), .val (.ref w_FALSE)] [(.ref w_FALSE)]))
          refine GoesW.step (fun t k => XS.aloadN X72.here hx rfl (hb hby at_96) rfl rfl k) ?_
          show GoesW _ _ _ _ _ _ _ (T72.setTop (mkF m 97 #[.val (.int p0), .val (.int (0 : Int32)), .val (.ref w_FALSE), .val (.ref w_FALSE), .val (.ref w_TRUE), .val (.ref lt49), .val (.ref w_FALSE)] [(.ref w_FALSE), (.ref w_FALSE)]))
          refine GoesW.step (fun t k => Jvm.RoadKit.acmp (g := (mkF m 97 #[.val (.int p0), .val (.int (0 : Int32)), .val (.ref w_FALSE), .val (.ref w_FALSE), .val (.ref w_TRUE), .val (.ref lt49), .val (.ref w_FALSE)] [(.ref w_FALSE), (.ref w_FALSE)])) X72 hx rfl rfl rfl (pc0 := 97) (pc' := 100) (same := true) rfl (hb hby at_97) rfl (decide_eq_true (congrArg Value.ref rfl)) (by decide) (by decide) k) ?_
          show GoesW _ _ _ _ _ _ _ (T72.setTop (mkF m 100 #[.val (.int p0), .val (.int (0 : Int32)), .val (.ref w_FALSE), .val (.ref w_FALSE), .val (.ref w_TRUE), .val (.ref lt49), .val (.ref w_FALSE)] []))
          refine GoesW.step (fun t k => XS.aloadN X72.here hx rfl (hb hby at_100) rfl rfl k) ?_
          show GoesW _ _ _ _ _ _ _ (T72.setTop (mkF m 101 #[.val (.int p0), .val (.int (0 : Int32)), .val (.ref w_FALSE), .val (.ref w_FALSE), .val (.ref w_TRUE), .val (.ref lt49), .val (.ref w_FALSE)] [(.ref w_FALSE)]))
          refine GoesW.step (fun t k => XS.aload X72.here hx rfl (hb hby at_101) rfl rfl k) ?_
          show GoesW _ _ _ _ _ _ _ (T72.setTop (mkF m 103 #[.val (.int p0), .val (.int (0 : Int32)), .val (.ref w_FALSE), .val (.ref w_FALSE), .val (.ref w_TRUE), .val (.ref lt49), .val (.ref w_FALSE)] [(.ref w_FALSE), (.ref w_FALSE)]))
          refine GoesW.step (fun t k => Jvm.RoadKit.acmp (g := (mkF m 103 #[.val (.int p0), .val (.int (0 : Int32)), .val (.ref w_FALSE), .val (.ref w_FALSE), .val (.ref w_TRUE), .val (.ref lt49), .val (.ref w_FALSE)] [(.ref w_FALSE), (.ref w_FALSE)])) X72 hx rfl rfl rfl (pc0 := 103) (pc' := 106) (same := true) rfl (hb hby at_103) rfl (decide_eq_true (congrArg Value.ref rfl)) (by decide) (by decide) k) ?_
          show GoesW _ _ _ _ _ _ _ (T72.setTop (mkF m 106 #[.val (.int p0), .val (.int (0 : Int32)), .val (.ref w_FALSE), .val (.ref w_FALSE), .val (.ref w_TRUE), .val (.ref lt49), .val (.ref w_FALSE)] []))
          refine GoesW.step (fun t k => XS.aloadN X72.here hx rfl (hb hby at_106) rfl rfl k) ?_
          show GoesW _ _ _ _ _ _ _ (T72.setTop (mkF m 107 #[.val (.int p0), .val (.int (0 : Int32)), .val (.ref w_FALSE), .val (.ref w_FALSE), .val (.ref w_TRUE), .val (.ref lt49), .val (.ref w_FALSE)] [(.ref w_FALSE)]))
          refine GoesW.step (fun t k => XS.aload X72.here hx rfl (hb hby at_107) rfl rfl k) ?_
          show GoesW _ _ _ _ _ _ _ (T72.setTop (mkF m 109 #[.val (.int p0), .val (.int (0 : Int32)), .val (.ref w_FALSE), .val (.ref w_FALSE), .val (.ref w_TRUE), .val (.ref lt49), .val (.ref w_FALSE)] [(.ref w_TRUE), (.ref w_FALSE)]))
          refine GoesW.step (fun t k => Jvm.RoadKit.acmp (g := (mkF m 109 #[.val (.int p0), .val (.int (0 : Int32)), .val (.ref w_FALSE), .val (.ref w_FALSE), .val (.ref w_TRUE), .val (.ref lt49), .val (.ref w_FALSE)] [(.ref w_TRUE), (.ref w_FALSE)])) X72 hx rfl rfl rfl (pc0 := 109) (pc' := 112) (same := false) rfl (hb hby at_109) rfl (decide_eq_false fun q => (Ne.symm nTF) (Value.ref.inj q)) (by decide) (by decide) k) ?_
          show GoesW _ _ _ _ _ _ _ (T72.setTop (mkF m 112 #[.val (.int p0), .val (.int (0 : Int32)), .val (.ref w_FALSE), .val (.ref w_FALSE), .val (.ref w_TRUE), .val (.ref lt49), .val (.ref w_FALSE)] []))
          refine GoesW.step (fun t k => XS.aload X72.here hx rfl (hb hby at_112) rfl rfl k) ?_
          show GoesW _ _ _ _ _ _ _ (T72.setTop (mkF m 114 #[.val (.int p0), .val (.int (0 : Int32)), .val (.ref w_FALSE), .val (.ref w_FALSE), .val (.ref w_TRUE), .val (.ref lt49), .val (.ref w_FALSE)] [(.ref w_TRUE)]))
          obtain ⟨cq77, kq77, q77a, q77b, q77c⟩ := isOf hZ e72 F51
          obtain ⟨_, _, ⟨T77, L77, k77, n77⟩, -, X77, ⟨Lc77, hQ77, l77, y77, z77⟩, st77⟩ := X72.virtualBack hx (y := (⟨"com/example/vigilant_schema/vigilantschema/Node$BooleanNode", "value", "()Z"⟩ : MethodName)) (z := (⟨"com/example/vigilant_schema/vigilantschema/Node$BooleanNode", "value", "()Z"⟩ : MethodName)) hown (mvT hZ (hw _ (List.mem_of_getElem? (i := 17) rfl))) (mvT hZ (hw _ (List.mem_of_getElem? (i := 18) rfl))) (notFace_of_selects (args := #[]) (mvT hZ (hw _ (List.mem_of_getElem? (i := 20) rfl)))) (mvT hZ (hw _ (List.mem_of_getElem? (i := 20) rfl))) (mvT hZ (hw _ (List.mem_of_getElem? (i := 19) rfl))) (by decide) (backOf (W := 0) (rm2 l Z tA hw [] w_TRUE (1 : Int32) h49 F52) hZ (hw _ (List.mem_of_getElem? (i := 21) rfl)) (hw _ (List.mem_of_getElem? (i := 2) rfl)) (by decide) (by decide)) q77a q77c (g := (mkF m 114 #[.val (.int p0), .val (.int (0 : Int32)), .val (.ref w_FALSE), .val (.ref w_FALSE), .val (.ref w_TRUE), .val (.ref lt49), .val (.ref w_FALSE)] [(.ref w_TRUE)])) rfl (by rw [hml]; rfl) (Steps.refl _) (argsL := []) (rest := []) (lenOf own_pd2 rfl) rfl (by show 2 * 0 + _ ≤ _; exact Nat.le_of_eq rfl) (hb hby at_114) (fun _ _ => ⟨rfl, e72, (by decide : 2 + 0 ≤ _), (by decide : 24 + 0 ≤ _)⟩)
          dsimp only [Pt.U, Pt.locs, Pt.cells, Pt.slots] at X77 l77 y77 z77 st77 hQ77
          rw [l77, y77, z77] at X77
          obtain ⟨rfl, rfl, e77⟩ := hQ77
          try rw [List.append_nil] at X77
          change Stand _ _ _ _ _ _ _ _ _ _ _ _ 2 24 at X77
          refine GoesW.step (fun t k => st77.trans k) ?_
          show GoesW _ _ _ _ _ _ _ (T77.setTop (mkF m 117 #[.val (.int p0), .val (.int (0 : Int32)), .val (.ref w_FALSE), .val (.ref w_FALSE), .val (.ref w_TRUE), .val (.ref lt49), .val (.ref w_FALSE)] [(.int (f2 (1 : Int32)))]))
          refine GoesW.step (fun t k => XS.iloadN X77.here hx rfl (hb hby at_117) rfl k) ?_
          show GoesW _ _ _ _ _ _ _ (T77.setTop (mkF m 118 #[.val (.int p0), .val (.int (0 : Int32)), .val (.ref w_FALSE), .val (.ref w_FALSE), .val (.ref w_TRUE), .val (.ref lt49), .val (.ref w_FALSE)] [(.int (0 : Int32)), (.int (f2 (1 : Int32)))]))
          refine GoesW.step (fun t k => XS.ifNo X77.here hx rfl (hb hby at_118) rfl ((if0 _ _).trans (teq (by decide)).2) k) ?_
          show GoesW _ _ _ _ _ _ _ (T77.setTop (mkF m 121 #[.val (.int p0), .val (.int (0 : Int32)), .val (.ref w_FALSE), .val (.ref w_FALSE), .val (.ref w_TRUE), .val (.ref lt49), .val (.ref w_FALSE)] [(.int (f2 (1 : Int32)))]))
          refine GoesW.step (fun t k => XS.iconst X77.here hx rfl (hb hby at_121) k) ?_
          show GoesW _ _ _ _ _ _ _ (T77.setTop (mkF m 122 #[.val (.int p0), .val (.int (0 : Int32)), .val (.ref w_FALSE), .val (.ref w_FALSE), .val (.ref w_TRUE), .val (.ref lt49), .val (.ref w_FALSE)] [(.int (1 : Int32)), (.int (f2 (1 : Int32)))]))
          refine GoesW.step (fun t k => XS.goto X77.here hx rfl (pc0 := 122) (pc' := 126) rfl (hb hby at_122) (by decide) (by decide) k) ?_
          show GoesW _ _ _ _ _ _ _ (T77.setTop (mkF m 126 #[.val (.int p0), .val (.int (0 : Int32)), .val (.ref w_FALSE), .val (.ref w_FALSE), .val (.ref w_TRUE), .val (.ref lt49), .val (.ref w_FALSE)] [(.int (1 : Int32)), (.int (f2 (1 : Int32)))]))
          by_cases hc126_79 : (f2 (1 : Int32)) = (1 : Int32)
          · refine GoesW.step (fun t k => XS.icmpNo X77.here hx rfl (hb hby at_126) rfl (teq hc126_79).2 k) ?_
            show GoesW _ _ _ _ _ _ _ (T77.setTop (mkF m 129 #[.val (.int p0), .val (.int (0 : Int32)), .val (.ref w_FALSE), .val (.ref w_FALSE), .val (.ref w_TRUE), .val (.ref lt49), .val (.ref w_FALSE)] []))
            refine GoesW.step (fun t k => XS.iconst X77.here hx rfl (hb hby at_129) k) ?_
            show GoesW _ _ _ _ _ _ _ (T77.setTop (mkF m 130 #[.val (.int p0), .val (.int (0 : Int32)), .val (.ref w_FALSE), .val (.ref w_FALSE), .val (.ref w_TRUE), .val (.ref lt49), .val (.ref w_FALSE)] [(.int (1 : Int32))]))
            refine GoesW.step (fun t k => XS.goto X77.here hx rfl (pc0 := 130) (pc' := 134) rfl (hb hby at_130) (by decide) (by decide) k) ?_
            show GoesW _ _ _ _ _ _ _ (T77.setTop (mkF m 134 #[.val (.int p0), .val (.int (0 : Int32)), .val (.ref w_FALSE), .val (.ref w_FALSE), .val (.ref w_TRUE), .val (.ref lt49), .val (.ref w_FALSE)] [(.int (1 : Int32))]))
            exact k80 _ _ X77 e77 ((if_pos hc80_70).trans ((if_neg hc92_73).trans (if_pos hc126_79))).symm
          · refine GoesW.step (fun t k => XS.icmpYes X77.here hx rfl (pc0 := 126) (pc' := 133) rfl (hb hby at_126) rfl (feq hc126_79).2 (by decide) (by decide) k) ?_
            show GoesW _ _ _ _ _ _ _ (T77.setTop (mkF m 133 #[.val (.int p0), .val (.int (0 : Int32)), .val (.ref w_FALSE), .val (.ref w_FALSE), .val (.ref w_TRUE), .val (.ref lt49), .val (.ref w_FALSE)] []))
            refine GoesW.step (fun t k => XS.iconst X77.here hx rfl (hb hby at_133) k) ?_
            show GoesW _ _ _ _ _ _ _ (T77.setTop (mkF m 134 #[.val (.int p0), .val (.int (0 : Int32)), .val (.ref w_FALSE), .val (.ref w_FALSE), .val (.ref w_TRUE), .val (.ref lt49), .val (.ref w_FALSE)] [(.int (0 : Int32))]))
            exact k80 _ _ X77 e77 ((if_pos hc80_70).trans ((if_neg hc92_73).trans (if_neg hc126_79))).symm
      · refine GoesW.step (fun t k => XS.icmpYes X69.here hx rfl (pc0 := 80) (pc' := 133) rfl (hb hby at_80) rfl (feq hc80_70).2 (by decide) (by decide) k) ?_
        show GoesW _ _ _ _ _ _ _ (T69.setTop (mkF m 133 #[.val (.int p0), .val (.int (0 : Int32)), .val (.ref w_FALSE), .val (.ref w_FALSE), .val (.ref w_TRUE), .val (.ref lt49), .val (.ref w_FALSE)] []))
        refine GoesW.step (fun t k => XS.iconst X69.here hx rfl (hb hby at_133) k) ?_
        show GoesW _ _ _ _ _ _ _ (T69.setTop (mkF m 134 #[.val (.int p0), .val (.int (0 : Int32)), .val (.ref w_FALSE), .val (.ref w_FALSE), .val (.ref w_TRUE), .val (.ref lt49), .val (.ref w_FALSE)] [(.int (0 : Int32))]))
        exact k80 _ _ X69 e69 (if_neg hc80_70).symm
    intro T80 x80_0 X80 e80 hx80_0
    exact GoesW.retZ1 X80 hx Bd.notSynchronized (r := (1 : Int32)) Bd.returns (by simp) (hb hby at_134) (own_plain_2 s_FALSE lt49 x80_0 hx80_0) ⟨rfl, N0⟩ (by decide) (by decide) hS49 (by rw [e80]; exact hK49)
set_option maxRecDepth 65536 in
set_option maxHeartbeats 40000000 in
theorem comes_1 {Post : Tables → Env → Array Value → State → Outcome → State → Prop} (hpost : ∀ tb e args s v u, (limb_1_1.after args s (.returned v) u = true ∧ limb_1_2.after args s (.returned v) u = true ∧ True) → FramedW s (.returned v) u (Jvm.fieldLocs frame_1_writes args s ++ Jvm.arrayLocs frame_1_arrays args s ++ Jvm.staticLocs frame_1_statics s) 8 2112 → Post tb e args s (.returned v) u) :
    ArmFor flags0 classFile x code maxLocals ret World_1 tables_1 room_1 Calls_1 rest_1 Pre_1 Post := by
  intro l hfl _ _ p e ha hc hk s m args below hf hA hF happ hP
  obtain ⟨hcalls, hrest, hpre⟩ := hP
  obtain ⟨-, -, -, hnamed, -, -, -, hat⟩ := (Spec.applies_iff hf).mp happ
  obtain ⟨hg, hn⟩ := and_e (Cond.before_iff.mp (show (Jvm.Cond.and given_1 narrow_1).before args s = true from hpre))
  obtain ⟨g0, gr0⟩ := and_e hg
  have ga0 := gr0
  obtain ⟨w0, rfl⟩ : ∃ w0 : Value, args = #[w0] := by
    have hs : args.size = 1 := by simpa [Cond.value, given_1] using g0
    obtain ⟨L⟩ := args
    match L, hs with
    | [w0], _ => exact ⟨w0, rfl⟩
  have hw := fun d (hd : d ∈ tables_1) => atoms_spec (ws := Jvm.Cond.code x code maxLocals ret :: tables_1) hat d (List.mem_cons_of_mem _ hd)
  have hfit : Fit s := fun {y c} hc i hi => by
    obtain ⟨ha, rfl⟩ := Array.getElem?_eq_some_iff.mp hc
    have q := List.all_eq_true.mp ((Array.all_eq_true_iff_forall_mem.mp hF) _ (Array.getElem_mem ha)) i (List.mem_range.mpr hi)
    simpa [Array.getElem?_eq_getElem hi] using q
  obtain ⟨i0, ei0⟩ := is_v ga0
  obtain rfl : w0 = (.int i0) := Option.some.inj ei0
  obtain ⟨nn0, nr0⟩ := and_e hn
  obtain ⟨nn1, nr1⟩ := and_e nr0
  obtain ⟨nn2, nr2⟩ := and_e nr1
  obtain ⟨nn3, nr3⟩ := and_e nr2
  obtain ⟨nn4, nr4⟩ := and_e nr3
  obtain ⟨nn5, nr5⟩ := and_e nr4
  obtain ⟨nn6, nr6⟩ := and_e nr5
  obtain ⟨nn7, nr7⟩ := and_e nr6
  obtain ⟨nn8, nr8⟩ := and_e nr7
  obtain ⟨nn9, nr9⟩ := and_e nr8
  obtain ⟨nn10, nr10⟩ := and_e nr9
  obtain ⟨nn11, nr11⟩ := and_e nr10
  obtain ⟨nn12, nr12⟩ := and_e nr11
  obtain ⟨nn13, nr13⟩ := and_e nr12
  obtain ⟨nn14, nr14⟩ := and_e nr13
  obtain ⟨nn15, nr15⟩ := and_e nr14
  obtain ⟨nn16, nr16⟩ := and_e nr15
  obtain ⟨nn17, nr17⟩ := and_e nr16
  obtain ⟨nn18, nr18⟩ := and_e nr17
  obtain ⟨nn19, nr19⟩ := and_e nr18
  obtain ⟨nn20, nr20⟩ := and_e nr19
  have nn21 := nr20
  obtain ⟨w_TRUE, ev_TRUE⟩ := exa_v nn1
  have E_TRUE := Exa.start ev_TRUE nn1
  have S_TRUE := Sta.start ev_TRUE (Or.inr ⟨(hw _ (List.mem_of_getElem? (i := 2) rfl)), (hw _ (List.mem_of_getElem? (i := 7) rfl))⟩)
  have V_TRUE := Fld.start ((fld_at ev_TRUE).symm.trans (eqi_v nn8))
  obtain ⟨s_TRUE, es_TRUE⟩ := exa_v nn9
  have Es_TRUE := Exa.start es_TRUE nn9
  have W_TRUE := Fld.start ((fld_at ev_TRUE).symm.trans es_TRUE)
  have Cs_TRUE := Fld.start ((fld_at es_TRUE).symm.trans (eqi_v nn10))
  obtain ⟨v_TRUE, evv_TRUE⟩ := arr_v nn11
  have Vs_TRUE := Fld.start ((fld_at es_TRUE).symm.trans evv_TRUE)
  obtain ⟨cl_TRUE, Ar_TRUE⟩ := Arr.start evv_TRUE nn11
  have As_TRUE := own_mk Ar_TRUE (own_l4 (own_sz (own_len evv_TRUE Ar_TRUE nn12) rfl) (own_el evv_TRUE Ar_TRUE nn13) (own_el evv_TRUE Ar_TRUE nn14) (own_el evv_TRUE Ar_TRUE nn15) (own_el evv_TRUE Ar_TRUE nn16)) (Nat.le_of_ble_eq_true rfl) (by simp [fits])
  obtain ⟨w_FALSE, ev_FALSE⟩ := exa_v nn0
  have E_FALSE := Exa.start ev_FALSE nn0
  have S_FALSE := Sta.start ev_FALSE (Or.inr ⟨(hw _ (List.mem_of_getElem? (i := 2) rfl)), (hw _ (List.mem_of_getElem? (i := 5) rfl))⟩)
  have V_FALSE := Fld.start ((fld_at ev_FALSE).symm.trans (eqi_v nn2))
  obtain ⟨s_FALSE, es_FALSE⟩ := exa_v nn3
  have Es_FALSE := Exa.start es_FALSE nn3
  have W_FALSE := Fld.start ((fld_at ev_FALSE).symm.trans es_FALSE)
  have Cs_FALSE := Fld.start ((fld_at es_FALSE).symm.trans (eqi_v nn4))
  obtain ⟨v_FALSE, evv_FALSE⟩ := arr_v nn5
  have Vs_FALSE := Fld.start ((fld_at es_FALSE).symm.trans evv_FALSE)
  obtain ⟨cl_FALSE, Ar_FALSE⟩ := Arr.start evv_FALSE nn5
  have As_FALSE := own_mk Ar_FALSE (own_l5 (own_sz (own_len evv_FALSE Ar_FALSE nn6) rfl) (own_el evv_FALSE Ar_FALSE nn17) (own_el evv_FALSE Ar_FALSE nn18) (own_el evv_FALSE Ar_FALSE nn19) (own_el evv_FALSE Ar_FALSE nn20) (own_el evv_FALSE Ar_FALSE nn21)) (Nat.le_of_ble_eq_true rfl) (by simp [fits])
  have nTF : w_TRUE ≠ w_FALSE := fun q => gotF (eq_R ev_FALSE ev_TRUE rfl rfl) (not_v nn7) (congrArg Value.ref q.symm)
  obtain ⟨hsets, hown0⟩ := atoms_of _ (rest_1_c_eq ▸ (show rest_1_c.before _ s = true from hrest))
  obtain ⟨iC, eC⟩ := is_v (Cond.before_iff.mp (hsets _ (List.mem_of_getElem? (i := 1) rfl)))
  have S_c : Sta s s.heap "java/lang/String" "COMPACT_STRINGS" "Z" (.int iC) := Sta.start eC (Or.inl (hsets _ (List.mem_of_getElem? (i := 0) rfl)))
  obtain ⟨n, o, h1, h2, h3, _, L, rfl, ⟨rfl, N⟩, hq⟩ := rm0 l s _ hw tables_1 i0 w_TRUE s_TRUE v_TRUE w_FALSE s_FALSE v_FALSE iC s.heap s.heap.size (Nat.le_refl _) S_TRUE E_TRUE V_TRUE W_TRUE Es_TRUE Cs_TRUE Vs_TRUE As_TRUE S_FALSE E_FALSE V_FALSE W_FALSE Es_FALSE Cs_FALSE Vs_FALSE As_FALSE S_c nTF (fun q hq => hcalls.1 q hq) (hsets _ (List.mem_of_getElem? (i := 2) rfl)) p e ha hc hk s m _ below hf ((Spec.applies_iff_loose hf).mp happ).1 ⟨rfl, rfl, rfl⟩ trivial
  refine ⟨n, _, h1, h2, h3, hpost _ _ _ _ _ _ ⟨Cond.after_iff.mpr rfl, Cond.after_iff.mpr (eq_i res_at (Term.int_eval (1)) rfl), trivial⟩ ⟨hq.1, hq.2.1, hq.2.2.1, (hq.2.2.2.sift fun y hy => Or.inr (N y hy)).mono (by decide) (by decide)⟩⟩
theorem main_1_1 : Claimed_1_1 := comes_1 fun _ _ _ _ _ _ h hF => ⟨h.1, hF⟩
theorem main_1_2 : Claimed_1_2 := comes_1 fun _ _ _ _ _ _ h hF => ⟨h.2.1, hF⟩
end Jvm.Pilot.@@N@@
namespace Jvm.Pilot.@@N@@
open Jvm Jvm.ClassFile Sem Op Lib Jvm.Free Jvm.Stand Jvm.Pilot.@@N@@.Jvm.D
/-! MADE BY PROGRAM (witnessworld.py) out of the Statement's table words and the real class files: 18 classes; the members and pool entries that the words name. The judged class is class 1, her method 1. -/
namespace start1
open Jvm.ClassFile
def u (s : String) : CpInfo := .utf8 (stringToUtf16 s)
/-- a pool by its gaps: so many unusable entries, then the entry; so many at the end -/
def gap : Nat → List CpInfo → List CpInfo
  | 0, r => r
  | n + 1, r => .unusable :: gap n r
def poolList (es : List (Nat × CpInfo)) (last : Nat) : List CpInfo := es.foldr (fun e r => gap e.1 (e.2 :: r)) (gap last [])
def pool (es : List (Nat × CpInfo)) (last : Nat) : Array CpInfo := ⟨poolList es last⟩
def fileOf (pool : Array CpInfo) (this : Nat) (attrs : Array Attribute := #[]) (ms : Array MethodInfo := #[]) (fl : Nat := 33) (sup : Nat := 0) (ifs : Array Nat := #[]) (fds : Array FieldInfo := #[]) : ClassFile where
  minorVersion := 0
  majorVersion := 65
  constantPool := pool
  accessFlags := fl
  thisClass := this
  superClass := sup
  interfaces := ifs
  fields := fds
  methods := ms
  attributes := attrs
def plain (name : String) (sup : Option ClassId) : Class where
  name := name
  kind := .ordinary
  loader := none
  accessFlags := 33
  super := sup
  interfaces := #[]
  cf := none
  fields := #[]
  methods := #[]
  instanceTypes := #[]
  staticTypes := #[]
  resolved := #[]
  callSites := []
  init := .initialized
  statics := none
  mirror := none

def pool0 : Array CpInfo := pool [(5, u "<init>"), (0, u "()V"), (1, .class_ 10), (1, u "java/lang/Object")] 113

def k0m0 : Method := { name := "<init>", desc := "()V", sig := { parameters := [], returnType := none }, accessFlags := 1, code := none }
/-- java/lang/Object -/
def k0 : Class := { plain "java/lang/Object" none with
  accessFlags := 33
  interfaces := #[]
  cf := some (fileOf pool0 8 #[] #[{ accessFlags := 1, nameIndex := 5, descriptorIndex := 6, attributes := #[] }] 33 0 #[] #[])
  fields := #[]
  methods := #[k0m0]
  instanceTypes := #[]
  staticTypes := #[]
  resolved := Array.replicate 124 none
  statics := none }

def pool1 : Array CpInfo := pool [(2, .class_ 4), (1, u "java/lang/Object"), (0, u "<init>"), (0, u "()V"), (0, .methodref 8 9), (0, .class_ 10), (0, .nameAndType 11 12), (0, u "com/example/vigilant_schema/vigilantschema/Node$BooleanNode"), (0, u "of"), (0, u "(Z)Lcom/example/vigilant_schema/vigilantschema/Node$BooleanNode;"), (0, .string 14), (0, u "true"), (0, .string 16), (0, u "false"), (0, .fieldref 8 18), (0, .nameAndType 19 20), (0, u "TRUE"), (0, u "Lcom/example/vigilant_schema/vigilantschema/Node$BooleanNode;"), (0, .fieldref 8 22), (0, .nameAndType 23 20), (0, u "FALSE"), (0, .methodref 8 25), (0, .nameAndType 26 27), (0, u "value"), (0, u "()Z"), (0, .methodref 8 29), (0, .nameAndType 30 31), (0, u "writtenText"), (0, u "()Ljava/lang/String;"), (0, .methodref 33 34), (0, .class_ 35), (0, .nameAndType 36 37), (0, u "java/lang/String"), (0, u "equals"), (0, u "(Ljava/lang/Object;)Z"), (0, .class_ 39), (0, u "com/example/vigilant_schema/vigilantschema/BooleanNodeOfPinLaw"), (2, u "law"), (0, u "(I)Z")] 7

def k1m0 : Method := { name := "<init>", desc := "()V", sig := { parameters := [], returnType := none }, accessFlags := 2, code := none }
def k1c1 : Code := { maxStack := 2, maxLocals := 7, code := code, exceptionTable := #[], attributes := #[] }
def k1m1 : Method := { name := "law", desc := "(I)Z", sig := { parameters := [.int], returnType := some .boolean }, accessFlags := 9, code := some k1c1 }
/-- com/example/vigilant_schema/vigilantschema/BooleanNodeOfPinLaw -/
def k1 : Class := { plain "com/example/vigilant_schema/vigilantschema/BooleanNodeOfPinLaw" (some 0) with
  accessFlags := 49
  interfaces := #[]
  cf := some (fileOf pool1 38 #[] #[{ accessFlags := 2, nameIndex := 5, descriptorIndex := 6, attributes := #[] }, { accessFlags := 9, nameIndex := 42, descriptorIndex := 43, attributes := #[] }] 49 2 #[] #[])
  fields := #[]
  methods := #[k1m0, k1m1]
  instanceTypes := #[]
  staticTypes := #[]
  resolved := Array.replicate 51 none
  statics := none }

def pool2 : Array CpInfo := pool [(1, .class_ 2), (0, u "com/example/vigilant_schema/vigilantschema/Node"), (9, .class_ 13), (0, u "com/example/vigilant_schema/vigilantschema/Node$MapNode"), (7, .class_ 22), (0, u "com/example/vigilant_schema/vigilantschema/Node$ListNode"), (92, .class_ 116), (0, u "com/example/vigilant_schema/vigilantschema/Node$NumberNode"), (9, .class_ 128), (1, u "com/example/vigilant_schema/vigilantschema/Node$Kind"), (20, .class_ 150), (0, u "java/lang/Object"), (0, u "MAX_DEPTH"), (0, u "I"), (2, u "TOO_DEEP"), (0, u "Ljava/lang/String;"), (2, u "MAX_COPIED_VALUES"), (0, u "J"), (25, .class_ 187), (0, u "com/example/vigilant_schema/vigilantschema/Node$NoValueNode"), (0, .class_ 189), (0, u "com/example/vigilant_schema/vigilantschema/Node$NullNode"), (0, .class_ 191), (0, u "com/example/vigilant_schema/vigilantschema/Node$BooleanNode"), (0, .class_ 193), (0, u "com/example/vigilant_schema/vigilantschema/Node$TextNode"), (0, .class_ 195), (0, u "com/example/vigilant_schema/vigilantschema/Node$StringNode")] 30

/-- com/example/vigilant_schema/vigilantschema/Node -/
def k2 : Class := { plain "com/example/vigilant_schema/vigilantschema/Node" (some 0) with
  accessFlags := 1536
  interfaces := #[]
  cf := some (fileOf pool2 1 #[.nestMembers #[186, 188, 190, 115, 192, 194, 21, 12, 126]] #[] 1536 149 #[] #[{ accessFlags := 25, nameIndex := 151, descriptorIndex := 152, attributes := #[] }, { accessFlags := 25, nameIndex := 155, descriptorIndex := 156, attributes := #[] }, { accessFlags := 25, nameIndex := 159, descriptorIndex := 160, attributes := #[] }])
  fields := #[{ name := "MAX_DEPTH", type := .int, accessFlags := 25, slot := 0, constantValue := 0 }, { name := "TOO_DEEP", type := (.object "java/lang/String"), accessFlags := 25, slot := 1, constantValue := 0 }, { name := "MAX_COPIED_VALUES", type := .long, accessFlags := 25, slot := 2, constantValue := 0 }]
  methods := #[]
  instanceTypes := #[]
  staticTypes := #[.int, (.object "java/lang/String"), .long]
  resolved := Array.replicate 226 none
  statics := none }

def pool3 : Array CpInfo := pool [(8, .class_ 10), (1, u "com/example/vigilant_schema/vigilantschema/Node$BooleanNode"), (3, .class_ 16), (1, u "java/lang/Object"), (1, .fieldref 8 19), (0, .nameAndType 20 21), (0, u "value"), (0, u "Z"), (0, .fieldref 8 23), (0, .nameAndType 24 25), (0, u "written"), (0, u "Ljava/lang/String;"), (0, .fieldref 8 27), (0, .nameAndType 28 29), (0, u "TRUE"), (0, u "Lcom/example/vigilant_schema/vigilantschema/Node$BooleanNode;"), (0, .fieldref 8 31), (0, .nameAndType 32 29), (0, u "FALSE"), (21, .class_ 55), (0, u "com/example/vigilant_schema/vigilantschema/Node"), (2, u "of"), (0, u "(Z)Lcom/example/vigilant_schema/vigilantschema/Node$BooleanNode;"), (1, u "()Z"), (0, u "writtenText"), (0, u "()Ljava/lang/String;")] 28

def k3c0 : Code := { maxStack := 1, maxLocals := 1, code := prog_52_method_3_code, exceptionTable := #[], attributes := #[] }
def k3m0 : Method := { name := "of", desc := "(Z)Lcom/example/vigilant_schema/vigilantschema/Node$BooleanNode;", sig := { parameters := [.boolean], returnType := some (.object "com/example/vigilant_schema/vigilantschema/Node$BooleanNode") }, accessFlags := 8, code := some k3c0 }
def k3c1 : Code := { maxStack := 1, maxLocals := 1, code := prog_52_method_4_code, exceptionTable := #[], attributes := #[] }
def k3m1 : Method := { name := "value", desc := "()Z", sig := { parameters := [], returnType := some .boolean }, accessFlags := 0, code := some k3c1 }
def k3c2 : Code := { maxStack := 1, maxLocals := 1, code := prog_52_method_5_code, exceptionTable := #[], attributes := #[] }
def k3m2 : Method := { name := "writtenText", desc := "()Ljava/lang/String;", sig := { parameters := [], returnType := some (.object "java/lang/String") }, accessFlags := 1, code := some k3c2 }
/-- com/example/vigilant_schema/vigilantschema/Node$BooleanNode -/
def k3 : Class := { plain "com/example/vigilant_schema/vigilantschema/Node$BooleanNode" (some 0) with
  accessFlags := 49
  interfaces := #[2]
  cf := some (fileOf pool3 8 #[.nestHost 54] #[{ accessFlags := 8, nameIndex := 58, descriptorIndex := 59, attributes := #[] }, { accessFlags := 0, nameIndex := 20, descriptorIndex := 61, attributes := #[] }, { accessFlags := 1, nameIndex := 62, descriptorIndex := 63, attributes := #[] }] 49 14 #[54] #[{ accessFlags := 24, nameIndex := 28, descriptorIndex := 29, attributes := #[] }, { accessFlags := 24, nameIndex := 32, descriptorIndex := 29, attributes := #[] }, { accessFlags := 18, nameIndex := 20, descriptorIndex := 21, attributes := #[] }, { accessFlags := 18, nameIndex := 24, descriptorIndex := 25, attributes := #[] }])
  fields := #[{ name := "TRUE", type := (.object "com/example/vigilant_schema/vigilantschema/Node$BooleanNode"), accessFlags := 24, slot := 0, constantValue := 0 }, { name := "FALSE", type := (.object "com/example/vigilant_schema/vigilantschema/Node$BooleanNode"), accessFlags := 24, slot := 1, constantValue := 0 }, { name := "value", type := .boolean, accessFlags := 18, slot := 0, constantValue := 0 }, { name := "written", type := (.object "java/lang/String"), accessFlags := 18, slot := 1, constantValue := 0 }]
  methods := #[k3m0, k3m1, k3m2]
  instanceTypes := #[.boolean, (.object "java/lang/String")]
  staticTypes := #[(.object "com/example/vigilant_schema/vigilantschema/Node$BooleanNode"), (.object "com/example/vigilant_schema/vigilantschema/Node$BooleanNode")]
  resolved := Array.replicate 92 none
  statics := some 0 }

def pool4 : Array CpInfo := pool [(1, .class_ 2), (0, u "java/io/Serializable"), (0, .class_ 4), (0, u "java/lang/Object")] 2

/-- java/io/Serializable -/
def k4 : Class := { plain "java/io/Serializable" (some 0) with
  accessFlags := 1537
  interfaces := #[]
  cf := some (fileOf pool4 1 #[] #[] 1537 3 #[] #[])
  fields := #[]
  methods := #[]
  instanceTypes := #[]
  staticTypes := #[]
  resolved := Array.replicate 7 none
  statics := none }

def pool5 : Array CpInfo := pool [(1, .class_ 2), (0, u "java/lang/Comparable"), (0, .class_ 4), (0, u "java/lang/Object")] 7

/-- java/lang/Comparable -/
def k5 : Class := { plain "java/lang/Comparable" (some 0) with
  accessFlags := 1537
  interfaces := #[]
  cf := some (fileOf pool5 1 #[] #[] 1537 3 #[] #[])
  fields := #[]
  methods := #[]
  instanceTypes := #[]
  staticTypes := #[]
  resolved := Array.replicate 12 none
  statics := none }

def pool6 : Array CpInfo := pool [(2, .class_ 4), (1, u "java/lang/CharSequence"), (42, .class_ 48), (0, u "java/lang/CharSequence$1CodePointIterator"), (10, .class_ 60), (0, u "java/lang/CharSequence$1CharIterator"), (5, .class_ 67), (0, u "java/lang/Object")] 63

/-- java/lang/CharSequence -/
def k6 : Class := { plain "java/lang/CharSequence" (some 0) with
  accessFlags := 1537
  interfaces := #[]
  cf := some (fileOf pool6 2 #[.nestMembers #[47, 59]] #[] 1537 66 #[] #[])
  fields := #[]
  methods := #[]
  instanceTypes := #[]
  staticTypes := #[]
  resolved := Array.replicate 131 none
  statics := none }

def pool7 : Array CpInfo := pool [(1, .class_ 2), (0, u "java/lang/constant/Constable"), (0, .class_ 4), (0, u "java/lang/Object")] 6

/-- java/lang/constant/Constable -/
def k7 : Class := { plain "java/lang/constant/Constable" (some 0) with
  accessFlags := 1537
  interfaces := #[]
  cf := some (fileOf pool7 1 #[] #[] 1537 3 #[] #[])
  fields := #[]
  methods := #[]
  instanceTypes := #[]
  staticTypes := #[]
  resolved := Array.replicate 11 none
  statics := none }

def pool8 : Array CpInfo := pool [(1, .class_ 2), (0, u "java/lang/constant/ConstantDesc"), (0, .class_ 4), (0, u "java/lang/Object")] 32

/-- java/lang/constant/ConstantDesc -/
def k8 : Class := { plain "java/lang/constant/ConstantDesc" (some 0) with
  accessFlags := 1537
  interfaces := #[]
  cf := some (fileOf pool8 1 #[] #[] 1537 3 #[] #[])
  fields := #[]
  methods := #[]
  instanceTypes := #[]
  staticTypes := #[]
  resolved := Array.replicate 37 none
  statics := none }

def pool9 : Array CpInfo := pool [(2, .class_ 4), (1, u "java/lang/Object"), (0, u "<init>"), (0, u "()V"), (2, .fieldref 10 11), (0, .class_ 12), (0, .nameAndType 13 14), (0, u "java/lang/String"), (0, u "value"), (0, u "[B"), (0, .fieldref 10 16), (0, .nameAndType 17 18), (0, u "coder"), (0, u "B"), (2, u "hash"), (0, u "I"), (2, u "hashIsZero"), (0, u "Z"), (11, .fieldref 10 39), (0, .nameAndType 40 26), (0, u "COMPACT_STRINGS"), (66, .class_ 109), (1, u "java/lang/StringLatin1"), (431, .methodref 107 542), (0, .nameAndType 543 544), (0, u "equals"), (0, u "([B[B)Z"), (28, u "(Ljava/lang/Object;)Z"), (1, .class_ 576), (0, u "java/lang/CharSequence"), (22, u "CASE_INSENSITIVE_ORDER"), (0, u "Ljava/util/Comparator;"), (500, u "serialPersistentFields"), (0, u "[Ljava/io/ObjectStreamField;"), (0, .class_ 1104), (0, u "java/lang/String$CaseInsensitiveComparator"), (1, .class_ 1107), (0, u "java/io/Serializable"), (0, .class_ 1109), (0, u "java/lang/Comparable"), (0, .class_ 1111), (0, u "java/lang/constant/Constable"), (0, .class_ 1113), (0, u "java/lang/constant/ConstantDesc"), (2, u "serialVersionUID"), (0, u "J"), (3, u "REPL"), (0, u "C"), (2, u "LATIN1"), (1, u "UTF16")] 323

def k9m0 : Method := { name := "<init>", desc := "()V", sig := { parameters := [], returnType := none }, accessFlags := 1, code := none }
def k9c1 : Code := { maxStack := 2, maxLocals := 3, code := jdk_42_method_66_code, exceptionTable := #[], attributes := #[] }
def k9m1 : Method := { name := "equals", desc := "(Ljava/lang/Object;)Z", sig := { parameters := [(.object "java/lang/Object")], returnType := some .boolean }, accessFlags := 1, code := some k9c1 }
/-- java/lang/String -/
def k9 : Class := { plain "java/lang/String" (some 0) with
  accessFlags := 49
  interfaces := #[4, 5, 6, 7, 8]
  cf := some (fileOf pool9 10 #[.nestMembers #[1103]] #[{ accessFlags := 1, nameIndex := 5, descriptorIndex := 6, attributes := #[] }, { accessFlags := 1, nameIndex := 543, descriptorIndex := 573, attributes := #[] }] 49 2 #[1106, 1108, 575, 1110, 1112] #[{ accessFlags := 18, nameIndex := 13, descriptorIndex := 14, attributes := #[] }, { accessFlags := 18, nameIndex := 17, descriptorIndex := 18, attributes := #[] }, { accessFlags := 2, nameIndex := 21, descriptorIndex := 22, attributes := #[] }, { accessFlags := 2, nameIndex := 25, descriptorIndex := 26, attributes := #[] }, { accessFlags := 26, nameIndex := 1116, descriptorIndex := 1117, attributes := #[] }, { accessFlags := 24, nameIndex := 40, descriptorIndex := 26, attributes := #[] }, { accessFlags := 26, nameIndex := 1101, descriptorIndex := 1102, attributes := #[] }, { accessFlags := 26, nameIndex := 1121, descriptorIndex := 1122, attributes := #[] }, { accessFlags := 25, nameIndex := 599, descriptorIndex := 600, attributes := #[] }, { accessFlags := 24, nameIndex := 1125, descriptorIndex := 18, attributes := #[] }, { accessFlags := 24, nameIndex := 1127, descriptorIndex := 18, attributes := #[] }])
  fields := #[{ name := "value", type := (.array .byte), accessFlags := 18, slot := 0, constantValue := 0 }, { name := "coder", type := .byte, accessFlags := 18, slot := 1, constantValue := 0 }, { name := "hash", type := .int, accessFlags := 2, slot := 2, constantValue := 0 }, { name := "hashIsZero", type := .boolean, accessFlags := 2, slot := 3, constantValue := 0 }, { name := "serialVersionUID", type := .long, accessFlags := 26, slot := 0, constantValue := 0 }, { name := "COMPACT_STRINGS", type := .boolean, accessFlags := 24, slot := 1, constantValue := 0 }, { name := "serialPersistentFields", type := (.array (.object "java/io/ObjectStreamField")), accessFlags := 26, slot := 2, constantValue := 0 }, { name := "REPL", type := .char, accessFlags := 26, slot := 3, constantValue := 0 }, { name := "CASE_INSENSITIVE_ORDER", type := (.object "java/util/Comparator"), accessFlags := 25, slot := 4, constantValue := 0 }, { name := "LATIN1", type := .byte, accessFlags := 24, slot := 5, constantValue := 0 }, { name := "UTF16", type := .byte, accessFlags := 24, slot := 6, constantValue := 0 }]
  methods := #[k9m0, k9m1]
  instanceTypes := #[(.array .byte), .byte, .int, .boolean]
  staticTypes := #[.long, .boolean, (.array (.object "java/io/ObjectStreamField")), .char, (.object "java/util/Comparator"), .byte, .byte]
  resolved := Array.replicate 1451 none
  statics := some 1 }

def pool10 : Array CpInfo := pool [(4, .class_ 6), (1, u "java/lang/Object"), (0, u "<init>"), (0, u "()V"), (5, .class_ 16), (1, u "java/lang/StringLatin1"), (104, u "$assertionsDisabled"), (0, u "Z"), (98, .class_ 223), (1, u "java/lang/StringLatin1$LinesSpliterator"), (57, u "equals"), (0, u "([B[B)Z"), (107, .class_ 391), (0, u "java/lang/StringLatin1$CharsSpliterator")] 3

def k10m0 : Method := { name := "<init>", desc := "()V", sig := { parameters := [], returnType := none }, accessFlags := 0, code := none }
def k10c1 : Code := { maxStack := 3, maxLocals := 3, code := jdk_43_method_13_code, exceptionTable := #[], attributes := #[] }
def k10m1 : Method := { name := "equals", desc := "([B[B)Z", sig := { parameters := [(.array .byte), (.array .byte)], returnType := some .boolean }, accessFlags := 9, code := some k10c1 }
/-- java/lang/StringLatin1 -/
def k10 : Class := { plain "java/lang/StringLatin1" (some 0) with
  accessFlags := 48
  interfaces := #[]
  cf := some (fileOf pool10 14 #[.nestMembers #[390, 221]] #[{ accessFlags := 0, nameIndex := 7, descriptorIndex := 8, attributes := #[] }, { accessFlags := 9, nameIndex := 281, descriptorIndex := 282, attributes := #[] }] 48 4 #[] #[{ accessFlags := 4120, nameIndex := 121, descriptorIndex := 122, attributes := #[] }])
  fields := #[{ name := "$assertionsDisabled", type := .boolean, accessFlags := 4120, slot := 0, constantValue := 0 }]
  methods := #[k10m0, k10m1]
  instanceTypes := #[]
  staticTypes := #[.boolean]
  resolved := Array.replicate 395 none
  statics := none }

def pool11 : Array CpInfo := pool [(2, .class_ 4), (1, u "java/lang/Object"), (0, u "<init>"), (0, u "()V"), (17, .class_ 26), (1, u "jdk/internal/util/Preconditions"), (28, .class_ 56), (0, u "jdk/internal/util/Preconditions$4"), (57, .class_ 115), (0, u "jdk/internal/util/Preconditions$1"), (7, u "SIOOBE_FORMATTER"), (0, u "Ljava/util/function/BiFunction;"), (0, .class_ 126), (0, u "jdk/internal/util/Preconditions$2"), (3, u "AIOOBE_FORMATTER"), (0, .class_ 132), (0, u "jdk/internal/util/Preconditions$3"), (3, u "IOOBE_FORMATTER")] 57

def k11m0 : Method := { name := "<init>", desc := "()V", sig := { parameters := [], returnType := none }, accessFlags := 1, code := none }
/-- jdk/internal/util/Preconditions -/
def k11 : Class := { plain "jdk/internal/util/Preconditions" (some 0) with
  accessFlags := 33
  interfaces := #[]
  cf := some (fileOf pool11 24 #[.nestMembers #[55, 131, 125, 114]] #[{ accessFlags := 1, nameIndex := 5, descriptorIndex := 6, attributes := #[] }] 33 2 #[] #[{ accessFlags := 25, nameIndex := 123, descriptorIndex := 124, attributes := #[] }, { accessFlags := 25, nameIndex := 130, descriptorIndex := 124, attributes := #[] }, { accessFlags := 25, nameIndex := 136, descriptorIndex := 124, attributes := #[] }])
  fields := #[{ name := "SIOOBE_FORMATTER", type := (.object "java/util/function/BiFunction"), accessFlags := 25, slot := 0, constantValue := 0 }, { name := "AIOOBE_FORMATTER", type := (.object "java/util/function/BiFunction"), accessFlags := 25, slot := 1, constantValue := 0 }, { name := "IOOBE_FORMATTER", type := (.object "java/util/function/BiFunction"), accessFlags := 25, slot := 2, constantValue := 0 }]
  methods := #[k11m0]
  instanceTypes := #[]
  staticTypes := #[(.object "java/util/function/BiFunction"), (.object "java/util/function/BiFunction"), (.object "java/util/function/BiFunction")]
  resolved := Array.replicate 194 none
  statics := some 2 }

def pool12 : Array CpInfo := pool [(9, u "<init>"), (6, .class_ 18), (1, u "java/lang/Object"), (0, u "()V"), (1, .class_ 23), (1, u "jdk/internal/util/ArraysSupport"), (0, u "LOG2_ARRAY_LONG_INDEX_SCALE"), (0, u "I"), (2, u "U"), (0, u "Ljdk/internal/misc/Unsafe;"), (8, u "BIG_ENDIAN"), (0, u "Z"), (8, u "LOG2_BYTE_BIT_SIZE"), (4, u "LOG2_ARRAY_INT_INDEX_SCALE"), (54, u "JLA"), (0, u "Ljdk/internal/access/JavaLangAccess;"), (11, u "LOG2_ARRAY_BOOLEAN_INDEX_SCALE"), (9, u "LOG2_ARRAY_BYTE_INDEX_SCALE"), (5, u "LOG2_ARRAY_CHAR_INDEX_SCALE"), (5, u "LOG2_ARRAY_SHORT_INDEX_SCALE"), (18, u "LOG2_ARRAY_FLOAT_INDEX_SCALE"), (24, u "LOG2_ARRAY_DOUBLE_INDEX_SCALE"), (89, u "T_BOOLEAN"), (2, u "T_CHAR"), (1, u "T_FLOAT"), (1, u "T_DOUBLE"), (1, u "T_BYTE"), (1, u "T_SHORT"), (1, u "T_INT"), (1, u "T_LONG"), (1, u "SOFT_MAX_ARRAY_LENGTH")] 83

def k12m0 : Method := { name := "<init>", desc := "()V", sig := { parameters := [], returnType := none }, accessFlags := 2, code := none }
/-- jdk/internal/util/ArraysSupport -/
def k12 : Class := { plain "jdk/internal/util/ArraysSupport" (some 0) with
  accessFlags := 33
  interfaces := #[]
  cf := some (fileOf pool12 21 #[] #[{ accessFlags := 2, nameIndex := 9, descriptorIndex := 19, attributes := #[] }] 33 16 #[] #[{ accessFlags := 24, nameIndex := 28, descriptorIndex := 29, attributes := #[] }, { accessFlags := 26, nameIndex := 38, descriptorIndex := 39, attributes := #[] }, { accessFlags := 25, nameIndex := 121, descriptorIndex := 25, attributes := #[] }, { accessFlags := 25, nameIndex := 131, descriptorIndex := 25, attributes := #[] }, { accessFlags := 25, nameIndex := 137, descriptorIndex := 25, attributes := #[] }, { accessFlags := 25, nameIndex := 143, descriptorIndex := 25, attributes := #[] }, { accessFlags := 25, nameIndex := 53, descriptorIndex := 25, attributes := #[] }, { accessFlags := 25, nameIndex := 24, descriptorIndex := 25, attributes := #[] }, { accessFlags := 25, nameIndex := 162, descriptorIndex := 25, attributes := #[] }, { accessFlags := 25, nameIndex := 187, descriptorIndex := 25, attributes := #[] }, { accessFlags := 26, nameIndex := 48, descriptorIndex := 25, attributes := #[] }, { accessFlags := 25, nameIndex := 277, descriptorIndex := 25, attributes := #[] }, { accessFlags := 25, nameIndex := 280, descriptorIndex := 25, attributes := #[] }, { accessFlags := 25, nameIndex := 282, descriptorIndex := 25, attributes := #[] }, { accessFlags := 25, nameIndex := 284, descriptorIndex := 25, attributes := #[] }, { accessFlags := 25, nameIndex := 286, descriptorIndex := 25, attributes := #[] }, { accessFlags := 25, nameIndex := 288, descriptorIndex := 25, attributes := #[] }, { accessFlags := 25, nameIndex := 290, descriptorIndex := 25, attributes := #[] }, { accessFlags := 25, nameIndex := 292, descriptorIndex := 25, attributes := #[] }, { accessFlags := 26, nameIndex := 108, descriptorIndex := 109, attributes := #[] }, { accessFlags := 25, nameIndex := 294, descriptorIndex := 25, attributes := #[] }])
  fields := #[{ name := "U", type := (.object "jdk/internal/misc/Unsafe"), accessFlags := 24, slot := 0, constantValue := 0 }, { name := "BIG_ENDIAN", type := .boolean, accessFlags := 26, slot := 1, constantValue := 0 }, { name := "LOG2_ARRAY_BOOLEAN_INDEX_SCALE", type := .int, accessFlags := 25, slot := 2, constantValue := 0 }, { name := "LOG2_ARRAY_BYTE_INDEX_SCALE", type := .int, accessFlags := 25, slot := 3, constantValue := 0 }, { name := "LOG2_ARRAY_CHAR_INDEX_SCALE", type := .int, accessFlags := 25, slot := 4, constantValue := 0 }, { name := "LOG2_ARRAY_SHORT_INDEX_SCALE", type := .int, accessFlags := 25, slot := 5, constantValue := 0 }, { name := "LOG2_ARRAY_INT_INDEX_SCALE", type := .int, accessFlags := 25, slot := 6, constantValue := 0 }, { name := "LOG2_ARRAY_LONG_INDEX_SCALE", type := .int, accessFlags := 25, slot := 7, constantValue := 0 }, { name := "LOG2_ARRAY_FLOAT_INDEX_SCALE", type := .int, accessFlags := 25, slot := 8, constantValue := 0 }, { name := "LOG2_ARRAY_DOUBLE_INDEX_SCALE", type := .int, accessFlags := 25, slot := 9, constantValue := 0 }, { name := "LOG2_BYTE_BIT_SIZE", type := .int, accessFlags := 26, slot := 10, constantValue := 0 }, { name := "T_BOOLEAN", type := .int, accessFlags := 25, slot := 11, constantValue := 0 }, { name := "T_CHAR", type := .int, accessFlags := 25, slot := 12, constantValue := 0 }, { name := "T_FLOAT", type := .int, accessFlags := 25, slot := 13, constantValue := 0 }, { name := "T_DOUBLE", type := .int, accessFlags := 25, slot := 14, constantValue := 0 }, { name := "T_BYTE", type := .int, accessFlags := 25, slot := 15, constantValue := 0 }, { name := "T_SHORT", type := .int, accessFlags := 25, slot := 16, constantValue := 0 }, { name := "T_INT", type := .int, accessFlags := 25, slot := 17, constantValue := 0 }, { name := "T_LONG", type := .int, accessFlags := 25, slot := 18, constantValue := 0 }, { name := "JLA", type := (.object "jdk/internal/access/JavaLangAccess"), accessFlags := 26, slot := 19, constantValue := 0 }, { name := "SOFT_MAX_ARRAY_LENGTH", type := .int, accessFlags := 25, slot := 20, constantValue := 0 }]
  methods := #[k12m0]
  instanceTypes := #[]
  staticTypes := #[(.object "jdk/internal/misc/Unsafe"), .boolean, .int, .int, .int, .int, .int, .int, .int, .int, .int, .int, .int, .int, .int, .int, .int, .int, .int, (.object "jdk/internal/access/JavaLangAccess"), .int]
  resolved := Array.replicate 378 none
  statics := none }

def pool13 : Array CpInfo := pool [(1, u "java/lang/Cloneable"), (0, .class_ 1), (0, u "java/lang/Object"), (0, .class_ 3)] 3

/-- java/lang/Cloneable -/
def k13 : Class := { plain "java/lang/Cloneable" (some 0) with
  accessFlags := 1537
  interfaces := #[]
  cf := some (fileOf pool13 2 #[] #[] 1537 4 #[] #[])
  fields := #[]
  methods := #[]
  instanceTypes := #[]
  staticTypes := #[]
  resolved := Array.replicate 8 none
  statics := none }

/-- the primitive byte -/
def k14 : Class := { plain "byte" none with kind := .primitive 'B', accessFlags := 0x411 }
/-- [B -/
def k15 : Class := { plain "[B" (some 0) with kind := .array 14 .byte, interfaces := #[13, 4], accessFlags := 1041 }

/-- the primitive int -/
def k16 : Class := { plain "int" none with kind := .primitive 'I', accessFlags := 0x411 }
/-- [I -/
def k17 : Class := { plain "[I" (some 0) with kind := .array 16 .int, interfaces := #[13, 4], accessFlags := 1041 }

def heap : Heap := #[{ cls := 3, slots := #[.ref 7, .ref 8], vm := .statics 3 },
  { cls := 9, slots := #[.long 0, .int 1, .null, .int 0, .null, .int 0, .int 0], vm := .statics 9 },
  { cls := 11, slots := #[.null, .null, .null], vm := .statics 11 },
  { cls := 15, slots := #[.int 116, .int 114, .int 117, .int 101], vm := .none },
  { cls := 15, slots := #[.int 102, .int 97, .int 108, .int 115, .int 101], vm := .none },
  { cls := 9, slots := #[.ref 3, .int 0, .int 0, .int 0], vm := .none },
  { cls := 9, slots := #[.ref 4, .int 0, .int 0, .int 0], vm := .none },
  { cls := 3, slots := #[.int 1, .ref 5], vm := .none },
  { cls := 3, slots := #[.int 0, .ref 6], vm := .none }]
def classes : Array Class := #[k0, k1, k2, k3, k4, k5, k6, k7, k8, k9, k10, k11, k12, k13, k14, k15, k16, k17]
def interned : List (Array UInt16 × Addr) := []
def slotsUsed : Nat := 33
def theMethod : MethodId := ⟨1, 1⟩
def args0 : Array Value := #[.int 5]
def aboutOver (below : List Frame) : State where
  vm := { classes := classes, interned := interned.toArray }
  heap := heap
  slotsUsed := slotsUsed
  threads := #[{ frames := .invoking theMethod args0 :: below }]
def below0 : List Frame := [.native { method := ⟨0, 0⟩, args := #[] }]
def about1 : State := aboutOver below0
def p0 : Program := .bare "" "" ""
def e0 : Env := launch0.env 0 0 0
theorem w_frames : about1.frames = Frame.invoking theMethod args0 :: below0 := rfl
set_option maxRecDepth 65536 in
theorem w_args : argsFit about1.vm theMethod args0 = true := by decide +kernel
set_option maxRecDepth 65536 in
theorem w_heap : heapFits about1 = true := by decide +kernel
set_option maxRecDepth 65536 in
theorem w_runnable : about1.curStatus? = some .runnable := by decide +kernel
set_option maxRecDepth 65536 in
theorem w_alone : about1.alone = true := by decide +kernel
set_option maxRecDepth 65536 in
theorem w_named : about1.methodNamed? x = some theMethod := by decide +kernel
set_option maxRecDepth 65536 in
theorem w_hears : about1.hears theMethod below0 = true := by decide +kernel
set_option maxRecDepth 65536 in
theorem w_ripe : about1.ripe theMethod args0 below0 = true := by decide +kernel
theorem w_running : about1.status = .running := rfl
set_option maxRecDepth 65536 in
theorem w_room : about1.hasRoom e0.platform room_1 = true :=
  launch0.hasRoom_least _ room_1 (by decide +kernel) (by decide +kernel) (by decide +kernel) (by decide +kernel) (by decide +kernel) (by decide +kernel)
theorem allAtoms_all (ts : List Jvm.Cond) (a : Array Jvm.Value) (st : Jvm.State) : (allAtoms ts).before a st = ts.all (fun c => c.before a st) := by
  induction ts with
  | nil => rfl
  | cons c t ih =>
    show (Jvm.Cond.and c (allAtoms t)).before a st = _
    rw [Jvm.Cond.before_and, ih, List.all_cons]
def words1 : List Jvm.Cond := Jvm.Cond.code x code maxLocals ret :: tables_1
/-- a 'code' word, met by the world's own term for the bytes: nothing is compared byte by byte -/
theorem code_word {y : MethodName} {bytes : ByteArray} {mx : Nat} {rt : Option FieldType} {a : Array Value} {s : State} {m : MethodId} {meth : Method} {c : Code} (h1 : s.methodNamed? y = some m) (h2 : s.vm.method? m = some meth) (h3 : meth.code = some c) (h4 : c.code = bytes)
    (h5 : (c.maxLocals == mx && c.exceptionTable.isEmpty && decide (c.maxStack ≤ mostOperands) && decide (meth.sig.returnType = rt) && !meth.locks && decide (parseMethodDescriptor y.desc = some meth.sig)) = true) : (Jvm.Cond.code y bytes mx rt).before a s = true := by
  simp only [Bool.and_eq_true, beq_iff_eq, Bool.not_eq_true', decide_eq_true_eq] at h5
  obtain ⟨⟨⟨⟨⟨g1, g2⟩, g3⟩, g4⟩, g5⟩, g6⟩ := h5
  simp [Cond.before, Cond.holds, Cond.value, h1, h2, h3, h4, g1, g2, g3, g4, g5, g6]
def isCode : Jvm.Cond → Bool
  | .code _ _ _ _ => true
  | _ => false
theorem all_split {L : List Jvm.Cond} {P : Jvm.Cond → Bool} (h1 : L.all (fun c => isCode c || P c) = true) (h2 : ∀ c ∈ L.filter isCode, P c = true) : L.all P = true := by
  refine List.all_eq_true.mpr fun c hc => ?_
  have h := List.all_eq_true.mp h1 c hc
  rcases Bool.eq_false_or_eq_true (isCode c) with hi | hi
  · exact h2 c (List.mem_filter.mpr ⟨hc, hi⟩)
  · simpa [hi] using h
set_option maxRecDepth 65536 in
theorem w_c0 : (Jvm.Cond.code x code maxLocals ret).before args0 about1 = true := code_word (m := ⟨1, 1⟩) (meth := k1m1) (c := k1c1) (by decide +kernel) rfl rfl rfl (by decide +kernel)
set_option maxRecDepth 65536 in
theorem w_c1 : (Jvm.Cond.code ({ cls := "com/example/vigilant_schema/vigilantschema/Node$BooleanNode", name := "of", desc := "(Z)Lcom/example/vigilant_schema/vigilantschema/Node$BooleanNode;" } : Jvm.MethodName) prog_52_method_3_code (1 : Nat) (Option.some (Jvm.ClassFile.FieldType.object "com/example/vigilant_schema/vigilantschema/Node$BooleanNode"))).before args0 about1 = true := code_word (m := ⟨3, 0⟩) (meth := k3m0) (c := k3c0) (by decide +kernel) rfl rfl rfl (by decide +kernel)
set_option maxRecDepth 65536 in
theorem w_c2 : (Jvm.Cond.code ({ cls := "com/example/vigilant_schema/vigilantschema/Node$BooleanNode", name := "value", desc := "()Z" } : Jvm.MethodName) prog_52_method_4_code (1 : Nat) (Option.some Jvm.ClassFile.FieldType.boolean)).before args0 about1 = true := code_word (m := ⟨3, 1⟩) (meth := k3m1) (c := k3c1) (by decide +kernel) rfl rfl rfl (by decide +kernel)
set_option maxRecDepth 65536 in
theorem w_c3 : (Jvm.Cond.code ({ cls := "com/example/vigilant_schema/vigilantschema/Node$BooleanNode", name := "writtenText", desc := "()Ljava/lang/String;" } : Jvm.MethodName) prog_52_method_5_code (1 : Nat) (Option.some (Jvm.ClassFile.FieldType.object "java/lang/String"))).before args0 about1 = true := code_word (m := ⟨3, 2⟩) (meth := k3m2) (c := k3c2) (by decide +kernel) rfl rfl rfl (by decide +kernel)
set_option maxRecDepth 65536 in
theorem w_c4 : (Jvm.Cond.code ({ cls := "java/lang/String", name := "equals", desc := "(Ljava/lang/Object;)Z" } : Jvm.MethodName) jdk_42_method_66_code (3 : Nat) (Option.some Jvm.ClassFile.FieldType.boolean)).before args0 about1 = true := code_word (m := ⟨9, 1⟩) (meth := k9m1) (c := k9c1) (by decide +kernel) rfl rfl rfl (by decide +kernel)
set_option maxRecDepth 65536 in
theorem w_c5 : (Jvm.Cond.code ({ cls := "java/lang/StringLatin1", name := "equals", desc := "([B[B)Z" } : Jvm.MethodName) jdk_43_method_13_code (3 : Nat) (Option.some Jvm.ClassFile.FieldType.boolean)).before args0 about1 = true := code_word (m := ⟨10, 1⟩) (meth := k10m1) (c := k10c1) (by decide +kernel) rfl rfl rfl (by decide +kernel)
def codes1 : List Jvm.Cond := [Jvm.Cond.code x code maxLocals ret, Jvm.Cond.code ({ cls := "com/example/vigilant_schema/vigilantschema/Node$BooleanNode", name := "of", desc := "(Z)Lcom/example/vigilant_schema/vigilantschema/Node$BooleanNode;" } : Jvm.MethodName) prog_52_method_3_code (1 : Nat) (Option.some (Jvm.ClassFile.FieldType.object "com/example/vigilant_schema/vigilantschema/Node$BooleanNode")), Jvm.Cond.code ({ cls := "com/example/vigilant_schema/vigilantschema/Node$BooleanNode", name := "value", desc := "()Z" } : Jvm.MethodName) prog_52_method_4_code (1 : Nat) (Option.some Jvm.ClassFile.FieldType.boolean), Jvm.Cond.code ({ cls := "com/example/vigilant_schema/vigilantschema/Node$BooleanNode", name := "writtenText", desc := "()Ljava/lang/String;" } : Jvm.MethodName) prog_52_method_5_code (1 : Nat) (Option.some (Jvm.ClassFile.FieldType.object "java/lang/String")), Jvm.Cond.code ({ cls := "java/lang/String", name := "equals", desc := "(Ljava/lang/Object;)Z" } : Jvm.MethodName) jdk_42_method_66_code (3 : Nat) (Option.some Jvm.ClassFile.FieldType.boolean), Jvm.Cond.code ({ cls := "java/lang/StringLatin1", name := "equals", desc := "([B[B)Z" } : Jvm.MethodName) jdk_43_method_13_code (3 : Nat) (Option.some Jvm.ClassFile.FieldType.boolean)]
set_option maxRecDepth 65536 in
theorem codes_eq : words1.filter isCode = codes1 := rfl
theorem w_codes : ∀ c ∈ words1.filter isCode, c.before args0 about1 = true := by
  rw [codes_eq]
  intro c hc
  simp only [codes1, List.mem_cons, List.not_mem_nil, or_false] at hc
  rcases hc with rfl | rfl | rfl | rfl | rfl | rfl
  · exact w_c0
  · exact w_c1
  · exact w_c2
  · exact w_c3
  · exact w_c4
  · exact w_c5
set_option maxRecDepth 65536 in
theorem w_t1 : (words1.take 24).all (fun c => isCode c || c.before args0 about1) = true := by decide +kernel
set_option maxRecDepth 65536 in
theorem w_t2 : (words1.drop 24).all (fun c => isCode c || c.before args0 about1) = true := by decide +kernel
theorem w_tables : (allAtoms (Jvm.Cond.code x code maxLocals ret :: tables_1)).before args0 about1 = true := by
  rw [allAtoms_all]
  show words1.all (fun c => c.before args0 about1) = true
  refine all_split ?_ w_codes
  rw [← List.take_append_drop 24 words1, List.all_append, w_t1, w_t2]
  rfl
set_option maxRecDepth 65536 in
theorem w_rest : rest_1_c.before args0 about1 = true := by decide +kernel
set_option maxRecDepth 65536 in
theorem w_case : (Jvm.Cond.and given_1 narrow_1).before args0 about1 = true := by decide +kernel
set_option maxRecDepth 65536 in
theorem w_consts : constsHeld consts_1 about1 := Jvm.Lit.constsHeldB_iff.mp (by decide +kernel)
theorem w_applies : (headSpec (Jvm.Cond.code x code maxLocals ret :: tables_1) room_1).applies x e0.platform about1 = true :=
  (Spec.applies_iff w_frames).mpr ⟨w_running, w_runnable, w_alone, w_named, w_hears, w_ripe, w_room, w_tables⟩
theorem atStart : AtStart classFile x code maxLocals ret World_1 tables_1 room_1 Calls_1 rest_1 Pre_1 launch0 p0 e0 about1 theMethod args0 below0 :=
  ⟨lists_1, trivial, launch0.admits_env _ _ _, launch0.least_env, fairChoices_fair.cas, fairChoices_fair.clock, w_frames, w_args, w_heap, w_applies, ⟨w_consts, trivial⟩, w_rest, w_case⟩
end start1
theorem witness_1 : WitnessClaimed_1 := ⟨start1.p0, start1.e0, start1.about1, start1.theMethod, start1.args0, start1.below0, start1.atStart⟩
end Jvm.Pilot.@@N@@
