import JvmDerived
import JvmDerived.Pilot.@@N@@Statement
import JvmDerived.Pilot.@@N@@Code
set_option linter.unusedVariables false
set_option linter.unusedSimpArgs false
@@BLOCK:SyncKit.lean.txt@@
namespace Jvm.Pilot.@@N@@
open Jvm Jvm.ClassFile Sem Op Lib Jvm.Free Jvm.Stand Jvm.LawKit Jvm.RoadKit Bundle Jvm.Pilot.@@N@@.Jvm.D
section Own0
theorem own_fld_to {Z : State} {h : Heap} {a : Addr} {C n d : String} {v v' : Value} (F : Fld Z h a C n d v) (q : v = v') : Fld Z h a C n d v' := q ▸ F
theorem own_sta_keep {Z : State} {h h' : Heap} {C n d : String} {v : Value} {ws : List Addr} (F : Sta Z h C n d v) (K : Keep h h' ws) (q : ∀ x ∈ ws, ∀ c : Cell, h[x]? = some c → c.vm.isStatics = false) : Sta Z h' C n d v := by
  obtain ⟨cf, i, k, f, st, cell, h1, h2, h3, h4, h5, h6, h7⟩ := F
  exact ⟨cf, i, k, f, st, cell, h1, h2, h3, h4, K.2.1 st cell h5 (fun y => by rw [q st y cell h5] at h6; cases h6), h6, h7⟩
theorem own_ins_keep {Z : State} {h h' : Heap} {a : Addr} {C : String} {bo : Bool} {ws : List Addr} (F : Ins Z h a C bo) (K : Keep h h' ws) : Ins Z h' a C bo := by
  obtain ⟨cell, cT, h1, h2, h3⟩ := F
  obtain ⟨c', e1, e2, e3, -⟩ := K.2.2 a cell h1
  exact ⟨c', cT, e1, h2, by rw [e2, e3]; exact h3⟩
theorem notsta_exa {Z : State} {h : Heap} {a : Addr} {C : String} (F : Exa Z h a C) : ∀ c : Cell, h[a]? = some c → c.vm.isStatics = false := fun c hc => by
  obtain ⟨cell, _, h1, -, -, h4, -⟩ := F
  cases hc.symm.trans h1; exact h4
theorem eqi_v {args : Array Value} {first s : State} {o : Option Outcome} {idx : List Nat} {a : Term} {k : Int32} (h : (Cond.eq a (.int k)).value args first o s idx = some true) : a.eval args first o idx s = some (.int k) := by
  obtain ⟨x, y, e1, e2, k1, k2⟩ := cmp_v (Or.inl h)
  have e3 : (Term.int k).eval args first o idx s = some (.int k) := rfl
  cases e3.symm.trans e2
  cases x <;> simp [Cond.value, e1, e3] at h
  rw [e1, h]
end Own0
section Own
variable {p : Program} {l : Launch} {e : Env} {R : Room} {s : State} {m : MethodId} {args : Array Value} {below : List Frame} {meth : Method} {c : Code} {T T' : State} {locs : List Loc} {cells slots : Nat} {Z : State} {h h' : Heap} {Q : Option Value → Heap → List Loc → Prop} {kc ks : Nat} {a b : Addr}
/-- from T the method comes to its end, and Q holds of what it returns, of the heap and of the written places -/
def Goes (p : Program) (e : Env) (below : List Frame) (s : State) (Q : Option Value → Heap → List Loc → Prop) (kc ks : Nat) (T : State) : Prop :=
  ∃ s₂ o, Steps p.tables e below T s₂ ∧ s₂.status = .running ∧ Ended s₂ below o ∧ ∃ v L, o = .returned v ∧ Q v s₂.heap L ∧ FrameEnd s o s₂ L kc ks
theorem Goes.step (st : ∀ t, Steps p.tables e below T' t → Steps p.tables e below T t) (k : Goes p e below s Q kc ks T') : Goes p e below s Q kc ks T := by
  obtain ⟨s₂, o, h1, h2⟩ := k; exact ⟨s₂, o, st _ h1, h2⟩
theorem Goes.ret (X : Stand p l e R s m args below meth c T locs cells slots) {v : Option Value} (hv : meth.sig.returnType = none → v = none) (hlocks : meth.locks = false) {T₀ : State}
    (st : ∀ fs, (∀ (f : JFrame) (acts : List Action), f.method = m → f.locked = none → f.entered = [] → (doReturn e (T.setTop f) acts v).1 = T.setFrames fs) → Steps p.tables e below T₀ (T.setFrames fs))
    (hq : Q v T.heap locs) (hc : cells ≤ kc) (hs : slots ≤ ks) : Goes p e below s Q kc ks T₀ := by
  obtain ⟨fs, hr, hrun, hended, hW, hsame⟩ := X.leave (v := v) hv hlocks
  exact ⟨_, _, st fs hr, hrun, hended, _, _, rfl, hq, ⟨_, rfl⟩, hW, hsame.mono hc hs⟩
theorem Goes.retZ (X : Stand p l e R s m args below meth c T locs cells slots) (hx : p.tables.exec = Jvm.exec) (hlocks : meth.locks = false) {pc : Nat} {Ls : Array Slot} {z r : Int32} {t : FieldType} {rest : List Value} (hret : meth.sig.returnType = some t) (ht : t = .boolean ∨ t = .byte ∨ t = .char ∨ t = .short)
    (hd : decode c.code pc = .ok (.ireturn, 1)) (hz : nar t z = r) (hq : Q (some (.int r)) T.heap locs) (hc : cells ≤ kc) (hs : slots ≤ ks) : Goes p e below s Q kc ks (T.setTop (mkF m pc Ls (.int z :: rest))) := by
  subst hz
  exact Goes.ret X (fun h => by rw [hret] at h; cases h) hlocks (fun fs hr => retN X hx hret ht hd hr) hq hc hs
theorem Goes.retI (X : Stand p l e R s m args below meth c T locs cells slots) (hx : p.tables.exec = Jvm.exec) (hlocks : meth.locks = false) {pc : Nat} {Ls : Array Slot} {z r : Int32} {rest : List Value} (hret : meth.sig.returnType = some .int)
    (hd : decode c.code pc = .ok (.ireturn, 1)) (hz : z = r) (hq : Q (some (.int r)) T.heap locs) (hc : cells ≤ kc) (hs : slots ≤ ks) : Goes p e below s Q kc ks (T.setTop (mkF m pc Ls (.int z :: rest))) := by
  subst hz
  exact Goes.ret X (fun h => by rw [hret] at h; cases h) hlocks (fun fs hr => retOut X hx hret rfl (Or.inl ⟨rfl, Or.inl rfl, z, rfl⟩) hd hr) hq hc hs
theorem Goes.retJ (X : Stand p l e R s m args below meth c T locs cells slots) (hx : p.tables.exec = Jvm.exec) (hlocks : meth.locks = false) {pc : Nat} {Ls : Array Slot} {z r : Int64} {rest : List Value} (hret : meth.sig.returnType = some .long)
    (hd : decode c.code pc = .ok (.lreturn, 1)) (hz : z = r) (hq : Q (some (.long r)) T.heap locs) (hc : cells ≤ kc) (hs : slots ≤ ks) : Goes p e below s Q kc ks (T.setTop (mkF m pc Ls (.long z :: rest))) := by
  subst hz
  exact Goes.ret X (fun h => by rw [hret] at h; cases h) hlocks (fun fs hr => retOut X hx hret rfl (Or.inr (Or.inl ⟨rfl, rfl, z, rfl⟩)) hd hr) hq hc hs
theorem Goes.retD (X : Stand p l e R s m args below meth c T locs cells slots) (hx : p.tables.exec = Jvm.exec) (hlocks : meth.locks = false) {pc : Nat} {Ls : Array Slot} {z r : UInt64} {rest : List Value} (hret : meth.sig.returnType = some .double)
    (hd : decode c.code pc = .ok (.dreturn, 1)) (hz : z = r) (hq : Q (some (.double r)) T.heap locs) (hc : cells ≤ kc) (hs : slots ≤ ks) : Goes p e below s Q kc ks (T.setTop (mkF m pc Ls (.double z :: rest))) := by
  subst hz
  exact Goes.ret X (fun h => by rw [hret] at h; cases h) hlocks (fun fs hr => retOut X hx hret rfl (Or.inr (Or.inr (Or.inl ⟨rfl, rfl, z, rfl⟩))) hd hr) hq hc hs
theorem Goes.retR (X : Stand p l e R s m args below meth c T locs cells slots) (hx : p.tables.exec = Jvm.exec) (hlocks : meth.locks = false) {pc : Nat} {Ls : Array Slot} {z r : Value} {t : FieldType} {rest : List Value} (hret : meth.sig.returnType = some t) (ht : t.isReference = true) (hn : narrow t z = z) (hw : z.isRef = true)
    (hd : decode c.code pc = .ok (.areturn, 1)) (hz : z = r) (hq : Q (some r) T.heap locs) (hc : cells ≤ kc) (hs : slots ≤ ks) : Goes p e below s Q kc ks (T.setTop (mkF m pc Ls (z :: rest))) := by
  subst hz
  exact Goes.ret X (fun h => by rw [hret] at h; cases h) hlocks (fun fs hr => retOut X hx hret hn (Or.inr (Or.inr (Or.inr (Or.inr ⟨rfl, ht, hw⟩)))) hd hr) hq hc hs
theorem Goes.retV (X : Stand p l e R s m args below meth c T locs cells slots) (hx : p.tables.exec = Jvm.exec) (hlocks : meth.locks = false) {pc : Nat} {Ls : Array Slot} (hret : meth.sig.returnType = none)
    (hd : decode c.code pc = .ok (.return_, 1)) (hq : Q none T.heap locs) (hc : cells ≤ kc) (hs : slots ≤ ks) : Goes p e below s Q kc ks (T.setTop (mkF m pc Ls [])) :=
  Goes.ret X (fun _ => rfl) hlocks (fun fs hr => X.returnOut hx hret hd hr) hq hc hs
/-- the array at a holds vs -/
def Ara (Z : State) (h : Heap) (a : Addr) (ty : FieldType) (vs : List Value) : Prop := ∃ cl : Cell, Arr Z h a cl ty ∧ cl.slots.toList = vs ∧ vs.length < 2 ^ 31 ∧ (∀ v ∈ vs, fits ty v = true) ∧ ∀ C, ty = .object C → Ovr Z cl.cls C
variable {ty : FieldType} {vs : List Value} {sl : Nat} {v : Value} {ws : List Addr}
theorem Ara.lt (F : Ara Z h a ty vs) : a < h.size := by obtain ⟨c, A, -⟩ := F; exact A.lt
theorem Ara.ext (F : Ara Z h a ty vs) (E : Ext h h') : Ara Z h' a ty vs := by obtain ⟨c, A, r⟩ := F; exact ⟨c, A.ext E, r⟩
theorem Ara.other (F : Ara Z h b ty vs) (W : Wr h h' a sl v) (q : b ≠ a) : Ara Z h' b ty vs := by obtain ⟨c, A, r⟩ := F; exact ⟨c, A.other W q, r⟩
theorem Ara.keep (F : Ara Z h a ty vs) (K : Keep h h' ws) (q : a ∉ ws) : Ara Z h' a ty vs := by obtain ⟨c, A, r⟩ := F; exact ⟨c, ⟨K.2.1 a c A.1 q, A.2⟩, r⟩
theorem fits_dflt (ty : FieldType) : fits ty (defaultValue ty) = true := by cases ty <;> rfl
theorem Ara.new {k : ClassId} {z : Int32} (A : Arr Z h a (newA k ty z) ty) (q : ¬ z < 0) (e : List.replicate z.toNatClampNeg (defaultValue ty) = vs) (O : ∀ C, ty = .object C → Ovr Z k C) : Ara Z h a ty vs := by
  subst e
  refine ⟨_, A, by simp [newA], by simpa using (back32 q).2, fun v hv => ?_, O⟩
  rw [(List.mem_replicate.mp hv).2]; exact fits_dflt ty
theorem Ara.same {j : Int32} {cl : Cell} (A : Arr Z h a cl ty) (e : cl.slots.toList = vs) (hl : vs.length < 2 ^ 31) (hf : ∀ v ∈ vs, fits ty v = true) (O : ∀ C, ty = .object C → Ovr Z cl.cls C) (hv : fits ty v = true) (W : Wr h h' a j.toNatClampNeg v) : Ara Z h' a ty (vs.set j.toNatClampNeg v) := by
  refine ⟨_, A.same W, by simp [Cell.setSlot, ← e], by simpa using hl, fun u hu => ?_, O⟩
  rcases List.mem_or_eq_of_mem_set hu with q | q
  · exact hf u q
  · rw [q]; exact hv
theorem inb {j : Int32} {cl : Cell} (e : cl.slots.toList = vs) (h0 : ¬ j < 0) (hj : j.toNatClampNeg < vs.length) : ¬ (j < 0 ∨ cl.slots.size ≤ j.toNatClampNeg) := by
  rintro (q | q)
  · exact h0 q
  · rw [← e] at hj; simp at hj; omega
theorem getb {j : Int32} {cl : Cell} (e : cl.slots.toList = vs) (hv : vs[j.toNatClampNeg]? = some v) : cl.slots[j.toNatClampNeg]? = some v := by rw [← e] at hv; simpa using hv
theorem ltb {n : Nat} (hv : vs[n]? = some v) : n < vs.length := (List.getElem?_eq_some_iff.mp hv).1
theorem lenb {cl : Cell} (e : cl.slots.toList = vs) : cl.slots.size = vs.length := by rw [← e]; simp
theorem notsta_ara (F : Ara Z h a ty vs) : ∀ c : Cell, h[a]? = some c → c.vm.isStatics = false := fun c hc => by
  obtain ⟨cl, A, -⟩ := F
  cases hc.symm.trans A.1; exact A.plain
theorem Ara.to {vs' : List Value} (F : Ara Z h a ty vs) (q : vs = vs') : Ara Z h a ty vs' := q ▸ F
end Own
section OwnS
variable {p : Program} {l : Launch} {e : Env} {R : Room} {s : State} {m : MethodId} {args : Array Value} {below : List Frame} {meth : Method} {c : Code} {T T' : State} {locs : List Loc} {cells slots : Nat} {Z : State} {h h' h0 : Heap} {Q : Option Value → Heap → List Loc → Prop} {kc ks : Nat} {a b : Addr} {ws : List Addr} {sl : Nat} {v : Value} {C n d : String} {ty : FieldType} {vs : List Value}
/-- the object at a: its monitor is free -/
def Mon (h : Heap) (a : Addr) : Prop := ∃ c : Cell, h[a]? = some c ∧ c.monitor = {}
theorem Mon.new (q : ∃ c : Cell, h[a]? = some c ∧ c.vm = .none ∧ c.monitor = {}) : Mon h a := by obtain ⟨c, h1, -, h2⟩ := q; exact ⟨c, h1, h2⟩
theorem Mon.ext (F : Mon h a) (E : Ext h h') : Mon h' a := by obtain ⟨c, h1, h2⟩ := F; exact ⟨c, E.2 _ _ h1, h2⟩
theorem Mon.wr (F : Mon h b) (W : Wr h h' a sl v) : Mon h' b := by
  obtain ⟨c, h1, h2⟩ := F
  obtain ⟨cb, e1, -, -, -, e5, -, e7⟩ := wr_at W h1
  by_cases q : b = a
  · exact ⟨cb, e1, by rw [(e7 q).1]; exact h2⟩
  · exact ⟨cb, e1, by rw [e5 q]; exact h2⟩
theorem Mon.keep (F : Mon h a) (K : Keep h h' ws) (q : a ∉ ws) : Mon h' a := by obtain ⟨c, h1, h2⟩ := F; exact ⟨c, K.2.1 _ _ h1 q, h2⟩
/-- the monitor of a, and nothing else, has changed -/
def MonCh (h h' : Heap) (a : Addr) : Prop := ∃ (c : Cell) (μ : Monitor), h[a]? = some c ∧ h' = h.setIfInBounds a { c with monitor := μ }
theorem MonCh.at (M : MonCh h h' a) {cb : Cell} (hb : h[b]? = some cb) : ∃ cb' : Cell, h'[b]? = some cb' ∧ cb'.cls = cb.cls ∧ cb'.vm = cb.vm ∧ cb'.slots = cb.slots ∧ (b ≠ a → cb' = cb) := by
  obtain ⟨c, μ, h1, rfl⟩ := M
  by_cases q : b = a
  · subst q
    cases h1.symm.trans hb
    exact ⟨{ cb with monitor := μ }, by simp [(Array.getElem?_eq_some_iff.mp hb).1], rfl, rfl, rfl, fun x => absurd rfl x⟩
  · exact ⟨cb, by rw [Array.getElem?_setIfInBounds_ne (Ne.symm q)]; exact hb, rfl, rfl, rfl, fun _ => rfl⟩
theorem own_fld_mon (F : Fld Z h b C n d v) (M : MonCh h h' a) : Fld Z h' b C n d v := by
  obtain ⟨cell, cf, k, i, f, h1, h2, h3, h4, h5, h6, h7⟩ := F
  obtain ⟨c', e1, e2, e3, e4, -⟩ := M.at h1
  exact ⟨c', cf, k, i, f, e1, h2, h3, by rw [e3]; exact h4, by rw [e3]; exact h5, by rw [e2]; exact h6, by rw [e4]; exact h7⟩
theorem own_exa_mon (F : Exa Z h b C) (M : MonCh h h' a) : Exa Z h' b C := by
  obtain ⟨cell, k, h1, h2, h3, h4, h5⟩ := F
  obtain ⟨c', e1, e2, e3, e4, -⟩ := M.at h1
  exact ⟨c', k, e1, by rw [e2]; exact h2, by rw [e2]; exact h3, by rw [e3]; exact h4, by rw [e4]; exact h5⟩
theorem own_ara_mon (F : Ara Z h b ty vs) (M : MonCh h h' a) (q : b ≠ a) : Ara Z h' b ty vs := by
  obtain ⟨cl, A, r⟩ := F
  obtain ⟨c', e1, -, -, -, e5⟩ := M.at A.1
  exact ⟨cl, ⟨by rw [e1, e5 q], A.2⟩, r⟩
theorem own_sta_mon (F : Sta Z h C n d v) (M : MonCh h h' a) : Sta Z h' C n d v := by
  obtain ⟨cf, i, k, f, st, cell, h1, h2, h3, h4, h5, h6, h7⟩ := F
  obtain ⟨c', e1, e2, e3, e4, -⟩ := M.at h5
  exact ⟨cf, i, k, f, st, c', h1, h2, h3, h4, e1, by rw [e3]; exact h6, by rw [e4]; exact h7⟩
theorem MonCh.size (M : MonCh h h' a) : h'.size = h.size := by obtain ⟨_, _, _, rfl⟩ := M; simp
theorem own_keep_mon (M : MonCh h h' a) (q : a ∈ ws) : Keep h h' ws := by
  refine ⟨Nat.le_of_eq M.size.symm, fun x c hx hn => ?_, fun x c hx => ?_⟩
  · obtain ⟨c', e1, -, -, -, e5⟩ := M.at hx
    rw [e1, e5 (fun z => hn (z ▸ q))]
  · obtain ⟨c', e1, e2, e3, e4, -⟩ := M.at hx
    exact ⟨c', e1, e2, e3, by rw [e4]⟩
abbrev mkL (m : MethodId) (pc : Nat) (ls : Array Slot) (st : List Value) (a : Addr) : JFrame := { method := m, pc := pc, locals := ls, stack := st, locked := some a, monitorRoom := 1 }
theorem own_recv {U : State} {as' : Array Value} (e1 : args = as') (e2 : U.heap = h) (h0' : as'[0]? = some (.ref a)) (M : Mon h a) : ∃ a cell, args[0]? = some (.ref a) ∧ U.heap[a]? = some cell ∧ cell.enterable U.cur := by
  obtain ⟨c, h1, h2⟩ := M
  exact ⟨a, c, by rw [e1]; exact h0', by rw [e2]; exact h1, Or.inl (by rw [h2]; exact ⟨rfl, rfl⟩)⟩
theorem own_monE {cell : Cell} {t : ThreadId} (hh : s.heap = h) (ho : s.heap[a]? = some cell) (fs : List Frame) : MonCh h ((s.setCell a (cell.withEntry t)).setFrames fs).heap a :=
  ⟨cell, _, by rw [← hh]; exact ho, by rw [← hh]; rfl⟩
theorem Goes.retVS {cell : Cell} (X : Stand p l e R (s.setCell a (cell.withEntry s.cur)) m args below meth c T locs cells slots) (hx : p.tables.exec = Jvm.exec) (hs : s.heap[a]? = some cell) (hent : cell.enterable s.cur) (hlocks : meth.locks = true) {pc : Nat} {Ls : Array Slot} (hret : meth.sig.returnType = none)
    (hd : decode c.code pc = .ok (.return_, 1)) (hq : ∀ h' : Heap, MonCh T.heap h' a → (∃ c' : Cell, h'[a]? = some c' ∧ c'.monitor = cell.monitor) → Q none h' locs) (hc : cells ≤ kc) (hl : slots ≤ ks) : Goes p e below s Q kc ks (T.setTop (mkL m pc Ls [] a)) := by
  obtain ⟨fs, cellT, hT, hr, hrun, hended, hW, hsame⟩ := X.leaveSync hs hent hlocks (v := none) (fun _ => rfl)
  have hlt : a < s.heap.size := (Array.getElem?_eq_some_iff.mp hs).1
  have hltT : a < T.heap.size := (Array.getElem?_eq_some_iff.mp hT).1
  obtain ⟨cT, g1, g2, -⟩ := X.cellAt (a := a) (cell := cell.withEntry s.cur) (by show (s.heap.setIfInBounds a _)[a]? = _; simp [hlt])
  cases hT.symm.trans g1
  have hm : cellT.monitor = (cell.withEntry s.cur).monitor := by rw [g2]
  have hl2 : cellT.left = { cellT with monitor := cellT.left.monitor } := by unfold Cell.left; split <;> rfl
  have hm2 : cellT.left.monitor = cell.monitor := by
    have q : cellT.left.monitor = (cell.withEntry s.cur).left.monitor := by unfold Cell.left; rw [hm]; split <;> rfl
    rw [q, Cell.left_withEntry' hent]
  refine ⟨_, _, ?_, hrun, hended, _, _, rfl, hq _ ⟨cellT, cellT.left.monitor, hT, by rw [← hl2]; rfl⟩ ⟨cellT.left, ?_, hm2⟩, ⟨_, rfl⟩, hW, hsame.mono hc hl⟩
  · have hm' : T.vm.method? m = some meth := X.method'
    jvm_step X.here [X.here.top, hx, hd, hm', hret]
    first | (intro acts; rw [hr _ acts rfl rfl rfl]) | rw [hr _ _ rfl rfl rfl]
    exact Steps.refl _
  · show (T.heap.setIfInBounds a cellT.left)[a]? = _
    simp [hltT]
theorem hisS {y : MethodName} {bytes : ByteArray} {maxL : Nat} {ret : Option FieldType} {rm : Room} : ∀ args (s : State) m, (head1 [Cond.codeSync y bytes maxL ret, Cond.instanceMethod y] rm).pre.before args s = true → s.methodNamed? y = some m →
    ∃ meth c, s.vm.method? m = some meth ∧ meth.code = some c ∧ c.code = bytes ∧ c.maxLocals = maxL ∧ meth.sig.returnType = ret ∧ meth.locks = true ∧ meth.isStatic = false := fun args s m hh hn =>
  codeSync_his hn (atoms_spec (ws := [Cond.codeSync y bytes maxL ret, Cond.instanceMethod y]) hh _ (List.mem_cons_self ..)) (atoms_spec (ws := [Cond.codeSync y bytes maxL ret, Cond.instanceMethod y]) hh _ (List.mem_of_getElem? (i := 1) rfl))
theorem backOfS {a0 : Array Value} {y : MethodName} {bytes : ByteArray} {maxL : Nat} {ret : Option FieldType} {rm : Room} {len W : Nat} {as' : Array Value} {Q : Option Value → Heap → List Loc → Prop}
    (hM : MetFree l y (head1 [Cond.codeSync y bytes maxL ret, Cond.instanceMethod y] rm) (fun a U => a = as' ∧ Z.Warmed39 U.vm ∧ U.heap = h) (fun _ _ _ _ _ => True) (fun _ U o U' => ∃ v L, o = .returned v ∧ Q v U'.heap L ∧ FrameEnd U o U' L rm.cells rm.slots))
    (hZ : Z.Warmed39 s.vm) (wc : (Cond.codeSync y bytes maxL ret).before a0 Z = true) (wi : (Cond.instanceMethod y).before a0 Z = true) (wz : (Cond.initialized y.cls).before a0 Z = true) (hf : rm.frames + 1 ≤ R.frames) (hl : W + (maxL + 11) + rm.locals ≤ R.locals) :
    Back l R p e below s args y len W (fun A a => a = as' ∧ A.U.heap = h ∧ A.cells + rm.cells ≤ R.cells ∧ A.slots + rm.slots ≤ R.slots)
      (fun A _ v B => ∃ L, Q v B.U.heap L ∧ B.locs = A.locs ++ L ∧ B.cells = A.cells + rm.cells ∧ B.slots = A.slots + rm.slots) :=
  Jvm.SyncKit.back_of_sync (bytes := bytes) (maxL := maxL) (ret := ret) (E := fun _ _ o t L k n => k = rm.cells ∧ n = rm.slots ∧ ∃ v, o = .returned v ∧ Q v t.heap L) hM hf hl
    (fun m meth c A a Y hp => have hU : Z.Warmed39 A.U.vm := wtrans hZ Y.warmed
      ⟨by show (Cond.and _ (Cond.and _ .tt)).before a A.U = true; rw [Cond.before_and, Cond.before_and, mv hU wc, mv hU wi]; rfl, mv hU wc, mv hU wz, hp.2.2.1, hp.2.2.2⟩)
    (fun m meth c A a g mk Y hp => ⟨hp.1, wtrans hZ Y.warmed, hp.2.1⟩) (fun _ _ _ _ _ _ _ _ _ => trivial)
    (fun _ _ _ _ ⟨v, L, h1, h2, h3⟩ => ⟨L, _, _, h3, rfl, rfl, v, h1, h2⟩)
    (fun m meth c A a g mk v t L k n Y hp _ _ ⟨e1, e2, v', e3, e4⟩ => by cases e3; subst e1 e2; exact ⟨L, e4, rfl, rfl, rfl⟩)
theorem own_selpriv {a0 : Array Value} {y : MethodName} {k : Nat} (wk : (Cond.instantiable y.cls k).before a0 Z = true) (wi : (Cond.instanceMethod y).before a0 Z = true) (wp : (Cond.privateMethod y).before a0 Z = true) (hy : y.cls ≠ "java/lang/invoke/MethodHandle" ∧ y.cls ≠ "java/lang/invoke/VarHandle") : (Cond.selects y.cls y y).before a0 Z = true := by
  obtain ⟨t, k', g0, g2, g3, g4, g5⟩ := Cond.instantiable_spec wk
  exact selects_self_of_private g0 g2 (Bool.or_eq_false_iff.mp g4).1 (Cond.privateMethod_at wp) wi hy
end OwnS
theorem own_pn0 : plainName "com/example/bounded_crawl/boundedcrawl/web/FramingEndPinLaw" = true := by first | (simp [plainName, overriddenIn]; done) | decide +kernel
theorem own_pn1 : plainName "java/io/OutputStream" = true := by first | (simp [plainName, overriddenIn]; done) | decide +kernel
theorem own_pd0 : parseMethodDescriptor "()V" = some ⟨[], none⟩ := by decide +kernel
theorem own_pn2 : plainName "java/io/ByteArrayOutputStream" = true := by first | (simp [plainName, overriddenIn]; done) | decide +kernel
theorem own_pd1 : parseMethodDescriptor "(I)V" = some ⟨[.int], none⟩ := by decide +kernel
theorem own_pn3 : plainName "com/example/bounded_crawl/boundedcrawl/web/Framing" = true := by first | (simp [plainName, overriddenIn]; done) | decide +kernel
theorem own_pd2 : parseMethodDescriptor "(B)V" = some ⟨[.byte], none⟩ := by decide +kernel
theorem own_pd3 : parseMethodDescriptor "([BII)V" = some ⟨[(.array .byte), .int, .int], none⟩ := by decide +kernel
theorem own_pd4 : parseMethodDescriptor "(JI)B" = some ⟨[.long, .int], some .byte⟩ := by decide +kernel
theorem own_pd5 : parseMethodDescriptor "(Z)V" = some ⟨[.boolean], none⟩ := by decide +kernel
theorem own_pd6 : parseMethodDescriptor "(J)J" = some ⟨[.long], some .long⟩ := by decide +kernel
theorem own_pd7 : parseMethodDescriptor "()J" = some ⟨[], some .long⟩ := by decide +kernel
theorem own_cap {p : Int32} (h : 0 ≤ p.toInt ∧ p.toInt ≤ 32) : ¬ ((0 : Int32) < p - 32) := by
  have e := c_isub p 32
  have r := rng32 (p - 32)
  rw [(by decide : (32 : Int32).toInt = 32)] at e
  rw [Int32.lt_iff_toInt_lt, (by decide : (0 : Int32).toInt = 0)]; omega
theorem own_nat {y : Int32} (h : 0 ≤ y.toInt) : ¬ y < 0 ∧ y.toInt = (y.toNatClampNeg : Int) := by
  have p : ¬ y < 0 := by rw [Int32.lt_iff_toInt_lt, (by decide : (0 : Int32).toInt = 0)]; omega
  exact ⟨p, nat_of p⟩
theorem own_ix {y : Int32} {vs : List Value} {k : Nat} (h : 0 ≤ y.toInt ∧ y.toInt < k) (hv : vs.length = k) : y.toNatClampNeg < vs.length := by
  have := (own_nat h.1).2; omega
theorem own_inc {y : Int32} {k : Int} (h : 0 ≤ y.toInt ∧ y.toInt < k) (hk : k ≤ 32) : 0 ≤ (y + 1).toInt ∧ (y + 1).toInt ≤ k ∧ (y + 1).toInt = y.toInt + 1 := by
  have e := c_iadd y 1
  have r := rng32 (y + 1)
  rw [(by decide : (1 : Int32).toInt = 1)] at e
  omega
theorem own_l1 {i p : Int32} {n : Nat} (h : i.toInt + ((n + 1 : Nat) : Int) = p.toInt) (h0 : 0 ≤ i.toInt) (h8 : p.toInt ≤ 8) : (i + 1).toInt + (n : Int) = p.toInt ∧ 0 ≤ (i + 1).toInt := by
  have q := own_inc (y := i) (k := 8) ⟨h0, by omega⟩ (by decide)
  omega
theorem own_c1 {c : Int32} {n : Nat} (h0 : 0 ≤ c.toInt) (h : c.toInt + ((n + 1 : Nat) : Int) ≤ 32) : 0 ≤ (c + 1).toInt ∧ (c + 1).toInt + (n : Int) ≤ 32 := by
  have q := own_inc (y := c) (k := 32) ⟨h0, by omega⟩ (by decide)
  omega
theorem own_n64 {a b : Int64} {n : Nat} (h : a + Int64.ofNat (n + 1) = b) : a + 1 + Int64.ofNat n = b := by
  rw [← h, Int64.ofNat_add, Int64.add_assoc, Int64.add_comm 1]; rfl
theorem own_n32 {a b : Int32} {n : Nat} (h : a + Int32.ofNat (n + 1) = b) : a + 1 + Int32.ofNat n = b := by
  rw [← h, Int32.ofNat_add, Int32.add_assoc, Int32.add_comm 1]; rfl
theorem own_z64 {a b : Int64} (h : a + Int64.ofNat 0 = b) : a = b := by rw [← h]; exact (Int64.add_zero a).symm
theorem own_z32 {a b : Int32} (h : a + Int32.ofNat 0 = b) : a = b := by rw [← h]; exact (Int32.add_zero a).symm
theorem own_nlt {i p : Int32} (h : i.toInt + ((0 : Nat) : Int) = p.toInt) : ¬ i < p := by rw [Int32.lt_iff_toInt_lt]; omega
theorem own_lt {i p : Int32} {n : Nat} (h : i.toInt + ((n + 1 : Nat) : Int) = p.toInt) : i < p := by rw [Int32.lt_iff_toInt_lt]; omega
theorem own_i8 {i p : Int32} {n : Nat} (h : i.toInt + ((n + 1 : Nat) : Int) = p.toInt) (h0 : 0 ≤ i.toInt) (h8 : p.toInt ≤ 8) : i.toNatClampNeg < 8 := by
  have := (own_nat h0).2; omega
def f1 (q0 : Int64) (p1 : Int32) : Int32 := (nar .byte (if ((((q0.toUInt64 >>> (p1 &&& 0x3f).toInt64.toUInt64).toInt64).toInt32).toInt8.toInt32) = (10 : Int32) then (11 : Int32) else ((((q0.toUInt64 >>> (p1 &&& 0x3f).toInt64.toUInt64).toInt64).toInt32).toInt8.toInt32)))
theorem own_d1_0 : decode method_3_code 0 = .ok (.lload_n 0, 1) := by decide +kernel
theorem own_d1_1 : decode method_3_code 1 = .ok (.iload_n 2, 1) := by decide +kernel
theorem own_d1_2 : decode method_3_code 2 = .ok (.lushr, 1) := by decide +kernel
theorem own_d1_3 : decode method_3_code 3 = .ok (.l2i, 1) := by decide +kernel
theorem own_d1_4 : decode method_3_code 4 = .ok (.i2b, 1) := by decide +kernel
theorem own_d1_5 : decode method_3_code 5 = .ok (.istore_n 3, 1) := by decide +kernel
theorem own_d1_6 : decode method_3_code 6 = .ok (.iload_n 3, 1) := by decide +kernel
theorem own_d1_7 : decode method_3_code 7 = .ok (.bipush 10, 2) := by decide +kernel
theorem own_d1_9 : decode method_3_code 9 = .ok (.if_icmp .ne 8, 3) := by decide +kernel
theorem own_d1_12 : decode method_3_code 12 = .ok (.bipush 11, 2) := by decide +kernel
theorem own_d1_14 : decode method_3_code 14 = .ok (.goto 4, 3) := by decide +kernel
theorem own_d1_17 : decode method_3_code 17 = .ok (.iload_n 3, 1) := by decide +kernel
theorem own_d1_18 : decode method_3_code 18 = .ok (.ireturn, 1) := by decide +kernel
theorem own_ef1 (m : MethodId) (q0 : Int64) (p1 : Int32) : entryFrame m #[(.long q0), (.int p1)] 4 = mkF m 0 #[.val (.long q0), .second, .val (.int p1), .unset] [] := by first | (simp [entryFrame, mkF, argsToLocals, Value.category, maxLocals]; done) | rfl
abbrev RM1 : Room := ({ frames := 0, cells := 0, slots := 0, locals := 0 } : Room)
abbrev kC1 : Nat := 0
abbrev kS1 : Nat := 0
def Q1 (Z : State) (q0 : Int64) (p1 : Int32) (h0 : Heap) (v : Option Value) (h : Heap) (L : List Loc) : Prop := v = some (.int (f1 q0 p1)) ∧ L = [] ∧ h = h0
set_option maxRecDepth 65536 in
set_option maxHeartbeats 40000000 in
theorem rm1 (l : Launch) (Z : State) (tA : Array Value) (hw : ∀ d ∈ tables_1, d.before tA Z = true) (ws : List Jvm.Cond) (q0 : Int64) (p1 : Int32) (h0 : Heap)  :
    MetFree l (⟨"com/example/bounded_crawl/boundedcrawl/web/FramingEndPinLaw", "pick", "(JI)B"⟩ : MethodName) (head1 (Jvm.Cond.code (⟨"com/example/bounded_crawl/boundedcrawl/web/FramingEndPinLaw", "pick", "(JI)B"⟩ : MethodName) method_3_code 4 (some .byte) :: ws) RM1) (fun a U => a = #[(.long q0), (.int p1)] ∧ Z.Warmed39 U.vm ∧ U.heap = h0) (fun _ _ _ _ _ => True) (fun _ U o U' => ∃ v L, o = .returned v ∧ Q1 Z q0 p1 h0 v U'.heap L ∧ FrameEnd U o U' L RM1.cells RM1.slots) := by
  refine MetFree.of_bodySF (plainFor_of_name own_pn0) hisR ?_
  intro p e s m args below meth c s₁ Bd hml0 hP hK
  obtain ⟨rfl, hZ, hh⟩ := hP
  have hx := Bd.exec
  have hby := Bd.bytes
  have hml : c.maxLocals = 4 := hml0
  have hown : s.vm.findClass "com/example/bounded_crawl/boundedcrawl/web/FramingEndPinLaw" = some m.cls := findClass_of_methodNamed Bd.named
  have hnm := (name_of_methodNamed Bd.named Bd.method).1
  have X0 : Stand p l e RM1 s m #[(.long q0), (.int p1)] below meth c s₁ [] 0 0 := Stand.of_body Bd
  have e0 : s₁.heap = h0 := by rw [← hh, Bd.state]; rfl
  show Goes p e below s (Q1 Z q0 p1 h0) kC1 kS1 (s₁.setTop (entryFrame m #[(.long q0), (.int p1)] 4))
  refine Goes.step (fun t k => castTop (own_ef1 m q0 p1) k) ?_
  show Goes _ _ _ _ _ _ _ (s₁.setTop (mkF m 0 #[.val (.long q0), .second, .val (.int p1), .unset] []))
  refine Goes.step (fun t k => XS.lloadN X0.here hx rfl (hb hby own_d1_0) rfl k) ?_
  show Goes _ _ _ _ _ _ _ (s₁.setTop (mkF m 1 #[.val (.long q0), .second, .val (.int p1), .unset] [(.long q0)]))
  refine Goes.step (fun t k => XS.iloadN X0.here hx rfl (hb hby own_d1_1) rfl k) ?_
  show Goes _ _ _ _ _ _ _ (s₁.setTop (mkF m 2 #[.val (.long q0), .second, .val (.int p1), .unset] [(.int p1), (.long q0)]))
  refine Goes.step (fun t k => XS.lushr X0.here hx rfl (hb hby own_d1_2) rfl k) ?_
  show Goes _ _ _ _ _ _ _ (s₁.setTop (mkF m 3 #[.val (.long q0), .second, .val (.int p1), .unset] [(.long ((q0.toUInt64 >>> (p1 &&& 0x3f).toInt64.toUInt64).toInt64))]))
  refine Goes.step (fun t k => XS.l2i X0.here hx rfl (hb hby own_d1_3) rfl k) ?_
  show Goes _ _ _ _ _ _ _ (s₁.setTop (mkF m 4 #[.val (.long q0), .second, .val (.int p1), .unset] [(.int (((q0.toUInt64 >>> (p1 &&& 0x3f).toInt64.toUInt64).toInt64).toInt32))]))
  refine Goes.step (fun t k => XS.i2b X0.here hx rfl (hb hby own_d1_4) rfl k) ?_
  show Goes _ _ _ _ _ _ _ (s₁.setTop (mkF m 5 #[.val (.long q0), .second, .val (.int p1), .unset] [(.int ((((q0.toUInt64 >>> (p1 &&& 0x3f).toInt64.toUInt64).toInt64).toInt32).toInt8.toInt32))]))
  refine Goes.step (fun t k => XS.istoreN X0.here hx rfl (hb hby own_d1_5) rfl (l' := #[.val (.long q0), .second, .val (.int p1), .val (.int ((((q0.toUInt64 >>> (p1 &&& 0x3f).toInt64.toUInt64).toInt64).toInt32).toInt8.toInt32))]) rfl k) ?_
  show Goes _ _ _ _ _ _ _ (s₁.setTop (mkF m 6 #[.val (.long q0), .second, .val (.int p1), .val (.int ((((q0.toUInt64 >>> (p1 &&& 0x3f).toInt64.toUInt64).toInt64).toInt32).toInt8.toInt32))] []))
  generalize hy1 : ((((q0.toUInt64 >>> (p1 &&& 0x3f).toInt64.toUInt64).toInt64).toInt32).toInt8.toInt32) = y1
  refine Goes.step (fun t k => XS.iloadN X0.here hx rfl (hb hby own_d1_6) rfl k) ?_
  show Goes _ _ _ _ _ _ _ (s₁.setTop (mkF m 7 #[.val (.long q0), .second, .val (.int p1), .val (.int y1)] [(.int y1)]))
  refine Goes.step (fun t k => XS.bipush X0.here hx rfl (hb hby own_d1_7) k) ?_
  show Goes _ _ _ _ _ _ _ (s₁.setTop (mkF m 9 #[.val (.long q0), .second, .val (.int p1), .val (.int y1)] [(.int (10 : Int32)), (.int y1)]))
  suffices k3 : ∀ (x3_0 : Int32), x3_0 = (if y1 = (10 : Int32) then (11 : Int32) else y1) → Goes p e below s (Q1 Z q0 p1 h0) kC1 kS1 (s₁.setTop (mkF m 18 #[.val (.long q0), .second, .val (.int p1), .val (.int y1)] [(.int x3_0)])) by
    by_cases hc9_2 : y1 = (10 : Int32)
    · refine Goes.step (fun t k => XS.icmpNo X0.here hx rfl (hb hby own_d1_9) rfl (teq hc9_2).2 k) ?_
      show Goes _ _ _ _ _ _ _ (s₁.setTop (mkF m 12 #[.val (.long q0), .second, .val (.int p1), .val (.int y1)] []))
      refine Goes.step (fun t k => XS.bipush X0.here hx rfl (hb hby own_d1_12) k) ?_
      show Goes _ _ _ _ _ _ _ (s₁.setTop (mkF m 14 #[.val (.long q0), .second, .val (.int p1), .val (.int y1)] [(.int (11 : Int32))]))
      refine Goes.step (fun t k => XS.goto X0.here hx rfl (pc0 := 14) (pc' := 18) rfl (hb hby own_d1_14) (by decide) (by decide) k) ?_
      show Goes _ _ _ _ _ _ _ (s₁.setTop (mkF m 18 #[.val (.long q0), .second, .val (.int p1), .val (.int y1)] [(.int (11 : Int32))]))
      exact k3 _ (if_pos hc9_2).symm
    · refine Goes.step (fun t k => XS.icmpYes X0.here hx rfl (pc0 := 9) (pc' := 17) rfl (hb hby own_d1_9) rfl (feq hc9_2).2 (by decide) (by decide) k) ?_
      show Goes _ _ _ _ _ _ _ (s₁.setTop (mkF m 17 #[.val (.long q0), .second, .val (.int p1), .val (.int y1)] []))
      refine Goes.step (fun t k => XS.iloadN X0.here hx rfl (hb hby own_d1_17) rfl k) ?_
      show Goes _ _ _ _ _ _ _ (s₁.setTop (mkF m 18 #[.val (.long q0), .second, .val (.int p1), .val (.int y1)] [(.int y1)]))
      exact k3 _ (if_neg hc9_2).symm
  intro x3_0 hx3_0
  subst hx3_0
  subst hy1
  exact Goes.retZ X0 hx Bd.notSynchronized (r := (f1 q0 p1)) Bd.returns (by simp) (hb hby own_d1_18) rfl ⟨rfl, rfl, e0⟩ (by decide) (by decide)
theorem own_d6_0 : decode jdk_2038_method_1_code 0 = .ok (.aload_n 0, 1) := by decide +kernel
theorem own_d6_1 : decode jdk_2038_method_1_code 1 = .ok (.invokespecial 1, 3) := by decide +kernel
theorem own_d6_4 : decode jdk_2038_method_1_code 4 = .ok (.return_, 1) := by decide +kernel
theorem own_ef6 (m : MethodId) (a0 : Addr) : entryFrame m #[(.ref a0)] 1 = mkF m 0 #[.val (.ref a0)] [] := by first | (simp [entryFrame, mkF, argsToLocals, Value.category, maxLocals]; done) | rfl
abbrev RM6 : Room := ({ frames := 1, cells := 0, slots := 0, locals := 12 } : Room)
abbrev kC6 : Nat := 0
abbrev kS6 : Nat := 0
def Q6 (Z : State) (a0 : Addr) (h0 : Heap) (v : Option Value) (h : Heap) (L : List Loc) : Prop := v = none ∧ L = [] ∧ h = h0
set_option maxRecDepth 65536 in
set_option maxHeartbeats 40000000 in
theorem rm6 (l : Launch) (Z : State) (tA : Array Value) (hw : ∀ d ∈ tables_1, d.before tA Z = true) (ws : List Jvm.Cond) (a0 : Addr) (h0 : Heap)  :
    MetFree l (⟨"java/io/OutputStream", "<init>", "()V"⟩ : MethodName) (head1 (Jvm.Cond.code (⟨"java/io/OutputStream", "<init>", "()V"⟩ : MethodName) jdk_2038_method_1_code 1 none :: ws) RM6) (fun a U => a = #[(.ref a0)] ∧ Z.Warmed39 U.vm ∧ U.heap = h0) (fun _ _ _ _ _ => True) (fun _ U o U' => ∃ v L, o = .returned v ∧ Q6 Z a0 h0 v U'.heap L ∧ FrameEnd U o U' L RM6.cells RM6.slots) := by
  refine MetFree.of_bodySF (plainFor_of_name own_pn1) hisR ?_
  intro p e s m args below meth c s₁ Bd hml0 hP hK
  obtain ⟨rfl, hZ, hh⟩ := hP
  have hx := Bd.exec
  have hby := Bd.bytes
  have hml : c.maxLocals = 1 := hml0
  have hown : s.vm.findClass "java/io/OutputStream" = some m.cls := findClass_of_methodNamed Bd.named
  have hnm := (name_of_methodNamed Bd.named Bd.method).1
  have X0 : Stand p l e RM6 s m #[(.ref a0)] below meth c s₁ [] 0 0 := Stand.of_body Bd
  have e0 : s₁.heap = h0 := by rw [← hh, Bd.state]; rfl
  show Goes p e below s (Q6 Z a0 h0) kC6 kS6 (s₁.setTop (entryFrame m #[(.ref a0)] 1))
  refine Goes.step (fun t k => castTop (own_ef6 m a0) k) ?_
  show Goes _ _ _ _ _ _ _ (s₁.setTop (mkF m 0 #[.val (.ref a0)] []))
  refine Goes.step (fun t k => XS.aloadN X0.here hx rfl (hb hby own_d6_0) rfl rfl k) ?_
  show Goes _ _ _ _ _ _ _ (s₁.setTop (mkF m 1 #[.val (.ref a0)] [(.ref a0)]))
  obtain ⟨T1, X1, e1, st1⟩ := initO X0 hx hZ hown (hw _ (List.mem_of_getElem? (i := 30) rfl)) (hw _ (List.mem_of_getElem? (i := 12) rfl)) (hw _ (List.mem_of_getElem? (i := 13) rfl)) e0 (g := (mkF m 1 #[.val (.ref a0)] [(.ref a0)])) rfl (by rw [hml]; rfl) rfl (hb hby own_d6_1) (by decide) (W := 0) (by show 2 * 0 + _ ≤ _; exact Nat.le_of_eq rfl) (by decide)
  refine Goes.step (fun t k => st1 t k) ?_
  show Goes _ _ _ _ _ _ _ (T1.setTop (mkF m 4 #[.val (.ref a0)] []))
  exact Goes.retV X1 hx Bd.notSynchronized Bd.returns (hb hby own_d6_4) ⟨rfl, rfl, e1⟩ (by decide) (by decide)
theorem own_d5_0 : decode jdk_2005_method_2_code 0 = .ok (.aload_n 0, 1) := by decide +kernel
theorem own_d5_1 : decode jdk_2005_method_2_code 1 = .ok (.invokespecial 7, 3) := by decide +kernel
theorem own_d5_4 : decode jdk_2005_method_2_code 4 = .ok (.iload_n 1, 1) := by decide +kernel
theorem own_d5_5 : decode jdk_2005_method_2_code 5 = .ok (.ifCond .ge 30, 3) := by decide +kernel
theorem own_d5_35 : decode jdk_2005_method_2_code 35 = .ok (.aload_n 0, 1) := by decide +kernel
theorem own_d5_36 : decode jdk_2005_method_2_code 36 = .ok (.iload_n 1, 1) := by decide +kernel
theorem own_d5_37 : decode jdk_2005_method_2_code 37 = .ok (.newarray .byte, 2) := by decide +kernel
theorem own_d5_39 : decode jdk_2005_method_2_code 39 = .ok (.putfield 33, 3) := by decide +kernel
theorem own_d5_42 : decode jdk_2005_method_2_code 42 = .ok (.return_, 1) := by decide +kernel
theorem own_ef5 (m : MethodId) (a0 : Addr) : entryFrame m #[(.ref a0), (.int (32 : Int32))] 2 = mkF m 0 #[.val (.ref a0), .val (.int (32 : Int32))] [] := by first | (simp [entryFrame, mkF, argsToLocals, Value.category, maxLocals]; done) | rfl
abbrev RM5 : Room := ({ frames := 2, cells := 1, slots := 32, locals := 24 } : Room)
abbrev kC5 : Nat := 1
abbrev kS5 : Nat := 32
def Q5 (Z : State) (a0 : Addr) (h0 : Heap) (n0 : Nat) (v : Option Value) (h : Heap) (L : List Loc) : Prop := ∃ b3 : Addr, v = none ∧ Fr n0 L ∧ Keep h0 h [a0] ∧ h0.size ≤ b3 ∧ Exa Z h a0 "java/io/ByteArrayOutputStream" ∧ Fld Z h a0 "java/io/ByteArrayOutputStream" "buf" "[B" (.ref b3) ∧ Fld Z h a0 "java/io/ByteArrayOutputStream" "count" "I" (.int (0 : Int32)) ∧ Ara Z h b3 .byte [(.int (0 : Int32)), (.int (0 : Int32)), (.int (0 : Int32)), (.int (0 : Int32)), (.int (0 : Int32)), (.int (0 : Int32)), (.int (0 : Int32)), (.int (0 : Int32)), (.int (0 : Int32)), (.int (0 : Int32)), (.int (0 : Int32)), (.int (0 : Int32)), (.int (0 : Int32)), (.int (0 : Int32)), (.int (0 : Int32)), (.int (0 : Int32)), (.int (0 : Int32)), (.int (0 : Int32)), (.int (0 : Int32)), (.int (0 : Int32)), (.int (0 : Int32)), (.int (0 : Int32)), (.int (0 : Int32)), (.int (0 : Int32)), (.int (0 : Int32)), (.int (0 : Int32)), (.int (0 : Int32)), (.int (0 : Int32)), (.int (0 : Int32)), (.int (0 : Int32)), (.int (0 : Int32)), (.int (0 : Int32))] ∧ Mon h a0
set_option maxRecDepth 65536 in
set_option maxHeartbeats 40000000 in
theorem rm5 (l : Launch) (Z : State) (tA : Array Value) (hw : ∀ d ∈ tables_1, d.before tA Z = true) (ws : List Jvm.Cond) (a0 : Addr) (h0 : Heap) (n0 : Nat) (Z0 : n0 ≤ h0.size) (H0 : Exa Z h0 a0 "java/io/ByteArrayOutputStream") (H1 : Fld Z h0 a0 "java/io/ByteArrayOutputStream" "buf" "[B" .null) (H2 : Fld Z h0 a0 "java/io/ByteArrayOutputStream" "count" "I" (.int (0 : Int32))) (H3 : Mon h0 a0) (g_a0 : n0 ≤ a0) :
    MetFree l (⟨"java/io/ByteArrayOutputStream", "<init>", "(I)V"⟩ : MethodName) (head1 (Jvm.Cond.code (⟨"java/io/ByteArrayOutputStream", "<init>", "(I)V"⟩ : MethodName) jdk_2005_method_2_code 2 none :: ws) RM5) (fun a U => a = #[(.ref a0), (.int (32 : Int32))] ∧ Z.Warmed39 U.vm ∧ U.heap = h0) (fun _ _ _ _ _ => True) (fun _ U o U' => ∃ v L, o = .returned v ∧ Q5 Z a0 h0 n0 v U'.heap L ∧ FrameEnd U o U' L RM5.cells RM5.slots) := by
  refine MetFree.of_bodySF (plainFor_of_name own_pn2) hisR ?_
  intro p e s m args below meth c s₁ Bd hml0 hP hK
  obtain ⟨rfl, hZ, hh⟩ := hP
  have hx := Bd.exec
  have hby := Bd.bytes
  have hml : c.maxLocals = 2 := hml0
  have hown : s.vm.findClass "java/io/ByteArrayOutputStream" = some m.cls := findClass_of_methodNamed Bd.named
  have hnm := (name_of_methodNamed Bd.named Bd.method).1
  have X0 : Stand p l e RM5 s m #[(.ref a0), (.int (32 : Int32))] below meth c s₁ [] 0 0 := Stand.of_body Bd
  have e0 : s₁.heap = h0 := by rw [← hh, Bd.state]; rfl
  have N0 := Fr.nil n0
  show Goes p e below s (Q5 Z a0 h0 n0) kC5 kS5 (s₁.setTop (entryFrame m #[(.ref a0), (.int (32 : Int32))] 2))
  refine Goes.step (fun t k => castTop (own_ef5 m a0) k) ?_
  show Goes _ _ _ _ _ _ _ (s₁.setTop (mkF m 0 #[.val (.ref a0), .val (.int (32 : Int32))] []))
  refine Goes.step (fun t k => XS.aloadN X0.here hx rfl (hb hby own_d5_0) rfl rfl k) ?_
  show Goes _ _ _ _ _ _ _ (s₁.setTop (mkF m 1 #[.val (.ref a0), .val (.int (32 : Int32))] [(.ref a0)]))
  obtain ⟨_, _, ⟨T1, L1, k1, n1⟩, -, X1, ⟨Lc1, hQ1, l1, y1, z1⟩, st1⟩ := X0.specialBack hx (y := (⟨"java/io/OutputStream", "<init>", "()V"⟩ : MethodName)) rfl hown (mvT hZ (hw _ (List.mem_of_getElem? (i := 24) rfl))) (mvT hZ (hw _ (List.mem_of_getElem? (i := 25) rfl))) (mvT hZ (hw _ (List.mem_of_getElem? (i := 29) rfl))) (by decide) (backOf (W := 0) (rm6 l Z tA hw [] a0 h0) hZ (hw _ (List.mem_of_getElem? (i := 29) rfl)) (hw _ (List.mem_of_getElem? (i := 28) rfl)) (by decide) (by decide)) (g := (mkF m 1 #[.val (.ref a0), .val (.int (32 : Int32))] [(.ref a0)])) rfl (by rw [hml]; rfl) (Steps.refl _) (a := a0) (argsL := []) (rest := []) (lenOf own_pd0 rfl) rfl (by show 2 * 0 + _ ≤ _; exact Nat.le_of_eq rfl) (hb hby own_d5_1) (fun _ _ => ⟨rfl, e0, (by decide : 0 + 0 ≤ _), (by decide : 0 + 0 ≤ _)⟩)
  dsimp only [Pt.U, Pt.locs, Pt.cells, Pt.slots] at X1 l1 y1 z1 st1 hQ1
  rw [l1, y1, z1] at X1
  obtain ⟨rfl, rfl, e1⟩ := hQ1
  try rw [List.append_nil] at X1
  change Stand _ _ _ _ _ _ _ _ _ _ _ _ 0 0 at X1
  refine Goes.step (fun t k => st1.trans k) ?_
  show Goes _ _ _ _ _ _ _ (T1.setTop (mkF m 4 #[.val (.ref a0), .val (.int (32 : Int32))] []))
  refine Goes.step (fun t k => XS.iloadN X1.here hx rfl (hb hby own_d5_4) rfl k) ?_
  show Goes _ _ _ _ _ _ _ (T1.setTop (mkF m 5 #[.val (.ref a0), .val (.int (32 : Int32))] [(.int (32 : Int32))]))
  refine Goes.step (fun t k => XS.ifYes X1.here hx rfl (pc0 := 5) (pc' := 35) rfl (hb hby own_d5_5) rfl ((if0 _ _).trans (flt (by decide)).2.1) (by decide) (by decide) k) ?_
  show Goes _ _ _ _ _ _ _ (T1.setTop (mkF m 35 #[.val (.ref a0), .val (.int (32 : Int32))] []))
  refine Goes.step (fun t k => XS.aloadN X1.here hx rfl (hb hby own_d5_35) rfl rfl k) ?_
  show Goes _ _ _ _ _ _ _ (T1.setTop (mkF m 36 #[.val (.ref a0), .val (.int (32 : Int32))] [(.ref a0)]))
  refine Goes.step (fun t k => XS.iloadN X1.here hx rfl (hb hby own_d5_36) rfl k) ?_
  show Goes _ _ _ _ _ _ _ (T1.setTop (mkF m 37 #[.val (.ref a0), .val (.int (32 : Int32))] [(.int (32 : Int32)), (.ref a0)]))
  obtain ⟨T3, h3, k3, X3, e3, E3, A3, st3⟩ := newP X1 hx hZ (hw _ (List.mem_of_getElem? (i := 0) rfl)) e1 (g := (mkF m 37 #[.val (.ref a0), .val (.int (32 : Int32))] [(.int (32 : Int32)), (.ref a0)])) rfl (hb hby own_d5_37) rfl (by decide) (cap := 32) (by decide) (by decide) (by decide) (by decide)
  obtain ⟨b3, g3⟩ : ∃ z, z = h0.size := ⟨_, rfl⟩
  rw [← g3] at A3 st3
  have ne_a0_b3 : a0 ≠ b3 := Nat.ne_of_lt (Nat.lt_of_lt_of_le H0.lt (Nat.le_of_eq g3.symm))
  have Zs3 : n0 ≤ b3 := Nat.le_trans Z0 (Nat.le_of_eq g3.symm)
  have Zh3 : h0.size ≤ b3 := Nat.le_trans (Keep.refl h0 [a0]).1 (Nat.le_of_eq g3.symm)
  have F4 := H0.ext E3
  have F5 := H1.ext E3
  have F6 := H2.ext E3
  have F7 := H3.ext E3
  have K3 := (Keep.refl h0 [a0]).ext E3
  have Z3 := Nat.le_trans Z0 E3.1
  have V3 : Ara Z h3 b3 .byte [(.int (0 : Int32)), (.int (0 : Int32)), (.int (0 : Int32)), (.int (0 : Int32)), (.int (0 : Int32)), (.int (0 : Int32)), (.int (0 : Int32)), (.int (0 : Int32)), (.int (0 : Int32)), (.int (0 : Int32)), (.int (0 : Int32)), (.int (0 : Int32)), (.int (0 : Int32)), (.int (0 : Int32)), (.int (0 : Int32)), (.int (0 : Int32)), (.int (0 : Int32)), (.int (0 : Int32)), (.int (0 : Int32)), (.int (0 : Int32)), (.int (0 : Int32)), (.int (0 : Int32)), (.int (0 : Int32)), (.int (0 : Int32)), (.int (0 : Int32)), (.int (0 : Int32)), (.int (0 : Int32)), (.int (0 : Int32)), (.int (0 : Int32)), (.int (0 : Int32)), (.int (0 : Int32)), (.int (0 : Int32))] := Ara.new A3 (by decide) rfl (fun _ q => nomatch q)
  refine Goes.step (fun t k => st3 t k) ?_
  show Goes _ _ _ _ _ _ _ (T3.setTop (mkF m 39 #[.val (.ref a0), .val (.int (32 : Int32))] [(.ref b3), (.ref a0)]))
  obtain ⟨T8, h8, X8, e8, W8, st8⟩ := putF X3 hx hZ hown (host := "") (Or.inl (hw _ (List.mem_of_getElem? (i := 31) rfl))) Via.refl e3 F5 F4 (Or.inl (hw _ (List.mem_of_getElem? (i := 32) rfl))) (hw _ (List.mem_of_getElem? (i := 15) rfl)) (ty := (.array .byte)) (by decide) rfl rfl (g := (mkF m 39 #[.val (.ref a0), .val (.int (32 : Int32))] [(.ref b3), (.ref a0)])) rfl rfl (hb hby own_d5_39)
  have Fw8 := F5.same W8
  have F9 := F4.wr W8
  have F10 := F6.other W8 (Or.inr (slot_ne (Or.inl (hw _ (List.mem_of_getElem? (i := 86) rfl))) (Or.inl (hw _ (List.mem_of_getElem? (i := 32) rfl))) (by decide) (t := .int) (t' := (.array .byte)) (by decide) (by decide)))
  have F11 := F7.wr W8
  have F12 := V3.other W8 (Ne.symm ne_a0_b3)
  have K8 := K3.wr W8 (Or.inl (List.mem_of_getElem? (i := 0) rfl))
  have N8 := Fr.snoc X8 N0 g_a0
  have Z8 := Nat.le_trans Z3 (Nat.le_of_eq W8.size.symm)
  refine Goes.step (fun t k => st8 t k) ?_
  show Goes _ _ _ _ _ _ _ (T8.setTop (mkF m 42 #[.val (.ref a0), .val (.int (32 : Int32))] []))
  exact Goes.retV X8 hx Bd.notSynchronized Bd.returns (hb hby own_d5_42) (by rw [e8]; exact ⟨b3, rfl, N8, K8, Zh3, F9, Fw8, F10, F12, F11⟩) (by decide) (by decide)
theorem own_d4_0 : decode jdk_2005_method_1_code 0 = .ok (.aload_n 0, 1) := by decide +kernel
theorem own_d4_1 : decode jdk_2005_method_1_code 1 = .ok (.bipush 32, 2) := by decide +kernel
theorem own_d4_3 : decode jdk_2005_method_1_code 3 = .ok (.invokespecial 1, 3) := by decide +kernel
theorem own_d4_6 : decode jdk_2005_method_1_code 6 = .ok (.return_, 1) := by decide +kernel
theorem own_ef4 (m : MethodId) (a0 : Addr) : entryFrame m #[(.ref a0)] 1 = mkF m 0 #[.val (.ref a0)] [] := by first | (simp [entryFrame, mkF, argsToLocals, Value.category, maxLocals]; done) | rfl
abbrev RM4 : Room := ({ frames := 3, cells := 1, slots := 32, locals := 37 } : Room)
abbrev kC4 : Nat := 1
abbrev kS4 : Nat := 32
def Q4 (Z : State) (a0 : Addr) (h0 : Heap) (n0 : Nat) (v : Option Value) (h : Heap) (L : List Loc) : Prop := ∃ r1_0 : Addr, v = none ∧ Fr n0 L ∧ Keep h0 h [a0] ∧ h0.size ≤ r1_0 ∧ Exa Z h a0 "java/io/ByteArrayOutputStream" ∧ Fld Z h a0 "java/io/ByteArrayOutputStream" "buf" "[B" (.ref r1_0) ∧ Fld Z h a0 "java/io/ByteArrayOutputStream" "count" "I" (.int (0 : Int32)) ∧ Ara Z h r1_0 .byte [(.int (0 : Int32)), (.int (0 : Int32)), (.int (0 : Int32)), (.int (0 : Int32)), (.int (0 : Int32)), (.int (0 : Int32)), (.int (0 : Int32)), (.int (0 : Int32)), (.int (0 : Int32)), (.int (0 : Int32)), (.int (0 : Int32)), (.int (0 : Int32)), (.int (0 : Int32)), (.int (0 : Int32)), (.int (0 : Int32)), (.int (0 : Int32)), (.int (0 : Int32)), (.int (0 : Int32)), (.int (0 : Int32)), (.int (0 : Int32)), (.int (0 : Int32)), (.int (0 : Int32)), (.int (0 : Int32)), (.int (0 : Int32)), (.int (0 : Int32)), (.int (0 : Int32)), (.int (0 : Int32)), (.int (0 : Int32)), (.int (0 : Int32)), (.int (0 : Int32)), (.int (0 : Int32)), (.int (0 : Int32))] ∧ Mon h a0
set_option maxRecDepth 65536 in
set_option maxHeartbeats 40000000 in
theorem rm4 (l : Launch) (Z : State) (tA : Array Value) (hw : ∀ d ∈ tables_1, d.before tA Z = true) (ws : List Jvm.Cond) (a0 : Addr) (h0 : Heap) (n0 : Nat) (Z0 : n0 ≤ h0.size) (H0 : Exa Z h0 a0 "java/io/ByteArrayOutputStream") (H1 : Fld Z h0 a0 "java/io/ByteArrayOutputStream" "buf" "[B" .null) (H2 : Fld Z h0 a0 "java/io/ByteArrayOutputStream" "count" "I" (.int (0 : Int32))) (H3 : Mon h0 a0) (g_a0 : n0 ≤ a0) :
    MetFree l (⟨"java/io/ByteArrayOutputStream", "<init>", "()V"⟩ : MethodName) (head1 (Jvm.Cond.code (⟨"java/io/ByteArrayOutputStream", "<init>", "()V"⟩ : MethodName) jdk_2005_method_1_code 1 none :: ws) RM4) (fun a U => a = #[(.ref a0)] ∧ Z.Warmed39 U.vm ∧ U.heap = h0) (fun _ _ _ _ _ => True) (fun _ U o U' => ∃ v L, o = .returned v ∧ Q4 Z a0 h0 n0 v U'.heap L ∧ FrameEnd U o U' L RM4.cells RM4.slots) := by
  refine MetFree.of_bodySF (plainFor_of_name own_pn2) hisR ?_
  intro p e s m args below meth c s₁ Bd hml0 hP hK
  obtain ⟨rfl, hZ, hh⟩ := hP
  have hx := Bd.exec
  have hby := Bd.bytes
  have hml : c.maxLocals = 1 := hml0
  have hown : s.vm.findClass "java/io/ByteArrayOutputStream" = some m.cls := findClass_of_methodNamed Bd.named
  have hnm := (name_of_methodNamed Bd.named Bd.method).1
  have X0 : Stand p l e RM4 s m #[(.ref a0)] below meth c s₁ [] 0 0 := Stand.of_body Bd
  have e0 : s₁.heap = h0 := by rw [← hh, Bd.state]; rfl
  have N0 := Fr.nil n0
  show Goes p e below s (Q4 Z a0 h0 n0) kC4 kS4 (s₁.setTop (entryFrame m #[(.ref a0)] 1))
  refine Goes.step (fun t k => castTop (own_ef4 m a0) k) ?_
  show Goes _ _ _ _ _ _ _ (s₁.setTop (mkF m 0 #[.val (.ref a0)] []))
  refine Goes.step (fun t k => XS.aloadN X0.here hx rfl (hb hby own_d4_0) rfl rfl k) ?_
  show Goes _ _ _ _ _ _ _ (s₁.setTop (mkF m 1 #[.val (.ref a0)] [(.ref a0)]))
  refine Goes.step (fun t k => XS.bipush X0.here hx rfl (hb hby own_d4_1) k) ?_
  show Goes _ _ _ _ _ _ _ (s₁.setTop (mkF m 3 #[.val (.ref a0)] [(.int (32 : Int32)), (.ref a0)]))
  obtain ⟨_, _, ⟨T1, L1, k1, n1⟩, -, X1, ⟨Lc1, hQ1, l1, y1, z1⟩, st1⟩ := X0.specialBack hx (y := (⟨"java/io/ByteArrayOutputStream", "<init>", "(I)V"⟩ : MethodName)) rfl hown (mvT hZ (hw _ (List.mem_of_getElem? (i := 20) rfl))) (mvT hZ (hw _ (List.mem_of_getElem? (i := 21) rfl))) (mvT hZ (hw _ (List.mem_of_getElem? (i := 23) rfl))) (by decide) (backOf (W := 0) (rm5 l Z tA hw [] a0 h0 n0 Z0 H0 H1 H2 H3 g_a0) hZ (hw _ (List.mem_of_getElem? (i := 23) rfl)) (hw _ (List.mem_of_getElem? (i := 16) rfl)) (by decide) (by decide)) (g := (mkF m 3 #[.val (.ref a0)] [(.int (32 : Int32)), (.ref a0)])) rfl (by rw [hml]; rfl) (Steps.refl _) (a := a0) (argsL := [(.int (32 : Int32))]) (rest := []) (lenOf own_pd1 rfl) rfl (by show 2 * 0 + _ ≤ _; exact Nat.le_of_eq rfl) (hb hby own_d4_3) (fun _ _ => ⟨rfl, e0, (by decide : 0 + 1 ≤ _), (by decide : 0 + 32 ≤ _)⟩)
  dsimp only [Pt.U, Pt.locs, Pt.cells, Pt.slots] at X1 l1 y1 z1 st1 hQ1
  rw [l1, y1, z1] at X1
  generalize e1 : T1.heap = h1 at hQ1
  obtain ⟨r1_0, rfl, Nq1, Kq1, Zf1_r1_0, G1_0, G1_1, G1_2, G1_3, G1_4⟩ := hQ1
  have ne_a0_r1_0 : a0 ≠ r1_0 := Nat.ne_of_lt (Nat.lt_of_lt_of_le H0.lt Zf1_r1_0)
  have Zs1_r1_0 := Nat.le_trans Z0 Zf1_r1_0
  have Zh1_r1_0 := Nat.le_trans (Keep.refl h0 [a0]).1 Zf1_r1_0
  have N1 := Fr.app N0 Nq1
  have K1 := (Keep.refl h0 [a0]).trans Kq1 (allS (Or.inl (List.mem_of_getElem? (i := 0) rfl)) all0)
  have Z1 := Nat.le_trans Z0 Kq1.1
  change Stand _ _ _ _ _ _ _ _ _ _ _ _ 1 32 at X1
  refine Goes.step (fun t k => st1.trans k) ?_
  show Goes _ _ _ _ _ _ _ (T1.setTop (mkF m 6 #[.val (.ref a0)] []))
  exact Goes.retV X1 hx Bd.notSynchronized Bd.returns (hb hby own_d4_6) (by rw [e1]; exact ⟨r1_0, rfl, N1, K1, Zh1_r1_0, G1_0, G1_1, G1_2, G1_3, G1_4⟩) (by decide) (by decide)
theorem own_d2_0 : decode prog_44_method_1_code 0 = .ok (.aload_n 0, 1) := by decide +kernel
theorem own_d2_1 : decode prog_44_method_1_code 1 = .ok (.invokespecial 1, 3) := by decide +kernel
theorem own_d2_4 : decode prog_44_method_1_code 4 = .ok (.aload_n 0, 1) := by decide +kernel
theorem own_d2_5 : decode prog_44_method_1_code 5 = .ok (.new 7, 3) := by decide +kernel
theorem own_d2_8 : decode prog_44_method_1_code 8 = .ok (.dup, 1) := by decide +kernel
theorem own_d2_9 : decode prog_44_method_1_code 9 = .ok (.invokespecial 9, 3) := by decide +kernel
theorem own_d2_12 : decode prog_44_method_1_code 12 = .ok (.putfield 10, 3) := by decide +kernel
theorem own_d2_15 : decode prog_44_method_1_code 15 = .ok (.aload_n 0, 1) := by decide +kernel
theorem own_d2_16 : decode prog_44_method_1_code 16 = .ok (.new 7, 3) := by decide +kernel
theorem own_d2_19 : decode prog_44_method_1_code 19 = .ok (.dup, 1) := by decide +kernel
theorem own_d2_20 : decode prog_44_method_1_code 20 = .ok (.invokespecial 9, 3) := by decide +kernel
theorem own_d2_23 : decode prog_44_method_1_code 23 = .ok (.putfield 16, 3) := by decide +kernel
theorem own_d2_26 : decode prog_44_method_1_code 26 = .ok (.aload_n 0, 1) := by decide +kernel
theorem own_d2_27 : decode prog_44_method_1_code 27 = .ok (.getstatic 19, 3) := by decide +kernel
theorem own_d2_30 : decode prog_44_method_1_code 30 = .ok (.putfield 25, 3) := by decide +kernel
theorem own_d2_33 : decode prog_44_method_1_code 33 = .ok (.aload_n 0, 1) := by decide +kernel
theorem own_d2_34 : decode prog_44_method_1_code 34 = .ok (.iconst 1, 1) := by decide +kernel
theorem own_d2_35 : decode prog_44_method_1_code 35 = .ok (.putfield 28, 3) := by decide +kernel
theorem own_d2_38 : decode prog_44_method_1_code 38 = .ok (.return_, 1) := by decide +kernel
theorem own_ef2 (m : MethodId) (a0 : Addr) : entryFrame m #[(.ref a0)] 1 = mkF m 0 #[.val (.ref a0)] [] := by first | (simp [entryFrame, mkF, argsToLocals, Value.category, maxLocals]; done) | rfl
abbrev RM2 : Room := ({ frames := 4, cells := 4, slots := 68, locals := 51 } : Room)
abbrev kC2 : Nat := 4
abbrev kS2 : Nat := 68
def Q2 (Z : State) (a0 : Addr) (wSL : Addr) (h0 : Heap) (n0 : Nat) (v : Option Value) (h : Heap) (L : List Loc) : Prop := ∃ b2 : Addr, ∃ r17_0 : Addr, v = none ∧ Fr n0 L ∧ Keep h0 h [a0] ∧ h0.size ≤ b2 ∧ h0.size ≤ r17_0 ∧ b2 ≠ r17_0 ∧ Exa Z h a0 "com/example/bounded_crawl/boundedcrawl/web/Framing" ∧ Fld Z h a0 "com/example/bounded_crawl/boundedcrawl/web/Framing" "statusLine" "Ljava/io/ByteArrayOutputStream;" (.ref b2) ∧ Fld Z h a0 "com/example/bounded_crawl/boundedcrawl/web/Framing" "part" "Lcom/example/bounded_crawl/boundedcrawl/web/Framing$Part;" (.ref wSL) ∧ Fld Z h a0 "com/example/bounded_crawl/boundedcrawl/web/Framing" "size" "J" (.long (0 : Int64)) ∧ Fld Z h a0 "com/example/bounded_crawl/boundedcrawl/web/Framing" "position" "J" (.long (0 : Int64)) ∧ Fld Z h a0 "com/example/bounded_crawl/boundedcrawl/web/Framing" "chunkFraming" "J" (.long (0 : Int64)) ∧ Fld Z h a0 "com/example/bounded_crawl/boundedcrawl/web/Framing" "lineLength" "I" (.int (0 : Int32)) ∧ Fld Z h a0 "com/example/bounded_crawl/boundedcrawl/web/Framing" "lineFirst" "B" (.int (0 : Int32)) ∧ Fld Z h a0 "com/example/bounded_crawl/boundedcrawl/web/Framing" "chunked" "Z" (.int (0 : Int32)) ∧ Exa Z h b2 "java/io/ByteArrayOutputStream" ∧ Fld Z h b2 "java/io/ByteArrayOutputStream" "buf" "[B" (.ref r17_0) ∧ Fld Z h b2 "java/io/ByteArrayOutputStream" "count" "I" (.int (0 : Int32)) ∧ Ara Z h r17_0 .byte [(.int (0 : Int32)), (.int (0 : Int32)), (.int (0 : Int32)), (.int (0 : Int32)), (.int (0 : Int32)), (.int (0 : Int32)), (.int (0 : Int32)), (.int (0 : Int32)), (.int (0 : Int32)), (.int (0 : Int32)), (.int (0 : Int32)), (.int (0 : Int32)), (.int (0 : Int32)), (.int (0 : Int32)), (.int (0 : Int32)), (.int (0 : Int32)), (.int (0 : Int32)), (.int (0 : Int32)), (.int (0 : Int32)), (.int (0 : Int32)), (.int (0 : Int32)), (.int (0 : Int32)), (.int (0 : Int32)), (.int (0 : Int32)), (.int (0 : Int32)), (.int (0 : Int32)), (.int (0 : Int32)), (.int (0 : Int32)), (.int (0 : Int32)), (.int (0 : Int32)), (.int (0 : Int32)), (.int (0 : Int32))] ∧ Mon h b2
set_option maxRecDepth 65536 in
set_option maxHeartbeats 40000000 in
theorem rm2 (l : Launch) (Z : State) (tA : Array Value) (hw : ∀ d ∈ tables_1, d.before tA Z = true) (ws : List Jvm.Cond) (a0 : Addr) (wSL : Addr) (h0 : Heap) (n0 : Nat) (Z0 : n0 ≤ h0.size) (H0 : Exa Z h0 a0 "com/example/bounded_crawl/boundedcrawl/web/Framing") (H1 : Fld Z h0 a0 "com/example/bounded_crawl/boundedcrawl/web/Framing" "statusLine" "Ljava/io/ByteArrayOutputStream;" .null) (H2 : Fld Z h0 a0 "com/example/bounded_crawl/boundedcrawl/web/Framing" "held" "Ljava/io/ByteArrayOutputStream;" .null) (H3 : Fld Z h0 a0 "com/example/bounded_crawl/boundedcrawl/web/Framing" "part" "Lcom/example/bounded_crawl/boundedcrawl/web/Framing$Part;" .null) (H4 : Fld Z h0 a0 "com/example/bounded_crawl/boundedcrawl/web/Framing" "chunkDigits" "Z" (.int (0 : Int32))) (H5 : Fld Z h0 a0 "com/example/bounded_crawl/boundedcrawl/web/Framing" "size" "J" (.long (0 : Int64))) (H6 : Fld Z h0 a0 "com/example/bounded_crawl/boundedcrawl/web/Framing" "position" "J" (.long (0 : Int64))) (H7 : Fld Z h0 a0 "com/example/bounded_crawl/boundedcrawl/web/Framing" "chunkFraming" "J" (.long (0 : Int64))) (H8 : Fld Z h0 a0 "com/example/bounded_crawl/boundedcrawl/web/Framing" "lineLength" "I" (.int (0 : Int32))) (H9 : Fld Z h0 a0 "com/example/bounded_crawl/boundedcrawl/web/Framing" "lineFirst" "B" (.int (0 : Int32))) (H10 : Fld Z h0 a0 "com/example/bounded_crawl/boundedcrawl/web/Framing" "chunked" "Z" (.int (0 : Int32))) (H11 : Sta Z h0 "com/example/bounded_crawl/boundedcrawl/web/Framing$Part" "STATUS_LINE" "Lcom/example/bounded_crawl/boundedcrawl/web/Framing$Part;" (.ref wSL)) (g_a0 : n0 ≤ a0) :
    MetFree l (⟨"com/example/bounded_crawl/boundedcrawl/web/Framing", "<init>", "()V"⟩ : MethodName) (head1 (Jvm.Cond.code (⟨"com/example/bounded_crawl/boundedcrawl/web/Framing", "<init>", "()V"⟩ : MethodName) prog_44_method_1_code 1 none :: ws) RM2) (fun a U => a = #[(.ref a0)] ∧ Z.Warmed39 U.vm ∧ U.heap = h0) (fun _ _ _ _ _ => True) (fun _ U o U' => ∃ v L, o = .returned v ∧ Q2 Z a0 wSL h0 n0 v U'.heap L ∧ FrameEnd U o U' L RM2.cells RM2.slots) := by
  refine MetFree.of_bodySF (plainFor_of_name own_pn3) hisR ?_
  intro p e s m args below meth c s₁ Bd hml0 hP hK
  obtain ⟨rfl, hZ, hh⟩ := hP
  have hx := Bd.exec
  have hby := Bd.bytes
  have hml : c.maxLocals = 1 := hml0
  have hown : s.vm.findClass "com/example/bounded_crawl/boundedcrawl/web/Framing" = some m.cls := findClass_of_methodNamed Bd.named
  have hnm := (name_of_methodNamed Bd.named Bd.method).1
  have X0 : Stand p l e RM2 s m #[(.ref a0)] below meth c s₁ [] 0 0 := Stand.of_body Bd
  have e0 : s₁.heap = h0 := by rw [← hh, Bd.state]; rfl
  have N0 := Fr.nil n0
  show Goes p e below s (Q2 Z a0 wSL h0 n0) kC2 kS2 (s₁.setTop (entryFrame m #[(.ref a0)] 1))
  refine Goes.step (fun t k => castTop (own_ef2 m a0) k) ?_
  show Goes _ _ _ _ _ _ _ (s₁.setTop (mkF m 0 #[.val (.ref a0)] []))
  refine Goes.step (fun t k => XS.aloadN X0.here hx rfl (hb hby own_d2_0) rfl rfl k) ?_
  show Goes _ _ _ _ _ _ _ (s₁.setTop (mkF m 1 #[.val (.ref a0)] [(.ref a0)]))
  obtain ⟨T1, X1, e1, st1⟩ := initO X0 hx hZ hown (hw _ (List.mem_of_getElem? (i := 11) rfl)) (hw _ (List.mem_of_getElem? (i := 12) rfl)) (hw _ (List.mem_of_getElem? (i := 13) rfl)) e0 (g := (mkF m 1 #[.val (.ref a0)] [(.ref a0)])) rfl (by rw [hml]; rfl) rfl (hb hby own_d2_1) (by decide) (W := 0) (by show 2 * 0 + _ ≤ _; exact Nat.le_of_eq rfl) (by decide)
  refine Goes.step (fun t k => st1 t k) ?_
  show Goes _ _ _ _ _ _ _ (T1.setTop (mkF m 4 #[.val (.ref a0)] []))
  refine Goes.step (fun t k => XS.aloadN X1.here hx rfl (hb hby own_d2_4) rfl rfl k) ?_
  show Goes _ _ _ _ _ _ _ (T1.setTop (mkF m 5 #[.val (.ref a0)] [(.ref a0)]))
  obtain ⟨T2, h2, X2, e2, E2, A2, D2, Mo2, st2⟩ := newO X1 hx hZ hown (hw _ (List.mem_of_getElem? (i := 14) rfl)) (hw _ (List.mem_of_getElem? (i := 15) rfl)) (hw _ (List.mem_of_getElem? (i := 16) rfl)) e1 (g := (mkF m 5 #[.val (.ref a0)] [(.ref a0)])) rfl (hb hby own_d2_5) (by decide) (by decide)
  obtain ⟨b2, g2⟩ : ∃ z, z = h0.size := ⟨_, rfl⟩
  rw [← g2] at A2 D2 Mo2 st2
  have ne_a0_b2 : a0 ≠ b2 := Nat.ne_of_lt (Nat.lt_of_lt_of_le H0.lt (Nat.le_of_eq g2.symm))
  have Zs2 : n0 ≤ b2 := Nat.le_trans Z0 (Nat.le_of_eq g2.symm)
  have Zh2 : h0.size ≤ b2 := Nat.le_trans (Keep.refl h0 [a0]).1 (Nat.le_of_eq g2.symm)
  have F3 := H0.ext E2
  have F4 := H1.ext E2
  have F5 := H2.ext E2
  have F6 := H3.ext E2
  have F7 := H4.ext E2
  have F8 := H5.ext E2
  have F9 := H6.ext E2
  have F10 := H7.ext E2
  have F11 := H8.ext E2
  have F12 := H9.ext E2
  have F13 := H10.ext E2
  have F14 := H11.ext E2
  have K2 := (Keep.refl h0 [a0]).ext E2
  have Z2 := Nat.le_trans Z0 E2.1
  have Mn2 := Mon.new Mo2
  have F15 : Fld Z h2 b2 "java/io/ByteArrayOutputStream" "buf" "[B" .null := D2 (Or.inl (hw _ (List.mem_of_getElem? (i := 32) rfl))) (ty := (.array .byte)) (by decide)
  have F16 : Fld Z h2 b2 "java/io/ByteArrayOutputStream" "count" "I" (.int (0 : Int32)) := D2 (Or.inl (hw _ (List.mem_of_getElem? (i := 86) rfl))) (ty := .int) (by decide)
  refine Goes.step (fun t k => st2 t k) ?_
  show Goes _ _ _ _ _ _ _ (T2.setTop (mkF m 8 #[.val (.ref a0)] [(.ref b2), (.ref a0)]))
  refine Goes.step (fun t k => XS.dup X2.here hx rfl (hb hby own_d2_8) rfl rfl k) ?_
  show Goes _ _ _ _ _ _ _ (T2.setTop (mkF m 9 #[.val (.ref a0)] [(.ref b2), (.ref b2), (.ref a0)]))
  obtain ⟨_, _, ⟨T17, L17, k17, n17⟩, -, X17, ⟨Lc17, hQ17, l17, y17, z17⟩, st17⟩ := X2.specialBack hx (y := (⟨"java/io/ByteArrayOutputStream", "<init>", "()V"⟩ : MethodName)) rfl hown (mvT hZ (hw _ (List.mem_of_getElem? (i := 17) rfl))) (mvT hZ (hw _ (List.mem_of_getElem? (i := 18) rfl))) (mvT hZ (hw _ (List.mem_of_getElem? (i := 19) rfl))) (by decide) (backOf (W := 2) (rm4 l Z tA hw [] b2 h2 n0 Z2 A2 F15 F16 Mn2 Zs2) hZ (hw _ (List.mem_of_getElem? (i := 19) rfl)) (hw _ (List.mem_of_getElem? (i := 16) rfl)) (by decide) (by decide)) (g := (mkF m 9 #[.val (.ref a0)] [(.ref b2), (.ref b2), (.ref a0)])) rfl (by rw [hml]; rfl) (Steps.refl _) (a := b2) (argsL := []) (rest := [(.ref b2), (.ref a0)]) (lenOf own_pd0 rfl) rfl (by show 2 * 0 + _ ≤ _; exact Nat.le_of_eq rfl) (hb hby own_d2_9) (fun _ _ => ⟨rfl, e2, (by decide : 1 + 1 ≤ _), (by decide : 2 + 32 ≤ _)⟩)
  dsimp only [Pt.U, Pt.locs, Pt.cells, Pt.slots] at X17 l17 y17 z17 st17 hQ17
  rw [l17, y17, z17] at X17
  generalize e17 : T17.heap = h17 at hQ17
  obtain ⟨r17_0, rfl, Nq17, Kq17, Zf17_r17_0, G17_0, G17_1, G17_2, G17_3, G17_4⟩ := hQ17
  have ne_a0_r17_0 : a0 ≠ r17_0 := Nat.ne_of_lt (Nat.lt_of_lt_of_le F3.lt Zf17_r17_0)
  have ne_b2_r17_0 : b2 ≠ r17_0 := Nat.ne_of_lt (Nat.lt_of_lt_of_le A2.lt Zf17_r17_0)
  have Zs17_r17_0 := Nat.le_trans Z2 Zf17_r17_0
  have Zh17_r17_0 := Nat.le_trans K2.1 Zf17_r17_0
  have F18 := F3.keep Kq17
  have F19 := F4.keep Kq17 (ninS ne_a0_b2 nin0)
  have F20 := F5.keep Kq17 (ninS ne_a0_b2 nin0)
  have F21 := F6.keep Kq17 (ninS ne_a0_b2 nin0)
  have F22 := F7.keep Kq17 (ninS ne_a0_b2 nin0)
  have F23 := F8.keep Kq17 (ninS ne_a0_b2 nin0)
  have F24 := F9.keep Kq17 (ninS ne_a0_b2 nin0)
  have F25 := F10.keep Kq17 (ninS ne_a0_b2 nin0)
  have F26 := F11.keep Kq17 (ninS ne_a0_b2 nin0)
  have F27 := F12.keep Kq17 (ninS ne_a0_b2 nin0)
  have F28 := F13.keep Kq17 (ninS ne_a0_b2 nin0)
  have F29 := own_sta_keep F14 Kq17 (allS (notsta_exa A2) all0)
  have N17 := Fr.app N0 Nq17
  have K17 := K2.trans Kq17 (allS (Or.inr Zh2) all0)
  have Z17 := Nat.le_trans Z2 Kq17.1
  change Stand _ _ _ _ _ _ _ _ _ _ _ _ 2 34 at X17
  refine Goes.step (fun t k => st17.trans k) ?_
  show Goes _ _ _ _ _ _ _ (T17.setTop (mkF m 12 #[.val (.ref a0)] [(.ref b2), (.ref a0)]))
  obtain ⟨T30, h30, X30, e30, W30, st30⟩ := putF X17 hx hZ hown (host := "") (Or.inl (hw _ (List.mem_of_getElem? (i := 33) rfl))) Via.refl e17 F19 F18 (Or.inr ⟨(hw _ (List.mem_of_getElem? (i := 34) rfl)), rfl, hnm⟩) (hw _ (List.mem_of_getElem? (i := 6) rfl)) (ty := (.object "java/io/ByteArrayOutputStream")) (by decide) rfl rfl (g := (mkF m 12 #[.val (.ref a0)] [(.ref b2), (.ref a0)])) rfl rfl (hb hby own_d2_12)
  have Fw30 := F19.same W30
  have F31 := F18.wr W30
  have F32 := F20.other W30 (Or.inr (slot_ne (Or.inr (hw _ (List.mem_of_getElem? (i := 36) rfl))) (Or.inr (hw _ (List.mem_of_getElem? (i := 34) rfl))) (by decide) (t := (.object "java/io/ByteArrayOutputStream")) (t' := (.object "java/io/ByteArrayOutputStream")) (by decide) (by decide)))
  have F33 := F21.other W30 (Or.inr (slot_ne (Or.inl (hw _ (List.mem_of_getElem? (i := 41) rfl))) (Or.inr (hw _ (List.mem_of_getElem? (i := 34) rfl))) (by decide) (t := (.object "com/example/bounded_crawl/boundedcrawl/web/Framing$Part")) (t' := (.object "java/io/ByteArrayOutputStream")) (by decide) (by decide)))
  have F34 := F22.other W30 (Or.inr (slot_ne (Or.inl (hw _ (List.mem_of_getElem? (i := 43) rfl))) (Or.inr (hw _ (List.mem_of_getElem? (i := 34) rfl))) (by decide) (t := .boolean) (t' := (.object "java/io/ByteArrayOutputStream")) (by decide) (by decide)))
  have F35 := F23.other W30 (Or.inr (slot_ne (Or.inl (hw _ (List.mem_of_getElem? (i := 50) rfl))) (Or.inr (hw _ (List.mem_of_getElem? (i := 34) rfl))) (by decide) (t := .long) (t' := (.object "java/io/ByteArrayOutputStream")) (by decide) (by decide)))
  have F36 := F24.other W30 (Or.inr (slot_ne (Or.inl (hw _ (List.mem_of_getElem? (i := 62) rfl))) (Or.inr (hw _ (List.mem_of_getElem? (i := 34) rfl))) (by decide) (t := .long) (t' := (.object "java/io/ByteArrayOutputStream")) (by decide) (by decide)))
  have F37 := F25.other W30 (Or.inr (slot_ne (Or.inl (hw _ (List.mem_of_getElem? (i := 64) rfl))) (Or.inr (hw _ (List.mem_of_getElem? (i := 34) rfl))) (by decide) (t := .long) (t' := (.object "java/io/ByteArrayOutputStream")) (by decide) (by decide)))
  have F38 := F26.other W30 (Or.inr (slot_ne (Or.inl (hw _ (List.mem_of_getElem? (i := 77) rfl))) (Or.inr (hw _ (List.mem_of_getElem? (i := 34) rfl))) (by decide) (t := .int) (t' := (.object "java/io/ByteArrayOutputStream")) (by decide) (by decide)))
  have F39 := F27.other W30 (Or.inr (slot_ne (Or.inl (hw _ (List.mem_of_getElem? (i := 79) rfl))) (Or.inr (hw _ (List.mem_of_getElem? (i := 34) rfl))) (by decide) (t := .byte) (t' := (.object "java/io/ByteArrayOutputStream")) (by decide) (by decide)))
  have F40 := F28.other W30 (Or.inr (slot_ne (Or.inl (hw _ (List.mem_of_getElem? (i := 98) rfl))) (Or.inr (hw _ (List.mem_of_getElem? (i := 34) rfl))) (by decide) (t := .boolean) (t' := (.object "java/io/ByteArrayOutputStream")) (by decide) (by decide)))
  have F41 := F29.wr W30
  have F42 := G17_0.wr W30
  have F43 := G17_1.other W30 (Or.inl (Ne.symm ne_a0_b2))
  have F44 := G17_2.other W30 (Or.inl (Ne.symm ne_a0_b2))
  have F45 := G17_3.other W30 (Ne.symm ne_a0_r17_0)
  have F46 := G17_4.wr W30
  have K30 := K17.wr W30 (Or.inl (List.mem_of_getElem? (i := 0) rfl))
  have N30 := Fr.snoc X30 N17 g_a0
  have Z30 := Nat.le_trans Z17 (Nat.le_of_eq W30.size.symm)
  refine Goes.step (fun t k => st30 t k) ?_
  show Goes _ _ _ _ _ _ _ (T30.setTop (mkF m 15 #[.val (.ref a0)] []))
  refine Goes.step (fun t k => XS.aloadN X30.here hx rfl (hb hby own_d2_15) rfl rfl k) ?_
  show Goes _ _ _ _ _ _ _ (T30.setTop (mkF m 16 #[.val (.ref a0)] [(.ref a0)]))
  obtain ⟨T47, h47, X47, e47, E47, A47, D47, Mo47, st47⟩ := newO X30 hx hZ hown (hw _ (List.mem_of_getElem? (i := 14) rfl)) (hw _ (List.mem_of_getElem? (i := 15) rfl)) (hw _ (List.mem_of_getElem? (i := 16) rfl)) e30 (g := (mkF m 16 #[.val (.ref a0)] [(.ref a0)])) rfl (hb hby own_d2_16) (by decide) (by decide)
  obtain ⟨b47, g47⟩ : ∃ z, z = h30.size := ⟨_, rfl⟩
  rw [← g47] at A47 D47 Mo47 st47
  have ne_a0_b47 : a0 ≠ b47 := Nat.ne_of_lt (Nat.lt_of_lt_of_le F31.lt (Nat.le_of_eq g47.symm))
  have ne_b2_b47 : b2 ≠ b47 := Nat.ne_of_lt (Nat.lt_of_lt_of_le F42.lt (Nat.le_of_eq g47.symm))
  have ne_r17_0_b47 : r17_0 ≠ b47 := Nat.ne_of_lt (Nat.lt_of_lt_of_le F45.lt (Nat.le_of_eq g47.symm))
  have Zs47 : n0 ≤ b47 := Nat.le_trans Z30 (Nat.le_of_eq g47.symm)
  have Zh47 : h0.size ≤ b47 := Nat.le_trans K30.1 (Nat.le_of_eq g47.symm)
  have F48 := F31.ext E47
  have F49 := F32.ext E47
  have F50 := F33.ext E47
  have F51 := F34.ext E47
  have F52 := F35.ext E47
  have F53 := F36.ext E47
  have F54 := F37.ext E47
  have F55 := F38.ext E47
  have F56 := F39.ext E47
  have F57 := F40.ext E47
  have F58 := F41.ext E47
  have F59 := F42.ext E47
  have F60 := F43.ext E47
  have F61 := F44.ext E47
  have F62 := F45.ext E47
  have F63 := F46.ext E47
  have F64 := Fw30.ext E47
  have K47 := K30.ext E47
  have Z47 := Nat.le_trans Z30 E47.1
  have Mn47 := Mon.new Mo47
  have F65 : Fld Z h47 b47 "java/io/ByteArrayOutputStream" "buf" "[B" .null := D47 (Or.inl (hw _ (List.mem_of_getElem? (i := 32) rfl))) (ty := (.array .byte)) (by decide)
  have F66 : Fld Z h47 b47 "java/io/ByteArrayOutputStream" "count" "I" (.int (0 : Int32)) := D47 (Or.inl (hw _ (List.mem_of_getElem? (i := 86) rfl))) (ty := .int) (by decide)
  refine Goes.step (fun t k => st47 t k) ?_
  show Goes _ _ _ _ _ _ _ (T47.setTop (mkF m 19 #[.val (.ref a0)] [(.ref b47), (.ref a0)]))
  refine Goes.step (fun t k => XS.dup X47.here hx rfl (hb hby own_d2_19) rfl rfl k) ?_
  show Goes _ _ _ _ _ _ _ (T47.setTop (mkF m 20 #[.val (.ref a0)] [(.ref b47), (.ref b47), (.ref a0)]))
  obtain ⟨_, _, ⟨T67, L67, k67, n67⟩, -, X67, ⟨Lc67, hQ67, l67, y67, z67⟩, st67⟩ := X47.specialBack hx (y := (⟨"java/io/ByteArrayOutputStream", "<init>", "()V"⟩ : MethodName)) rfl hown (mvT hZ (hw _ (List.mem_of_getElem? (i := 17) rfl))) (mvT hZ (hw _ (List.mem_of_getElem? (i := 18) rfl))) (mvT hZ (hw _ (List.mem_of_getElem? (i := 19) rfl))) (by decide) (backOf (W := 2) (rm4 l Z tA hw [] b47 h47 n0 Z47 A47 F65 F66 Mn47 Zs47) hZ (hw _ (List.mem_of_getElem? (i := 19) rfl)) (hw _ (List.mem_of_getElem? (i := 16) rfl)) (by decide) (by decide)) (g := (mkF m 20 #[.val (.ref a0)] [(.ref b47), (.ref b47), (.ref a0)])) rfl (by rw [hml]; rfl) (Steps.refl _) (a := b47) (argsL := []) (rest := [(.ref b47), (.ref a0)]) (lenOf own_pd0 rfl) rfl (by show 2 * 0 + _ ≤ _; exact Nat.le_of_eq rfl) (hb hby own_d2_20) (fun _ _ => ⟨rfl, e47, (by decide : 3 + 1 ≤ _), (by decide : 36 + 32 ≤ _)⟩)
  dsimp only [Pt.U, Pt.locs, Pt.cells, Pt.slots] at X67 l67 y67 z67 st67 hQ67
  rw [l67, y67, z67] at X67
  generalize e67 : T67.heap = h67 at hQ67
  obtain ⟨r67_0, rfl, Nq67, Kq67, Zf67_r67_0, G67_0, G67_1, G67_2, G67_3, G67_4⟩ := hQ67
  have ne_a0_r67_0 : a0 ≠ r67_0 := Nat.ne_of_lt (Nat.lt_of_lt_of_le F48.lt Zf67_r67_0)
  have ne_b2_r67_0 : b2 ≠ r67_0 := Nat.ne_of_lt (Nat.lt_of_lt_of_le F59.lt Zf67_r67_0)
  have ne_r17_0_r67_0 : r17_0 ≠ r67_0 := Nat.ne_of_lt (Nat.lt_of_lt_of_le F62.lt Zf67_r67_0)
  have ne_b47_r67_0 : b47 ≠ r67_0 := Nat.ne_of_lt (Nat.lt_of_lt_of_le A47.lt Zf67_r67_0)
  have Zs67_r67_0 := Nat.le_trans Z47 Zf67_r67_0
  have Zh67_r67_0 := Nat.le_trans K47.1 Zf67_r67_0
  have F68 := F48.keep Kq67
  have F69 := F49.keep Kq67 (ninS ne_a0_b47 nin0)
  have F70 := F50.keep Kq67 (ninS ne_a0_b47 nin0)
  have F71 := F51.keep Kq67 (ninS ne_a0_b47 nin0)
  have F72 := F52.keep Kq67 (ninS ne_a0_b47 nin0)
  have F73 := F53.keep Kq67 (ninS ne_a0_b47 nin0)
  have F74 := F54.keep Kq67 (ninS ne_a0_b47 nin0)
  have F75 := F55.keep Kq67 (ninS ne_a0_b47 nin0)
  have F76 := F56.keep Kq67 (ninS ne_a0_b47 nin0)
  have F77 := F57.keep Kq67 (ninS ne_a0_b47 nin0)
  have F78 := own_sta_keep F58 Kq67 (allS (notsta_exa A47) all0)
  have F79 := F59.keep Kq67
  have F80 := F60.keep Kq67 (ninS ne_b2_b47 nin0)
  have F81 := F61.keep Kq67 (ninS ne_b2_b47 nin0)
  have F82 := F62.keep Kq67 (ninS ne_r17_0_b47 nin0)
  have F83 := F63.keep Kq67 (ninS ne_b2_b47 nin0)
  have F84 := F64.keep Kq67 (ninS ne_a0_b47 nin0)
  have N67 := Fr.app N30 Nq67
  have K67 := K47.trans Kq67 (allS (Or.inr Zh47) all0)
  have Z67 := Nat.le_trans Z47 Kq67.1
  change Stand _ _ _ _ _ _ _ _ _ _ _ _ 4 68 at X67
  refine Goes.step (fun t k => st67.trans k) ?_
  show Goes _ _ _ _ _ _ _ (T67.setTop (mkF m 23 #[.val (.ref a0)] [(.ref b47), (.ref a0)]))
  obtain ⟨T85, h85, X85, e85, W85, st85⟩ := putF X67 hx hZ hown (host := "") (Or.inl (hw _ (List.mem_of_getElem? (i := 35) rfl))) Via.refl e67 F69 F68 (Or.inr ⟨(hw _ (List.mem_of_getElem? (i := 36) rfl)), rfl, hnm⟩) (hw _ (List.mem_of_getElem? (i := 6) rfl)) (ty := (.object "java/io/ByteArrayOutputStream")) (by decide) rfl rfl (g := (mkF m 23 #[.val (.ref a0)] [(.ref b47), (.ref a0)])) rfl rfl (hb hby own_d2_23)
  have Fw85 := F69.same W85
  have F86 := F68.wr W85
  have F87 := F70.other W85 (Or.inr (slot_ne (Or.inl (hw _ (List.mem_of_getElem? (i := 41) rfl))) (Or.inr (hw _ (List.mem_of_getElem? (i := 36) rfl))) (by decide) (t := (.object "com/example/bounded_crawl/boundedcrawl/web/Framing$Part")) (t' := (.object "java/io/ByteArrayOutputStream")) (by decide) (by decide)))
  have F88 := F71.other W85 (Or.inr (slot_ne (Or.inl (hw _ (List.mem_of_getElem? (i := 43) rfl))) (Or.inr (hw _ (List.mem_of_getElem? (i := 36) rfl))) (by decide) (t := .boolean) (t' := (.object "java/io/ByteArrayOutputStream")) (by decide) (by decide)))
  have F89 := F72.other W85 (Or.inr (slot_ne (Or.inl (hw _ (List.mem_of_getElem? (i := 50) rfl))) (Or.inr (hw _ (List.mem_of_getElem? (i := 36) rfl))) (by decide) (t := .long) (t' := (.object "java/io/ByteArrayOutputStream")) (by decide) (by decide)))
  have F90 := F73.other W85 (Or.inr (slot_ne (Or.inl (hw _ (List.mem_of_getElem? (i := 62) rfl))) (Or.inr (hw _ (List.mem_of_getElem? (i := 36) rfl))) (by decide) (t := .long) (t' := (.object "java/io/ByteArrayOutputStream")) (by decide) (by decide)))
  have F91 := F74.other W85 (Or.inr (slot_ne (Or.inl (hw _ (List.mem_of_getElem? (i := 64) rfl))) (Or.inr (hw _ (List.mem_of_getElem? (i := 36) rfl))) (by decide) (t := .long) (t' := (.object "java/io/ByteArrayOutputStream")) (by decide) (by decide)))
  have F92 := F75.other W85 (Or.inr (slot_ne (Or.inl (hw _ (List.mem_of_getElem? (i := 77) rfl))) (Or.inr (hw _ (List.mem_of_getElem? (i := 36) rfl))) (by decide) (t := .int) (t' := (.object "java/io/ByteArrayOutputStream")) (by decide) (by decide)))
  have F93 := F76.other W85 (Or.inr (slot_ne (Or.inl (hw _ (List.mem_of_getElem? (i := 79) rfl))) (Or.inr (hw _ (List.mem_of_getElem? (i := 36) rfl))) (by decide) (t := .byte) (t' := (.object "java/io/ByteArrayOutputStream")) (by decide) (by decide)))
  have F94 := F77.other W85 (Or.inr (slot_ne (Or.inl (hw _ (List.mem_of_getElem? (i := 98) rfl))) (Or.inr (hw _ (List.mem_of_getElem? (i := 36) rfl))) (by decide) (t := .boolean) (t' := (.object "java/io/ByteArrayOutputStream")) (by decide) (by decide)))
  have F95 := F78.wr W85
  have F96 := F79.wr W85
  have F97 := F80.other W85 (Or.inl (Ne.symm ne_a0_b2))
  have F98 := F81.other W85 (Or.inl (Ne.symm ne_a0_b2))
  have F99 := F82.other W85 (Ne.symm ne_a0_r17_0)
  have F100 := F83.wr W85
  have F101 := F84.other W85 (Or.inr (slot_ne (Or.inr (hw _ (List.mem_of_getElem? (i := 34) rfl))) (Or.inr (hw _ (List.mem_of_getElem? (i := 36) rfl))) (by decide) (t := (.object "java/io/ByteArrayOutputStream")) (t' := (.object "java/io/ByteArrayOutputStream")) (by decide) (by decide)))
  have F102 := G67_0.wr W85
  have F103 := G67_1.other W85 (Or.inl (Ne.symm ne_a0_b47))
  have F104 := G67_2.other W85 (Or.inl (Ne.symm ne_a0_b47))
  have F105 := G67_3.other W85 (Ne.symm ne_a0_r67_0)
  have F106 := G67_4.wr W85
  have K85 := K67.wr W85 (Or.inl (List.mem_of_getElem? (i := 0) rfl))
  have N85 := Fr.snoc X85 N67 g_a0
  have Z85 := Nat.le_trans Z67 (Nat.le_of_eq W85.size.symm)
  refine Goes.step (fun t k => st85 t k) ?_
  show Goes _ _ _ _ _ _ _ (T85.setTop (mkF m 26 #[.val (.ref a0)] []))
  refine Goes.step (fun t k => XS.aloadN X85.here hx rfl (hb hby own_d2_26) rfl rfl k) ?_
  show Goes _ _ _ _ _ _ _ (T85.setTop (mkF m 27 #[.val (.ref a0)] [(.ref a0)]))
  obtain ⟨T107, X107, e107, st107⟩ := getS2 X85 hx hZ hown (host := "") (Or.inl (hw _ (List.mem_of_getElem? (i := 37) rfl))) Via.refl e85 F95 (g := (mkF m 27 #[.val (.ref a0)] [(.ref a0)])) rfl (hb hby own_d2_27)
  refine Goes.step (fun t k => st107 t k) ?_
  show Goes _ _ _ _ _ _ _ (T107.setTop (mkF m 30 #[.val (.ref a0)] [(.ref wSL), (.ref a0)]))
  obtain ⟨T108, h108, X108, e108, W108, st108⟩ := putF X107 hx hZ hown (host := "") (Or.inl (hw _ (List.mem_of_getElem? (i := 40) rfl))) Via.refl e107 F87 F86 (Or.inl (hw _ (List.mem_of_getElem? (i := 41) rfl))) (hw _ (List.mem_of_getElem? (i := 6) rfl)) (ty := (.object "com/example/bounded_crawl/boundedcrawl/web/Framing$Part")) (by decide) rfl rfl (g := (mkF m 30 #[.val (.ref a0)] [(.ref wSL), (.ref a0)])) rfl rfl (hb hby own_d2_30)
  have Fw108 := F87.same W108
  have F109 := F86.wr W108
  have F110 := F88.other W108 (Or.inr (slot_ne (Or.inl (hw _ (List.mem_of_getElem? (i := 43) rfl))) (Or.inl (hw _ (List.mem_of_getElem? (i := 41) rfl))) (by decide) (t := .boolean) (t' := (.object "com/example/bounded_crawl/boundedcrawl/web/Framing$Part")) (by decide) (by decide)))
  have F111 := F89.other W108 (Or.inr (slot_ne (Or.inl (hw _ (List.mem_of_getElem? (i := 50) rfl))) (Or.inl (hw _ (List.mem_of_getElem? (i := 41) rfl))) (by decide) (t := .long) (t' := (.object "com/example/bounded_crawl/boundedcrawl/web/Framing$Part")) (by decide) (by decide)))
  have F112 := F90.other W108 (Or.inr (slot_ne (Or.inl (hw _ (List.mem_of_getElem? (i := 62) rfl))) (Or.inl (hw _ (List.mem_of_getElem? (i := 41) rfl))) (by decide) (t := .long) (t' := (.object "com/example/bounded_crawl/boundedcrawl/web/Framing$Part")) (by decide) (by decide)))
  have F113 := F91.other W108 (Or.inr (slot_ne (Or.inl (hw _ (List.mem_of_getElem? (i := 64) rfl))) (Or.inl (hw _ (List.mem_of_getElem? (i := 41) rfl))) (by decide) (t := .long) (t' := (.object "com/example/bounded_crawl/boundedcrawl/web/Framing$Part")) (by decide) (by decide)))
  have F114 := F92.other W108 (Or.inr (slot_ne (Or.inl (hw _ (List.mem_of_getElem? (i := 77) rfl))) (Or.inl (hw _ (List.mem_of_getElem? (i := 41) rfl))) (by decide) (t := .int) (t' := (.object "com/example/bounded_crawl/boundedcrawl/web/Framing$Part")) (by decide) (by decide)))
  have F115 := F93.other W108 (Or.inr (slot_ne (Or.inl (hw _ (List.mem_of_getElem? (i := 79) rfl))) (Or.inl (hw _ (List.mem_of_getElem? (i := 41) rfl))) (by decide) (t := .byte) (t' := (.object "com/example/bounded_crawl/boundedcrawl/web/Framing$Part")) (by decide) (by decide)))
  have F116 := F94.other W108 (Or.inr (slot_ne (Or.inl (hw _ (List.mem_of_getElem? (i := 98) rfl))) (Or.inl (hw _ (List.mem_of_getElem? (i := 41) rfl))) (by decide) (t := .boolean) (t' := (.object "com/example/bounded_crawl/boundedcrawl/web/Framing$Part")) (by decide) (by decide)))
  have F117 := F95.wr W108
  have F118 := F96.wr W108
  have F119 := F97.other W108 (Or.inl (Ne.symm ne_a0_b2))
  have F120 := F98.other W108 (Or.inl (Ne.symm ne_a0_b2))
  have F121 := F99.other W108 (Ne.symm ne_a0_r17_0)
  have F122 := F100.wr W108
  have F123 := F101.other W108 (Or.inr (slot_ne (Or.inr (hw _ (List.mem_of_getElem? (i := 34) rfl))) (Or.inl (hw _ (List.mem_of_getElem? (i := 41) rfl))) (by decide) (t := (.object "java/io/ByteArrayOutputStream")) (t' := (.object "com/example/bounded_crawl/boundedcrawl/web/Framing$Part")) (by decide) (by decide)))
  have F124 := F102.wr W108
  have F125 := F103.other W108 (Or.inl (Ne.symm ne_a0_b47))
  have F126 := F104.other W108 (Or.inl (Ne.symm ne_a0_b47))
  have F127 := F105.other W108 (Ne.symm ne_a0_r67_0)
  have F128 := F106.wr W108
  have F129 := Fw85.other W108 (Or.inr (slot_ne (Or.inr (hw _ (List.mem_of_getElem? (i := 36) rfl))) (Or.inl (hw _ (List.mem_of_getElem? (i := 41) rfl))) (by decide) (t := (.object "java/io/ByteArrayOutputStream")) (t' := (.object "com/example/bounded_crawl/boundedcrawl/web/Framing$Part")) (by decide) (by decide)))
  have K108 := K85.wr W108 (Or.inl (List.mem_of_getElem? (i := 0) rfl))
  have N108 := Fr.snoc X108 N85 g_a0
  have Z108 := Nat.le_trans Z85 (Nat.le_of_eq W108.size.symm)
  refine Goes.step (fun t k => st108 t k) ?_
  show Goes _ _ _ _ _ _ _ (T108.setTop (mkF m 33 #[.val (.ref a0)] []))
  refine Goes.step (fun t k => XS.aloadN X108.here hx rfl (hb hby own_d2_33) rfl rfl k) ?_
  show Goes _ _ _ _ _ _ _ (T108.setTop (mkF m 34 #[.val (.ref a0)] [(.ref a0)]))
  refine Goes.step (fun t k => XS.iconst X108.here hx rfl (hb hby own_d2_34) k) ?_
  show Goes _ _ _ _ _ _ _ (T108.setTop (mkF m 35 #[.val (.ref a0)] [(.int (1 : Int32)), (.ref a0)]))
  obtain ⟨T130, h130, X130, e130, W130, st130⟩ := putFN X108 hx hZ hown (hw _ (List.mem_of_getElem? (i := 42) rfl)) Via.refl e108 F110 F109 (Or.inl (hw _ (List.mem_of_getElem? (i := 43) rfl))) (hw _ (List.mem_of_getElem? (i := 6) rfl)) (ty := .boolean) (v' := (.int (1 : Int32))) (by decide) rfl rfl (g := (mkF m 35 #[.val (.ref a0)] [(.int (1 : Int32)), (.ref a0)])) rfl rfl (hb hby own_d2_35)
  have Fw130 := F110.same W130
  have F131 := F109.wr W130
  have F132 := F111.other W130 (Or.inr (slot_ne (Or.inl (hw _ (List.mem_of_getElem? (i := 50) rfl))) (Or.inl (hw _ (List.mem_of_getElem? (i := 43) rfl))) (by decide) (t := .long) (t' := .boolean) (by decide) (by decide)))
  have F133 := F112.other W130 (Or.inr (slot_ne (Or.inl (hw _ (List.mem_of_getElem? (i := 62) rfl))) (Or.inl (hw _ (List.mem_of_getElem? (i := 43) rfl))) (by decide) (t := .long) (t' := .boolean) (by decide) (by decide)))
  have F134 := F113.other W130 (Or.inr (slot_ne (Or.inl (hw _ (List.mem_of_getElem? (i := 64) rfl))) (Or.inl (hw _ (List.mem_of_getElem? (i := 43) rfl))) (by decide) (t := .long) (t' := .boolean) (by decide) (by decide)))
  have F135 := F114.other W130 (Or.inr (slot_ne (Or.inl (hw _ (List.mem_of_getElem? (i := 77) rfl))) (Or.inl (hw _ (List.mem_of_getElem? (i := 43) rfl))) (by decide) (t := .int) (t' := .boolean) (by decide) (by decide)))
  have F136 := F115.other W130 (Or.inr (slot_ne (Or.inl (hw _ (List.mem_of_getElem? (i := 79) rfl))) (Or.inl (hw _ (List.mem_of_getElem? (i := 43) rfl))) (by decide) (t := .byte) (t' := .boolean) (by decide) (by decide)))
  have F137 := F116.other W130 (Or.inr (slot_ne (Or.inl (hw _ (List.mem_of_getElem? (i := 98) rfl))) (Or.inl (hw _ (List.mem_of_getElem? (i := 43) rfl))) (by decide) (t := .boolean) (t' := .boolean) (by decide) (by decide)))
  have F138 := F117.wr W130
  have F139 := F118.wr W130
  have F140 := F119.other W130 (Or.inl (Ne.symm ne_a0_b2))
  have F141 := F120.other W130 (Or.inl (Ne.symm ne_a0_b2))
  have F142 := F121.other W130 (Ne.symm ne_a0_r17_0)
  have F143 := F122.wr W130
  have F144 := F123.other W130 (Or.inr (slot_ne (Or.inr (hw _ (List.mem_of_getElem? (i := 34) rfl))) (Or.inl (hw _ (List.mem_of_getElem? (i := 43) rfl))) (by decide) (t := (.object "java/io/ByteArrayOutputStream")) (t' := .boolean) (by decide) (by decide)))
  have F145 := F124.wr W130
  have F146 := F125.other W130 (Or.inl (Ne.symm ne_a0_b47))
  have F147 := F126.other W130 (Or.inl (Ne.symm ne_a0_b47))
  have F148 := F127.other W130 (Ne.symm ne_a0_r67_0)
  have F149 := F128.wr W130
  have F150 := F129.other W130 (Or.inr (slot_ne (Or.inr (hw _ (List.mem_of_getElem? (i := 36) rfl))) (Or.inl (hw _ (List.mem_of_getElem? (i := 43) rfl))) (by decide) (t := (.object "java/io/ByteArrayOutputStream")) (t' := .boolean) (by decide) (by decide)))
  have F151 := Fw108.other W130 (Or.inr (slot_ne (Or.inl (hw _ (List.mem_of_getElem? (i := 41) rfl))) (Or.inl (hw _ (List.mem_of_getElem? (i := 43) rfl))) (by decide) (t := (.object "com/example/bounded_crawl/boundedcrawl/web/Framing$Part")) (t' := .boolean) (by decide) (by decide)))
  have K130 := K108.wr W130 (Or.inl (List.mem_of_getElem? (i := 0) rfl))
  have N130 := Fr.snoc X130 N108 g_a0
  have Z130 := Nat.le_trans Z108 (Nat.le_of_eq W130.size.symm)
  refine Goes.step (fun t k => st130 t k) ?_
  show Goes _ _ _ _ _ _ _ (T130.setTop (mkF m 38 #[.val (.ref a0)] []))
  exact Goes.retV X130 hx Bd.notSynchronized Bd.returns (hb hby own_d2_38) (by rw [e130]; exact ⟨b2, r17_0, rfl, N130, K130, Zh2, Zh17_r17_0, ne_b2_r17_0, F131, F144, F151, F132, F133, F134, F135, F136, F137, F139, F140, F141, F142, F143⟩) (by decide) (by decide)
theorem own_d11_0 : decode jdk_2005_method_3_code 0 = .ok (.aload_n 0, 1) := by decide +kernel
theorem own_d11_1 : decode jdk_2005_method_3_code 1 = .ok (.getfield 33, 3) := by decide +kernel
theorem own_d11_4 : decode jdk_2005_method_3_code 4 = .ok (.arraylength, 1) := by decide +kernel
theorem own_d11_5 : decode jdk_2005_method_3_code 5 = .ok (.istore_n 2, 1) := by decide +kernel
theorem own_d11_6 : decode jdk_2005_method_3_code 6 = .ok (.iload_n 1, 1) := by decide +kernel
theorem own_d11_7 : decode jdk_2005_method_3_code 7 = .ok (.iload_n 2, 1) := by decide +kernel
theorem own_d11_8 : decode jdk_2005_method_3_code 8 = .ok (.isub, 1) := by decide +kernel
theorem own_d11_9 : decode jdk_2005_method_3_code 9 = .ok (.istore_n 3, 1) := by decide +kernel
theorem own_d11_10 : decode jdk_2005_method_3_code 10 = .ok (.iload_n 3, 1) := by decide +kernel
theorem own_d11_11 : decode jdk_2005_method_3_code 11 = .ok (.ifCond .le 20, 3) := by decide +kernel
theorem own_d11_31 : decode jdk_2005_method_3_code 31 = .ok (.return_, 1) := by decide +kernel
theorem own_ef11 (m : MethodId) (a0 : Addr) (p1 : Int32) : entryFrame m #[(.ref a0), (.int p1)] 4 = mkF m 0 #[.val (.ref a0), .val (.int p1), .unset, .unset] [] := by first | (simp [entryFrame, mkF, argsToLocals, Value.category, maxLocals]; done) | rfl
abbrev RM11 : Room := ({ frames := 0, cells := 0, slots := 0, locals := 0 } : Room)
abbrev kC11 : Nat := 0
abbrev kS11 : Nat := 0
def Q11 (Z : State) (a0 : Addr) (p1 : Int32) (wB : Addr) (vs : List Value) (h0 : Heap) (v : Option Value) (h : Heap) (L : List Loc) : Prop := v = none ∧ L = [] ∧ h = h0
set_option maxRecDepth 65536 in
set_option maxHeartbeats 40000000 in
theorem rm11 (l : Launch) (Z : State) (tA : Array Value) (hw : ∀ d ∈ tables_1, d.before tA Z = true) (ws : List Jvm.Cond) (a0 : Addr) (p1 : Int32) (wB : Addr) (vs : List Value) (h0 : Heap) (H0 : Fld Z h0 a0 "java/io/ByteArrayOutputStream" "buf" "[B" (.ref wB)) (H1 : Ara Z h0 wB .byte vs) (hvl : vs.length = 32) (hp : 0 ≤ p1.toInt ∧ p1.toInt ≤ 32) :
    MetFree l (⟨"java/io/ByteArrayOutputStream", "ensureCapacity", "(I)V"⟩ : MethodName) (head1 (Jvm.Cond.code (⟨"java/io/ByteArrayOutputStream", "ensureCapacity", "(I)V"⟩ : MethodName) jdk_2005_method_3_code 4 none :: ws) RM11) (fun a U => a = #[(.ref a0), (.int p1)] ∧ Z.Warmed39 U.vm ∧ U.heap = h0) (fun _ _ _ _ _ => True) (fun _ U o U' => ∃ v L, o = .returned v ∧ Q11 Z a0 p1 wB vs h0 v U'.heap L ∧ FrameEnd U o U' L RM11.cells RM11.slots) := by
  refine MetFree.of_bodySF (plainFor_of_name own_pn2) hisR ?_
  intro p e s m args below meth c s₁ Bd hml0 hP hK
  obtain ⟨rfl, hZ, hh⟩ := hP
  have hx := Bd.exec
  have hby := Bd.bytes
  have hml : c.maxLocals = 4 := hml0
  have hown : s.vm.findClass "java/io/ByteArrayOutputStream" = some m.cls := findClass_of_methodNamed Bd.named
  have hnm := (name_of_methodNamed Bd.named Bd.method).1
  have X0 : Stand p l e RM11 s m #[(.ref a0), (.int p1)] below meth c s₁ [] 0 0 := Stand.of_body Bd
  have e0 : s₁.heap = h0 := by rw [← hh, Bd.state]; rfl
  show Goes p e below s (Q11 Z a0 p1 wB vs h0) kC11 kS11 (s₁.setTop (entryFrame m #[(.ref a0), (.int p1)] 4))
  refine Goes.step (fun t k => castTop (own_ef11 m a0 p1) k) ?_
  show Goes _ _ _ _ _ _ _ (s₁.setTop (mkF m 0 #[.val (.ref a0), .val (.int p1), .unset, .unset] []))
  refine Goes.step (fun t k => XS.aloadN X0.here hx rfl (hb hby own_d11_0) rfl rfl k) ?_
  show Goes _ _ _ _ _ _ _ (s₁.setTop (mkF m 1 #[.val (.ref a0), .val (.int p1), .unset, .unset] [(.ref a0)]))
  obtain ⟨T1, X1, e1, st1⟩ := getF X0 hx hZ hown (host := "") (Or.inl (hw _ (List.mem_of_getElem? (i := 31) rfl))) Via.refl e0 H0 (g := (mkF m 1 #[.val (.ref a0), .val (.int p1), .unset, .unset] [(.ref a0)])) rfl rfl (hb hby own_d11_1)
  refine Goes.step (fun t k => st1 t k) ?_
  show Goes _ _ _ _ _ _ _ (T1.setTop (mkF m 4 #[.val (.ref a0), .val (.int p1), .unset, .unset] [(.ref wB)]))
  obtain ⟨cl2, Ar2, q2, ll2, ff2, oo2⟩ := id H1
  have hz2 : cl2.slots.size.toInt32 = (32 : Int32) := by rw [lenb q2]; rw [hvl]; rfl
  refine Goes.step (fun t k => X1.arraylength hx (by rw [e1]; exact Ar2.1) (State.isArrayOf_alike hZ.alike Ar2.2.1) (g := (mkF m 4 #[.val (.ref a0), .val (.int p1), .unset, .unset] [(.ref wB)])) rfl rfl (hb hby own_d11_4) t k) ?_
  show Goes _ _ _ _ _ _ _ (T1.setTop (mkF m 5 #[.val (.ref a0), .val (.int p1), .unset, .unset] [(.int cl2.slots.size.toInt32)]))
  rw [hz2]
  show Goes _ _ _ _ _ _ _ (T1.setTop (mkF m 5 #[.val (.ref a0), .val (.int p1), .unset, .unset] [(.int (32 : Int32))]))
  refine Goes.step (fun t k => XS.istoreN X1.here hx rfl (hb hby own_d11_5) rfl (l' := #[.val (.ref a0), .val (.int p1), .val (.int (32 : Int32)), .unset]) rfl k) ?_
  show Goes _ _ _ _ _ _ _ (T1.setTop (mkF m 6 #[.val (.ref a0), .val (.int p1), .val (.int (32 : Int32)), .unset] []))
  refine Goes.step (fun t k => XS.iloadN X1.here hx rfl (hb hby own_d11_6) rfl k) ?_
  show Goes _ _ _ _ _ _ _ (T1.setTop (mkF m 7 #[.val (.ref a0), .val (.int p1), .val (.int (32 : Int32)), .unset] [(.int p1)]))
  refine Goes.step (fun t k => XS.iloadN X1.here hx rfl (hb hby own_d11_7) rfl k) ?_
  show Goes _ _ _ _ _ _ _ (T1.setTop (mkF m 8 #[.val (.ref a0), .val (.int p1), .val (.int (32 : Int32)), .unset] [(.int (32 : Int32)), (.int p1)]))
  refine Goes.step (fun t k => XS.isub X1.here hx rfl (hb hby own_d11_8) rfl k) ?_
  show Goes _ _ _ _ _ _ _ (T1.setTop (mkF m 9 #[.val (.ref a0), .val (.int p1), .val (.int (32 : Int32)), .unset] [(.int (p1 - (32 : Int32)))]))
  refine Goes.step (fun t k => XS.istoreN X1.here hx rfl (hb hby own_d11_9) rfl (l' := #[.val (.ref a0), .val (.int p1), .val (.int (32 : Int32)), .val (.int (p1 - (32 : Int32)))]) rfl k) ?_
  show Goes _ _ _ _ _ _ _ (T1.setTop (mkF m 10 #[.val (.ref a0), .val (.int p1), .val (.int (32 : Int32)), .val (.int (p1 - (32 : Int32)))] []))
  refine Goes.step (fun t k => XS.iloadN X1.here hx rfl (hb hby own_d11_10) rfl k) ?_
  show Goes _ _ _ _ _ _ _ (T1.setTop (mkF m 11 #[.val (.ref a0), .val (.int p1), .val (.int (32 : Int32)), .val (.int (p1 - (32 : Int32)))] [(.int (p1 - (32 : Int32)))]))
  have hc11_3 : ¬ ((0 : Int32) < (p1 - (32 : Int32))) := by exact own_cap hp
  refine Goes.step (fun t k => XS.ifYes X1.here hx rfl (pc0 := 11) (pc' := 31) rfl (hb hby own_d11_11) rfl ((if0 _ _).trans (flt hc11_3).2.2.2) (by decide) (by decide) k) ?_
  show Goes _ _ _ _ _ _ _ (T1.setTop (mkF m 31 #[.val (.ref a0), .val (.int p1), .val (.int (32 : Int32)), .val (.int (p1 - (32 : Int32)))] []))
  exact Goes.retV X1 hx Bd.notSynchronized Bd.returns (hb hby own_d11_31) ⟨rfl, rfl, e1⟩ (by decide) (by decide)
theorem own_d10_0 : decode jdk_2005_method_4_code 0 = .ok (.aload_n 0, 1) := by decide +kernel
theorem own_d10_1 : decode jdk_2005_method_4_code 1 = .ok (.aload_n 0, 1) := by decide +kernel
theorem own_d10_2 : decode jdk_2005_method_4_code 2 = .ok (.getfield 49, 3) := by decide +kernel
theorem own_d10_5 : decode jdk_2005_method_4_code 5 = .ok (.iconst 1, 1) := by decide +kernel
theorem own_d10_6 : decode jdk_2005_method_4_code 6 = .ok (.iadd, 1) := by decide +kernel
theorem own_d10_7 : decode jdk_2005_method_4_code 7 = .ok (.invokevirtual 53, 3) := by decide +kernel
theorem own_d10_10 : decode jdk_2005_method_4_code 10 = .ok (.aload_n 0, 1) := by decide +kernel
theorem own_d10_11 : decode jdk_2005_method_4_code 11 = .ok (.getfield 33, 3) := by decide +kernel
theorem own_d10_14 : decode jdk_2005_method_4_code 14 = .ok (.aload_n 0, 1) := by decide +kernel
theorem own_d10_15 : decode jdk_2005_method_4_code 15 = .ok (.getfield 49, 3) := by decide +kernel
theorem own_d10_18 : decode jdk_2005_method_4_code 18 = .ok (.iload_n 1, 1) := by decide +kernel
theorem own_d10_19 : decode jdk_2005_method_4_code 19 = .ok (.i2b, 1) := by decide +kernel
theorem own_d10_20 : decode jdk_2005_method_4_code 20 = .ok (.bastore, 1) := by decide +kernel
theorem own_d10_21 : decode jdk_2005_method_4_code 21 = .ok (.aload_n 0, 1) := by decide +kernel
theorem own_d10_22 : decode jdk_2005_method_4_code 22 = .ok (.dup, 1) := by decide +kernel
theorem own_d10_23 : decode jdk_2005_method_4_code 23 = .ok (.getfield 49, 3) := by decide +kernel
theorem own_d10_26 : decode jdk_2005_method_4_code 26 = .ok (.iconst 1, 1) := by decide +kernel
theorem own_d10_27 : decode jdk_2005_method_4_code 27 = .ok (.iadd, 1) := by decide +kernel
theorem own_d10_28 : decode jdk_2005_method_4_code 28 = .ok (.putfield 49, 3) := by decide +kernel
theorem own_d10_31 : decode jdk_2005_method_4_code 31 = .ok (.return_, 1) := by decide +kernel
theorem own_ef10 (m : MethodId) (a0 : Addr) (p1 : Int32) : entryFrameSync m #[(.ref a0), (.int p1)] 2 a0 = mkL m 0 #[.val (.ref a0), .val (.int p1)] [] a0 := by first | (simp [entryFrameSync, mkL, argsToLocals, Value.category, maxLocals]; done) | rfl
abbrev RM10 : Room := ({ frames := 1, cells := 0, slots := 0, locals := 17 } : Room)
abbrev kC10 : Nat := 0
abbrev kS10 : Nat := 0
def Q10 (Z : State) (a0 : Addr) (p1 : Int32) (wB : Addr) (wC : Int32) (vs : List Value) (h0 : Heap) (n0 : Nat) (v : Option Value) (h : Heap) (L : List Loc) : Prop := v = none ∧ Fr n0 L ∧ Keep h0 h [a0, wB] ∧ Exa Z h a0 "java/io/ByteArrayOutputStream" ∧ Fld Z h a0 "java/io/ByteArrayOutputStream" "buf" "[B" (.ref wB) ∧ Fld Z h a0 "java/io/ByteArrayOutputStream" "count" "I" (.int (wC + (1 : Int32))) ∧ Ara Z h wB .byte (vs.set (wC).toNatClampNeg (.int ((p1.toInt8.toInt32).toInt8.toInt32))) ∧ Mon h a0
set_option maxRecDepth 65536 in
set_option maxHeartbeats 40000000 in
theorem rm10 (l : Launch) (Z : State) (tA : Array Value) (hw : ∀ d ∈ tables_1, d.before tA Z = true) (ws : List Jvm.Cond) (a0 : Addr) (p1 : Int32) (wB : Addr) (wC : Int32) (vs : List Value) (h0 : Heap) (n0 : Nat) (Z0 : n0 ≤ h0.size) (H0 : Exa Z h0 a0 "java/io/ByteArrayOutputStream") (H1 : Fld Z h0 a0 "java/io/ByteArrayOutputStream" "buf" "[B" (.ref wB)) (H2 : Fld Z h0 a0 "java/io/ByteArrayOutputStream" "count" "I" (.int wC)) (H3 : Ara Z h0 wB .byte vs) (H4 : Mon h0 a0) (g_a0 : n0 ≤ a0) (g_wB : n0 ≤ wB) (n1 : a0 ≠ wB) (hvl : vs.length = 32) (hc : 0 ≤ wC.toInt ∧ wC.toInt < 32) :
    MetFree l (⟨"java/io/ByteArrayOutputStream", "write", "(I)V"⟩ : MethodName) (head1 [Jvm.Cond.codeSync (⟨"java/io/ByteArrayOutputStream", "write", "(I)V"⟩ : MethodName) jdk_2005_method_4_code 2 none, Jvm.Cond.instanceMethod (⟨"java/io/ByteArrayOutputStream", "write", "(I)V"⟩ : MethodName)] RM10) (fun a U => a = #[(.ref a0), (.int p1)] ∧ Z.Warmed39 U.vm ∧ U.heap = h0) (fun _ _ _ _ _ => True) (fun _ U o U' => ∃ v L, o = .returned v ∧ Q10 Z a0 p1 wB wC vs h0 n0 v U'.heap L ∧ FrameEnd U o U' L RM10.cells RM10.slots) := by
  refine MetFree.of_bodySync (code := jdk_2005_method_4_code) (maxLocals := 2) (ret := none) (plainFor_of_name own_pn2) hisS (fun args s _ hP => own_recv hP.1 hP.2.2 rfl H4) ?_
  intro p e s m args below meth c ar cell s₁ Bd hml0 hP hK
  obtain ⟨rfl, hZ0, hh⟩ := hP
  obtain rfl : a0 = ar := by simpa using Bd.receiver
  have hx := Bd.exec
  have hby := Bd.bytes
  have hml : c.maxLocals = 2 := hml0
  have hcm : cell.monitor = {} := by obtain ⟨cM, hM1, hM2⟩ := id H4; rw [← hh] at hM1; cases hM1.symm.trans Bd.object; exact hM2
  obtain ⟨sB, hsB⟩ : ∃ z, z = s.setCell a0 (cell.withEntry s.cur) := ⟨_, rfl⟩
  have X0 : Stand p l e RM10 sB m #[(.ref a0), (.int p1)] below meth c s₁ [] 0 0 := hsB ▸ Stand.of_bodySync Bd
  have hZ : Z.Warmed39 sB.vm := hsB ▸ hZ0
  have hown : sB.vm.findClass "java/io/ByteArrayOutputStream" = some m.cls := hsB ▸ findClass_of_methodNamed Bd.named
  have hnm : True := trivial
  obtain ⟨hE, M0, e0⟩ : ∃ hE, MonCh h0 hE a0 ∧ s₁.heap = hE := ⟨_, by rw [Bd.state]; exact own_monE hh Bd.object _, rfl⟩
  have Z0 := Nat.le_trans Z0 (Nat.le_of_eq M0.size.symm)
  have N0 := Fr.nil n0
  have KE : Keep h0 hE [a0, wB] := own_keep_mon M0 (List.mem_of_getElem? (i := 0) rfl)
  have H0 := own_exa_mon H0 M0
  have H1 := own_fld_mon H1 M0
  have H2 := own_fld_mon H2 M0
  have H3 := own_ara_mon H3 M0 (Ne.symm n1)
  show Goes p e below s (Q10 Z a0 p1 wB wC vs h0 n0) kC10 kS10 (s₁.setTop (entryFrameSync m #[(.ref a0), (.int p1)] 2 a0))
  refine Goes.step (fun t k => castTop (own_ef10 m a0 p1) k) ?_
  show Goes _ _ _ _ _ _ _ (s₁.setTop (mkL m 0 #[.val (.ref a0), .val (.int p1)] [] a0))
  refine Goes.step (fun t k => XS.aloadN X0.here hx rfl (hb hby own_d10_0) rfl rfl k) ?_
  show Goes _ _ _ _ _ _ _ (s₁.setTop (mkL m 1 #[.val (.ref a0), .val (.int p1)] [(.ref a0)] a0))
  refine Goes.step (fun t k => XS.aloadN X0.here hx rfl (hb hby own_d10_1) rfl rfl k) ?_
  show Goes _ _ _ _ _ _ _ (s₁.setTop (mkL m 2 #[.val (.ref a0), .val (.int p1)] [(.ref a0), (.ref a0)] a0))
  obtain ⟨T1, X1, e1, st1⟩ := getF X0 hx hZ hown (host := "") (Or.inl (hw _ (List.mem_of_getElem? (i := 85) rfl))) Via.refl e0 H2 (g := (mkL m 2 #[.val (.ref a0), .val (.int p1)] [(.ref a0), (.ref a0)] a0)) rfl rfl (hb hby own_d10_2)
  refine Goes.step (fun t k => st1 t k) ?_
  show Goes _ _ _ _ _ _ _ (T1.setTop (mkL m 5 #[.val (.ref a0), .val (.int p1)] [(.int wC), (.ref a0)] a0))
  refine Goes.step (fun t k => XS.iconst X1.here hx rfl (hb hby own_d10_5) k) ?_
  show Goes _ _ _ _ _ _ _ (T1.setTop (mkL m 6 #[.val (.ref a0), .val (.int p1)] [(.int (1 : Int32)), (.int wC), (.ref a0)] a0))
  refine Goes.step (fun t k => XS.iadd X1.here hx rfl (hb hby own_d10_6) rfl k) ?_
  show Goes _ _ _ _ _ _ _ (T1.setTop (mkL m 7 #[.val (.ref a0), .val (.int p1)] [(.int (wC + (1 : Int32))), (.ref a0)] a0))
  obtain ⟨cq2, q2, q2'⟩ := H0.cell
  obtain ⟨_, _, ⟨T2, L2, k2, n2⟩, -, X2, ⟨Lc2, hQ2, l2, y2, z2⟩, st2⟩ := X1.privateBack hx (y := (⟨"java/io/ByteArrayOutputStream", "ensureCapacity", "(I)V"⟩ : MethodName)) hown (mvT hZ (hw _ (List.mem_of_getElem? (i := 87) rfl))) (mvT hZ (hw _ (List.mem_of_getElem? (i := 88) rfl))) (mvT hZ (hw _ (List.mem_of_getElem? (i := 90) rfl))) (Cond.privateMethod_at (mvP hZ (hw _ (List.mem_of_getElem? (i := 89) rfl)) (args := #[]))) (mvT hZ (hw _ (List.mem_of_getElem? (i := 91) rfl))) (by decide) (backOf (W := 2) (rm11 l Z tA hw [] a0 (wC + (1 : Int32)) wB vs hE H1 H3 hvl (by have q := own_inc hc (by decide); exact ⟨q.1, q.2.1⟩)) hZ (hw _ (List.mem_of_getElem? (i := 91) rfl)) (hw _ (List.mem_of_getElem? (i := 16) rfl)) (by decide) (by decide)) (g := (mkL m 7 #[.val (.ref a0), .val (.int p1)] [(.int (wC + (1 : Int32))), (.ref a0)] a0)) rfl (by rw [hml]; rfl) (Steps.refl _) (a := a0) (by rw [e1]; exact q2) q2' (argsL := [(.int (wC + (1 : Int32)))]) (rest := []) (lenOf own_pd1 rfl) rfl (by show 2 * 1 + _ ≤ _; exact Nat.le_of_eq rfl) (hb hby own_d10_7) (fun _ _ => ⟨rfl, e1, (by decide : 0 + 0 ≤ _), (by decide : 0 + 0 ≤ _)⟩)
  dsimp only [Pt.U, Pt.locs, Pt.cells, Pt.slots] at X2 l2 y2 z2 st2 hQ2
  rw [l2, y2, z2] at X2
  obtain ⟨rfl, rfl, e2⟩ := hQ2
  try rw [List.append_nil] at X2
  change Stand _ _ _ _ _ _ _ _ _ _ _ _ 0 0 at X2
  refine Goes.step (fun t k => st2.trans k) ?_
  show Goes _ _ _ _ _ _ _ (T2.setTop (mkL m 10 #[.val (.ref a0), .val (.int p1)] [] a0))
  refine Goes.step (fun t k => XS.aloadN X2.here hx rfl (hb hby own_d10_10) rfl rfl k) ?_
  show Goes _ _ _ _ _ _ _ (T2.setTop (mkL m 11 #[.val (.ref a0), .val (.int p1)] [(.ref a0)] a0))
  obtain ⟨T3, X3, e3, st3⟩ := getF X2 hx hZ hown (host := "") (Or.inl (hw _ (List.mem_of_getElem? (i := 31) rfl))) Via.refl e2 H1 (g := (mkL m 11 #[.val (.ref a0), .val (.int p1)] [(.ref a0)] a0)) rfl rfl (hb hby own_d10_11)
  refine Goes.step (fun t k => st3 t k) ?_
  show Goes _ _ _ _ _ _ _ (T3.setTop (mkL m 14 #[.val (.ref a0), .val (.int p1)] [(.ref wB)] a0))
  refine Goes.step (fun t k => XS.aloadN X3.here hx rfl (hb hby own_d10_14) rfl rfl k) ?_
  show Goes _ _ _ _ _ _ _ (T3.setTop (mkL m 15 #[.val (.ref a0), .val (.int p1)] [(.ref a0), (.ref wB)] a0))
  obtain ⟨T4, X4, e4, st4⟩ := getF X3 hx hZ hown (host := "") (Or.inl (hw _ (List.mem_of_getElem? (i := 85) rfl))) Via.refl e3 H2 (g := (mkL m 15 #[.val (.ref a0), .val (.int p1)] [(.ref a0), (.ref wB)] a0)) rfl rfl (hb hby own_d10_15)
  refine Goes.step (fun t k => st4 t k) ?_
  show Goes _ _ _ _ _ _ _ (T4.setTop (mkL m 18 #[.val (.ref a0), .val (.int p1)] [(.int wC), (.ref wB)] a0))
  refine Goes.step (fun t k => XS.iloadN X4.here hx rfl (hb hby own_d10_18) rfl k) ?_
  show Goes _ _ _ _ _ _ _ (T4.setTop (mkL m 19 #[.val (.ref a0), .val (.int p1)] [(.int p1), (.int wC), (.ref wB)] a0))
  refine Goes.step (fun t k => XS.i2b X4.here hx rfl (hb hby own_d10_19) rfl k) ?_
  show Goes _ _ _ _ _ _ _ (T4.setTop (mkL m 20 #[.val (.ref a0), .val (.int p1)] [(.int (p1.toInt8.toInt32)), (.int wC), (.ref wB)] a0))
  obtain ⟨cl5, Ar5, q5, ll5, ff5, oo5⟩ := id H3
  have hn5 : ¬ wC < 0 := by exact (own_nat hc.1).1
  have hl5 : (wC).toNatClampNeg < (vs : List Value).length := by exact own_ix hc hvl
  obtain ⟨T5, h5, X5, e5, W5, st5⟩ := stB X4 hx hZ e4 Ar5 (j := wC) (inb q5 hn5 hl5) (g := (mkL m 20 #[.val (.ref a0), .val (.int p1)] [(.int (p1.toInt8.toInt32)), (.int wC), (.ref wB)] a0)) rfl rfl (hb hby own_d10_20)
  have V5 : Ara Z h5 wB .byte (vs.set (wC).toNatClampNeg (.int ((p1.toInt8.toInt32).toInt8.toInt32))) := Ara.same (j := wC) Ar5 q5 ll5 ff5 oo5 (fits_nar_byte _) W5
  have F6 := H0.wr W5
  have F7 := H1.other W5 (Or.inl n1)
  have F8 := H2.other W5 (Or.inl n1)
  have K5 := KE.wr W5 (Or.inl (List.mem_of_getElem? (i := 1) rfl))
  have N5 := Fr.snoc X5 N0 g_wB
  have Z5 := Nat.le_trans Z0 (Nat.le_of_eq W5.size.symm)
  refine Goes.step (fun t k => st5 t k) ?_
  show Goes _ _ _ _ _ _ _ (T5.setTop (mkL m 21 #[.val (.ref a0), .val (.int p1)] [] a0))
  refine Goes.step (fun t k => XS.aloadN X5.here hx rfl (hb hby own_d10_21) rfl rfl k) ?_
  show Goes _ _ _ _ _ _ _ (T5.setTop (mkL m 22 #[.val (.ref a0), .val (.int p1)] [(.ref a0)] a0))
  refine Goes.step (fun t k => XS.dup X5.here hx rfl (hb hby own_d10_22) rfl rfl k) ?_
  show Goes _ _ _ _ _ _ _ (T5.setTop (mkL m 23 #[.val (.ref a0), .val (.int p1)] [(.ref a0), (.ref a0)] a0))
  obtain ⟨T9, X9, e9, st9⟩ := getF X5 hx hZ hown (host := "") (Or.inl (hw _ (List.mem_of_getElem? (i := 85) rfl))) Via.refl e5 F8 (g := (mkL m 23 #[.val (.ref a0), .val (.int p1)] [(.ref a0), (.ref a0)] a0)) rfl rfl (hb hby own_d10_23)
  refine Goes.step (fun t k => st9 t k) ?_
  show Goes _ _ _ _ _ _ _ (T9.setTop (mkL m 26 #[.val (.ref a0), .val (.int p1)] [(.int wC), (.ref a0)] a0))
  refine Goes.step (fun t k => XS.iconst X9.here hx rfl (hb hby own_d10_26) k) ?_
  show Goes _ _ _ _ _ _ _ (T9.setTop (mkL m 27 #[.val (.ref a0), .val (.int p1)] [(.int (1 : Int32)), (.int wC), (.ref a0)] a0))
  refine Goes.step (fun t k => XS.iadd X9.here hx rfl (hb hby own_d10_27) rfl k) ?_
  show Goes _ _ _ _ _ _ _ (T9.setTop (mkL m 28 #[.val (.ref a0), .val (.int p1)] [(.int (wC + (1 : Int32))), (.ref a0)] a0))
  obtain ⟨T10, h10, X10, e10, W10, st10⟩ := putF X9 hx hZ hown (host := "") (Or.inl (hw _ (List.mem_of_getElem? (i := 85) rfl))) Via.refl e9 F8 F6 (Or.inl (hw _ (List.mem_of_getElem? (i := 86) rfl))) (hw _ (List.mem_of_getElem? (i := 15) rfl)) (ty := .int) (by decide) rfl rfl (g := (mkL m 28 #[.val (.ref a0), .val (.int p1)] [(.int (wC + (1 : Int32))), (.ref a0)] a0)) rfl rfl (hb hby own_d10_28)
  have Fw10 := F8.same W10
  have F11 := F6.wr W10
  have F12 := F7.other W10 (Or.inr (slot_ne (Or.inl (hw _ (List.mem_of_getElem? (i := 32) rfl))) (Or.inl (hw _ (List.mem_of_getElem? (i := 86) rfl))) (by decide) (t := (.array .byte)) (t' := .int) (by decide) (by decide)))
  have F13 := V5.other W10 (Ne.symm n1)
  have K10 := K5.wr W10 (Or.inl (List.mem_of_getElem? (i := 0) rfl))
  have N10 := Fr.snoc X10 N5 g_a0
  have Z10 := Nat.le_trans Z5 (Nat.le_of_eq W10.size.symm)
  refine Goes.step (fun t k => st10 t k) ?_
  show Goes _ _ _ _ _ _ _ (T10.setTop (mkL m 31 #[.val (.ref a0), .val (.int p1)] [] a0))
  subst hsB
  exact Goes.retVS X10 hx Bd.object Bd.enterable Bd.synchronized Bd.returns (hb hby own_d10_31) (by rw [e10]; intro h' M' mo; exact ⟨rfl, N10, K10.trans (own_keep_mon M' (ws := [a0]) (List.mem_of_getElem? (i := 0) rfl)) (fun x hx => Or.inl (by simpa using Or.inl (List.mem_singleton.mp hx))), own_exa_mon F11 M', own_fld_mon F12 M', own_fld_mon Fw10 M', own_ara_mon F13 M' (Ne.symm n1), by obtain ⟨c', z1, z2⟩ := mo; exact ⟨c', z1, z2.trans hcm⟩⟩) (by decide) (by decide)
def g9_7 (p1 : Int32) (wL : Int32) (wF : Int32) : Int32 := (if wL = (0 : Int32) then (nar .byte p1) else wF)
def g9_12 (p1 : Int32) (wC : Int32) (vs : List Value) : List Value := (vs.set (wC).toNatClampNeg (.int ((p1.toInt8.toInt32).toInt8.toInt32)))
theorem own_d9_0 : decode prog_44_method_9_code 0 = .ok (.aload_n 0, 1) := by decide +kernel
theorem own_d9_1 : decode prog_44_method_9_code 1 = .ok (.getfield 108, 3) := by decide +kernel
theorem own_d9_4 : decode prog_44_method_9_code 4 = .ok (.ifCond .ne 8, 3) := by decide +kernel
theorem own_d9_7 : decode prog_44_method_9_code 7 = .ok (.aload_n 0, 1) := by decide +kernel
theorem own_d9_8 : decode prog_44_method_9_code 8 = .ok (.iload_n 1, 1) := by decide +kernel
theorem own_d9_9 : decode prog_44_method_9_code 9 = .ok (.putfield 112, 3) := by decide +kernel
theorem own_d9_12 : decode prog_44_method_9_code 12 = .ok (.aload_n 0, 1) := by decide +kernel
theorem own_d9_13 : decode prog_44_method_9_code 13 = .ok (.dup, 1) := by decide +kernel
theorem own_d9_14 : decode prog_44_method_9_code 14 = .ok (.getfield 108, 3) := by decide +kernel
theorem own_d9_17 : decode prog_44_method_9_code 17 = .ok (.iconst 1, 1) := by decide +kernel
theorem own_d9_18 : decode prog_44_method_9_code 18 = .ok (.iadd, 1) := by decide +kernel
theorem own_d9_19 : decode prog_44_method_9_code 19 = .ok (.putfield 108, 3) := by decide +kernel
theorem own_d9_22 : decode prog_44_method_9_code 22 = .ok (.iload_n 1, 1) := by decide +kernel
theorem own_d9_23 : decode prog_44_method_9_code 23 = .ok (.bipush 13, 2) := by decide +kernel
theorem own_d9_25 : decode prog_44_method_9_code 25 = .ok (.if_icmp .ne 12, 3) := by decide +kernel
theorem own_d9_28 : decode prog_44_method_9_code 28 = .ok (.aload_n 0, 1) := by decide +kernel
theorem own_d9_29 : decode prog_44_method_9_code 29 = .ok (.getfield 108, 3) := by decide +kernel
theorem own_d9_32 : decode prog_44_method_9_code 32 = .ok (.iconst 1, 1) := by decide +kernel
theorem own_d9_33 : decode prog_44_method_9_code 33 = .ok (.isub, 1) := by decide +kernel
theorem own_d9_34 : decode prog_44_method_9_code 34 = .ok (.goto 7, 3) := by decide +kernel
theorem own_d9_37 : decode prog_44_method_9_code 37 = .ok (.aload_n 0, 1) := by decide +kernel
theorem own_d9_38 : decode prog_44_method_9_code 38 = .ok (.getfield 108, 3) := by decide +kernel
theorem own_d9_41 : decode prog_44_method_9_code 41 = .ok (.istore_n 2, 1) := by decide +kernel
theorem own_d9_42 : decode prog_44_method_9_code 42 = .ok (.aload_n 0, 1) := by decide +kernel
theorem own_d9_43 : decode prog_44_method_9_code 43 = .ok (.getfield 25, 3) := by decide +kernel
theorem own_d9_46 : decode prog_44_method_9_code 46 = .ok (.getstatic 46, 3) := by decide +kernel
theorem own_d9_49 : decode prog_44_method_9_code 49 = .ok (.if_acmp .eq 13, 3) := by decide +kernel
theorem own_d9_52 : decode prog_44_method_9_code 52 = .ok (.aload_n 0, 1) := by decide +kernel
theorem own_d9_53 : decode prog_44_method_9_code 53 = .ok (.getfield 25, 3) := by decide +kernel
theorem own_d9_56 : decode prog_44_method_9_code 56 = .ok (.getstatic 83, 3) := by decide +kernel
theorem own_d9_59 : decode prog_44_method_9_code 59 = .ok (.if_acmp .ne 39, 3) := by decide +kernel
theorem own_d9_98 : decode prog_44_method_9_code 98 = .ok (.aload_n 0, 1) := by decide +kernel
theorem own_d9_99 : decode prog_44_method_9_code 99 = .ok (.getfield 25, 3) := by decide +kernel
theorem own_d9_102 : decode prog_44_method_9_code 102 = .ok (.getstatic 19, 3) := by decide +kernel
theorem own_d9_105 : decode prog_44_method_9_code 105 = .ok (.if_acmp .ne 14, 3) := by decide +kernel
theorem own_d9_108 : decode prog_44_method_9_code 108 = .ok (.aload_n 0, 1) := by decide +kernel
theorem own_d9_109 : decode prog_44_method_9_code 109 = .ok (.getfield 10, 3) := by decide +kernel
theorem own_d9_112 : decode prog_44_method_9_code 112 = .ok (.iload_n 1, 1) := by decide +kernel
theorem own_d9_113 : decode prog_44_method_9_code 113 = .ok (.invokevirtual 125, 3) := by decide +kernel
theorem own_d9_116 : decode prog_44_method_9_code 116 = .ok (.goto 71, 3) := by decide +kernel
theorem own_d9_187 : decode prog_44_method_9_code 187 = .ok (.return_, 1) := by decide +kernel
theorem own_ef9 (m : MethodId) (a0 : Addr) (p1 : Int32) : entryFrame m #[(.ref a0), (.int p1)] 4 = mkF m 0 #[.val (.ref a0), .val (.int p1), .unset, .unset] [] := by first | (simp [entryFrame, mkF, argsToLocals, Value.category, maxLocals]; done) | rfl
abbrev RM9 : Room := ({ frames := 2, cells := 0, slots := 0, locals := 30 } : Room)
abbrev kC9 : Nat := 0
abbrev kS9 : Nat := 0
def Q9 (Z : State) (a0 : Addr) (p1 : Int32) (wO : Addr) (wSz : Int64) (wPos : Int64) (wL : Int32) (wF : Int32) (wCh : Int32) (wB : Addr) (wC : Int32) (vs : List Value) (wSL : Addr) (wCS : Addr) (wCE : Addr) (h0 : Heap) (n0 : Nat) (v : Option Value) (h : Heap) (L : List Loc) : Prop := v = none ∧ Fr n0 L ∧ Keep h0 h [a0, wO, wB] ∧ Exa Z h a0 "com/example/bounded_crawl/boundedcrawl/web/Framing" ∧ Fld Z h a0 "com/example/bounded_crawl/boundedcrawl/web/Framing" "statusLine" "Ljava/io/ByteArrayOutputStream;" (.ref wO) ∧ Fld Z h a0 "com/example/bounded_crawl/boundedcrawl/web/Framing" "part" "Lcom/example/bounded_crawl/boundedcrawl/web/Framing$Part;" (.ref wSL) ∧ Fld Z h a0 "com/example/bounded_crawl/boundedcrawl/web/Framing" "size" "J" (.long wSz) ∧ Fld Z h a0 "com/example/bounded_crawl/boundedcrawl/web/Framing" "position" "J" (.long wPos) ∧ Fld Z h a0 "com/example/bounded_crawl/boundedcrawl/web/Framing" "chunkFraming" "J" (.long (0 : Int64)) ∧ Fld Z h a0 "com/example/bounded_crawl/boundedcrawl/web/Framing" "lineLength" "I" (.int (wL + (1 : Int32))) ∧ Fld Z h a0 "com/example/bounded_crawl/boundedcrawl/web/Framing" "lineFirst" "B" (.int (g9_7 p1 wL wF)) ∧ Fld Z h a0 "com/example/bounded_crawl/boundedcrawl/web/Framing" "chunked" "Z" (.int wCh) ∧ Exa Z h wO "java/io/ByteArrayOutputStream" ∧ Fld Z h wO "java/io/ByteArrayOutputStream" "buf" "[B" (.ref wB) ∧ Fld Z h wO "java/io/ByteArrayOutputStream" "count" "I" (.int (wC + (1 : Int32))) ∧ Ara Z h wB .byte (g9_12 p1 wC vs) ∧ Mon h wO
set_option maxRecDepth 65536 in
set_option maxHeartbeats 40000000 in
theorem rm9 (l : Launch) (Z : State) (tA : Array Value) (hw : ∀ d ∈ tables_1, d.before tA Z = true) (ws : List Jvm.Cond) (a0 : Addr) (p1 : Int32) (wO : Addr) (wSz : Int64) (wPos : Int64) (wL : Int32) (wF : Int32) (wCh : Int32) (wB : Addr) (wC : Int32) (vs : List Value) (wSL : Addr) (wCS : Addr) (wCE : Addr) (h0 : Heap) (n0 : Nat) (Z0 : n0 ≤ h0.size) (H0 : Exa Z h0 a0 "com/example/bounded_crawl/boundedcrawl/web/Framing") (H1 : Fld Z h0 a0 "com/example/bounded_crawl/boundedcrawl/web/Framing" "statusLine" "Ljava/io/ByteArrayOutputStream;" (.ref wO)) (H2 : Fld Z h0 a0 "com/example/bounded_crawl/boundedcrawl/web/Framing" "part" "Lcom/example/bounded_crawl/boundedcrawl/web/Framing$Part;" (.ref wSL)) (H3 : Fld Z h0 a0 "com/example/bounded_crawl/boundedcrawl/web/Framing" "size" "J" (.long wSz)) (H4 : Fld Z h0 a0 "com/example/bounded_crawl/boundedcrawl/web/Framing" "position" "J" (.long wPos)) (H5 : Fld Z h0 a0 "com/example/bounded_crawl/boundedcrawl/web/Framing" "chunkFraming" "J" (.long (0 : Int64))) (H6 : Fld Z h0 a0 "com/example/bounded_crawl/boundedcrawl/web/Framing" "lineLength" "I" (.int wL)) (H7 : Fld Z h0 a0 "com/example/bounded_crawl/boundedcrawl/web/Framing" "lineFirst" "B" (.int wF)) (H8 : Fld Z h0 a0 "com/example/bounded_crawl/boundedcrawl/web/Framing" "chunked" "Z" (.int wCh)) (H9 : Exa Z h0 wO "java/io/ByteArrayOutputStream") (H10 : Fld Z h0 wO "java/io/ByteArrayOutputStream" "buf" "[B" (.ref wB)) (H11 : Fld Z h0 wO "java/io/ByteArrayOutputStream" "count" "I" (.int wC)) (H12 : Ara Z h0 wB .byte vs) (H13 : Mon h0 wO) (H14 : Sta Z h0 "com/example/bounded_crawl/boundedcrawl/web/Framing$Part" "STATUS_LINE" "Lcom/example/bounded_crawl/boundedcrawl/web/Framing$Part;" (.ref wSL)) (H15 : Sta Z h0 "com/example/bounded_crawl/boundedcrawl/web/Framing$Part" "CHUNK_SIZE" "Lcom/example/bounded_crawl/boundedcrawl/web/Framing$Part;" (.ref wCS)) (H16 : Sta Z h0 "com/example/bounded_crawl/boundedcrawl/web/Framing$Part" "CHUNK_END" "Lcom/example/bounded_crawl/boundedcrawl/web/Framing$Part;" (.ref wCE)) (g_a0 : n0 ≤ a0) (g_wO : n0 ≤ wO) (g_wB : n0 ≤ wB) (ne_a0_wO : a0 ≠ wO) (ne_a0_wB : a0 ≠ wB) (ne_wO_wB : wO ≠ wB) (ne_wSL_wCS : wSL ≠ wCS) (ne_wSL_wCE : wSL ≠ wCE) (hvl : vs.length = 32) (hc : 0 ≤ wC.toInt ∧ wC.toInt < 32) :
    MetFree l (⟨"com/example/bounded_crawl/boundedcrawl/web/Framing", "lineGrew", "(B)V"⟩ : MethodName) (head1 (Jvm.Cond.code (⟨"com/example/bounded_crawl/boundedcrawl/web/Framing", "lineGrew", "(B)V"⟩ : MethodName) prog_44_method_9_code 4 none :: ws) RM9) (fun a U => a = #[(.ref a0), (.int p1)] ∧ Z.Warmed39 U.vm ∧ U.heap = h0) (fun _ _ _ _ _ => True) (fun _ U o U' => ∃ v L, o = .returned v ∧ Q9 Z a0 p1 wO wSz wPos wL wF wCh wB wC vs wSL wCS wCE h0 n0 v U'.heap L ∧ FrameEnd U o U' L RM9.cells RM9.slots) := by
  refine MetFree.of_bodySF (plainFor_of_name own_pn3) hisR ?_
  intro p e s m args below meth c s₁ Bd hml0 hP hK
  obtain ⟨rfl, hZ, hh⟩ := hP
  have hx := Bd.exec
  have hby := Bd.bytes
  have hml : c.maxLocals = 4 := hml0
  have hown : s.vm.findClass "com/example/bounded_crawl/boundedcrawl/web/Framing" = some m.cls := findClass_of_methodNamed Bd.named
  have hnm := (name_of_methodNamed Bd.named Bd.method).1
  have X0 : Stand p l e RM9 s m #[(.ref a0), (.int p1)] below meth c s₁ [] 0 0 := Stand.of_body Bd
  have e0 : s₁.heap = h0 := by rw [← hh, Bd.state]; rfl
  have N0 := Fr.nil n0
  show Goes p e below s (Q9 Z a0 p1 wO wSz wPos wL wF wCh wB wC vs wSL wCS wCE h0 n0) kC9 kS9 (s₁.setTop (entryFrame m #[(.ref a0), (.int p1)] 4))
  refine Goes.step (fun t k => castTop (own_ef9 m a0 p1) k) ?_
  show Goes _ _ _ _ _ _ _ (s₁.setTop (mkF m 0 #[.val (.ref a0), .val (.int p1), .unset, .unset] []))
  refine Goes.step (fun t k => XS.aloadN X0.here hx rfl (hb hby own_d9_0) rfl rfl k) ?_
  show Goes _ _ _ _ _ _ _ (s₁.setTop (mkF m 1 #[.val (.ref a0), .val (.int p1), .unset, .unset] [(.ref a0)]))
  obtain ⟨T1, X1, e1, st1⟩ := getF X0 hx hZ hown (host := "") (Or.inl (hw _ (List.mem_of_getElem? (i := 76) rfl))) Via.refl e0 H6 (g := (mkF m 1 #[.val (.ref a0), .val (.int p1), .unset, .unset] [(.ref a0)])) rfl rfl (hb hby own_d9_1)
  refine Goes.step (fun t k => st1 t k) ?_
  show Goes _ _ _ _ _ _ _ (T1.setTop (mkF m 4 #[.val (.ref a0), .val (.int p1), .unset, .unset] [(.int wL)]))
  suffices k20 : ∀ (T20 : State) (h20 : Heap) (L20 : List Loc) (x20_0 : Int32), Stand p l e RM9 s m #[(.ref a0), (.int p1)] below meth c T20 L20 0 0 → T20.heap = h20 → Fr n0 L20 → Keep h0 h20 [a0, wO, wB] → n0 ≤ h20.size → Exa Z h20 a0 "com/example/bounded_crawl/boundedcrawl/web/Framing" → Fld Z h20 a0 "com/example/bounded_crawl/boundedcrawl/web/Framing" "statusLine" "Ljava/io/ByteArrayOutputStream;" (.ref wO) → Fld Z h20 a0 "com/example/bounded_crawl/boundedcrawl/web/Framing" "part" "Lcom/example/bounded_crawl/boundedcrawl/web/Framing$Part;" (.ref wSL) → Fld Z h20 a0 "com/example/bounded_crawl/boundedcrawl/web/Framing" "size" "J" (.long wSz) → Fld Z h20 a0 "com/example/bounded_crawl/boundedcrawl/web/Framing" "position" "J" (.long wPos) → Fld Z h20 a0 "com/example/bounded_crawl/boundedcrawl/web/Framing" "chunkFraming" "J" (.long (0 : Int64)) → Fld Z h20 a0 "com/example/bounded_crawl/boundedcrawl/web/Framing" "lineLength" "I" (.int wL) → Fld Z h20 a0 "com/example/bounded_crawl/boundedcrawl/web/Framing" "chunked" "Z" (.int wCh) → Exa Z h20 wO "java/io/ByteArrayOutputStream" → Fld Z h20 wO "java/io/ByteArrayOutputStream" "buf" "[B" (.ref wB) → Fld Z h20 wO "java/io/ByteArrayOutputStream" "count" "I" (.int wC) → Ara Z h20 wB .byte vs → Mon h20 wO → Sta Z h20 "com/example/bounded_crawl/boundedcrawl/web/Framing$Part" "STATUS_LINE" "Lcom/example/bounded_crawl/boundedcrawl/web/Framing$Part;" (.ref wSL) → Sta Z h20 "com/example/bounded_crawl/boundedcrawl/web/Framing$Part" "CHUNK_SIZE" "Lcom/example/bounded_crawl/boundedcrawl/web/Framing$Part;" (.ref wCS) → Sta Z h20 "com/example/bounded_crawl/boundedcrawl/web/Framing$Part" "CHUNK_END" "Lcom/example/bounded_crawl/boundedcrawl/web/Framing$Part;" (.ref wCE) → Fld Z h20 a0 "com/example/bounded_crawl/boundedcrawl/web/Framing" "lineFirst" "B" (.int x20_0) → x20_0 = (if wL = (0 : Int32) then (nar .byte p1) else wF) → Goes p e below s (Q9 Z a0 p1 wO wSz wPos wL wF wCh wB wC vs wSL wCS wCE h0 n0) kC9 kS9 (T20.setTop (mkF m 12 #[.val (.ref a0), .val (.int p1), .unset, .unset] [])) by
    by_cases hc4_2 : wL = (0 : Int32)
    · refine Goes.step (fun t k => XS.ifNo X1.here hx rfl (hb hby own_d9_4) rfl ((if0 _ _).trans (teq hc4_2).2) k) ?_
      show Goes _ _ _ _ _ _ _ (T1.setTop (mkF m 7 #[.val (.ref a0), .val (.int p1), .unset, .unset] []))
      refine Goes.step (fun t k => XS.aloadN X1.here hx rfl (hb hby own_d9_7) rfl rfl k) ?_
      show Goes _ _ _ _ _ _ _ (T1.setTop (mkF m 8 #[.val (.ref a0), .val (.int p1), .unset, .unset] [(.ref a0)]))
      refine Goes.step (fun t k => XS.iloadN X1.here hx rfl (hb hby own_d9_8) rfl k) ?_
      show Goes _ _ _ _ _ _ _ (T1.setTop (mkF m 9 #[.val (.ref a0), .val (.int p1), .unset, .unset] [(.int p1), (.ref a0)]))
      obtain ⟨T3, h3, X3, e3, W3, st3⟩ := putFN X1 hx hZ hown (hw _ (List.mem_of_getElem? (i := 78) rfl)) Via.refl e1 H7 H0 (Or.inl (hw _ (List.mem_of_getElem? (i := 79) rfl))) (hw _ (List.mem_of_getElem? (i := 6) rfl)) (ty := .byte) (v' := (.int (nar .byte p1))) (by decide) rfl (fits_nar_byte _) (g := (mkF m 9 #[.val (.ref a0), .val (.int p1), .unset, .unset] [(.int p1), (.ref a0)])) rfl rfl (hb hby own_d9_9)
      have Fw3 := H7.same W3
      have F4 := H0.wr W3
      have F5 := H1.other W3 (Or.inr (slot_ne (Or.inr (hw _ (List.mem_of_getElem? (i := 34) rfl))) (Or.inl (hw _ (List.mem_of_getElem? (i := 79) rfl))) (by decide) (t := (.object "java/io/ByteArrayOutputStream")) (t' := .byte) (by decide) (by decide)))
      have F6 := H2.other W3 (Or.inr (slot_ne (Or.inl (hw _ (List.mem_of_getElem? (i := 41) rfl))) (Or.inl (hw _ (List.mem_of_getElem? (i := 79) rfl))) (by decide) (t := (.object "com/example/bounded_crawl/boundedcrawl/web/Framing$Part")) (t' := .byte) (by decide) (by decide)))
      have F7 := H3.other W3 (Or.inr (slot_ne (Or.inl (hw _ (List.mem_of_getElem? (i := 50) rfl))) (Or.inl (hw _ (List.mem_of_getElem? (i := 79) rfl))) (by decide) (t := .long) (t' := .byte) (by decide) (by decide)))
      have F8 := H4.other W3 (Or.inr (slot_ne (Or.inl (hw _ (List.mem_of_getElem? (i := 62) rfl))) (Or.inl (hw _ (List.mem_of_getElem? (i := 79) rfl))) (by decide) (t := .long) (t' := .byte) (by decide) (by decide)))
      have F9 := H5.other W3 (Or.inr (slot_ne (Or.inl (hw _ (List.mem_of_getElem? (i := 64) rfl))) (Or.inl (hw _ (List.mem_of_getElem? (i := 79) rfl))) (by decide) (t := .long) (t' := .byte) (by decide) (by decide)))
      have F10 := H6.other W3 (Or.inr (slot_ne (Or.inl (hw _ (List.mem_of_getElem? (i := 77) rfl))) (Or.inl (hw _ (List.mem_of_getElem? (i := 79) rfl))) (by decide) (t := .int) (t' := .byte) (by decide) (by decide)))
      have F11 := H8.other W3 (Or.inr (slot_ne (Or.inl (hw _ (List.mem_of_getElem? (i := 98) rfl))) (Or.inl (hw _ (List.mem_of_getElem? (i := 79) rfl))) (by decide) (t := .boolean) (t' := .byte) (by decide) (by decide)))
      have F12 := H9.wr W3
      have F13 := H10.other W3 (Or.inl (Ne.symm ne_a0_wO))
      have F14 := H11.other W3 (Or.inl (Ne.symm ne_a0_wO))
      have F15 := H12.other W3 (Ne.symm ne_a0_wB)
      have F16 := H13.wr W3
      have F17 := H14.wr W3
      have F18 := H15.wr W3
      have F19 := H16.wr W3
      have K3 := (Keep.refl h0 [a0, wO, wB]).wr W3 (Or.inl (List.mem_of_getElem? (i := 0) rfl))
      have N3 := Fr.snoc X3 N0 g_a0
      have Z3 := Nat.le_trans Z0 (Nat.le_of_eq W3.size.symm)
      refine Goes.step (fun t k => st3 t k) ?_
      show Goes _ _ _ _ _ _ _ (T3.setTop (mkF m 12 #[.val (.ref a0), .val (.int p1), .unset, .unset] []))
      exact k20 _ _ _ _ X3 e3 N3 K3 Z3 F4 F5 F6 F7 F8 F9 F10 F11 F12 F13 F14 F15 F16 F17 F18 F19 Fw3 (if_pos hc4_2).symm
    · refine Goes.step (fun t k => XS.ifYes X1.here hx rfl (pc0 := 4) (pc' := 12) rfl (hb hby own_d9_4) rfl ((if0 _ _).trans (feq hc4_2).2) (by decide) (by decide) k) ?_
      show Goes _ _ _ _ _ _ _ (T1.setTop (mkF m 12 #[.val (.ref a0), .val (.int p1), .unset, .unset] []))
      exact k20 _ _ _ _ X1 e1 N0 (Keep.refl h0 [a0, wO, wB]) Z0 H0 H1 H2 H3 H4 H5 H6 H8 H9 H10 H11 H12 H13 H14 H15 H16 H7 (if_neg hc4_2).symm
  intro T20 h20 L20 x20_0 X20 e20 N20 K20 Z20 F20_0 F20_1 F20_2 F20_3 F20_4 F20_5 F20_6 F20_7 F20_8 F20_9 F20_10 F20_11 F20_12 F20_13 F20_14 F20_15 F20_16 hx20_0
  refine Goes.step (fun t k => XS.aloadN X20.here hx rfl (hb hby own_d9_12) rfl rfl k) ?_
  show Goes _ _ _ _ _ _ _ (T20.setTop (mkF m 13 #[.val (.ref a0), .val (.int p1), .unset, .unset] [(.ref a0)]))
  refine Goes.step (fun t k => XS.dup X20.here hx rfl (hb hby own_d9_13) rfl rfl k) ?_
  show Goes _ _ _ _ _ _ _ (T20.setTop (mkF m 14 #[.val (.ref a0), .val (.int p1), .unset, .unset] [(.ref a0), (.ref a0)]))
  obtain ⟨T21, X21, e21, st21⟩ := getF X20 hx hZ hown (host := "") (Or.inl (hw _ (List.mem_of_getElem? (i := 76) rfl))) Via.refl e20 F20_6 (g := (mkF m 14 #[.val (.ref a0), .val (.int p1), .unset, .unset] [(.ref a0), (.ref a0)])) rfl rfl (hb hby own_d9_14)
  refine Goes.step (fun t k => st21 t k) ?_
  show Goes _ _ _ _ _ _ _ (T21.setTop (mkF m 17 #[.val (.ref a0), .val (.int p1), .unset, .unset] [(.int wL), (.ref a0)]))
  refine Goes.step (fun t k => XS.iconst X21.here hx rfl (hb hby own_d9_17) k) ?_
  show Goes _ _ _ _ _ _ _ (T21.setTop (mkF m 18 #[.val (.ref a0), .val (.int p1), .unset, .unset] [(.int (1 : Int32)), (.int wL), (.ref a0)]))
  refine Goes.step (fun t k => XS.iadd X21.here hx rfl (hb hby own_d9_18) rfl k) ?_
  show Goes _ _ _ _ _ _ _ (T21.setTop (mkF m 19 #[.val (.ref a0), .val (.int p1), .unset, .unset] [(.int (wL + (1 : Int32))), (.ref a0)]))
  obtain ⟨T22, h22, X22, e22, W22, st22⟩ := putF X21 hx hZ hown (host := "") (Or.inl (hw _ (List.mem_of_getElem? (i := 76) rfl))) Via.refl e21 F20_6 F20_0 (Or.inl (hw _ (List.mem_of_getElem? (i := 77) rfl))) (hw _ (List.mem_of_getElem? (i := 6) rfl)) (ty := .int) (by decide) rfl rfl (g := (mkF m 19 #[.val (.ref a0), .val (.int p1), .unset, .unset] [(.int (wL + (1 : Int32))), (.ref a0)])) rfl rfl (hb hby own_d9_19)
  have Fw22 := F20_6.same W22
  have F23 := F20_0.wr W22
  have F24 := F20_1.other W22 (Or.inr (slot_ne (Or.inr (hw _ (List.mem_of_getElem? (i := 34) rfl))) (Or.inl (hw _ (List.mem_of_getElem? (i := 77) rfl))) (by decide) (t := (.object "java/io/ByteArrayOutputStream")) (t' := .int) (by decide) (by decide)))
  have F25 := F20_2.other W22 (Or.inr (slot_ne (Or.inl (hw _ (List.mem_of_getElem? (i := 41) rfl))) (Or.inl (hw _ (List.mem_of_getElem? (i := 77) rfl))) (by decide) (t := (.object "com/example/bounded_crawl/boundedcrawl/web/Framing$Part")) (t' := .int) (by decide) (by decide)))
  have F26 := F20_3.other W22 (Or.inr (slot_ne (Or.inl (hw _ (List.mem_of_getElem? (i := 50) rfl))) (Or.inl (hw _ (List.mem_of_getElem? (i := 77) rfl))) (by decide) (t := .long) (t' := .int) (by decide) (by decide)))
  have F27 := F20_4.other W22 (Or.inr (slot_ne (Or.inl (hw _ (List.mem_of_getElem? (i := 62) rfl))) (Or.inl (hw _ (List.mem_of_getElem? (i := 77) rfl))) (by decide) (t := .long) (t' := .int) (by decide) (by decide)))
  have F28 := F20_5.other W22 (Or.inr (slot_ne (Or.inl (hw _ (List.mem_of_getElem? (i := 64) rfl))) (Or.inl (hw _ (List.mem_of_getElem? (i := 77) rfl))) (by decide) (t := .long) (t' := .int) (by decide) (by decide)))
  have F29 := F20_7.other W22 (Or.inr (slot_ne (Or.inl (hw _ (List.mem_of_getElem? (i := 98) rfl))) (Or.inl (hw _ (List.mem_of_getElem? (i := 77) rfl))) (by decide) (t := .boolean) (t' := .int) (by decide) (by decide)))
  have F30 := F20_8.wr W22
  have F31 := F20_9.other W22 (Or.inl (Ne.symm ne_a0_wO))
  have F32 := F20_10.other W22 (Or.inl (Ne.symm ne_a0_wO))
  have F33 := F20_11.other W22 (Ne.symm ne_a0_wB)
  have F34 := F20_12.wr W22
  have F35 := F20_13.wr W22
  have F36 := F20_14.wr W22
  have F37 := F20_15.wr W22
  have F38 := F20_16.other W22 (Or.inr (slot_ne (Or.inl (hw _ (List.mem_of_getElem? (i := 79) rfl))) (Or.inl (hw _ (List.mem_of_getElem? (i := 77) rfl))) (by decide) (t := .byte) (t' := .int) (by decide) (by decide)))
  have K22 := K20.wr W22 (Or.inl (List.mem_of_getElem? (i := 0) rfl))
  have N22 := Fr.snoc X22 N20 g_a0
  have Z22 := Nat.le_trans Z20 (Nat.le_of_eq W22.size.symm)
  refine Goes.step (fun t k => st22 t k) ?_
  show Goes _ _ _ _ _ _ _ (T22.setTop (mkF m 22 #[.val (.ref a0), .val (.int p1), .unset, .unset] []))
  refine Goes.step (fun t k => XS.iloadN X22.here hx rfl (hb hby own_d9_22) rfl k) ?_
  show Goes _ _ _ _ _ _ _ (T22.setTop (mkF m 23 #[.val (.ref a0), .val (.int p1), .unset, .unset] [(.int p1)]))
  refine Goes.step (fun t k => XS.bipush X22.here hx rfl (hb hby own_d9_23) k) ?_
  show Goes _ _ _ _ _ _ _ (T22.setTop (mkF m 25 #[.val (.ref a0), .val (.int p1), .unset, .unset] [(.int (13 : Int32)), (.int p1)]))
  suffices k42 : ∀ (T42 : State) (L42 : List Loc) (x42_0 : Int32), Stand p l e RM9 s m #[(.ref a0), (.int p1)] below meth c T42 L42 0 0 → T42.heap = h22 → Fr n0 L42 → x42_0 = (if p1 = (13 : Int32) then ((wL + (1 : Int32)) - (1 : Int32)) else (wL + (1 : Int32))) → Goes p e below s (Q9 Z a0 p1 wO wSz wPos wL wF wCh wB wC vs wSL wCS wCE h0 n0) kC9 kS9 (T42.setTop (mkF m 41 #[.val (.ref a0), .val (.int p1), .unset, .unset] [(.int x42_0)])) by
    by_cases hc25_39 : p1 = (13 : Int32)
    · refine Goes.step (fun t k => XS.icmpNo X22.here hx rfl (hb hby own_d9_25) rfl (teq hc25_39).2 k) ?_
      show Goes _ _ _ _ _ _ _ (T22.setTop (mkF m 28 #[.val (.ref a0), .val (.int p1), .unset, .unset] []))
      refine Goes.step (fun t k => XS.aloadN X22.here hx rfl (hb hby own_d9_28) rfl rfl k) ?_
      show Goes _ _ _ _ _ _ _ (T22.setTop (mkF m 29 #[.val (.ref a0), .val (.int p1), .unset, .unset] [(.ref a0)]))
      obtain ⟨T40, X40, e40, st40⟩ := getF X22 hx hZ hown (host := "") (Or.inl (hw _ (List.mem_of_getElem? (i := 76) rfl))) Via.refl e22 Fw22 (g := (mkF m 29 #[.val (.ref a0), .val (.int p1), .unset, .unset] [(.ref a0)])) rfl rfl (hb hby own_d9_29)
      refine Goes.step (fun t k => st40 t k) ?_
      show Goes _ _ _ _ _ _ _ (T40.setTop (mkF m 32 #[.val (.ref a0), .val (.int p1), .unset, .unset] [(.int (wL + (1 : Int32)))]))
      refine Goes.step (fun t k => XS.iconst X40.here hx rfl (hb hby own_d9_32) k) ?_
      show Goes _ _ _ _ _ _ _ (T40.setTop (mkF m 33 #[.val (.ref a0), .val (.int p1), .unset, .unset] [(.int (1 : Int32)), (.int (wL + (1 : Int32)))]))
      refine Goes.step (fun t k => XS.isub X40.here hx rfl (hb hby own_d9_33) rfl k) ?_
      show Goes _ _ _ _ _ _ _ (T40.setTop (mkF m 34 #[.val (.ref a0), .val (.int p1), .unset, .unset] [(.int ((wL + (1 : Int32)) - (1 : Int32)))]))
      refine Goes.step (fun t k => XS.goto X40.here hx rfl (pc0 := 34) (pc' := 41) rfl (hb hby own_d9_34) (by decide) (by decide) k) ?_
      show Goes _ _ _ _ _ _ _ (T40.setTop (mkF m 41 #[.val (.ref a0), .val (.int p1), .unset, .unset] [(.int ((wL + (1 : Int32)) - (1 : Int32)))]))
      exact k42 _ _ _ X40 e40 N22 (if_pos hc25_39).symm
    · refine Goes.step (fun t k => XS.icmpYes X22.here hx rfl (pc0 := 25) (pc' := 37) rfl (hb hby own_d9_25) rfl (feq hc25_39).2 (by decide) (by decide) k) ?_
      show Goes _ _ _ _ _ _ _ (T22.setTop (mkF m 37 #[.val (.ref a0), .val (.int p1), .unset, .unset] []))
      refine Goes.step (fun t k => XS.aloadN X22.here hx rfl (hb hby own_d9_37) rfl rfl k) ?_
      show Goes _ _ _ _ _ _ _ (T22.setTop (mkF m 38 #[.val (.ref a0), .val (.int p1), .unset, .unset] [(.ref a0)]))
      obtain ⟨T41, X41, e41, st41⟩ := getF X22 hx hZ hown (host := "") (Or.inl (hw _ (List.mem_of_getElem? (i := 76) rfl))) Via.refl e22 Fw22 (g := (mkF m 38 #[.val (.ref a0), .val (.int p1), .unset, .unset] [(.ref a0)])) rfl rfl (hb hby own_d9_38)
      refine Goes.step (fun t k => st41 t k) ?_
      show Goes _ _ _ _ _ _ _ (T41.setTop (mkF m 41 #[.val (.ref a0), .val (.int p1), .unset, .unset] [(.int (wL + (1 : Int32)))]))
      exact k42 _ _ _ X41 e41 N22 (if_neg hc25_39).symm
  intro T42 L42 x42_0 X42 e42 N42 hx42_0
  refine Goes.step (fun t k => XS.istoreN X42.here hx rfl (hb hby own_d9_41) rfl (l' := #[.val (.ref a0), .val (.int p1), .val (.int x42_0), .unset]) rfl k) ?_
  show Goes _ _ _ _ _ _ _ (T42.setTop (mkF m 42 #[.val (.ref a0), .val (.int p1), .val (.int x42_0), .unset] []))
  refine Goes.step (fun t k => XS.aloadN X42.here hx rfl (hb hby own_d9_42) rfl rfl k) ?_
  show Goes _ _ _ _ _ _ _ (T42.setTop (mkF m 43 #[.val (.ref a0), .val (.int p1), .val (.int x42_0), .unset] [(.ref a0)]))
  obtain ⟨T43, X43, e43, st43⟩ := getF X42 hx hZ hown (host := "") (Or.inl (hw _ (List.mem_of_getElem? (i := 40) rfl))) Via.refl e42 F25 (g := (mkF m 43 #[.val (.ref a0), .val (.int p1), .val (.int x42_0), .unset] [(.ref a0)])) rfl rfl (hb hby own_d9_43)
  refine Goes.step (fun t k => st43 t k) ?_
  show Goes _ _ _ _ _ _ _ (T43.setTop (mkF m 46 #[.val (.ref a0), .val (.int p1), .val (.int x42_0), .unset] [(.ref wSL)]))
  obtain ⟨T44, X44, e44, st44⟩ := getS2 X43 hx hZ hown (host := "") (Or.inl (hw _ (List.mem_of_getElem? (i := 65) rfl))) Via.refl e43 F36 (g := (mkF m 46 #[.val (.ref a0), .val (.int p1), .val (.int x42_0), .unset] [(.ref wSL)])) rfl (hb hby own_d9_46)
  refine Goes.step (fun t k => st44 t k) ?_
  show Goes _ _ _ _ _ _ _ (T44.setTop (mkF m 49 #[.val (.ref a0), .val (.int p1), .val (.int x42_0), .unset] [(.ref wCS), (.ref wSL)]))
  refine Goes.step (fun t k => Jvm.RoadKit.acmp (g := (mkF m 49 #[.val (.ref a0), .val (.int p1), .val (.int x42_0), .unset] [(.ref wCS), (.ref wSL)])) X44 hx rfl rfl rfl (pc0 := 49) (pc' := 52) (same := false) rfl (hb hby own_d9_49) rfl (decide_eq_false fun q => ne_wSL_wCS (Value.ref.inj q)) (by decide) (by decide) k) ?_
  show Goes _ _ _ _ _ _ _ (T44.setTop (mkF m 52 #[.val (.ref a0), .val (.int p1), .val (.int x42_0), .unset] []))
  refine Goes.step (fun t k => XS.aloadN X44.here hx rfl (hb hby own_d9_52) rfl rfl k) ?_
  show Goes _ _ _ _ _ _ _ (T44.setTop (mkF m 53 #[.val (.ref a0), .val (.int p1), .val (.int x42_0), .unset] [(.ref a0)]))
  obtain ⟨T46, X46, e46, st46⟩ := getF X44 hx hZ hown (host := "") (Or.inl (hw _ (List.mem_of_getElem? (i := 40) rfl))) Via.refl e44 F25 (g := (mkF m 53 #[.val (.ref a0), .val (.int p1), .val (.int x42_0), .unset] [(.ref a0)])) rfl rfl (hb hby own_d9_53)
  refine Goes.step (fun t k => st46 t k) ?_
  show Goes _ _ _ _ _ _ _ (T46.setTop (mkF m 56 #[.val (.ref a0), .val (.int p1), .val (.int x42_0), .unset] [(.ref wSL)]))
  obtain ⟨T47, X47, e47, st47⟩ := getS2 X46 hx hZ hown (host := "") (Or.inl (hw _ (List.mem_of_getElem? (i := 67) rfl))) Via.refl e46 F37 (g := (mkF m 56 #[.val (.ref a0), .val (.int p1), .val (.int x42_0), .unset] [(.ref wSL)])) rfl (hb hby own_d9_56)
  refine Goes.step (fun t k => st47 t k) ?_
  show Goes _ _ _ _ _ _ _ (T47.setTop (mkF m 59 #[.val (.ref a0), .val (.int p1), .val (.int x42_0), .unset] [(.ref wCE), (.ref wSL)]))
  refine Goes.step (fun t k => Jvm.RoadKit.acmp (g := (mkF m 59 #[.val (.ref a0), .val (.int p1), .val (.int x42_0), .unset] [(.ref wCE), (.ref wSL)])) X47 hx rfl rfl rfl (pc0 := 59) (pc' := 98) (same := false) rfl (hb hby own_d9_59) rfl (decide_eq_false fun q => ne_wSL_wCE (Value.ref.inj q)) (by decide) (by decide) k) ?_
  show Goes _ _ _ _ _ _ _ (T47.setTop (mkF m 98 #[.val (.ref a0), .val (.int p1), .val (.int x42_0), .unset] []))
  refine Goes.step (fun t k => XS.aloadN X47.here hx rfl (hb hby own_d9_98) rfl rfl k) ?_
  show Goes _ _ _ _ _ _ _ (T47.setTop (mkF m 99 #[.val (.ref a0), .val (.int p1), .val (.int x42_0), .unset] [(.ref a0)]))
  obtain ⟨T49, X49, e49, st49⟩ := getF X47 hx hZ hown (host := "") (Or.inl (hw _ (List.mem_of_getElem? (i := 40) rfl))) Via.refl e47 F25 (g := (mkF m 99 #[.val (.ref a0), .val (.int p1), .val (.int x42_0), .unset] [(.ref a0)])) rfl rfl (hb hby own_d9_99)
  refine Goes.step (fun t k => st49 t k) ?_
  show Goes _ _ _ _ _ _ _ (T49.setTop (mkF m 102 #[.val (.ref a0), .val (.int p1), .val (.int x42_0), .unset] [(.ref wSL)]))
  obtain ⟨T50, X50, e50, st50⟩ := getS2 X49 hx hZ hown (host := "") (Or.inl (hw _ (List.mem_of_getElem? (i := 37) rfl))) Via.refl e49 F35 (g := (mkF m 102 #[.val (.ref a0), .val (.int p1), .val (.int x42_0), .unset] [(.ref wSL)])) rfl (hb hby own_d9_102)
  refine Goes.step (fun t k => st50 t k) ?_
  show Goes _ _ _ _ _ _ _ (T50.setTop (mkF m 105 #[.val (.ref a0), .val (.int p1), .val (.int x42_0), .unset] [(.ref wSL), (.ref wSL)]))
  refine Goes.step (fun t k => Jvm.RoadKit.acmp (g := (mkF m 105 #[.val (.ref a0), .val (.int p1), .val (.int x42_0), .unset] [(.ref wSL), (.ref wSL)])) X50 hx rfl rfl rfl (pc0 := 105) (pc' := 108) (same := true) rfl (hb hby own_d9_105) rfl (decide_eq_true (congrArg Value.ref rfl)) (by decide) (by decide) k) ?_
  show Goes _ _ _ _ _ _ _ (T50.setTop (mkF m 108 #[.val (.ref a0), .val (.int p1), .val (.int x42_0), .unset] []))
  refine Goes.step (fun t k => XS.aloadN X50.here hx rfl (hb hby own_d9_108) rfl rfl k) ?_
  show Goes _ _ _ _ _ _ _ (T50.setTop (mkF m 109 #[.val (.ref a0), .val (.int p1), .val (.int x42_0), .unset] [(.ref a0)]))
  obtain ⟨T52, X52, e52, st52⟩ := getF X50 hx hZ hown (host := "") (Or.inl (hw _ (List.mem_of_getElem? (i := 33) rfl))) Via.refl e50 F24 (g := (mkF m 109 #[.val (.ref a0), .val (.int p1), .val (.int x42_0), .unset] [(.ref a0)])) rfl rfl (hb hby own_d9_109)
  refine Goes.step (fun t k => st52 t k) ?_
  show Goes _ _ _ _ _ _ _ (T52.setTop (mkF m 112 #[.val (.ref a0), .val (.int p1), .val (.int x42_0), .unset] [(.ref wO)]))
  refine Goes.step (fun t k => XS.iloadN X52.here hx rfl (hb hby own_d9_112) rfl k) ?_
  show Goes _ _ _ _ _ _ _ (T52.setTop (mkF m 113 #[.val (.ref a0), .val (.int p1), .val (.int x42_0), .unset] [(.int p1), (.ref wO)]))
  obtain ⟨cq53, kq53, q53a, q53b, q53c⟩ := isOf hZ e52 F30
  obtain ⟨_, _, ⟨T53, L53, k53, n53⟩, -, X53, ⟨Lc53, hQ53, l53, y53, z53⟩, st53⟩ := X52.virtualBack hx (y := (⟨"java/io/ByteArrayOutputStream", "write", "(I)V"⟩ : MethodName)) (z := (⟨"java/io/ByteArrayOutputStream", "write", "(I)V"⟩ : MethodName)) hown (mvT hZ (hw _ (List.mem_of_getElem? (i := 80) rfl))) (mvT hZ (hw _ (List.mem_of_getElem? (i := 81) rfl))) (notFace_of_selects (args := #[]) (mvT hZ (hw _ (List.mem_of_getElem? (i := 83) rfl)))) (mvT hZ (hw _ (List.mem_of_getElem? (i := 83) rfl))) (mvT hZ (hw _ (List.mem_of_getElem? (i := 82) rfl))) (by decide) (backOfS (W := 0) (rm10 l Z tA hw [] wO p1 wB wC vs h22 n0 Z22 F30 F31 F32 F33 F34 g_wO g_wB ne_wO_wB hvl hc) hZ (hw _ (List.mem_of_getElem? (i := 84) rfl)) (hw _ (List.mem_of_getElem? (i := 82) rfl)) (hw _ (List.mem_of_getElem? (i := 16) rfl)) (by decide) (by decide)) q53a q53c (g := (mkF m 113 #[.val (.ref a0), .val (.int p1), .val (.int x42_0), .unset] [(.int p1), (.ref wO)])) rfl (by rw [hml]; rfl) (Steps.refl _) (argsL := [(.int p1)]) (rest := []) (lenOf own_pd1 rfl) rfl (by show 2 * 0 + _ ≤ _; exact Nat.le_of_eq rfl) (hb hby own_d9_113) (fun _ _ => ⟨rfl, e52, (by decide : 0 + 0 ≤ _), (by decide : 0 + 0 ≤ _)⟩)
  dsimp only [Pt.U, Pt.locs, Pt.cells, Pt.slots] at X53 l53 y53 z53 st53 hQ53
  rw [l53, y53, z53] at X53
  generalize e53 : T53.heap = h53 at hQ53
  obtain ⟨rfl, Nq53, Kq53, G53_0, G53_1, G53_2, G53_3, G53_4⟩ := hQ53
  have F54 := F23.keep Kq53
  have F55 := F24.keep Kq53 (ninS ne_a0_wO (ninS ne_a0_wB nin0))
  have F56 := F25.keep Kq53 (ninS ne_a0_wO (ninS ne_a0_wB nin0))
  have F57 := F26.keep Kq53 (ninS ne_a0_wO (ninS ne_a0_wB nin0))
  have F58 := F27.keep Kq53 (ninS ne_a0_wO (ninS ne_a0_wB nin0))
  have F59 := F28.keep Kq53 (ninS ne_a0_wO (ninS ne_a0_wB nin0))
  have F60 := F29.keep Kq53 (ninS ne_a0_wO (ninS ne_a0_wB nin0))
  have F61 := own_sta_keep F35 Kq53 (allS (notsta_exa F30) (allS (notsta_ara F33) all0))
  have F62 := own_sta_keep F36 Kq53 (allS (notsta_exa F30) (allS (notsta_ara F33) all0))
  have F63 := own_sta_keep F37 Kq53 (allS (notsta_exa F30) (allS (notsta_ara F33) all0))
  have F64 := F38.keep Kq53 (ninS ne_a0_wO (ninS ne_a0_wB nin0))
  have F65 := Fw22.keep Kq53 (ninS ne_a0_wO (ninS ne_a0_wB nin0))
  have N53 := Fr.app N42 Nq53
  have K53 := K22.trans Kq53 (allS (Or.inl (List.mem_of_getElem? (i := 1) rfl)) (allS (Or.inl (List.mem_of_getElem? (i := 2) rfl)) all0))
  have Z53 := Nat.le_trans Z22 Kq53.1
  change Stand _ _ _ _ _ _ _ _ _ _ _ _ 0 0 at X53
  refine Goes.step (fun t k => st53.trans k) ?_
  show Goes _ _ _ _ _ _ _ (T53.setTop (mkF m 116 #[.val (.ref a0), .val (.int p1), .val (.int x42_0), .unset] []))
  refine Goes.step (fun t k => XS.goto X53.here hx rfl (pc0 := 116) (pc' := 187) rfl (hb hby own_d9_116) (by decide) (by decide) k) ?_
  show Goes _ _ _ _ _ _ _ (T53.setTop (mkF m 187 #[.val (.ref a0), .val (.int p1), .val (.int x42_0), .unset] []))
  subst hx42_0
  subst hx20_0
  exact Goes.retV X53 hx Bd.notSynchronized Bd.returns (hb hby own_d9_187) (by rw [e53]; exact ⟨rfl, N53, K53, F54, F55, F56, F57, F58, F59, F65, F64, F60, G53_0, G53_1, G53_2, G53_3, G53_4⟩) (by decide) (by decide)

theorem own_set32 {p c : Int32} {vs : List Value} (h : vs.length = 32) : (g9_12 p c vs).length = 32 := by unfold g9_12; simpa using h
theorem own_o64 {y : Int32} (h : 0 ≤ y.toInt) (a : Int64) : a + Int64.ofNat y.toNatClampNeg = a + y.toInt64 := by
  have e := (own_nat h).2
  have r := rng32 y
  congr 1
  rw [← Int64.toInt_inj, Int32.toInt_toInt64, e]
  exact Int64.toInt_ofNat_of_lt (by omega)
theorem own_o32 {y : Int32} (h : 0 ≤ y.toInt) (a : Int32) : a + Int32.ofNat y.toNatClampNeg = a + y := by
  have e := (own_nat h).2
  have r := rng32 y
  congr 1
  rw [← Int32.toInt_inj, e]
  exact Int32.toInt_ofNat_small (by omega)
theorem own_pp {p y : Int32} (h2 : 0 ≤ p.toInt) (h3 : 0 ≤ y.toInt) (h8 : p.toInt + y.toInt ≤ 8) : (p + y).toInt ≤ 8 ∧ p.toInt + (y.toNatClampNeg : Int) = (p + y).toInt := by
  have e := (own_nat h3).2
  have q := c_iadd p y
  have r := rng32 (p + y)
  omega
theorem own_cn {c y : Int32} (h3 : 0 ≤ y.toInt) (h : c.toInt + y.toInt ≤ 32) : c.toInt + (y.toNatClampNeg : Int) ≤ 32 := by
  have e := (own_nat h3).2; omega
theorem own_d8_0 : decode prog_44_method_8_code 0 = .ok (.iload_n 2, 1) := by decide +kernel
theorem own_d8_1 : decode prog_44_method_8_code 1 = .ok (.istore 4, 2) := by decide +kernel
theorem own_d8_3 : decode prog_44_method_8_code 3 = .ok (.iload 4, 2) := by decide +kernel
theorem own_d8_5 : decode prog_44_method_8_code 5 = .ok (.iload_n 3, 1) := by decide +kernel
theorem own_d8_6 : decode prog_44_method_8_code 6 = .ok (.if_icmp .ge 231, 3) := by decide +kernel
theorem own_d8_9 : decode prog_44_method_8_code 9 = .ok (.aload_n 0, 1) := by decide +kernel
theorem own_d8_10 : decode prog_44_method_8_code 10 = .ok (.getfield 25, 3) := by decide +kernel
theorem own_d8_13 : decode prog_44_method_8_code 13 = .ok (.getstatic 49, 3) := by decide +kernel
theorem own_d8_16 : decode prog_44_method_8_code 16 = .ok (.if_acmp .eq 221, 3) := by decide +kernel
theorem own_d8_19 : decode prog_44_method_8_code 19 = .ok (.aload_n 0, 1) := by decide +kernel
theorem own_d8_20 : decode prog_44_method_8_code 20 = .ok (.getfield 25, 3) := by decide +kernel
theorem own_d8_23 : decode prog_44_method_8_code 23 = .ok (.getstatic 43, 3) := by decide +kernel
theorem own_d8_26 : decode prog_44_method_8_code 26 = .ok (.if_acmp .ne 23, 3) := by decide +kernel
theorem own_d8_49 : decode prog_44_method_8_code 49 = .ok (.aload_n 0, 1) := by decide +kernel
theorem own_d8_50 : decode prog_44_method_8_code 50 = .ok (.getfield 25, 3) := by decide +kernel
theorem own_d8_53 : decode prog_44_method_8_code 53 = .ok (.getstatic 71, 3) := by decide +kernel
theorem own_d8_56 : decode prog_44_method_8_code 56 = .ok (.if_acmp .ne 74, 3) := by decide +kernel
theorem own_d8_130 : decode prog_44_method_8_code 130 = .ok (.aload_n 1, 1) := by decide +kernel
theorem own_d8_131 : decode prog_44_method_8_code 131 = .ok (.iload 4, 2) := by decide +kernel
theorem own_d8_133 : decode prog_44_method_8_code 133 = .ok (.baload, 1) := by decide +kernel
theorem own_d8_134 : decode prog_44_method_8_code 134 = .ok (.istore 5, 2) := by decide +kernel
theorem own_d8_136 : decode prog_44_method_8_code 136 = .ok (.iinc 4 1, 3) := by decide +kernel
theorem own_d8_139 : decode prog_44_method_8_code 139 = .ok (.aload_n 0, 1) := by decide +kernel
theorem own_d8_140 : decode prog_44_method_8_code 140 = .ok (.dup, 1) := by decide +kernel
theorem own_d8_141 : decode prog_44_method_8_code 141 = .ok (.getfield 65, 3) := by decide +kernel
theorem own_d8_144 : decode prog_44_method_8_code 144 = .ok (.lconst 1, 1) := by decide +kernel
theorem own_d8_145 : decode prog_44_method_8_code 145 = .ok (.ladd, 1) := by decide +kernel
theorem own_d8_146 : decode prog_44_method_8_code 146 = .ok (.putfield 65, 3) := by decide +kernel
theorem own_d8_149 : decode prog_44_method_8_code 149 = .ok (.aload_n 0, 1) := by decide +kernel
theorem own_d8_150 : decode prog_44_method_8_code 150 = .ok (.dup, 1) := by decide +kernel
theorem own_d8_151 : decode prog_44_method_8_code 151 = .ok (.getfield 86, 3) := by decide +kernel
theorem own_d8_154 : decode prog_44_method_8_code 154 = .ok (.aload_n 0, 1) := by decide +kernel
theorem own_d8_155 : decode prog_44_method_8_code 155 = .ok (.getfield 25, 3) := by decide +kernel
theorem own_d8_158 : decode prog_44_method_8_code 158 = .ok (.getstatic 46, 3) := by decide +kernel
theorem own_d8_161 : decode prog_44_method_8_code 161 = .ok (.if_acmp .eq 23, 3) := by decide +kernel
theorem own_d8_164 : decode prog_44_method_8_code 164 = .ok (.aload_n 0, 1) := by decide +kernel
theorem own_d8_165 : decode prog_44_method_8_code 165 = .ok (.getfield 25, 3) := by decide +kernel
theorem own_d8_168 : decode prog_44_method_8_code 168 = .ok (.getstatic 83, 3) := by decide +kernel
theorem own_d8_171 : decode prog_44_method_8_code 171 = .ok (.if_acmp .eq 13, 3) := by decide +kernel
theorem own_d8_174 : decode prog_44_method_8_code 174 = .ok (.aload_n 0, 1) := by decide +kernel
theorem own_d8_175 : decode prog_44_method_8_code 175 = .ok (.getfield 25, 3) := by decide +kernel
theorem own_d8_178 : decode prog_44_method_8_code 178 = .ok (.getstatic 89, 3) := by decide +kernel
theorem own_d8_181 : decode prog_44_method_8_code 181 = .ok (.if_acmp .ne 7, 3) := by decide +kernel
theorem own_d8_188 : decode prog_44_method_8_code 188 = .ok (.lconst 0, 1) := by decide +kernel
theorem own_d8_189 : decode prog_44_method_8_code 189 = .ok (.ladd, 1) := by decide +kernel
theorem own_d8_190 : decode prog_44_method_8_code 190 = .ok (.putfield 86, 3) := by decide +kernel
theorem own_d8_193 : decode prog_44_method_8_code 193 = .ok (.aload_n 0, 1) := by decide +kernel
theorem own_d8_194 : decode prog_44_method_8_code 194 = .ok (.getfield 86, 3) := by decide +kernel
theorem own_d8_197 : decode prog_44_method_8_code 197 = .ok (.ldc2_w 92, 3) := by decide +kernel
theorem own_d8_200 : decode prog_44_method_8_code 200 = .ok (.lcmp, 1) := by decide +kernel
theorem own_d8_201 : decode prog_44_method_8_code 201 = .ok (.ifCond .le 13, 3) := by decide +kernel
theorem own_d8_214 : decode prog_44_method_8_code 214 = .ok (.iload 5, 2) := by decide +kernel
theorem own_d8_216 : decode prog_44_method_8_code 216 = .ok (.bipush 10, 2) := by decide +kernel
theorem own_d8_218 : decode prog_44_method_8_code 218 = .ok (.if_icmp .ne 10, 3) := by decide +kernel
theorem own_d8_228 : decode prog_44_method_8_code 228 = .ok (.aload_n 0, 1) := by decide +kernel
theorem own_d8_229 : decode prog_44_method_8_code 229 = .ok (.iload 5, 2) := by decide +kernel
theorem own_d8_231 : decode prog_44_method_8_code 231 = .ok (.invokevirtual 104, 3) := by decide +kernel
theorem own_d8_234 : decode prog_44_method_8_code 234 = .ok (.goto (-231), 3) := by decide +kernel
theorem own_d8_237 : decode prog_44_method_8_code 237 = .ok (.return_, 1) := by decide +kernel
theorem own_ef8 (m : MethodId) (a0 : Addr) (a1 : Addr) (p2 : Int32) (p3 : Int32) : entryFrame m #[(.ref a0), (.ref a1), (.int p2), (.int p3)] 6 = mkF m 0 #[.val (.ref a0), .val (.ref a1), .val (.int p2), .val (.int p3), .unset, .unset] [] := by first | (simp [entryFrame, mkF, argsToLocals, Value.category, maxLocals]; done) | rfl
abbrev RM8 : Room := ({ frames := 3, cells := 0, slots := 0, locals := 45 } : Room)
abbrev kC8 : Nat := 0
abbrev kS8 : Nat := 0
def Q8 (Z : State) (a0 : Addr) (a1 : Addr) (p2 : Int32) (p3 : Int32) (wO : Addr) (wSz : Int64) (wPos : Int64) (wL : Int32) (wF : Int32) (wCh : Int32) (wB : Addr) (wC : Int32) (vs : List Value) (wSL : Addr) (wWK : Addr) (wHE : Addr) (wCD : Addr) (wCS : Addr) (wCE : Addr) (wTR : Addr) (bs : List Value) (nn : Nat) (PS : Int64) (LL : Int32) (CC : Int32) (h0 : Heap) (n0 : Nat) (v : Option Value) (h : Heap) (L : List Loc) : Prop := ∃ (vl' : List Value) (wf' : Int32), vl'.length = 32 ∧ v = none ∧ Fr n0 L ∧ Keep h0 h [a0, wO, wB] ∧ Exa Z h a0 "com/example/bounded_crawl/boundedcrawl/web/Framing" ∧ Fld Z h a0 "com/example/bounded_crawl/boundedcrawl/web/Framing" "statusLine" "Ljava/io/ByteArrayOutputStream;" (.ref wO) ∧ Fld Z h a0 "com/example/bounded_crawl/boundedcrawl/web/Framing" "part" "Lcom/example/bounded_crawl/boundedcrawl/web/Framing$Part;" (.ref wSL) ∧ Fld Z h a0 "com/example/bounded_crawl/boundedcrawl/web/Framing" "size" "J" (.long wSz) ∧ Fld Z h a0 "com/example/bounded_crawl/boundedcrawl/web/Framing" "position" "J" (.long PS) ∧ Fld Z h a0 "com/example/bounded_crawl/boundedcrawl/web/Framing" "chunkFraming" "J" (.long (0 : Int64)) ∧ Fld Z h a0 "com/example/bounded_crawl/boundedcrawl/web/Framing" "lineLength" "I" (.int LL) ∧ Fld Z h a0 "com/example/bounded_crawl/boundedcrawl/web/Framing" "lineFirst" "B" (.int wf') ∧ Fld Z h a0 "com/example/bounded_crawl/boundedcrawl/web/Framing" "chunked" "Z" (.int wCh) ∧ Exa Z h wO "java/io/ByteArrayOutputStream" ∧ Fld Z h wO "java/io/ByteArrayOutputStream" "buf" "[B" (.ref wB) ∧ Fld Z h wO "java/io/ByteArrayOutputStream" "count" "I" (.int CC) ∧ Ara Z h wB .byte vl' ∧ Mon h wO
set_option maxRecDepth 65536 in
set_option maxHeartbeats 40000000 in
theorem rm8 (l : Launch) (Z : State) (tA : Array Value) (hw : ∀ d ∈ tables_1, d.before tA Z = true) (ws : List Jvm.Cond) (a0 : Addr) (a1 : Addr) (p2 : Int32) (p3 : Int32) (wO : Addr) (wSz : Int64) (wPos : Int64) (wL : Int32) (wF : Int32) (wCh : Int32) (wB : Addr) (wC : Int32) (vs : List Value) (wSL : Addr) (wWK : Addr) (wHE : Addr) (wCD : Addr) (wCS : Addr) (wCE : Addr) (wTR : Addr) (bs : List Value) (nn : Nat) (PS : Int64) (LL : Int32) (CC : Int32) (h0 : Heap) (n0 : Nat) (Z0 : n0 ≤ h0.size) (H0 : Exa Z h0 a0 "com/example/bounded_crawl/boundedcrawl/web/Framing") (H1 : Fld Z h0 a0 "com/example/bounded_crawl/boundedcrawl/web/Framing" "statusLine" "Ljava/io/ByteArrayOutputStream;" (.ref wO)) (H2 : Fld Z h0 a0 "com/example/bounded_crawl/boundedcrawl/web/Framing" "part" "Lcom/example/bounded_crawl/boundedcrawl/web/Framing$Part;" (.ref wSL)) (H3 : Fld Z h0 a0 "com/example/bounded_crawl/boundedcrawl/web/Framing" "size" "J" (.long wSz)) (H4 : Fld Z h0 a0 "com/example/bounded_crawl/boundedcrawl/web/Framing" "position" "J" (.long wPos)) (H5 : Fld Z h0 a0 "com/example/bounded_crawl/boundedcrawl/web/Framing" "chunkFraming" "J" (.long (0 : Int64))) (H6 : Fld Z h0 a0 "com/example/bounded_crawl/boundedcrawl/web/Framing" "lineLength" "I" (.int wL)) (H7 : Fld Z h0 a0 "com/example/bounded_crawl/boundedcrawl/web/Framing" "lineFirst" "B" (.int wF)) (H8 : Fld Z h0 a0 "com/example/bounded_crawl/boundedcrawl/web/Framing" "chunked" "Z" (.int wCh)) (H9 : Exa Z h0 wO "java/io/ByteArrayOutputStream") (H10 : Fld Z h0 wO "java/io/ByteArrayOutputStream" "buf" "[B" (.ref wB)) (H11 : Fld Z h0 wO "java/io/ByteArrayOutputStream" "count" "I" (.int wC)) (H12 : Ara Z h0 wB .byte vs) (H13 : Mon h0 wO) (H14 : Sta Z h0 "com/example/bounded_crawl/boundedcrawl/web/Framing$Part" "STATUS_LINE" "Lcom/example/bounded_crawl/boundedcrawl/web/Framing$Part;" (.ref wSL)) (H15 : Sta Z h0 "com/example/bounded_crawl/boundedcrawl/web/Framing$Part" "WALKED" "Lcom/example/bounded_crawl/boundedcrawl/web/Framing$Part;" (.ref wWK)) (H16 : Sta Z h0 "com/example/bounded_crawl/boundedcrawl/web/Framing$Part" "HELD" "Lcom/example/bounded_crawl/boundedcrawl/web/Framing$Part;" (.ref wHE)) (H17 : Sta Z h0 "com/example/bounded_crawl/boundedcrawl/web/Framing$Part" "CHUNK_DATA" "Lcom/example/bounded_crawl/boundedcrawl/web/Framing$Part;" (.ref wCD)) (H18 : Sta Z h0 "com/example/bounded_crawl/boundedcrawl/web/Framing$Part" "CHUNK_SIZE" "Lcom/example/bounded_crawl/boundedcrawl/web/Framing$Part;" (.ref wCS)) (H19 : Sta Z h0 "com/example/bounded_crawl/boundedcrawl/web/Framing$Part" "CHUNK_END" "Lcom/example/bounded_crawl/boundedcrawl/web/Framing$Part;" (.ref wCE)) (H20 : Sta Z h0 "com/example/bounded_crawl/boundedcrawl/web/Framing$Part" "TRAILER" "Lcom/example/bounded_crawl/boundedcrawl/web/Framing$Part;" (.ref wTR)) (H21 : Ara Z h0 a1 .byte bs) (g_a0 : n0 ≤ a0) (g_wO : n0 ≤ wO) (g_wB : n0 ≤ wB) (ne_a0_wO : a0 ≠ wO) (ne_a0_wB : a0 ≠ wB) (ne_wO_wB : wO ≠ wB) (ne_wSL_wWK : wSL ≠ wWK) (ne_wSL_wHE : wSL ≠ wHE) (ne_wSL_wCD : wSL ≠ wCD) (ne_wSL_wCS : wSL ≠ wCS) (ne_wSL_wCE : wSL ≠ wCE) (ne_wSL_wTR : wSL ≠ wTR) (ne_a1_a0 : a1 ≠ a0) (ne_a1_wO : a1 ≠ wO) (ne_a1_wB : a1 ≠ wB) (hvl0 : vs.length = 32) (hbs : ∀ k : Nat, k < 8 → ∃ b : Int32, bs[k]? = some (.int b) ∧ ¬ b = (10 : Int32)) (hp2 : 0 ≤ p2.toInt) (hp3 : p3.toInt ≤ 8) (hnn : p2.toInt + (nn : Int) = p3.toInt) (hc0 : 0 ≤ wC.toInt) (hc1 : wC.toInt + (nn : Int) ≤ 32) (hPS : wPos + Int64.ofNat nn = PS) (hLL : wL + Int32.ofNat nn = LL) (hCC : wC + Int32.ofNat nn = CC) :
    MetFree l (⟨"com/example/bounded_crawl/boundedcrawl/web/Framing", "walk", "([BII)V"⟩ : MethodName) (head1 (Jvm.Cond.code (⟨"com/example/bounded_crawl/boundedcrawl/web/Framing", "walk", "([BII)V"⟩ : MethodName) prog_44_method_8_code 6 none :: ws) RM8) (fun a U => a = #[(.ref a0), (.ref a1), (.int p2), (.int p3)] ∧ Z.Warmed39 U.vm ∧ U.heap = h0) (fun _ _ _ _ _ => True) (fun _ U o U' => ∃ v L, o = .returned v ∧ Q8 Z a0 a1 p2 p3 wO wSz wPos wL wF wCh wB wC vs wSL wWK wHE wCD wCS wCE wTR bs nn PS LL CC h0 n0 v U'.heap L ∧ FrameEnd U o U' L RM8.cells RM8.slots) := by
  refine MetFree.of_bodySF (plainFor_of_name own_pn3) hisR ?_
  intro p e s m args below meth c s₁ Bd hml0 hP hK
  obtain ⟨rfl, hZ, hh⟩ := hP
  have hx := Bd.exec
  have hby := Bd.bytes
  have hml : c.maxLocals = 6 := hml0
  have hown : s.vm.findClass "com/example/bounded_crawl/boundedcrawl/web/Framing" = some m.cls := findClass_of_methodNamed Bd.named
  have hnm := (name_of_methodNamed Bd.named Bd.method).1
  have X0 : Stand p l e RM8 s m #[(.ref a0), (.ref a1), (.int p2), (.int p3)] below meth c s₁ [] 0 0 := Stand.of_body Bd
  have e0 : s₁.heap = h0 := by rw [← hh, Bd.state]; rfl
  have N0 := Fr.nil n0
  show Goes p e below s (Q8 Z a0 a1 p2 p3 wO wSz wPos wL wF wCh wB wC vs wSL wWK wHE wCD wCS wCE wTR bs nn PS LL CC h0 n0) kC8 kS8 (s₁.setTop (entryFrame m #[(.ref a0), (.ref a1), (.int p2), (.int p3)] 6))
  refine Goes.step (fun t k => castTop (own_ef8 m a0 a1 p2 p3) k) ?_
  show Goes _ _ _ _ _ _ _ (s₁.setTop (mkF m 0 #[.val (.ref a0), .val (.ref a1), .val (.int p2), .val (.int p3), .unset, .unset] []))
  refine Goes.step (fun t k => XS.iloadN X0.here hx rfl (hb hby own_d8_0) rfl k) ?_
  show Goes _ _ _ _ _ _ _ (s₁.setTop (mkF m 1 #[.val (.ref a0), .val (.ref a1), .val (.int p2), .val (.int p3), .unset, .unset] [(.int p2)]))
  refine Goes.step (fun t k => XS.istore X0.here hx rfl (hb hby own_d8_1) rfl (l' := #[.val (.ref a0), .val (.ref a1), .val (.int p2), .val (.int p3), .val (.int p2), .unset]) rfl k) ?_
  show Goes _ _ _ _ _ _ _ (s₁.setTop (mkF m 3 #[.val (.ref a0), .val (.ref a1), .val (.int p2), .val (.int p3), .val (.int p2), .unset] []))
  suffices loop : ∀ (n : Nat) (i : Int32) (ps : Int64) (ll cc wf : Int32) (vl : List Value) (s5 : Slot) (Tl : State) (hl : Heap) (Ll : List Loc), i.toInt + (n : Int) = p3.toInt → 0 ≤ i.toInt → 0 ≤ cc.toInt → cc.toInt + (n : Int) ≤ 32 → vl.length = 32 → ps + Int64.ofNat n = PS → ll + Int32.ofNat n = LL → cc + Int32.ofNat n = CC → Stand p l e RM8 s m #[(.ref a0), (.ref a1), (.int p2), (.int p3)] below meth c Tl Ll 0 0 → Tl.heap = hl → Fr n0 Ll → Keep h0 hl [a0, wO, wB] → n0 ≤ hl.size → Exa Z hl a0 "com/example/bounded_crawl/boundedcrawl/web/Framing" → Fld Z hl a0 "com/example/bounded_crawl/boundedcrawl/web/Framing" "statusLine" "Ljava/io/ByteArrayOutputStream;" (.ref wO) → Fld Z hl a0 "com/example/bounded_crawl/boundedcrawl/web/Framing" "part" "Lcom/example/bounded_crawl/boundedcrawl/web/Framing$Part;" (.ref wSL) → Fld Z hl a0 "com/example/bounded_crawl/boundedcrawl/web/Framing" "size" "J" (.long wSz) → Fld Z hl a0 "com/example/bounded_crawl/boundedcrawl/web/Framing" "position" "J" (.long ps) → Fld Z hl a0 "com/example/bounded_crawl/boundedcrawl/web/Framing" "chunkFraming" "J" (.long (0 : Int64)) → Fld Z hl a0 "com/example/bounded_crawl/boundedcrawl/web/Framing" "lineLength" "I" (.int ll) → Fld Z hl a0 "com/example/bounded_crawl/boundedcrawl/web/Framing" "lineFirst" "B" (.int wf) → Fld Z hl a0 "com/example/bounded_crawl/boundedcrawl/web/Framing" "chunked" "Z" (.int wCh) → Exa Z hl wO "java/io/ByteArrayOutputStream" → Fld Z hl wO "java/io/ByteArrayOutputStream" "buf" "[B" (.ref wB) → Fld Z hl wO "java/io/ByteArrayOutputStream" "count" "I" (.int cc) → Ara Z hl wB .byte vl → Mon hl wO → Sta Z hl "com/example/bounded_crawl/boundedcrawl/web/Framing$Part" "STATUS_LINE" "Lcom/example/bounded_crawl/boundedcrawl/web/Framing$Part;" (.ref wSL) → Sta Z hl "com/example/bounded_crawl/boundedcrawl/web/Framing$Part" "WALKED" "Lcom/example/bounded_crawl/boundedcrawl/web/Framing$Part;" (.ref wWK) → Sta Z hl "com/example/bounded_crawl/boundedcrawl/web/Framing$Part" "HELD" "Lcom/example/bounded_crawl/boundedcrawl/web/Framing$Part;" (.ref wHE) → Sta Z hl "com/example/bounded_crawl/boundedcrawl/web/Framing$Part" "CHUNK_DATA" "Lcom/example/bounded_crawl/boundedcrawl/web/Framing$Part;" (.ref wCD) → Sta Z hl "com/example/bounded_crawl/boundedcrawl/web/Framing$Part" "CHUNK_SIZE" "Lcom/example/bounded_crawl/boundedcrawl/web/Framing$Part;" (.ref wCS) → Sta Z hl "com/example/bounded_crawl/boundedcrawl/web/Framing$Part" "CHUNK_END" "Lcom/example/bounded_crawl/boundedcrawl/web/Framing$Part;" (.ref wCE) → Sta Z hl "com/example/bounded_crawl/boundedcrawl/web/Framing$Part" "TRAILER" "Lcom/example/bounded_crawl/boundedcrawl/web/Framing$Part;" (.ref wTR) → Ara Z hl a1 .byte bs → One s5 → Goes p e below s (Q8 Z a0 a1 p2 p3 wO wSz wPos wL wF wCh wB wC vs wSL wWK wHE wCD wCS wCE wTR bs nn PS LL CC h0 n0) kC8 kS8 (Tl.setTop (mkF m 3 #[.val (.ref a0), .val (.ref a1), .val (.int p2), .val (.int p3), .val (.int i), s5] [])) by
    exact loop nn p2 wPos wL wC wF vs _ _ _ _ hnn hp2 hc0 hc1 hvl0 hPS hLL hCC X0 e0 N0 (Keep.refl h0 [a0, wO, wB]) Z0 H0 H1 H2 H3 H4 H5 H6 H7 H8 H9 H10 H11 H12 H13 H14 H15 H16 H17 H18 H19 H20 H21 One.u
  intro n
  induction n with
  | zero =>
    intro i ps ll cc wf vl s5 Tl hl Ll hi h0i h0c hcn hvl hps hll hcc Xl el Nl Kl Zl Y0 Y1 Y2 Y3 Y4 Y5 Y6 Y7 Y8 Y9 Y10 Y11 Y12 Y13 Y14 Y15 Y16 Y17 Y18 Y19 Y20 Y21 hs5
    refine Goes.step (fun t k => XS.iload Xl.here hx rfl (hb hby own_d8_3) rfl k) ?_
    show Goes _ _ _ _ _ _ _ (Tl.setTop (mkF m 5 #[.val (.ref a0), .val (.ref a1), .val (.int p2), .val (.int p3), .val (.int i), s5] [(.int i)]))
    refine Goes.step (fun t k => XS.iloadN Xl.here hx rfl (hb hby own_d8_5) rfl k) ?_
    show Goes _ _ _ _ _ _ _ (Tl.setTop (mkF m 6 #[.val (.ref a0), .val (.ref a1), .val (.int p2), .val (.int p3), .val (.int i), s5] [(.int p3), (.int i)]))
    have hc6_1 : ¬ (i < p3) := by exact own_nlt hi
    refine Goes.step (fun t k => XS.icmpYes Xl.here hx rfl (pc0 := 6) (pc' := 237) rfl (hb hby own_d8_6) rfl (flt hc6_1).2.1 (by decide) (by decide) k) ?_
    show Goes _ _ _ _ _ _ _ (Tl.setTop (mkF m 237 #[.val (.ref a0), .val (.ref a1), .val (.int p2), .val (.int p3), .val (.int i), s5] []))
    exact Goes.retV Xl hx Bd.notSynchronized Bd.returns (hb hby own_d8_237) (by rw [el]; exact ⟨vl, wf, hvl, rfl, Nl, Kl, Y0, Y1, Y2, Y3, own_fld_to Y4 (congrArg Value.long (own_z64 hps)), Y5, own_fld_to Y6 (congrArg Value.int (own_z32 hll)), Y7, Y8, Y9, Y10, own_fld_to Y11 (congrArg Value.int (own_z32 hcc)), Y12, Y13⟩) (by decide) (by decide)
  | succ n ih =>
    intro i ps ll cc wf vl s5 Tl hl Ll hi h0i h0c hcn hvl hps hll hcc Xl el Nl Kl Zl Y0 Y1 Y2 Y3 Y4 Y5 Y6 Y7 Y8 Y9 Y10 Y11 Y12 Y13 Y14 Y15 Y16 Y17 Y18 Y19 Y20 Y21 hs5
    have hc : 0 ≤ cc.toInt ∧ cc.toInt < 32 := ⟨h0c, by omega⟩
    refine Goes.step (fun t k => XS.iload Xl.here hx rfl (hb hby own_d8_3) rfl k) ?_
    show Goes _ _ _ _ _ _ _ (Tl.setTop (mkF m 5 #[.val (.ref a0), .val (.ref a1), .val (.int p2), .val (.int p3), .val (.int i), s5] [(.int i)]))
    refine Goes.step (fun t k => XS.iloadN Xl.here hx rfl (hb hby own_d8_5) rfl k) ?_
    show Goes _ _ _ _ _ _ _ (Tl.setTop (mkF m 6 #[.val (.ref a0), .val (.ref a1), .val (.int p2), .val (.int p3), .val (.int i), s5] [(.int p3), (.int i)]))
    have hc6_2 : i < p3 := by exact own_lt hi
    refine Goes.step (fun t k => XS.icmpNo Xl.here hx rfl (hb hby own_d8_6) rfl (tlt hc6_2).2.1 k) ?_
    show Goes _ _ _ _ _ _ _ (Tl.setTop (mkF m 9 #[.val (.ref a0), .val (.ref a1), .val (.int p2), .val (.int p3), .val (.int i), s5] []))
    refine Goes.step (fun t k => XS.aloadN Xl.here hx rfl (hb hby own_d8_9) rfl rfl k) ?_
    show Goes _ _ _ _ _ _ _ (Tl.setTop (mkF m 10 #[.val (.ref a0), .val (.ref a1), .val (.int p2), .val (.int p3), .val (.int i), s5] [(.ref a0)]))
    obtain ⟨T3, X3, e3, st3⟩ := getF Xl hx hZ hown (host := "") (Or.inl (hw _ (List.mem_of_getElem? (i := 40) rfl))) Via.refl el Y2 (g := (mkF m 10 #[.val (.ref a0), .val (.ref a1), .val (.int p2), .val (.int p3), .val (.int i), s5] [(.ref a0)])) rfl rfl (hb hby own_d8_10)
    refine Goes.step (fun t k => st3 t k) ?_
    show Goes _ _ _ _ _ _ _ (T3.setTop (mkF m 13 #[.val (.ref a0), .val (.ref a1), .val (.int p2), .val (.int p3), .val (.int i), s5] [(.ref wSL)]))
    obtain ⟨T4, X4, e4, st4⟩ := getS2 X3 hx hZ hown (host := "") (Or.inl (hw _ (List.mem_of_getElem? (i := 55) rfl))) Via.refl e3 Y15 (g := (mkF m 13 #[.val (.ref a0), .val (.ref a1), .val (.int p2), .val (.int p3), .val (.int i), s5] [(.ref wSL)])) rfl (hb hby own_d8_13)
    refine Goes.step (fun t k => st4 t k) ?_
    show Goes _ _ _ _ _ _ _ (T4.setTop (mkF m 16 #[.val (.ref a0), .val (.ref a1), .val (.int p2), .val (.int p3), .val (.int i), s5] [(.ref wWK), (.ref wSL)]))
    refine Goes.step (fun t k => Jvm.RoadKit.acmp (g := (mkF m 16 #[.val (.ref a0), .val (.ref a1), .val (.int p2), .val (.int p3), .val (.int i), s5] [(.ref wWK), (.ref wSL)])) X4 hx rfl rfl rfl (pc0 := 16) (pc' := 19) (same := false) rfl (hb hby own_d8_16) rfl (decide_eq_false fun q => ne_wSL_wWK (Value.ref.inj q)) (by decide) (by decide) k) ?_
    show Goes _ _ _ _ _ _ _ (T4.setTop (mkF m 19 #[.val (.ref a0), .val (.ref a1), .val (.int p2), .val (.int p3), .val (.int i), s5] []))
    refine Goes.step (fun t k => XS.aloadN X4.here hx rfl (hb hby own_d8_19) rfl rfl k) ?_
    show Goes _ _ _ _ _ _ _ (T4.setTop (mkF m 20 #[.val (.ref a0), .val (.ref a1), .val (.int p2), .val (.int p3), .val (.int i), s5] [(.ref a0)]))
    obtain ⟨T6, X6, e6, st6⟩ := getF X4 hx hZ hown (host := "") (Or.inl (hw _ (List.mem_of_getElem? (i := 40) rfl))) Via.refl e4 Y2 (g := (mkF m 20 #[.val (.ref a0), .val (.ref a1), .val (.int p2), .val (.int p3), .val (.int i), s5] [(.ref a0)])) rfl rfl (hb hby own_d8_20)
    refine Goes.step (fun t k => st6 t k) ?_
    show Goes _ _ _ _ _ _ _ (T6.setTop (mkF m 23 #[.val (.ref a0), .val (.ref a1), .val (.int p2), .val (.int p3), .val (.int i), s5] [(.ref wSL)]))
    obtain ⟨T7, X7, e7, st7⟩ := getS2 X6 hx hZ hown (host := "") (Or.inl (hw _ (List.mem_of_getElem? (i := 57) rfl))) Via.refl e6 Y16 (g := (mkF m 23 #[.val (.ref a0), .val (.ref a1), .val (.int p2), .val (.int p3), .val (.int i), s5] [(.ref wSL)])) rfl (hb hby own_d8_23)
    refine Goes.step (fun t k => st7 t k) ?_
    show Goes _ _ _ _ _ _ _ (T7.setTop (mkF m 26 #[.val (.ref a0), .val (.ref a1), .val (.int p2), .val (.int p3), .val (.int i), s5] [(.ref wHE), (.ref wSL)]))
    refine Goes.step (fun t k => Jvm.RoadKit.acmp (g := (mkF m 26 #[.val (.ref a0), .val (.ref a1), .val (.int p2), .val (.int p3), .val (.int i), s5] [(.ref wHE), (.ref wSL)])) X7 hx rfl rfl rfl (pc0 := 26) (pc' := 49) (same := false) rfl (hb hby own_d8_26) rfl (decide_eq_false fun q => ne_wSL_wHE (Value.ref.inj q)) (by decide) (by decide) k) ?_
    show Goes _ _ _ _ _ _ _ (T7.setTop (mkF m 49 #[.val (.ref a0), .val (.ref a1), .val (.int p2), .val (.int p3), .val (.int i), s5] []))
    refine Goes.step (fun t k => XS.aloadN X7.here hx rfl (hb hby own_d8_49) rfl rfl k) ?_
    show Goes _ _ _ _ _ _ _ (T7.setTop (mkF m 50 #[.val (.ref a0), .val (.ref a1), .val (.int p2), .val (.int p3), .val (.int i), s5] [(.ref a0)]))
    obtain ⟨T9, X9, e9, st9⟩ := getF X7 hx hZ hown (host := "") (Or.inl (hw _ (List.mem_of_getElem? (i := 40) rfl))) Via.refl e7 Y2 (g := (mkF m 50 #[.val (.ref a0), .val (.ref a1), .val (.int p2), .val (.int p3), .val (.int i), s5] [(.ref a0)])) rfl rfl (hb hby own_d8_50)
    refine Goes.step (fun t k => st9 t k) ?_
    show Goes _ _ _ _ _ _ _ (T9.setTop (mkF m 53 #[.val (.ref a0), .val (.ref a1), .val (.int p2), .val (.int p3), .val (.int i), s5] [(.ref wSL)]))
    obtain ⟨T10, X10, e10, st10⟩ := getS2 X9 hx hZ hown (host := "") (Or.inl (hw _ (List.mem_of_getElem? (i := 59) rfl))) Via.refl e9 Y17 (g := (mkF m 53 #[.val (.ref a0), .val (.ref a1), .val (.int p2), .val (.int p3), .val (.int i), s5] [(.ref wSL)])) rfl (hb hby own_d8_53)
    refine Goes.step (fun t k => st10 t k) ?_
    show Goes _ _ _ _ _ _ _ (T10.setTop (mkF m 56 #[.val (.ref a0), .val (.ref a1), .val (.int p2), .val (.int p3), .val (.int i), s5] [(.ref wCD), (.ref wSL)]))
    refine Goes.step (fun t k => Jvm.RoadKit.acmp (g := (mkF m 56 #[.val (.ref a0), .val (.ref a1), .val (.int p2), .val (.int p3), .val (.int i), s5] [(.ref wCD), (.ref wSL)])) X10 hx rfl rfl rfl (pc0 := 56) (pc' := 130) (same := false) rfl (hb hby own_d8_56) rfl (decide_eq_false fun q => ne_wSL_wCD (Value.ref.inj q)) (by decide) (by decide) k) ?_
    show Goes _ _ _ _ _ _ _ (T10.setTop (mkF m 130 #[.val (.ref a0), .val (.ref a1), .val (.int p2), .val (.int p3), .val (.int i), s5] []))
    obtain ⟨bv, hbv, hb10⟩ := hbs i.toNatClampNeg (own_i8 hi h0i hp3)
    refine Goes.step (fun t k => XS.aloadN X10.here hx rfl (hb hby own_d8_130) rfl rfl k) ?_
    show Goes _ _ _ _ _ _ _ (T10.setTop (mkF m 131 #[.val (.ref a0), .val (.ref a1), .val (.int p2), .val (.int p3), .val (.int i), s5] [(.ref a1)]))
    refine Goes.step (fun t k => XS.iload X10.here hx rfl (hb hby own_d8_131) rfl k) ?_
    show Goes _ _ _ _ _ _ _ (T10.setTop (mkF m 133 #[.val (.ref a0), .val (.ref a1), .val (.int p2), .val (.int p3), .val (.int i), s5] [(.int i), (.ref a1)]))
    obtain ⟨cl12, Ar12, q12, ll12, ff12, oo12⟩ := id Y21
    have hn12 : ¬ i < 0 := by exact (own_nat h0i).1
    have hv12 : (bs : List Value)[(i).toNatClampNeg]? = some (.int bv) := by exact hbv
    refine Goes.step (fun t k => X10.baloadBytes hx (j := i) (v := (.int bv)) (by rw [e10]; exact Ar12.1) (State.isArrayOf_alike hZ.alike Ar12.2.1) Ar12.2.2 (inb q12 hn12 (ltb hv12)) (getb q12 hv12) (g := (mkF m 133 #[.val (.ref a0), .val (.ref a1), .val (.int p2), .val (.int p3), .val (.int i), s5] [(.int i), (.ref a1)])) rfl rfl (hb hby own_d8_133) t k) ?_
    show Goes _ _ _ _ _ _ _ (T10.setTop (mkF m 134 #[.val (.ref a0), .val (.ref a1), .val (.int p2), .val (.int p3), .val (.int i), s5] [(.int bv)]))
    refine Goes.step (fun t k => XS.istoreS X10.here hx rfl (hb hby own_d8_134) rfl rfl hs5 k) ?_
    show Goes _ _ _ _ _ _ _ (T10.setTop (mkF m 136 #[.val (.ref a0), .val (.ref a1), .val (.int p2), .val (.int p3), .val (.int i), .val (.int bv)] []))
    refine Goes.step (fun t k => XS.iinc X10.here hx rfl (hb hby own_d8_136) rfl (l' := #[.val (.ref a0), .val (.ref a1), .val (.int p2), .val (.int p3), .val (.int (i + (1 : Int32))), .val (.int bv)]) rfl k) ?_
    show Goes _ _ _ _ _ _ _ (T10.setTop (mkF m 139 #[.val (.ref a0), .val (.ref a1), .val (.int p2), .val (.int p3), .val (.int (i + (1 : Int32))), .val (.int bv)] []))
    refine Goes.step (fun t k => XS.aloadN X10.here hx rfl (hb hby own_d8_139) rfl rfl k) ?_
    show Goes _ _ _ _ _ _ _ (T10.setTop (mkF m 140 #[.val (.ref a0), .val (.ref a1), .val (.int p2), .val (.int p3), .val (.int (i + (1 : Int32))), .val (.int bv)] [(.ref a0)]))
    refine Goes.step (fun t k => XS.dup X10.here hx rfl (hb hby own_d8_140) rfl rfl k) ?_
    show Goes _ _ _ _ _ _ _ (T10.setTop (mkF m 141 #[.val (.ref a0), .val (.ref a1), .val (.int p2), .val (.int p3), .val (.int (i + (1 : Int32))), .val (.int bv)] [(.ref a0), (.ref a0)]))
    obtain ⟨T13, X13, e13, st13⟩ := getF X10 hx hZ hown (host := "") (Or.inl (hw _ (List.mem_of_getElem? (i := 61) rfl))) Via.refl e10 Y4 (g := (mkF m 141 #[.val (.ref a0), .val (.ref a1), .val (.int p2), .val (.int p3), .val (.int (i + (1 : Int32))), .val (.int bv)] [(.ref a0), (.ref a0)])) rfl rfl (hb hby own_d8_141)
    refine Goes.step (fun t k => st13 t k) ?_
    show Goes _ _ _ _ _ _ _ (T13.setTop (mkF m 144 #[.val (.ref a0), .val (.ref a1), .val (.int p2), .val (.int p3), .val (.int (i + (1 : Int32))), .val (.int bv)] [(.long ps), (.ref a0)]))
    refine Goes.step (fun t k => XS.lconst X13.here hx rfl (hb hby own_d8_144) k) ?_
    show Goes _ _ _ _ _ _ _ (T13.setTop (mkF m 145 #[.val (.ref a0), .val (.ref a1), .val (.int p2), .val (.int p3), .val (.int (i + (1 : Int32))), .val (.int bv)] [(.long (1 : Int64)), (.long ps), (.ref a0)]))
    refine Goes.step (fun t k => XS.ladd X13.here hx rfl (hb hby own_d8_145) rfl k) ?_
    show Goes _ _ _ _ _ _ _ (T13.setTop (mkF m 146 #[.val (.ref a0), .val (.ref a1), .val (.int p2), .val (.int p3), .val (.int (i + (1 : Int32))), .val (.int bv)] [(.long (ps + (1 : Int64))), (.ref a0)]))
    obtain ⟨T14, h14, X14, e14, W14, st14⟩ := putF X13 hx hZ hown (host := "") (Or.inl (hw _ (List.mem_of_getElem? (i := 61) rfl))) Via.refl e13 Y4 Y0 (Or.inl (hw _ (List.mem_of_getElem? (i := 62) rfl))) (hw _ (List.mem_of_getElem? (i := 6) rfl)) (ty := .long) (by decide) rfl rfl (g := (mkF m 146 #[.val (.ref a0), .val (.ref a1), .val (.int p2), .val (.int p3), .val (.int (i + (1 : Int32))), .val (.int bv)] [(.long (ps + (1 : Int64))), (.ref a0)])) rfl rfl (hb hby own_d8_146)
    have Fw14 := Y4.same W14
    have F15 := Y0.wr W14
    have F16 := Y1.other W14 (Or.inr (slot_ne (Or.inr (hw _ (List.mem_of_getElem? (i := 34) rfl))) (Or.inl (hw _ (List.mem_of_getElem? (i := 62) rfl))) (by decide) (t := (.object "java/io/ByteArrayOutputStream")) (t' := .long) (by decide) (by decide)))
    have F17 := Y2.other W14 (Or.inr (slot_ne (Or.inl (hw _ (List.mem_of_getElem? (i := 41) rfl))) (Or.inl (hw _ (List.mem_of_getElem? (i := 62) rfl))) (by decide) (t := (.object "com/example/bounded_crawl/boundedcrawl/web/Framing$Part")) (t' := .long) (by decide) (by decide)))
    have F18 := Y3.other W14 (Or.inr (slot_ne (Or.inl (hw _ (List.mem_of_getElem? (i := 50) rfl))) (Or.inl (hw _ (List.mem_of_getElem? (i := 62) rfl))) (by decide) (t := .long) (t' := .long) (by decide) (by decide)))
    have F19 := Y5.other W14 (Or.inr (slot_ne (Or.inl (hw _ (List.mem_of_getElem? (i := 64) rfl))) (Or.inl (hw _ (List.mem_of_getElem? (i := 62) rfl))) (by decide) (t := .long) (t' := .long) (by decide) (by decide)))
    have F20 := Y6.other W14 (Or.inr (slot_ne (Or.inl (hw _ (List.mem_of_getElem? (i := 77) rfl))) (Or.inl (hw _ (List.mem_of_getElem? (i := 62) rfl))) (by decide) (t := .int) (t' := .long) (by decide) (by decide)))
    have F21 := Y7.other W14 (Or.inr (slot_ne (Or.inl (hw _ (List.mem_of_getElem? (i := 79) rfl))) (Or.inl (hw _ (List.mem_of_getElem? (i := 62) rfl))) (by decide) (t := .byte) (t' := .long) (by decide) (by decide)))
    have F22 := Y8.other W14 (Or.inr (slot_ne (Or.inl (hw _ (List.mem_of_getElem? (i := 98) rfl))) (Or.inl (hw _ (List.mem_of_getElem? (i := 62) rfl))) (by decide) (t := .boolean) (t' := .long) (by decide) (by decide)))
    have F23 := Y9.wr W14
    have F24 := Y10.other W14 (Or.inl (Ne.symm ne_a0_wO))
    have F25 := Y11.other W14 (Or.inl (Ne.symm ne_a0_wO))
    have F26 := Y12.other W14 (Ne.symm ne_a0_wB)
    have F27 := Y13.wr W14
    have F28 := Y14.wr W14
    have F29 := Y15.wr W14
    have F30 := Y16.wr W14
    have F31 := Y17.wr W14
    have F32 := Y18.wr W14
    have F33 := Y19.wr W14
    have F34 := Y20.wr W14
    have F35 := Y21.other W14 ne_a1_a0
    have K14 := Kl.wr W14 (Or.inl (List.mem_of_getElem? (i := 0) rfl))
    have N14 := Fr.snoc X14 Nl g_a0
    have Z14 := Nat.le_trans Zl (Nat.le_of_eq W14.size.symm)
    refine Goes.step (fun t k => st14 t k) ?_
    show Goes _ _ _ _ _ _ _ (T14.setTop (mkF m 149 #[.val (.ref a0), .val (.ref a1), .val (.int p2), .val (.int p3), .val (.int (i + (1 : Int32))), .val (.int bv)] []))
    refine Goes.step (fun t k => XS.aloadN X14.here hx rfl (hb hby own_d8_149) rfl rfl k) ?_
    show Goes _ _ _ _ _ _ _ (T14.setTop (mkF m 150 #[.val (.ref a0), .val (.ref a1), .val (.int p2), .val (.int p3), .val (.int (i + (1 : Int32))), .val (.int bv)] [(.ref a0)]))
    refine Goes.step (fun t k => XS.dup X14.here hx rfl (hb hby own_d8_150) rfl rfl k) ?_
    show Goes _ _ _ _ _ _ _ (T14.setTop (mkF m 151 #[.val (.ref a0), .val (.ref a1), .val (.int p2), .val (.int p3), .val (.int (i + (1 : Int32))), .val (.int bv)] [(.ref a0), (.ref a0)]))
    obtain ⟨T36, X36, e36, st36⟩ := getF X14 hx hZ hown (host := "") (Or.inl (hw _ (List.mem_of_getElem? (i := 63) rfl))) Via.refl e14 F19 (g := (mkF m 151 #[.val (.ref a0), .val (.ref a1), .val (.int p2), .val (.int p3), .val (.int (i + (1 : Int32))), .val (.int bv)] [(.ref a0), (.ref a0)])) rfl rfl (hb hby own_d8_151)
    refine Goes.step (fun t k => st36 t k) ?_
    show Goes _ _ _ _ _ _ _ (T36.setTop (mkF m 154 #[.val (.ref a0), .val (.ref a1), .val (.int p2), .val (.int p3), .val (.int (i + (1 : Int32))), .val (.int bv)] [(.long (0 : Int64)), (.ref a0)]))
    refine Goes.step (fun t k => XS.aloadN X36.here hx rfl (hb hby own_d8_154) rfl rfl k) ?_
    show Goes _ _ _ _ _ _ _ (T36.setTop (mkF m 155 #[.val (.ref a0), .val (.ref a1), .val (.int p2), .val (.int p3), .val (.int (i + (1 : Int32))), .val (.int bv)] [(.ref a0), (.long (0 : Int64)), (.ref a0)]))
    obtain ⟨T37, X37, e37, st37⟩ := getF X36 hx hZ hown (host := "") (Or.inl (hw _ (List.mem_of_getElem? (i := 40) rfl))) Via.refl e36 F17 (g := (mkF m 155 #[.val (.ref a0), .val (.ref a1), .val (.int p2), .val (.int p3), .val (.int (i + (1 : Int32))), .val (.int bv)] [(.ref a0), (.long (0 : Int64)), (.ref a0)])) rfl rfl (hb hby own_d8_155)
    refine Goes.step (fun t k => st37 t k) ?_
    show Goes _ _ _ _ _ _ _ (T37.setTop (mkF m 158 #[.val (.ref a0), .val (.ref a1), .val (.int p2), .val (.int p3), .val (.int (i + (1 : Int32))), .val (.int bv)] [(.ref wSL), (.long (0 : Int64)), (.ref a0)]))
    obtain ⟨T38, X38, e38, st38⟩ := getS2 X37 hx hZ hown (host := "") (Or.inl (hw _ (List.mem_of_getElem? (i := 65) rfl))) Via.refl e37 F32 (g := (mkF m 158 #[.val (.ref a0), .val (.ref a1), .val (.int p2), .val (.int p3), .val (.int (i + (1 : Int32))), .val (.int bv)] [(.ref wSL), (.long (0 : Int64)), (.ref a0)])) rfl (hb hby own_d8_158)
    refine Goes.step (fun t k => st38 t k) ?_
    show Goes _ _ _ _ _ _ _ (T38.setTop (mkF m 161 #[.val (.ref a0), .val (.ref a1), .val (.int p2), .val (.int p3), .val (.int (i + (1 : Int32))), .val (.int bv)] [(.ref wCS), (.ref wSL), (.long (0 : Int64)), (.ref a0)]))
    refine Goes.step (fun t k => Jvm.RoadKit.acmp (g := (mkF m 161 #[.val (.ref a0), .val (.ref a1), .val (.int p2), .val (.int p3), .val (.int (i + (1 : Int32))), .val (.int bv)] [(.ref wCS), (.ref wSL), (.long (0 : Int64)), (.ref a0)])) X38 hx rfl rfl rfl (pc0 := 161) (pc' := 164) (same := false) rfl (hb hby own_d8_161) rfl (decide_eq_false fun q => ne_wSL_wCS (Value.ref.inj q)) (by decide) (by decide) k) ?_
    show Goes _ _ _ _ _ _ _ (T38.setTop (mkF m 164 #[.val (.ref a0), .val (.ref a1), .val (.int p2), .val (.int p3), .val (.int (i + (1 : Int32))), .val (.int bv)] [(.long (0 : Int64)), (.ref a0)]))
    refine Goes.step (fun t k => XS.aloadN X38.here hx rfl (hb hby own_d8_164) rfl rfl k) ?_
    show Goes _ _ _ _ _ _ _ (T38.setTop (mkF m 165 #[.val (.ref a0), .val (.ref a1), .val (.int p2), .val (.int p3), .val (.int (i + (1 : Int32))), .val (.int bv)] [(.ref a0), (.long (0 : Int64)), (.ref a0)]))
    obtain ⟨T40, X40, e40, st40⟩ := getF X38 hx hZ hown (host := "") (Or.inl (hw _ (List.mem_of_getElem? (i := 40) rfl))) Via.refl e38 F17 (g := (mkF m 165 #[.val (.ref a0), .val (.ref a1), .val (.int p2), .val (.int p3), .val (.int (i + (1 : Int32))), .val (.int bv)] [(.ref a0), (.long (0 : Int64)), (.ref a0)])) rfl rfl (hb hby own_d8_165)
    refine Goes.step (fun t k => st40 t k) ?_
    show Goes _ _ _ _ _ _ _ (T40.setTop (mkF m 168 #[.val (.ref a0), .val (.ref a1), .val (.int p2), .val (.int p3), .val (.int (i + (1 : Int32))), .val (.int bv)] [(.ref wSL), (.long (0 : Int64)), (.ref a0)]))
    obtain ⟨T41, X41, e41, st41⟩ := getS2 X40 hx hZ hown (host := "") (Or.inl (hw _ (List.mem_of_getElem? (i := 67) rfl))) Via.refl e40 F33 (g := (mkF m 168 #[.val (.ref a0), .val (.ref a1), .val (.int p2), .val (.int p3), .val (.int (i + (1 : Int32))), .val (.int bv)] [(.ref wSL), (.long (0 : Int64)), (.ref a0)])) rfl (hb hby own_d8_168)
    refine Goes.step (fun t k => st41 t k) ?_
    show Goes _ _ _ _ _ _ _ (T41.setTop (mkF m 171 #[.val (.ref a0), .val (.ref a1), .val (.int p2), .val (.int p3), .val (.int (i + (1 : Int32))), .val (.int bv)] [(.ref wCE), (.ref wSL), (.long (0 : Int64)), (.ref a0)]))
    refine Goes.step (fun t k => Jvm.RoadKit.acmp (g := (mkF m 171 #[.val (.ref a0), .val (.ref a1), .val (.int p2), .val (.int p3), .val (.int (i + (1 : Int32))), .val (.int bv)] [(.ref wCE), (.ref wSL), (.long (0 : Int64)), (.ref a0)])) X41 hx rfl rfl rfl (pc0 := 171) (pc' := 174) (same := false) rfl (hb hby own_d8_171) rfl (decide_eq_false fun q => ne_wSL_wCE (Value.ref.inj q)) (by decide) (by decide) k) ?_
    show Goes _ _ _ _ _ _ _ (T41.setTop (mkF m 174 #[.val (.ref a0), .val (.ref a1), .val (.int p2), .val (.int p3), .val (.int (i + (1 : Int32))), .val (.int bv)] [(.long (0 : Int64)), (.ref a0)]))
    refine Goes.step (fun t k => XS.aloadN X41.here hx rfl (hb hby own_d8_174) rfl rfl k) ?_
    show Goes _ _ _ _ _ _ _ (T41.setTop (mkF m 175 #[.val (.ref a0), .val (.ref a1), .val (.int p2), .val (.int p3), .val (.int (i + (1 : Int32))), .val (.int bv)] [(.ref a0), (.long (0 : Int64)), (.ref a0)]))
    obtain ⟨T43, X43, e43, st43⟩ := getF X41 hx hZ hown (host := "") (Or.inl (hw _ (List.mem_of_getElem? (i := 40) rfl))) Via.refl e41 F17 (g := (mkF m 175 #[.val (.ref a0), .val (.ref a1), .val (.int p2), .val (.int p3), .val (.int (i + (1 : Int32))), .val (.int bv)] [(.ref a0), (.long (0 : Int64)), (.ref a0)])) rfl rfl (hb hby own_d8_175)
    refine Goes.step (fun t k => st43 t k) ?_
    show Goes _ _ _ _ _ _ _ (T43.setTop (mkF m 178 #[.val (.ref a0), .val (.ref a1), .val (.int p2), .val (.int p3), .val (.int (i + (1 : Int32))), .val (.int bv)] [(.ref wSL), (.long (0 : Int64)), (.ref a0)]))
    obtain ⟨T44, X44, e44, st44⟩ := getS2 X43 hx hZ hown (host := "") (Or.inl (hw _ (List.mem_of_getElem? (i := 69) rfl))) Via.refl e43 F34 (g := (mkF m 178 #[.val (.ref a0), .val (.ref a1), .val (.int p2), .val (.int p3), .val (.int (i + (1 : Int32))), .val (.int bv)] [(.ref wSL), (.long (0 : Int64)), (.ref a0)])) rfl (hb hby own_d8_178)
    refine Goes.step (fun t k => st44 t k) ?_
    show Goes _ _ _ _ _ _ _ (T44.setTop (mkF m 181 #[.val (.ref a0), .val (.ref a1), .val (.int p2), .val (.int p3), .val (.int (i + (1 : Int32))), .val (.int bv)] [(.ref wTR), (.ref wSL), (.long (0 : Int64)), (.ref a0)]))
    refine Goes.step (fun t k => Jvm.RoadKit.acmp (g := (mkF m 181 #[.val (.ref a0), .val (.ref a1), .val (.int p2), .val (.int p3), .val (.int (i + (1 : Int32))), .val (.int bv)] [(.ref wTR), (.ref wSL), (.long (0 : Int64)), (.ref a0)])) X44 hx rfl rfl rfl (pc0 := 181) (pc' := 188) (same := false) rfl (hb hby own_d8_181) rfl (decide_eq_false fun q => ne_wSL_wTR (Value.ref.inj q)) (by decide) (by decide) k) ?_
    show Goes _ _ _ _ _ _ _ (T44.setTop (mkF m 188 #[.val (.ref a0), .val (.ref a1), .val (.int p2), .val (.int p3), .val (.int (i + (1 : Int32))), .val (.int bv)] [(.long (0 : Int64)), (.ref a0)]))
    refine Goes.step (fun t k => XS.lconst X44.here hx rfl (hb hby own_d8_188) k) ?_
    show Goes _ _ _ _ _ _ _ (T44.setTop (mkF m 189 #[.val (.ref a0), .val (.ref a1), .val (.int p2), .val (.int p3), .val (.int (i + (1 : Int32))), .val (.int bv)] [(.long (0 : Int64)), (.long (0 : Int64)), (.ref a0)]))
    refine Goes.step (fun t k => XS.ladd X44.here hx rfl (hb hby own_d8_189) rfl k) ?_
    show Goes _ _ _ _ _ _ _ (T44.setTop (mkF m 190 #[.val (.ref a0), .val (.ref a1), .val (.int p2), .val (.int p3), .val (.int (i + (1 : Int32))), .val (.int bv)] [(.long ((0 : Int64) + (0 : Int64))), (.ref a0)]))
    rw [show ((0 : Int64) + (0 : Int64)) = (0 : Int64) from by decide]
    show Goes _ _ _ _ _ _ _ (T44.setTop (mkF m 190 #[.val (.ref a0), .val (.ref a1), .val (.int p2), .val (.int p3), .val (.int (i + (1 : Int32))), .val (.int bv)] [(.long (0 : Int64)), (.ref a0)]))
    obtain ⟨T46, h46, X46, e46, W46, st46⟩ := putF X44 hx hZ hown (host := "") (Or.inl (hw _ (List.mem_of_getElem? (i := 63) rfl))) Via.refl e44 F19 F15 (Or.inl (hw _ (List.mem_of_getElem? (i := 64) rfl))) (hw _ (List.mem_of_getElem? (i := 6) rfl)) (ty := .long) (by decide) rfl rfl (g := (mkF m 190 #[.val (.ref a0), .val (.ref a1), .val (.int p2), .val (.int p3), .val (.int (i + (1 : Int32))), .val (.int bv)] [(.long (0 : Int64)), (.ref a0)])) rfl rfl (hb hby own_d8_190)
    have Fw46 := F19.same W46
    have F47 := F15.wr W46
    have F48 := F16.other W46 (Or.inr (slot_ne (Or.inr (hw _ (List.mem_of_getElem? (i := 34) rfl))) (Or.inl (hw _ (List.mem_of_getElem? (i := 64) rfl))) (by decide) (t := (.object "java/io/ByteArrayOutputStream")) (t' := .long) (by decide) (by decide)))
    have F49 := F17.other W46 (Or.inr (slot_ne (Or.inl (hw _ (List.mem_of_getElem? (i := 41) rfl))) (Or.inl (hw _ (List.mem_of_getElem? (i := 64) rfl))) (by decide) (t := (.object "com/example/bounded_crawl/boundedcrawl/web/Framing$Part")) (t' := .long) (by decide) (by decide)))
    have F50 := F18.other W46 (Or.inr (slot_ne (Or.inl (hw _ (List.mem_of_getElem? (i := 50) rfl))) (Or.inl (hw _ (List.mem_of_getElem? (i := 64) rfl))) (by decide) (t := .long) (t' := .long) (by decide) (by decide)))
    have F51 := F20.other W46 (Or.inr (slot_ne (Or.inl (hw _ (List.mem_of_getElem? (i := 77) rfl))) (Or.inl (hw _ (List.mem_of_getElem? (i := 64) rfl))) (by decide) (t := .int) (t' := .long) (by decide) (by decide)))
    have F52 := F21.other W46 (Or.inr (slot_ne (Or.inl (hw _ (List.mem_of_getElem? (i := 79) rfl))) (Or.inl (hw _ (List.mem_of_getElem? (i := 64) rfl))) (by decide) (t := .byte) (t' := .long) (by decide) (by decide)))
    have F53 := F22.other W46 (Or.inr (slot_ne (Or.inl (hw _ (List.mem_of_getElem? (i := 98) rfl))) (Or.inl (hw _ (List.mem_of_getElem? (i := 64) rfl))) (by decide) (t := .boolean) (t' := .long) (by decide) (by decide)))
    have F54 := F23.wr W46
    have F55 := F24.other W46 (Or.inl (Ne.symm ne_a0_wO))
    have F56 := F25.other W46 (Or.inl (Ne.symm ne_a0_wO))
    have F57 := F26.other W46 (Ne.symm ne_a0_wB)
    have F58 := F27.wr W46
    have F59 := F28.wr W46
    have F60 := F29.wr W46
    have F61 := F30.wr W46
    have F62 := F31.wr W46
    have F63 := F32.wr W46
    have F64 := F33.wr W46
    have F65 := F34.wr W46
    have F66 := F35.other W46 ne_a1_a0
    have F67 := Fw14.other W46 (Or.inr (slot_ne (Or.inl (hw _ (List.mem_of_getElem? (i := 62) rfl))) (Or.inl (hw _ (List.mem_of_getElem? (i := 64) rfl))) (by decide) (t := .long) (t' := .long) (by decide) (by decide)))
    have K46 := K14.wr W46 (Or.inl (List.mem_of_getElem? (i := 0) rfl))
    have N46 := Fr.snoc X46 N14 g_a0
    have Z46 := Nat.le_trans Z14 (Nat.le_of_eq W46.size.symm)
    refine Goes.step (fun t k => st46 t k) ?_
    show Goes _ _ _ _ _ _ _ (T46.setTop (mkF m 193 #[.val (.ref a0), .val (.ref a1), .val (.int p2), .val (.int p3), .val (.int (i + (1 : Int32))), .val (.int bv)] []))
    refine Goes.step (fun t k => XS.aloadN X46.here hx rfl (hb hby own_d8_193) rfl rfl k) ?_
    show Goes _ _ _ _ _ _ _ (T46.setTop (mkF m 194 #[.val (.ref a0), .val (.ref a1), .val (.int p2), .val (.int p3), .val (.int (i + (1 : Int32))), .val (.int bv)] [(.ref a0)]))
    obtain ⟨T68, X68, e68, st68⟩ := getF X46 hx hZ hown (host := "") (Or.inl (hw _ (List.mem_of_getElem? (i := 63) rfl))) Via.refl e46 Fw46 (g := (mkF m 194 #[.val (.ref a0), .val (.ref a1), .val (.int p2), .val (.int p3), .val (.int (i + (1 : Int32))), .val (.int bv)] [(.ref a0)])) rfl rfl (hb hby own_d8_194)
    refine Goes.step (fun t k => st68 t k) ?_
    show Goes _ _ _ _ _ _ _ (T68.setTop (mkF m 197 #[.val (.ref a0), .val (.ref a1), .val (.int p2), .val (.int p3), .val (.int (i + (1 : Int32))), .val (.int bv)] [(.long (0 : Int64))]))
    refine Goes.step (fun t k => X68.ldc2Long hx hown (mvT hZ (hw _ (List.mem_of_getElem? (i := 71) rfl))) (g := (mkF m 197 #[.val (.ref a0), .val (.ref a1), .val (.int p2), .val (.int p3), .val (.int (i + (1 : Int32))), .val (.int bv)] [(.long (0 : Int64))])) rfl (hb hby own_d8_197) _ k) ?_
    show Goes _ _ _ _ _ _ _ (T68.setTop (mkF m 200 #[.val (.ref a0), .val (.ref a1), .val (.int p2), .val (.int p3), .val (.int (i + (1 : Int32))), .val (.int bv)] [(.long (1048576 : Int64)), (.long (0 : Int64))]))
    refine Goes.step (fun t k => XS.lcmp X68.here hx rfl (hb hby own_d8_200) rfl k) ?_
    show Goes _ _ _ _ _ _ _ (T68.setTop (mkF m 201 #[.val (.ref a0), .val (.ref a1), .val (.int p2), .val (.int p3), .val (.int (i + (1 : Int32))), .val (.int bv)] [(.int (lcmpW (0 : Int64) (1048576 : Int64)))]))
    refine Goes.step (fun t k => XS.ifYes X68.here hx rfl (pc0 := 201) (pc' := 214) rfl (hb hby own_d8_201) rfl ((if0 _ _).trans (flt (fun q => (by decide : ¬ ((1048576 : Int64) < (0 : Int64))) ((lw_gt _ _).mp q))).2.2.2) (by decide) (by decide) k) ?_
    show Goes _ _ _ _ _ _ _ (T68.setTop (mkF m 214 #[.val (.ref a0), .val (.ref a1), .val (.int p2), .val (.int p3), .val (.int (i + (1 : Int32))), .val (.int bv)] []))
    refine Goes.step (fun t k => XS.iload X68.here hx rfl (hb hby own_d8_214) rfl k) ?_
    show Goes _ _ _ _ _ _ _ (T68.setTop (mkF m 216 #[.val (.ref a0), .val (.ref a1), .val (.int p2), .val (.int p3), .val (.int (i + (1 : Int32))), .val (.int bv)] [(.int bv)]))
    refine Goes.step (fun t k => XS.bipush X68.here hx rfl (hb hby own_d8_216) k) ?_
    show Goes _ _ _ _ _ _ _ (T68.setTop (mkF m 218 #[.val (.ref a0), .val (.ref a1), .val (.int p2), .val (.int p3), .val (.int (i + (1 : Int32))), .val (.int bv)] [(.int (10 : Int32)), (.int bv)]))
    have hc218_70 : ¬ (bv = (10 : Int32)) := by exact hb10
    refine Goes.step (fun t k => XS.icmpYes X68.here hx rfl (pc0 := 218) (pc' := 228) rfl (hb hby own_d8_218) rfl (feq hc218_70).2 (by decide) (by decide) k) ?_
    show Goes _ _ _ _ _ _ _ (T68.setTop (mkF m 228 #[.val (.ref a0), .val (.ref a1), .val (.int p2), .val (.int p3), .val (.int (i + (1 : Int32))), .val (.int bv)] []))
    refine Goes.step (fun t k => XS.aloadN X68.here hx rfl (hb hby own_d8_228) rfl rfl k) ?_
    show Goes _ _ _ _ _ _ _ (T68.setTop (mkF m 229 #[.val (.ref a0), .val (.ref a1), .val (.int p2), .val (.int p3), .val (.int (i + (1 : Int32))), .val (.int bv)] [(.ref a0)]))
    refine Goes.step (fun t k => XS.iload X68.here hx rfl (hb hby own_d8_229) rfl k) ?_
    show Goes _ _ _ _ _ _ _ (T68.setTop (mkF m 231 #[.val (.ref a0), .val (.ref a1), .val (.int p2), .val (.int p3), .val (.int (i + (1 : Int32))), .val (.int bv)] [(.int bv), (.ref a0)]))
    obtain ⟨cq71, q71, q71'⟩ := F47.cell
    obtain ⟨_, _, ⟨T71, L71, k71, n71⟩, -, X71, ⟨Lc71, hQ71, l71, y71, z71⟩, st71⟩ := X68.privateBack hx (y := (⟨"com/example/bounded_crawl/boundedcrawl/web/Framing", "lineGrew", "(B)V"⟩ : MethodName)) hown (mvT hZ (hw _ (List.mem_of_getElem? (i := 72) rfl))) (mvT hZ (hw _ (List.mem_of_getElem? (i := 73) rfl))) (mvT hZ (own_selpriv (y := (⟨"com/example/bounded_crawl/boundedcrawl/web/Framing", "lineGrew", "(B)V"⟩ : MethodName)) (hw _ (List.mem_of_getElem? (i := 6) rfl)) (hw _ (List.mem_of_getElem? (i := 73) rfl)) (hw _ (List.mem_of_getElem? (i := 74) rfl)) (by decide))) (Cond.privateMethod_at (mvP hZ (hw _ (List.mem_of_getElem? (i := 74) rfl)) (args := #[]))) (mvT hZ (hw _ (List.mem_of_getElem? (i := 75) rfl))) (by decide) (backOf (W := 0) (rm9 l Z tA hw [] a0 bv wO wSz (ps + (1 : Int64)) ll wf wCh wB cc vl wSL wCS wCE h46 n0 Z46 F47 F48 F49 F50 F67 Fw46 F51 F52 F53 F54 F55 F56 F57 F58 F59 F63 F64 g_a0 g_wO g_wB ne_a0_wO ne_a0_wB ne_wO_wB ne_wSL_wCS ne_wSL_wCE hvl hc) hZ (hw _ (List.mem_of_getElem? (i := 75) rfl)) (hw _ (List.mem_of_getElem? (i := 7) rfl)) (by decide) (by decide)) (g := (mkF m 231 #[.val (.ref a0), .val (.ref a1), .val (.int p2), .val (.int p3), .val (.int (i + (1 : Int32))), .val (.int bv)] [(.int bv), (.ref a0)])) rfl (by rw [hml]; rfl) (Steps.refl _) (a := a0) (by rw [e68]; exact q71) q71' (argsL := [(.int bv)]) (rest := []) (lenOf own_pd2 rfl) rfl (by show 2 * 0 + _ ≤ _; exact Nat.le_of_eq rfl) (hb hby own_d8_231) (fun _ _ => ⟨rfl, e68, (by decide : 0 + 0 ≤ _), (by decide : 0 + 0 ≤ _)⟩)
    dsimp only [Pt.U, Pt.locs, Pt.cells, Pt.slots] at X71 l71 y71 z71 st71 hQ71
    rw [l71, y71, z71] at X71
    generalize e71 : T71.heap = h71 at hQ71
    obtain ⟨rfl, Nq71, Kq71, G71_0, G71_1, G71_2, G71_3, G71_4, G71_5, G71_6, G71_7, G71_8, G71_9, G71_10, G71_11, G71_12, G71_13⟩ := hQ71
    have F72 := own_sta_keep F59 Kq71 (allS (notsta_exa F47) (allS (notsta_exa F54) (allS (notsta_ara F57) all0)))
    have F73 := own_sta_keep F60 Kq71 (allS (notsta_exa F47) (allS (notsta_exa F54) (allS (notsta_ara F57) all0)))
    have F74 := own_sta_keep F61 Kq71 (allS (notsta_exa F47) (allS (notsta_exa F54) (allS (notsta_ara F57) all0)))
    have F75 := own_sta_keep F62 Kq71 (allS (notsta_exa F47) (allS (notsta_exa F54) (allS (notsta_ara F57) all0)))
    have F76 := own_sta_keep F63 Kq71 (allS (notsta_exa F47) (allS (notsta_exa F54) (allS (notsta_ara F57) all0)))
    have F77 := own_sta_keep F64 Kq71 (allS (notsta_exa F47) (allS (notsta_exa F54) (allS (notsta_ara F57) all0)))
    have F78 := own_sta_keep F65 Kq71 (allS (notsta_exa F47) (allS (notsta_exa F54) (allS (notsta_ara F57) all0)))
    have F79 := F66.keep Kq71 (ninS ne_a1_a0 (ninS ne_a1_wO (ninS ne_a1_wB nin0)))
    have N71 := Fr.app N46 Nq71
    have K71 := K46.trans Kq71 (allS (Or.inl (List.mem_of_getElem? (i := 0) rfl)) (allS (Or.inl (List.mem_of_getElem? (i := 1) rfl)) (allS (Or.inl (List.mem_of_getElem? (i := 2) rfl)) all0)))
    have Z71 := Nat.le_trans Z46 Kq71.1
    change Stand _ _ _ _ _ _ _ _ _ _ _ _ 0 0 at X71
    refine Goes.step (fun t k => st71.trans k) ?_
    show Goes _ _ _ _ _ _ _ (T71.setTop (mkF m 234 #[.val (.ref a0), .val (.ref a1), .val (.int p2), .val (.int p3), .val (.int (i + (1 : Int32))), .val (.int bv)] []))
    refine Goes.step (fun t k => XS.goto X71.here hx rfl (pc0 := 234) (pc' := 3) rfl (hb hby own_d8_234) (by decide) (by decide) k) ?_
    show Goes _ _ _ _ _ _ _ (T71.setTop (mkF m 3 #[.val (.ref a0), .val (.ref a1), .val (.int p2), .val (.int p3), .val (.int (i + (1 : Int32))), .val (.int bv)] []))
    exact ih (i + 1) (ps + 1) (ll + 1) (cc + 1) _ _ _ _ _ _ (own_l1 hi h0i hp3).1 (own_l1 hi h0i hp3).2 (own_c1 h0c hcn).1 (own_c1 h0c hcn).2 (own_set32 hvl) (own_n64 hps) (own_n32 hll) (own_n32 hcc) X71 e71 N71 K71 Z71 G71_0 G71_1 G71_2 G71_3 G71_4 G71_5 G71_6 G71_7 G71_8 G71_9 G71_10 G71_11 G71_12 G71_13 F72 F73 F74 F75 F76 F77 F78 F79 (One.val rfl)
theorem own_d7_0 : decode prog_44_method_3_code 0 = .ok (.aload_n 0, 1) := by decide +kernel
theorem own_d7_1 : decode prog_44_method_3_code 1 = .ok (.dup, 1) := by decide +kernel
theorem own_d7_2 : decode prog_44_method_3_code 2 = .ok (.getfield 32, 3) := by decide +kernel
theorem own_d7_5 : decode prog_44_method_3_code 5 = .ok (.iload_n 3, 1) := by decide +kernel
theorem own_d7_6 : decode prog_44_method_3_code 6 = .ok (.i2l, 1) := by decide +kernel
theorem own_d7_7 : decode prog_44_method_3_code 7 = .ok (.ladd, 1) := by decide +kernel
theorem own_d7_8 : decode prog_44_method_3_code 8 = .ok (.putfield 32, 3) := by decide +kernel
theorem own_d7_11 : decode prog_44_method_3_code 11 = .ok (.aload_n 0, 1) := by decide +kernel
theorem own_d7_12 : decode prog_44_method_3_code 12 = .ok (.aload_n 1, 1) := by decide +kernel
theorem own_d7_13 : decode prog_44_method_3_code 13 = .ok (.iload_n 2, 1) := by decide +kernel
theorem own_d7_14 : decode prog_44_method_3_code 14 = .ok (.iload_n 2, 1) := by decide +kernel
theorem own_d7_15 : decode prog_44_method_3_code 15 = .ok (.iload_n 3, 1) := by decide +kernel
theorem own_d7_16 : decode prog_44_method_3_code 16 = .ok (.iadd, 1) := by decide +kernel
theorem own_d7_17 : decode prog_44_method_3_code 17 = .ok (.invokevirtual 36, 3) := by decide +kernel
theorem own_d7_20 : decode prog_44_method_3_code 20 = .ok (.return_, 1) := by decide +kernel
theorem own_ef7 (m : MethodId) (a0 : Addr) (a1 : Addr) (p2 : Int32) (p3 : Int32) : entryFrame m #[(.ref a0), (.ref a1), (.int p2), (.int p3)] 4 = mkF m 0 #[.val (.ref a0), .val (.ref a1), .val (.int p2), .val (.int p3)] [] := by first | (simp [entryFrame, mkF, argsToLocals, Value.category, maxLocals]; done) | rfl
abbrev RM7 : Room := ({ frames := 4, cells := 0, slots := 0, locals := 62 } : Room)
abbrev kC7 : Nat := 0
abbrev kS7 : Nat := 0
def Q7 (Z : State) (a0 : Addr) (a1 : Addr) (p2 : Int32) (p3 : Int32) (wO : Addr) (wSz : Int64) (wPos : Int64) (wL : Int32) (wF : Int32) (wCh : Int32) (wB : Addr) (wC : Int32) (vs : List Value) (wSL : Addr) (wWK : Addr) (wHE : Addr) (wCD : Addr) (wCS : Addr) (wCE : Addr) (wTR : Addr) (bs : List Value) (h0 : Heap) (n0 : Nat) (v : Option Value) (h : Heap) (L : List Loc) : Prop := ∃ (vl' : List Value) (wf' : Int32), vl'.length = 32 ∧ v = none ∧ Fr n0 L ∧ Keep h0 h [a0, wO, wB] ∧ Exa Z h a0 "com/example/bounded_crawl/boundedcrawl/web/Framing" ∧ Fld Z h a0 "com/example/bounded_crawl/boundedcrawl/web/Framing" "statusLine" "Ljava/io/ByteArrayOutputStream;" (.ref wO) ∧ Fld Z h a0 "com/example/bounded_crawl/boundedcrawl/web/Framing" "part" "Lcom/example/bounded_crawl/boundedcrawl/web/Framing$Part;" (.ref wSL) ∧ Fld Z h a0 "com/example/bounded_crawl/boundedcrawl/web/Framing" "size" "J" (.long (wSz + p3.toInt64)) ∧ Fld Z h a0 "com/example/bounded_crawl/boundedcrawl/web/Framing" "position" "J" (.long (wPos + p3.toInt64)) ∧ Fld Z h a0 "com/example/bounded_crawl/boundedcrawl/web/Framing" "chunkFraming" "J" (.long (0 : Int64)) ∧ Fld Z h a0 "com/example/bounded_crawl/boundedcrawl/web/Framing" "lineLength" "I" (.int (wL + p3)) ∧ Fld Z h a0 "com/example/bounded_crawl/boundedcrawl/web/Framing" "lineFirst" "B" (.int wf') ∧ Fld Z h a0 "com/example/bounded_crawl/boundedcrawl/web/Framing" "chunked" "Z" (.int wCh) ∧ Exa Z h wO "java/io/ByteArrayOutputStream" ∧ Fld Z h wO "java/io/ByteArrayOutputStream" "buf" "[B" (.ref wB) ∧ Fld Z h wO "java/io/ByteArrayOutputStream" "count" "I" (.int (wC + p3)) ∧ Ara Z h wB .byte vl' ∧ Mon h wO
set_option maxRecDepth 65536 in
set_option maxHeartbeats 40000000 in
theorem rm7 (l : Launch) (Z : State) (tA : Array Value) (hw : ∀ d ∈ tables_1, d.before tA Z = true) (ws : List Jvm.Cond) (a0 : Addr) (a1 : Addr) (p2 : Int32) (p3 : Int32) (wO : Addr) (wSz : Int64) (wPos : Int64) (wL : Int32) (wF : Int32) (wCh : Int32) (wB : Addr) (wC : Int32) (vs : List Value) (wSL : Addr) (wWK : Addr) (wHE : Addr) (wCD : Addr) (wCS : Addr) (wCE : Addr) (wTR : Addr) (bs : List Value) (h0 : Heap) (n0 : Nat) (Z0 : n0 ≤ h0.size) (H0 : Exa Z h0 a0 "com/example/bounded_crawl/boundedcrawl/web/Framing") (H1 : Fld Z h0 a0 "com/example/bounded_crawl/boundedcrawl/web/Framing" "statusLine" "Ljava/io/ByteArrayOutputStream;" (.ref wO)) (H2 : Fld Z h0 a0 "com/example/bounded_crawl/boundedcrawl/web/Framing" "part" "Lcom/example/bounded_crawl/boundedcrawl/web/Framing$Part;" (.ref wSL)) (H3 : Fld Z h0 a0 "com/example/bounded_crawl/boundedcrawl/web/Framing" "size" "J" (.long wSz)) (H4 : Fld Z h0 a0 "com/example/bounded_crawl/boundedcrawl/web/Framing" "position" "J" (.long wPos)) (H5 : Fld Z h0 a0 "com/example/bounded_crawl/boundedcrawl/web/Framing" "chunkFraming" "J" (.long (0 : Int64))) (H6 : Fld Z h0 a0 "com/example/bounded_crawl/boundedcrawl/web/Framing" "lineLength" "I" (.int wL)) (H7 : Fld Z h0 a0 "com/example/bounded_crawl/boundedcrawl/web/Framing" "lineFirst" "B" (.int wF)) (H8 : Fld Z h0 a0 "com/example/bounded_crawl/boundedcrawl/web/Framing" "chunked" "Z" (.int wCh)) (H9 : Exa Z h0 wO "java/io/ByteArrayOutputStream") (H10 : Fld Z h0 wO "java/io/ByteArrayOutputStream" "buf" "[B" (.ref wB)) (H11 : Fld Z h0 wO "java/io/ByteArrayOutputStream" "count" "I" (.int wC)) (H12 : Ara Z h0 wB .byte vs) (H13 : Mon h0 wO) (H14 : Sta Z h0 "com/example/bounded_crawl/boundedcrawl/web/Framing$Part" "STATUS_LINE" "Lcom/example/bounded_crawl/boundedcrawl/web/Framing$Part;" (.ref wSL)) (H15 : Sta Z h0 "com/example/bounded_crawl/boundedcrawl/web/Framing$Part" "WALKED" "Lcom/example/bounded_crawl/boundedcrawl/web/Framing$Part;" (.ref wWK)) (H16 : Sta Z h0 "com/example/bounded_crawl/boundedcrawl/web/Framing$Part" "HELD" "Lcom/example/bounded_crawl/boundedcrawl/web/Framing$Part;" (.ref wHE)) (H17 : Sta Z h0 "com/example/bounded_crawl/boundedcrawl/web/Framing$Part" "CHUNK_DATA" "Lcom/example/bounded_crawl/boundedcrawl/web/Framing$Part;" (.ref wCD)) (H18 : Sta Z h0 "com/example/bounded_crawl/boundedcrawl/web/Framing$Part" "CHUNK_SIZE" "Lcom/example/bounded_crawl/boundedcrawl/web/Framing$Part;" (.ref wCS)) (H19 : Sta Z h0 "com/example/bounded_crawl/boundedcrawl/web/Framing$Part" "CHUNK_END" "Lcom/example/bounded_crawl/boundedcrawl/web/Framing$Part;" (.ref wCE)) (H20 : Sta Z h0 "com/example/bounded_crawl/boundedcrawl/web/Framing$Part" "TRAILER" "Lcom/example/bounded_crawl/boundedcrawl/web/Framing$Part;" (.ref wTR)) (H21 : Ara Z h0 a1 .byte bs) (g_a0 : n0 ≤ a0) (g_wO : n0 ≤ wO) (g_wB : n0 ≤ wB) (ne_a0_wO : a0 ≠ wO) (ne_a0_wB : a0 ≠ wB) (ne_wO_wB : wO ≠ wB) (ne_wSL_wWK : wSL ≠ wWK) (ne_wSL_wHE : wSL ≠ wHE) (ne_wSL_wCD : wSL ≠ wCD) (ne_wSL_wCS : wSL ≠ wCS) (ne_wSL_wCE : wSL ≠ wCE) (ne_wSL_wTR : wSL ≠ wTR) (ne_a1_a0 : a1 ≠ a0) (ne_a1_wO : a1 ≠ wO) (ne_a1_wB : a1 ≠ wB) (hvl0 : vs.length = 32) (hbs : ∀ k : Nat, k < 8 → ∃ b : Int32, bs[k]? = some (.int b) ∧ ¬ b = (10 : Int32)) (hp2 : 0 ≤ p2.toInt) (hp3 : 0 ≤ p3.toInt) (h8 : p2.toInt + p3.toInt ≤ 8) (hc0 : 0 ≤ wC.toInt) (hc1 : wC.toInt + p3.toInt ≤ 32) :
    MetFree l (⟨"com/example/bounded_crawl/boundedcrawl/web/Framing", "received", "([BII)V"⟩ : MethodName) (head1 (Jvm.Cond.code (⟨"com/example/bounded_crawl/boundedcrawl/web/Framing", "received", "([BII)V"⟩ : MethodName) prog_44_method_3_code 4 none :: ws) RM7) (fun a U => a = #[(.ref a0), (.ref a1), (.int p2), (.int p3)] ∧ Z.Warmed39 U.vm ∧ U.heap = h0) (fun _ _ _ _ _ => True) (fun _ U o U' => ∃ v L, o = .returned v ∧ Q7 Z a0 a1 p2 p3 wO wSz wPos wL wF wCh wB wC vs wSL wWK wHE wCD wCS wCE wTR bs h0 n0 v U'.heap L ∧ FrameEnd U o U' L RM7.cells RM7.slots) := by
  refine MetFree.of_bodySF (plainFor_of_name own_pn3) hisR ?_
  intro p e s m args below meth c s₁ Bd hml0 hP hK
  obtain ⟨rfl, hZ, hh⟩ := hP
  have hx := Bd.exec
  have hby := Bd.bytes
  have hml : c.maxLocals = 4 := hml0
  have hown : s.vm.findClass "com/example/bounded_crawl/boundedcrawl/web/Framing" = some m.cls := findClass_of_methodNamed Bd.named
  have hnm := (name_of_methodNamed Bd.named Bd.method).1
  have X0 : Stand p l e RM7 s m #[(.ref a0), (.ref a1), (.int p2), (.int p3)] below meth c s₁ [] 0 0 := Stand.of_body Bd
  have e0 : s₁.heap = h0 := by rw [← hh, Bd.state]; rfl
  have N0 := Fr.nil n0
  show Goes p e below s (Q7 Z a0 a1 p2 p3 wO wSz wPos wL wF wCh wB wC vs wSL wWK wHE wCD wCS wCE wTR bs h0 n0) kC7 kS7 (s₁.setTop (entryFrame m #[(.ref a0), (.ref a1), (.int p2), (.int p3)] 4))
  refine Goes.step (fun t k => castTop (own_ef7 m a0 a1 p2 p3) k) ?_
  show Goes _ _ _ _ _ _ _ (s₁.setTop (mkF m 0 #[.val (.ref a0), .val (.ref a1), .val (.int p2), .val (.int p3)] []))
  refine Goes.step (fun t k => XS.aloadN X0.here hx rfl (hb hby own_d7_0) rfl rfl k) ?_
  show Goes _ _ _ _ _ _ _ (s₁.setTop (mkF m 1 #[.val (.ref a0), .val (.ref a1), .val (.int p2), .val (.int p3)] [(.ref a0)]))
  refine Goes.step (fun t k => XS.dup X0.here hx rfl (hb hby own_d7_1) rfl rfl k) ?_
  show Goes _ _ _ _ _ _ _ (s₁.setTop (mkF m 2 #[.val (.ref a0), .val (.ref a1), .val (.int p2), .val (.int p3)] [(.ref a0), (.ref a0)]))
  obtain ⟨T1, X1, e1, st1⟩ := getF X0 hx hZ hown (host := "") (Or.inl (hw _ (List.mem_of_getElem? (i := 49) rfl))) Via.refl e0 H3 (g := (mkF m 2 #[.val (.ref a0), .val (.ref a1), .val (.int p2), .val (.int p3)] [(.ref a0), (.ref a0)])) rfl rfl (hb hby own_d7_2)
  refine Goes.step (fun t k => st1 t k) ?_
  show Goes _ _ _ _ _ _ _ (T1.setTop (mkF m 5 #[.val (.ref a0), .val (.ref a1), .val (.int p2), .val (.int p3)] [(.long wSz), (.ref a0)]))
  refine Goes.step (fun t k => XS.iloadN X1.here hx rfl (hb hby own_d7_5) rfl k) ?_
  show Goes _ _ _ _ _ _ _ (T1.setTop (mkF m 6 #[.val (.ref a0), .val (.ref a1), .val (.int p2), .val (.int p3)] [(.int p3), (.long wSz), (.ref a0)]))
  refine Goes.step (fun t k => XS.i2l X1.here hx rfl (hb hby own_d7_6) rfl k) ?_
  show Goes _ _ _ _ _ _ _ (T1.setTop (mkF m 7 #[.val (.ref a0), .val (.ref a1), .val (.int p2), .val (.int p3)] [(.long (p3.toInt64)), (.long wSz), (.ref a0)]))
  refine Goes.step (fun t k => XS.ladd X1.here hx rfl (hb hby own_d7_7) rfl k) ?_
  show Goes _ _ _ _ _ _ _ (T1.setTop (mkF m 8 #[.val (.ref a0), .val (.ref a1), .val (.int p2), .val (.int p3)] [(.long (wSz + (p3.toInt64))), (.ref a0)]))
  obtain ⟨T2, h2, X2, e2, W2, st2⟩ := putF X1 hx hZ hown (host := "") (Or.inl (hw _ (List.mem_of_getElem? (i := 49) rfl))) Via.refl e1 H3 H0 (Or.inl (hw _ (List.mem_of_getElem? (i := 50) rfl))) (hw _ (List.mem_of_getElem? (i := 6) rfl)) (ty := .long) (by decide) rfl rfl (g := (mkF m 8 #[.val (.ref a0), .val (.ref a1), .val (.int p2), .val (.int p3)] [(.long (wSz + (p3.toInt64))), (.ref a0)])) rfl rfl (hb hby own_d7_8)
  have Fw2 := H3.same W2
  have F3 := H0.wr W2
  have F4 := H1.other W2 (Or.inr (slot_ne (Or.inr (hw _ (List.mem_of_getElem? (i := 34) rfl))) (Or.inl (hw _ (List.mem_of_getElem? (i := 50) rfl))) (by decide) (t := (.object "java/io/ByteArrayOutputStream")) (t' := .long) (by decide) (by decide)))
  have F5 := H2.other W2 (Or.inr (slot_ne (Or.inl (hw _ (List.mem_of_getElem? (i := 41) rfl))) (Or.inl (hw _ (List.mem_of_getElem? (i := 50) rfl))) (by decide) (t := (.object "com/example/bounded_crawl/boundedcrawl/web/Framing$Part")) (t' := .long) (by decide) (by decide)))
  have F6 := H4.other W2 (Or.inr (slot_ne (Or.inl (hw _ (List.mem_of_getElem? (i := 62) rfl))) (Or.inl (hw _ (List.mem_of_getElem? (i := 50) rfl))) (by decide) (t := .long) (t' := .long) (by decide) (by decide)))
  have F7 := H5.other W2 (Or.inr (slot_ne (Or.inl (hw _ (List.mem_of_getElem? (i := 64) rfl))) (Or.inl (hw _ (List.mem_of_getElem? (i := 50) rfl))) (by decide) (t := .long) (t' := .long) (by decide) (by decide)))
  have F8 := H6.other W2 (Or.inr (slot_ne (Or.inl (hw _ (List.mem_of_getElem? (i := 77) rfl))) (Or.inl (hw _ (List.mem_of_getElem? (i := 50) rfl))) (by decide) (t := .int) (t' := .long) (by decide) (by decide)))
  have F9 := H7.other W2 (Or.inr (slot_ne (Or.inl (hw _ (List.mem_of_getElem? (i := 79) rfl))) (Or.inl (hw _ (List.mem_of_getElem? (i := 50) rfl))) (by decide) (t := .byte) (t' := .long) (by decide) (by decide)))
  have F10 := H8.other W2 (Or.inr (slot_ne (Or.inl (hw _ (List.mem_of_getElem? (i := 98) rfl))) (Or.inl (hw _ (List.mem_of_getElem? (i := 50) rfl))) (by decide) (t := .boolean) (t' := .long) (by decide) (by decide)))
  have F11 := H9.wr W2
  have F12 := H10.other W2 (Or.inl (Ne.symm ne_a0_wO))
  have F13 := H11.other W2 (Or.inl (Ne.symm ne_a0_wO))
  have F14 := H12.other W2 (Ne.symm ne_a0_wB)
  have F15 := H13.wr W2
  have F16 := H14.wr W2
  have F17 := H15.wr W2
  have F18 := H16.wr W2
  have F19 := H17.wr W2
  have F20 := H18.wr W2
  have F21 := H19.wr W2
  have F22 := H20.wr W2
  have F23 := H21.other W2 ne_a1_a0
  have K2 := (Keep.refl h0 [a0, wO, wB]).wr W2 (Or.inl (List.mem_of_getElem? (i := 0) rfl))
  have N2 := Fr.snoc X2 N0 g_a0
  have Z2 := Nat.le_trans Z0 (Nat.le_of_eq W2.size.symm)
  refine Goes.step (fun t k => st2 t k) ?_
  show Goes _ _ _ _ _ _ _ (T2.setTop (mkF m 11 #[.val (.ref a0), .val (.ref a1), .val (.int p2), .val (.int p3)] []))
  refine Goes.step (fun t k => XS.aloadN X2.here hx rfl (hb hby own_d7_11) rfl rfl k) ?_
  show Goes _ _ _ _ _ _ _ (T2.setTop (mkF m 12 #[.val (.ref a0), .val (.ref a1), .val (.int p2), .val (.int p3)] [(.ref a0)]))
  refine Goes.step (fun t k => XS.aloadN X2.here hx rfl (hb hby own_d7_12) rfl rfl k) ?_
  show Goes _ _ _ _ _ _ _ (T2.setTop (mkF m 13 #[.val (.ref a0), .val (.ref a1), .val (.int p2), .val (.int p3)] [(.ref a1), (.ref a0)]))
  refine Goes.step (fun t k => XS.iloadN X2.here hx rfl (hb hby own_d7_13) rfl k) ?_
  show Goes _ _ _ _ _ _ _ (T2.setTop (mkF m 14 #[.val (.ref a0), .val (.ref a1), .val (.int p2), .val (.int p3)] [(.int p2), (.ref a1), (.ref a0)]))
  refine Goes.step (fun t k => XS.iloadN X2.here hx rfl (hb hby own_d7_14) rfl k) ?_
  show Goes _ _ _ _ _ _ _ (T2.setTop (mkF m 15 #[.val (.ref a0), .val (.ref a1), .val (.int p2), .val (.int p3)] [(.int p2), (.int p2), (.ref a1), (.ref a0)]))
  refine Goes.step (fun t k => XS.iloadN X2.here hx rfl (hb hby own_d7_15) rfl k) ?_
  show Goes _ _ _ _ _ _ _ (T2.setTop (mkF m 16 #[.val (.ref a0), .val (.ref a1), .val (.int p2), .val (.int p3)] [(.int p3), (.int p2), (.int p2), (.ref a1), (.ref a0)]))
  refine Goes.step (fun t k => XS.iadd X2.here hx rfl (hb hby own_d7_16) rfl k) ?_
  show Goes _ _ _ _ _ _ _ (T2.setTop (mkF m 17 #[.val (.ref a0), .val (.ref a1), .val (.int p2), .val (.int p3)] [(.int (p2 + p3)), (.int p2), (.ref a1), (.ref a0)]))
  obtain ⟨cq24, q24, q24'⟩ := F3.cell
  obtain ⟨_, _, ⟨T24, L24, k24, n24⟩, -, X24, ⟨Lc24, hQ24, l24, y24, z24⟩, st24⟩ := X2.privateBack hx (y := (⟨"com/example/bounded_crawl/boundedcrawl/web/Framing", "walk", "([BII)V"⟩ : MethodName)) hown (mvT hZ (hw _ (List.mem_of_getElem? (i := 51) rfl))) (mvT hZ (hw _ (List.mem_of_getElem? (i := 52) rfl))) (mvT hZ (own_selpriv (y := (⟨"com/example/bounded_crawl/boundedcrawl/web/Framing", "walk", "([BII)V"⟩ : MethodName)) (hw _ (List.mem_of_getElem? (i := 6) rfl)) (hw _ (List.mem_of_getElem? (i := 52) rfl)) (hw _ (List.mem_of_getElem? (i := 53) rfl)) (by decide))) (Cond.privateMethod_at (mvP hZ (hw _ (List.mem_of_getElem? (i := 53) rfl)) (args := #[]))) (mvT hZ (hw _ (List.mem_of_getElem? (i := 54) rfl))) (by decide) (backOf (W := 0) (rm8 l Z tA hw [] a0 a1 p2 (p2 + p3) wO (wSz + (p3.toInt64)) wPos wL wF wCh wB wC vs wSL wWK wHE wCD wCS wCE wTR bs (p3.toNatClampNeg) (wPos + p3.toInt64) (wL + p3) (wC + p3) h2 n0 Z2 F3 F4 F5 Fw2 F6 F7 F8 F9 F10 F11 F12 F13 F14 F15 F16 F17 F18 F19 F20 F21 F22 F23 g_a0 g_wO g_wB ne_a0_wO ne_a0_wB ne_wO_wB ne_wSL_wWK ne_wSL_wHE ne_wSL_wCD ne_wSL_wCS ne_wSL_wCE ne_wSL_wTR ne_a1_a0 ne_a1_wO ne_a1_wB hvl0 hbs hp2 (own_pp hp2 hp3 h8).1 (own_pp hp2 hp3 h8).2 hc0 (own_cn hp3 hc1) (own_o64 hp3 _) (own_o32 hp3 _) (own_o32 hp3 _)) hZ (hw _ (List.mem_of_getElem? (i := 54) rfl)) (hw _ (List.mem_of_getElem? (i := 7) rfl)) (by decide) (by decide)) (g := (mkF m 17 #[.val (.ref a0), .val (.ref a1), .val (.int p2), .val (.int p3)] [(.int (p2 + p3)), (.int p2), (.ref a1), (.ref a0)])) rfl (by rw [hml]; rfl) (Steps.refl _) (a := a0) (by rw [e2]; exact q24) q24' (argsL := [(.ref a1), (.int p2), (.int (p2 + p3))]) (rest := []) (lenOf own_pd3 rfl) rfl (by show 2 * 0 + _ ≤ _; exact Nat.le_of_eq rfl) (hb hby own_d7_17) (fun _ _ => ⟨rfl, e2, (by decide : 0 + 0 ≤ _), (by decide : 0 + 0 ≤ _)⟩)
  dsimp only [Pt.U, Pt.locs, Pt.cells, Pt.slots] at X24 l24 y24 z24 st24 hQ24
  rw [l24, y24, z24] at X24
  obtain ⟨vl24, wf24, hvl24, hQ24⟩ := hQ24
  generalize e24 : T24.heap = h24 at hQ24
  obtain ⟨rfl, Nq24, Kq24, G24_0, G24_1, G24_2, G24_3, G24_4, G24_5, G24_6, G24_7, G24_8, G24_9, G24_10, G24_11, G24_12, G24_13⟩ := hQ24
  have F25 := own_sta_keep F16 Kq24 (allS (notsta_exa F3) (allS (notsta_exa F11) (allS (notsta_ara F14) all0)))
  have F26 := own_sta_keep F17 Kq24 (allS (notsta_exa F3) (allS (notsta_exa F11) (allS (notsta_ara F14) all0)))
  have F27 := own_sta_keep F18 Kq24 (allS (notsta_exa F3) (allS (notsta_exa F11) (allS (notsta_ara F14) all0)))
  have F28 := own_sta_keep F19 Kq24 (allS (notsta_exa F3) (allS (notsta_exa F11) (allS (notsta_ara F14) all0)))
  have F29 := own_sta_keep F20 Kq24 (allS (notsta_exa F3) (allS (notsta_exa F11) (allS (notsta_ara F14) all0)))
  have F30 := own_sta_keep F21 Kq24 (allS (notsta_exa F3) (allS (notsta_exa F11) (allS (notsta_ara F14) all0)))
  have F31 := own_sta_keep F22 Kq24 (allS (notsta_exa F3) (allS (notsta_exa F11) (allS (notsta_ara F14) all0)))
  have F32 := F23.keep Kq24 (ninS ne_a1_a0 (ninS ne_a1_wO (ninS ne_a1_wB nin0)))
  have N24 := Fr.app N2 Nq24
  have K24 := K2.trans Kq24 (allS (Or.inl (List.mem_of_getElem? (i := 0) rfl)) (allS (Or.inl (List.mem_of_getElem? (i := 1) rfl)) (allS (Or.inl (List.mem_of_getElem? (i := 2) rfl)) all0)))
  have Z24 := Nat.le_trans Z2 Kq24.1
  change Stand _ _ _ _ _ _ _ _ _ _ _ _ 0 0 at X24
  refine Goes.step (fun t k => st24.trans k) ?_
  show Goes _ _ _ _ _ _ _ (T24.setTop (mkF m 20 #[.val (.ref a0), .val (.ref a1), .val (.int p2), .val (.int p3)] []))
  exact Goes.retV X24 hx Bd.notSynchronized Bd.returns (hb hby own_d7_20) (by rw [e24]; exact ⟨_, _, hvl24, rfl, N24, K24, G24_0, G24_1, G24_2, G24_3, G24_4, G24_5, G24_6, G24_7, G24_8, G24_9, G24_10, G24_11, G24_12, G24_13⟩) (by decide) (by decide)
theorem own_d12_0 : decode prog_44_method_4_code 0 = .ok (.aload_n 0, 1) := by decide +kernel
theorem own_d12_1 : decode prog_44_method_4_code 1 = .ok (.iload_n 1, 1) := by decide +kernel
theorem own_d12_2 : decode prog_44_method_4_code 2 = .ok (.putfield 40, 3) := by decide +kernel
theorem own_d12_5 : decode prog_44_method_4_code 5 = .ok (.aload_n 0, 1) := by decide +kernel
theorem own_d12_6 : decode prog_44_method_4_code 6 = .ok (.getfield 25, 3) := by decide +kernel
theorem own_d12_9 : decode prog_44_method_4_code 9 = .ok (.getstatic 43, 3) := by decide +kernel
theorem own_d12_12 : decode prog_44_method_4_code 12 = .ok (.if_acmp .ne 46, 3) := by decide +kernel
theorem own_d12_58 : decode prog_44_method_4_code 58 = .ok (.return_, 1) := by decide +kernel
theorem own_ef12 (m : MethodId) (a0 : Addr) (p1 : Int32) : entryFrame m #[(.ref a0), (.int p1)] 2 = mkF m 0 #[.val (.ref a0), .val (.int p1)] [] := by first | (simp [entryFrame, mkF, argsToLocals, Value.category, maxLocals]; done) | rfl
abbrev RM12 : Room := ({ frames := 0, cells := 0, slots := 0, locals := 0 } : Room)
abbrev kC12 : Nat := 0
abbrev kS12 : Nat := 0
def Q12 (Z : State) (a0 : Addr) (p1 : Int32) (wCh : Int32) (wPos : Int64) (wSz : Int64) (wSL : Addr) (wHE : Addr) (h0 : Heap) (n0 : Nat) (v : Option Value) (h : Heap) (L : List Loc) : Prop := v = none ∧ Fr n0 L ∧ Keep h0 h [a0] ∧ Exa Z h a0 "com/example/bounded_crawl/boundedcrawl/web/Framing" ∧ Fld Z h a0 "com/example/bounded_crawl/boundedcrawl/web/Framing" "chunked" "Z" (.int (nar .boolean p1)) ∧ Fld Z h a0 "com/example/bounded_crawl/boundedcrawl/web/Framing" "position" "J" (.long wPos) ∧ Fld Z h a0 "com/example/bounded_crawl/boundedcrawl/web/Framing" "size" "J" (.long wSz)
set_option maxRecDepth 65536 in
set_option maxHeartbeats 40000000 in
theorem rm12 (l : Launch) (Z : State) (tA : Array Value) (hw : ∀ d ∈ tables_1, d.before tA Z = true) (ws : List Jvm.Cond) (a0 : Addr) (p1 : Int32) (wCh : Int32) (wPos : Int64) (wSz : Int64) (wSL : Addr) (wHE : Addr) (h0 : Heap) (n0 : Nat) (Z0 : n0 ≤ h0.size) (H0 : Exa Z h0 a0 "com/example/bounded_crawl/boundedcrawl/web/Framing") (H1 : Fld Z h0 a0 "com/example/bounded_crawl/boundedcrawl/web/Framing" "chunked" "Z" (.int wCh)) (H2 : Fld Z h0 a0 "com/example/bounded_crawl/boundedcrawl/web/Framing" "position" "J" (.long wPos)) (H3 : Fld Z h0 a0 "com/example/bounded_crawl/boundedcrawl/web/Framing" "size" "J" (.long wSz)) (H4 : Fld Z h0 a0 "com/example/bounded_crawl/boundedcrawl/web/Framing" "part" "Lcom/example/bounded_crawl/boundedcrawl/web/Framing$Part;" (.ref wSL)) (H5 : Sta Z h0 "com/example/bounded_crawl/boundedcrawl/web/Framing$Part" "HELD" "Lcom/example/bounded_crawl/boundedcrawl/web/Framing$Part;" (.ref wHE)) (g_a0 : n0 ≤ a0) (nh : wSL ≠ wHE) :
    MetFree l (⟨"com/example/bounded_crawl/boundedcrawl/web/Framing", "framed", "(Z)V"⟩ : MethodName) (head1 (Jvm.Cond.code (⟨"com/example/bounded_crawl/boundedcrawl/web/Framing", "framed", "(Z)V"⟩ : MethodName) prog_44_method_4_code 2 none :: ws) RM12) (fun a U => a = #[(.ref a0), (.int p1)] ∧ Z.Warmed39 U.vm ∧ U.heap = h0) (fun _ _ _ _ _ => True) (fun _ U o U' => ∃ v L, o = .returned v ∧ Q12 Z a0 p1 wCh wPos wSz wSL wHE h0 n0 v U'.heap L ∧ FrameEnd U o U' L RM12.cells RM12.slots) := by
  refine MetFree.of_bodySF (plainFor_of_name own_pn3) hisR ?_
  intro p e s m args below meth c s₁ Bd hml0 hP hK
  obtain ⟨rfl, hZ, hh⟩ := hP
  have hx := Bd.exec
  have hby := Bd.bytes
  have hml : c.maxLocals = 2 := hml0
  have hown : s.vm.findClass "com/example/bounded_crawl/boundedcrawl/web/Framing" = some m.cls := findClass_of_methodNamed Bd.named
  have hnm := (name_of_methodNamed Bd.named Bd.method).1
  have X0 : Stand p l e RM12 s m #[(.ref a0), (.int p1)] below meth c s₁ [] 0 0 := Stand.of_body Bd
  have e0 : s₁.heap = h0 := by rw [← hh, Bd.state]; rfl
  have N0 := Fr.nil n0
  show Goes p e below s (Q12 Z a0 p1 wCh wPos wSz wSL wHE h0 n0) kC12 kS12 (s₁.setTop (entryFrame m #[(.ref a0), (.int p1)] 2))
  refine Goes.step (fun t k => castTop (own_ef12 m a0 p1) k) ?_
  show Goes _ _ _ _ _ _ _ (s₁.setTop (mkF m 0 #[.val (.ref a0), .val (.int p1)] []))
  refine Goes.step (fun t k => XS.aloadN X0.here hx rfl (hb hby own_d12_0) rfl rfl k) ?_
  show Goes _ _ _ _ _ _ _ (s₁.setTop (mkF m 1 #[.val (.ref a0), .val (.int p1)] [(.ref a0)]))
  refine Goes.step (fun t k => XS.iloadN X0.here hx rfl (hb hby own_d12_1) rfl k) ?_
  show Goes _ _ _ _ _ _ _ (s₁.setTop (mkF m 2 #[.val (.ref a0), .val (.int p1)] [(.int p1), (.ref a0)]))
  obtain ⟨T1, h1, X1, e1, W1, st1⟩ := putFN X0 hx hZ hown (hw _ (List.mem_of_getElem? (i := 97) rfl)) Via.refl e0 H1 H0 (Or.inl (hw _ (List.mem_of_getElem? (i := 98) rfl))) (hw _ (List.mem_of_getElem? (i := 6) rfl)) (ty := .boolean) (v' := (.int (nar .boolean p1))) (by decide) rfl (fits_nar_bool _) (g := (mkF m 2 #[.val (.ref a0), .val (.int p1)] [(.int p1), (.ref a0)])) rfl rfl (hb hby own_d12_2)
  have Fw1 := H1.same W1
  have F2 := H0.wr W1
  have F3 := H2.other W1 (Or.inr (slot_ne (Or.inl (hw _ (List.mem_of_getElem? (i := 62) rfl))) (Or.inl (hw _ (List.mem_of_getElem? (i := 98) rfl))) (by decide) (t := .long) (t' := .boolean) (by decide) (by decide)))
  have F4 := H3.other W1 (Or.inr (slot_ne (Or.inl (hw _ (List.mem_of_getElem? (i := 50) rfl))) (Or.inl (hw _ (List.mem_of_getElem? (i := 98) rfl))) (by decide) (t := .long) (t' := .boolean) (by decide) (by decide)))
  have F5 := H4.other W1 (Or.inr (slot_ne (Or.inl (hw _ (List.mem_of_getElem? (i := 41) rfl))) (Or.inl (hw _ (List.mem_of_getElem? (i := 98) rfl))) (by decide) (t := (.object "com/example/bounded_crawl/boundedcrawl/web/Framing$Part")) (t' := .boolean) (by decide) (by decide)))
  have F6 := H5.wr W1
  have K1 := (Keep.refl h0 [a0]).wr W1 (Or.inl (List.mem_of_getElem? (i := 0) rfl))
  have N1 := Fr.snoc X1 N0 g_a0
  have Z1 := Nat.le_trans Z0 (Nat.le_of_eq W1.size.symm)
  refine Goes.step (fun t k => st1 t k) ?_
  show Goes _ _ _ _ _ _ _ (T1.setTop (mkF m 5 #[.val (.ref a0), .val (.int p1)] []))
  refine Goes.step (fun t k => XS.aloadN X1.here hx rfl (hb hby own_d12_5) rfl rfl k) ?_
  show Goes _ _ _ _ _ _ _ (T1.setTop (mkF m 6 #[.val (.ref a0), .val (.int p1)] [(.ref a0)]))
  obtain ⟨T7, X7, e7, st7⟩ := getF X1 hx hZ hown (host := "") (Or.inl (hw _ (List.mem_of_getElem? (i := 40) rfl))) Via.refl e1 F5 (g := (mkF m 6 #[.val (.ref a0), .val (.int p1)] [(.ref a0)])) rfl rfl (hb hby own_d12_6)
  refine Goes.step (fun t k => st7 t k) ?_
  show Goes _ _ _ _ _ _ _ (T7.setTop (mkF m 9 #[.val (.ref a0), .val (.int p1)] [(.ref wSL)]))
  obtain ⟨T8, X8, e8, st8⟩ := getS2 X7 hx hZ hown (host := "") (Or.inl (hw _ (List.mem_of_getElem? (i := 57) rfl))) Via.refl e7 F6 (g := (mkF m 9 #[.val (.ref a0), .val (.int p1)] [(.ref wSL)])) rfl (hb hby own_d12_9)
  refine Goes.step (fun t k => st8 t k) ?_
  show Goes _ _ _ _ _ _ _ (T8.setTop (mkF m 12 #[.val (.ref a0), .val (.int p1)] [(.ref wHE), (.ref wSL)]))
  refine Goes.step (fun t k => Jvm.RoadKit.acmp (g := (mkF m 12 #[.val (.ref a0), .val (.int p1)] [(.ref wHE), (.ref wSL)])) X8 hx rfl rfl rfl (pc0 := 12) (pc' := 58) (same := false) rfl (hb hby own_d12_12) rfl (decide_eq_false fun q => nh (Value.ref.inj q)) (by decide) (by decide) k) ?_
  show Goes _ _ _ _ _ _ _ (T8.setTop (mkF m 58 #[.val (.ref a0), .val (.int p1)] []))
  exact Goes.retV X8 hx Bd.notSynchronized Bd.returns (hb hby own_d12_58) (by rw [e8]; exact ⟨rfl, N1, K1, F2, Fw1, F3, F4⟩) (by decide) (by decide)
def f13 (q1 : Int64) (wCh : Int32) (wPos : Int64) : Int64 := (if wCh = (0 : Int32) then (wPos + q1) else wPos)
theorem own_d13_0 : decode prog_44_method_7_code 0 = .ok (.aload_n 0, 1) := by decide +kernel
theorem own_d13_1 : decode prog_44_method_7_code 1 = .ok (.getfield 40, 3) := by decide +kernel
theorem own_d13_4 : decode prog_44_method_7_code 4 = .ok (.ifCond .eq 10, 3) := by decide +kernel
theorem own_d13_7 : decode prog_44_method_7_code 7 = .ok (.aload_n 0, 1) := by decide +kernel
theorem own_d13_8 : decode prog_44_method_7_code 8 = .ok (.getfield 65, 3) := by decide +kernel
theorem own_d13_11 : decode prog_44_method_7_code 11 = .ok (.goto 9, 3) := by decide +kernel
theorem own_d13_14 : decode prog_44_method_7_code 14 = .ok (.aload_n 0, 1) := by decide +kernel
theorem own_d13_15 : decode prog_44_method_7_code 15 = .ok (.getfield 65, 3) := by decide +kernel
theorem own_d13_18 : decode prog_44_method_7_code 18 = .ok (.lload_n 1, 1) := by decide +kernel
theorem own_d13_19 : decode prog_44_method_7_code 19 = .ok (.ladd, 1) := by decide +kernel
theorem own_d13_20 : decode prog_44_method_7_code 20 = .ok (.lreturn, 1) := by decide +kernel
theorem own_ef13 (m : MethodId) (a0 : Addr) (q1 : Int64) : entryFrame m #[(.ref a0), (.long q1)] 3 = mkF m 0 #[.val (.ref a0), .val (.long q1), .second] [] := by first | (simp [entryFrame, mkF, argsToLocals, Value.category, maxLocals]; done) | rfl
abbrev RM13 : Room := ({ frames := 0, cells := 0, slots := 0, locals := 0 } : Room)
abbrev kC13 : Nat := 0
abbrev kS13 : Nat := 0
def Q13 (Z : State) (a0 : Addr) (q1 : Int64) (wCh : Int32) (wPos : Int64) (h0 : Heap) (v : Option Value) (h : Heap) (L : List Loc) : Prop := v = some (.long (f13 q1 wCh wPos)) ∧ L = [] ∧ h = h0
set_option maxRecDepth 65536 in
set_option maxHeartbeats 40000000 in
theorem rm13 (l : Launch) (Z : State) (tA : Array Value) (hw : ∀ d ∈ tables_1, d.before tA Z = true) (ws : List Jvm.Cond) (a0 : Addr) (q1 : Int64) (wCh : Int32) (wPos : Int64) (h0 : Heap) (H0 : Fld Z h0 a0 "com/example/bounded_crawl/boundedcrawl/web/Framing" "chunked" "Z" (.int wCh)) (H1 : Fld Z h0 a0 "com/example/bounded_crawl/boundedcrawl/web/Framing" "position" "J" (.long wPos)) :
    MetFree l (⟨"com/example/bounded_crawl/boundedcrawl/web/Framing", "end", "(J)J"⟩ : MethodName) (head1 (Jvm.Cond.code (⟨"com/example/bounded_crawl/boundedcrawl/web/Framing", "end", "(J)J"⟩ : MethodName) prog_44_method_7_code 3 (some .long) :: ws) RM13) (fun a U => a = #[(.ref a0), (.long q1)] ∧ Z.Warmed39 U.vm ∧ U.heap = h0) (fun _ _ _ _ _ => True) (fun _ U o U' => ∃ v L, o = .returned v ∧ Q13 Z a0 q1 wCh wPos h0 v U'.heap L ∧ FrameEnd U o U' L RM13.cells RM13.slots) := by
  refine MetFree.of_bodySF (plainFor_of_name own_pn3) hisR ?_
  intro p e s m args below meth c s₁ Bd hml0 hP hK
  obtain ⟨rfl, hZ, hh⟩ := hP
  have hx := Bd.exec
  have hby := Bd.bytes
  have hml : c.maxLocals = 3 := hml0
  have hown : s.vm.findClass "com/example/bounded_crawl/boundedcrawl/web/Framing" = some m.cls := findClass_of_methodNamed Bd.named
  have hnm := (name_of_methodNamed Bd.named Bd.method).1
  have X0 : Stand p l e RM13 s m #[(.ref a0), (.long q1)] below meth c s₁ [] 0 0 := Stand.of_body Bd
  have e0 : s₁.heap = h0 := by rw [← hh, Bd.state]; rfl
  show Goes p e below s (Q13 Z a0 q1 wCh wPos h0) kC13 kS13 (s₁.setTop (entryFrame m #[(.ref a0), (.long q1)] 3))
  refine Goes.step (fun t k => castTop (own_ef13 m a0 q1) k) ?_
  show Goes _ _ _ _ _ _ _ (s₁.setTop (mkF m 0 #[.val (.ref a0), .val (.long q1), .second] []))
  refine Goes.step (fun t k => XS.aloadN X0.here hx rfl (hb hby own_d13_0) rfl rfl k) ?_
  show Goes _ _ _ _ _ _ _ (s₁.setTop (mkF m 1 #[.val (.ref a0), .val (.long q1), .second] [(.ref a0)]))
  obtain ⟨T1, X1, e1, st1⟩ := getF X0 hx hZ hown (host := "") (Or.inl (hw _ (List.mem_of_getElem? (i := 97) rfl))) Via.refl e0 H0 (g := (mkF m 1 #[.val (.ref a0), .val (.long q1), .second] [(.ref a0)])) rfl rfl (hb hby own_d13_1)
  refine Goes.step (fun t k => st1 t k) ?_
  show Goes _ _ _ _ _ _ _ (T1.setTop (mkF m 4 #[.val (.ref a0), .val (.long q1), .second] [(.int wCh)]))
  suffices k5 : ∀ (T5 : State) (x5_0 : Int64), Stand p l e RM13 s m #[(.ref a0), (.long q1)] below meth c T5 [] 0 0 → T5.heap = h0 → x5_0 = (if wCh = (0 : Int32) then (wPos + q1) else wPos) → Goes p e below s (Q13 Z a0 q1 wCh wPos h0) kC13 kS13 (T5.setTop (mkF m 20 #[.val (.ref a0), .val (.long q1), .second] [(.long x5_0)])) by
    by_cases hc4_2 : wCh = (0 : Int32)
    · refine Goes.step (fun t k => XS.ifYes X1.here hx rfl (pc0 := 4) (pc' := 14) rfl (hb hby own_d13_4) rfl ((if0 _ _).trans (teq hc4_2).1) (by decide) (by decide) k) ?_
      show Goes _ _ _ _ _ _ _ (T1.setTop (mkF m 14 #[.val (.ref a0), .val (.long q1), .second] []))
      refine Goes.step (fun t k => XS.aloadN X1.here hx rfl (hb hby own_d13_14) rfl rfl k) ?_
      show Goes _ _ _ _ _ _ _ (T1.setTop (mkF m 15 #[.val (.ref a0), .val (.long q1), .second] [(.ref a0)]))
      obtain ⟨T3, X3, e3, st3⟩ := getF X1 hx hZ hown (host := "") (Or.inl (hw _ (List.mem_of_getElem? (i := 61) rfl))) Via.refl e1 H1 (g := (mkF m 15 #[.val (.ref a0), .val (.long q1), .second] [(.ref a0)])) rfl rfl (hb hby own_d13_15)
      refine Goes.step (fun t k => st3 t k) ?_
      show Goes _ _ _ _ _ _ _ (T3.setTop (mkF m 18 #[.val (.ref a0), .val (.long q1), .second] [(.long wPos)]))
      refine Goes.step (fun t k => XS.lloadN X3.here hx rfl (hb hby own_d13_18) rfl k) ?_
      show Goes _ _ _ _ _ _ _ (T3.setTop (mkF m 19 #[.val (.ref a0), .val (.long q1), .second] [(.long q1), (.long wPos)]))
      refine Goes.step (fun t k => XS.ladd X3.here hx rfl (hb hby own_d13_19) rfl k) ?_
      show Goes _ _ _ _ _ _ _ (T3.setTop (mkF m 20 #[.val (.ref a0), .val (.long q1), .second] [(.long (wPos + q1))]))
      exact k5 _ _ X3 e3 (if_pos hc4_2).symm
    · refine Goes.step (fun t k => XS.ifNo X1.here hx rfl (hb hby own_d13_4) rfl ((if0 _ _).trans (feq hc4_2).1) k) ?_
      show Goes _ _ _ _ _ _ _ (T1.setTop (mkF m 7 #[.val (.ref a0), .val (.long q1), .second] []))
      refine Goes.step (fun t k => XS.aloadN X1.here hx rfl (hb hby own_d13_7) rfl rfl k) ?_
      show Goes _ _ _ _ _ _ _ (T1.setTop (mkF m 8 #[.val (.ref a0), .val (.long q1), .second] [(.ref a0)]))
      obtain ⟨T4, X4, e4, st4⟩ := getF X1 hx hZ hown (host := "") (Or.inl (hw _ (List.mem_of_getElem? (i := 61) rfl))) Via.refl e1 H1 (g := (mkF m 8 #[.val (.ref a0), .val (.long q1), .second] [(.ref a0)])) rfl rfl (hb hby own_d13_8)
      refine Goes.step (fun t k => st4 t k) ?_
      show Goes _ _ _ _ _ _ _ (T4.setTop (mkF m 11 #[.val (.ref a0), .val (.long q1), .second] [(.long wPos)]))
      refine Goes.step (fun t k => XS.goto X4.here hx rfl (pc0 := 11) (pc' := 20) rfl (hb hby own_d13_11) (by decide) (by decide) k) ?_
      show Goes _ _ _ _ _ _ _ (T4.setTop (mkF m 20 #[.val (.ref a0), .val (.long q1), .second] [(.long wPos)]))
      exact k5 _ _ X4 e4 (if_neg hc4_2).symm
  intro T5 x5_0 X5 e5 hx5_0
  subst hx5_0
  exact Goes.retJ X5 hx Bd.notSynchronized (r := (f13 q1 wCh wPos)) Bd.returns (hb hby own_d13_20) rfl ⟨rfl, rfl, e5⟩ (by decide) (by decide)
def f14 (wSz : Int64) : Int64 := wSz
theorem own_d14_0 : decode prog_44_method_5_code 0 = .ok (.aload_n 0, 1) := by decide +kernel
theorem own_d14_1 : decode prog_44_method_5_code 1 = .ok (.getfield 32, 3) := by decide +kernel
theorem own_d14_4 : decode prog_44_method_5_code 4 = .ok (.lreturn, 1) := by decide +kernel
theorem own_ef14 (m : MethodId) (a0 : Addr) : entryFrame m #[(.ref a0)] 1 = mkF m 0 #[.val (.ref a0)] [] := by first | (simp [entryFrame, mkF, argsToLocals, Value.category, maxLocals]; done) | rfl
abbrev RM14 : Room := ({ frames := 0, cells := 0, slots := 0, locals := 0 } : Room)
abbrev kC14 : Nat := 0
abbrev kS14 : Nat := 0
def Q14 (Z : State) (a0 : Addr) (wSz : Int64) (h0 : Heap) (v : Option Value) (h : Heap) (L : List Loc) : Prop := v = some (.long (f14 wSz)) ∧ L = [] ∧ h = h0
set_option maxRecDepth 65536 in
set_option maxHeartbeats 40000000 in
theorem rm14 (l : Launch) (Z : State) (tA : Array Value) (hw : ∀ d ∈ tables_1, d.before tA Z = true) (ws : List Jvm.Cond) (a0 : Addr) (wSz : Int64) (h0 : Heap) (H0 : Fld Z h0 a0 "com/example/bounded_crawl/boundedcrawl/web/Framing" "size" "J" (.long wSz)) :
    MetFree l (⟨"com/example/bounded_crawl/boundedcrawl/web/Framing", "size", "()J"⟩ : MethodName) (head1 (Jvm.Cond.code (⟨"com/example/bounded_crawl/boundedcrawl/web/Framing", "size", "()J"⟩ : MethodName) prog_44_method_5_code 1 (some .long) :: ws) RM14) (fun a U => a = #[(.ref a0)] ∧ Z.Warmed39 U.vm ∧ U.heap = h0) (fun _ _ _ _ _ => True) (fun _ U o U' => ∃ v L, o = .returned v ∧ Q14 Z a0 wSz h0 v U'.heap L ∧ FrameEnd U o U' L RM14.cells RM14.slots) := by
  refine MetFree.of_bodySF (plainFor_of_name own_pn3) hisR ?_
  intro p e s m args below meth c s₁ Bd hml0 hP hK
  obtain ⟨rfl, hZ, hh⟩ := hP
  have hx := Bd.exec
  have hby := Bd.bytes
  have hml : c.maxLocals = 1 := hml0
  have hown : s.vm.findClass "com/example/bounded_crawl/boundedcrawl/web/Framing" = some m.cls := findClass_of_methodNamed Bd.named
  have hnm := (name_of_methodNamed Bd.named Bd.method).1
  have X0 : Stand p l e RM14 s m #[(.ref a0)] below meth c s₁ [] 0 0 := Stand.of_body Bd
  have e0 : s₁.heap = h0 := by rw [← hh, Bd.state]; rfl
  show Goes p e below s (Q14 Z a0 wSz h0) kC14 kS14 (s₁.setTop (entryFrame m #[(.ref a0)] 1))
  refine Goes.step (fun t k => castTop (own_ef14 m a0) k) ?_
  show Goes _ _ _ _ _ _ _ (s₁.setTop (mkF m 0 #[.val (.ref a0)] []))
  refine Goes.step (fun t k => XS.aloadN X0.here hx rfl (hb hby own_d14_0) rfl rfl k) ?_
  show Goes _ _ _ _ _ _ _ (s₁.setTop (mkF m 1 #[.val (.ref a0)] [(.ref a0)]))
  obtain ⟨T1, X1, e1, st1⟩ := getF X0 hx hZ hown (host := "") (Or.inl (hw _ (List.mem_of_getElem? (i := 49) rfl))) Via.refl e0 H0 (g := (mkF m 1 #[.val (.ref a0)] [(.ref a0)])) rfl rfl (hb hby own_d14_1)
  refine Goes.step (fun t k => st1 t k) ?_
  show Goes _ _ _ _ _ _ _ (T1.setTop (mkF m 4 #[.val (.ref a0)] [(.long wSz)]))
  exact Goes.retJ X1 hx Bd.notSynchronized (r := (f14 wSz)) Bd.returns (hb hby own_d14_4) rfl ⟨rfl, rfl, e1⟩ (by decide) (by decide)

theorem own_m7 (p y : Int32) (h : p &&& 7 = y) : 0 ≤ y.toInt ∧ y.toInt ≤ 7 := by
  have h1 := c_mask p 7 3 (by decide) (by decide)
  rw [h] at h1; omega
theorem own_a8 {y : Int32} (h : 0 ≤ y.toInt ∧ y.toInt ≤ 7) : (0 : Int32).toInt + y.toInt ≤ 8 ∧ (0 : Int32).toInt + y.toInt ≤ 32 := by
  rw [(by decide : (0 : Int32).toInt = 0)]; omega
theorem own_b8 {y : Int32} (h : 0 ≤ y.toInt ∧ y.toInt ≤ 7) : 0 ≤ (8 - y).toInt ∧ (8 - y).toInt + y.toInt ≤ 8 := by
  have e := c_isub 8 y
  have r := rng32 (8 - y)
  rw [(by decide : (8 : Int32).toInt = 8)] at e
  omega
theorem own_c8 {x y : Int32} (hx : 0 ≤ x.toInt ∧ x.toInt ≤ 7) (h : 0 ≤ y.toInt ∧ y.toInt ≤ 7) : 0 ≤ ((0 : Int32) + x).toInt ∧ ((0 : Int32) + x).toInt + y.toInt ≤ 32 := by
  rw [Int32.zero_add]; omega
theorem own_pick (q : Int64) (s : Int32) : ¬ ((f1 q s).toInt8.toInt32) = (10 : Int32) := by
  have z : ∀ w : Int32, (nar .byte w).toInt8 = w.toInt8 := fun w => Int8.toInt8_toInt32 w.toInt8
  unfold f1
  rw [z]
  split
  · decide
  · rename_i h
    rw [Int8.toInt8_toInt32]; exact h
theorem own_bytes {b : List Int32} (h8 : b.length = 8) (h : ∀ x ∈ b, ¬ x = (10 : Int32)) : ∀ k : Nat, k < 8 → ∃ x : Int32, (b.map Value.int)[k]? = some (.int x) ∧ ¬ x = (10 : Int32) := fun k hk => by
  have hk' : k < b.length := by omega
  exact ⟨b[k], by simp [List.getElem?_eq_getElem hk'], h _ (List.getElem_mem hk')⟩
set_option maxRecDepth 65536 in
set_option maxHeartbeats 4000000 in
theorem own_plain (p1 : Int32) (q2 : Int64) (p3 : Int32) (y81 : Int32) (y82 : Int32) (x84_0 : Int32) (y147 : Int64) (x149_0 : Int64) (y151 : Int64) (x156_0 : Int32) (hy81 : (p1 &&& (7 : Int32)) = y81) (hy82 : (((p1.toUInt32 >>> ((3 : Int32) &&& 31).toUInt32).toInt32) &&& (7 : Int32)) = y82) (hx84_0 : x84_0 = (if (p3 &&& (1 : Int32)) = (0 : Int32) then (0 : Int32) else (1 : Int32))) (hy147 : ((y81.toInt64) + (y82.toInt64)) = y147) (hx149_0 : x149_0 = (if x84_0 = (0 : Int32) then (y147 + q2) else y147)) (hy151 : (f13 q2 (nar .boolean x84_0) (((0 : Int64) + y81.toInt64) + y82.toInt64)) = y151) (hx156_0 : x156_0 = (if y151 = x149_0 then (if (f14 (((0 : Int64) + y81.toInt64) + y82.toInt64)) = y147 then (1 : Int32) else (0 : Int32)) else (0 : Int32))) : nar .boolean x156_0 = (1 : Int32) := by
  have e : (0 : Int64) + y81.toInt64 + y82.toInt64 = y147 := by rw [← hy147, Int64.zero_add]
  rw [e] at hy151 hx156_0
  have e2 : y151 = x149_0 := by
    rw [← hy151, hx149_0, hx84_0]
    unfold f13
    by_cases q : p3 &&& 1 = 0
    · rw [if_pos q, if_pos (by decide), if_pos rfl]
    · rw [if_neg q, if_neg (by decide), if_neg (by decide)]
  rw [hx156_0, if_pos e2, show f14 y147 = y147 from rfl, if_pos rfl]
  decide
theorem own_ef0 (m : MethodId) (q0 : Int64) (p1 : Int32) (q2 : Int64) (p3 : Int32) : entryFrame m #[(.long q0), (.int p1), (.long q2), (.int p3)] maxLocals = mkF m 0 #[.val (.long q0), .second, .val (.int p1), .val (.long q2), .second, .val (.int p3), .unset, .unset, .unset, .unset, .unset, .unset, .unset, .unset, .unset] [] := by first | (simp [entryFrame, mkF, argsToLocals, Value.category, maxLocals]; done) | rfl
abbrev kC0 : Nat := 6
abbrev kS0 : Nat := 90
def Q0 (Z : State) (q0 : Int64) (p1 : Int32) (q2 : Int64) (p3 : Int32) (wSL : Addr) (wWK : Addr) (wHE : Addr) (wCD : Addr) (wCS : Addr) (wCE : Addr) (wTR : Addr) (h0 : Heap) (n0 : Nat) (v : Option Value) (h : Heap) (L : List Loc) : Prop := v = some (.int 1) ∧ Fr n0 L
set_option maxRecDepth 65536 in
set_option maxHeartbeats 40000000 in
theorem rm0 (l : Launch) (Z : State) (tA : Array Value) (hw : ∀ d ∈ tables_1, d.before tA Z = true) (ws : List Jvm.Cond) (q0 : Int64) (p1 : Int32) (q2 : Int64) (p3 : Int32) (wSL : Addr) (wWK : Addr) (wHE : Addr) (wCD : Addr) (wCS : Addr) (wCE : Addr) (wTR : Addr) (h0 : Heap) (n0 : Nat) (Z0 : n0 ≤ h0.size) (S_wSL : Sta Z h0 "com/example/bounded_crawl/boundedcrawl/web/Framing$Part" "STATUS_LINE" "Lcom/example/bounded_crawl/boundedcrawl/web/Framing$Part;" (.ref wSL)) (S_wWK : Sta Z h0 "com/example/bounded_crawl/boundedcrawl/web/Framing$Part" "WALKED" "Lcom/example/bounded_crawl/boundedcrawl/web/Framing$Part;" (.ref wWK)) (S_wHE : Sta Z h0 "com/example/bounded_crawl/boundedcrawl/web/Framing$Part" "HELD" "Lcom/example/bounded_crawl/boundedcrawl/web/Framing$Part;" (.ref wHE)) (S_wCD : Sta Z h0 "com/example/bounded_crawl/boundedcrawl/web/Framing$Part" "CHUNK_DATA" "Lcom/example/bounded_crawl/boundedcrawl/web/Framing$Part;" (.ref wCD)) (S_wCS : Sta Z h0 "com/example/bounded_crawl/boundedcrawl/web/Framing$Part" "CHUNK_SIZE" "Lcom/example/bounded_crawl/boundedcrawl/web/Framing$Part;" (.ref wCS)) (S_wCE : Sta Z h0 "com/example/bounded_crawl/boundedcrawl/web/Framing$Part" "CHUNK_END" "Lcom/example/bounded_crawl/boundedcrawl/web/Framing$Part;" (.ref wCE)) (S_wTR : Sta Z h0 "com/example/bounded_crawl/boundedcrawl/web/Framing$Part" "TRAILER" "Lcom/example/bounded_crawl/boundedcrawl/web/Framing$Part;" (.ref wTR)) (ne_wSL_wWK : wSL ≠ wWK) (ne_wSL_wHE : wSL ≠ wHE) (ne_wSL_wCD : wSL ≠ wCD) (ne_wSL_wCS : wSL ≠ wCS) (ne_wSL_wCE : wSL ≠ wCE) (ne_wSL_wTR : wSL ≠ wTR) :
    MetFree l x (head1 (Jvm.Cond.code x code maxLocals ret :: ws) room_1) (fun a U => a = #[(.long q0), (.int p1), (.long q2), (.int p3)] ∧ Z.Warmed39 U.vm ∧ U.heap = h0) (fun _ _ _ _ _ => True) (fun _ U o U' => ∃ v L, o = .returned v ∧ Q0 Z q0 p1 q2 p3 wSL wWK wHE wCD wCS wCE wTR h0 n0 v U'.heap L ∧ FrameEnd U o U' L kC0 kS0) := by
  refine MetFree.of_bodySF (plainFor_of_name own_pn0) hisR ?_
  intro p e s m args below meth c s₁ Bd hml0 hP hK
  obtain ⟨rfl, hZ, hh⟩ := hP
  have hx := Bd.exec
  have hby := Bd.bytes
  have hml : c.maxLocals = 15 := hml0
  have hown : s.vm.findClass "com/example/bounded_crawl/boundedcrawl/web/FramingEndPinLaw" = some m.cls := findClass_of_methodNamed Bd.named
  have hnm := (name_of_methodNamed Bd.named Bd.method).1
  have X0 : Stand p l e room_1 s m #[(.long q0), (.int p1), (.long q2), (.int p3)] below meth c s₁ [] 0 0 := Stand.of_body Bd
  have e0 : s₁.heap = h0 := by rw [← hh, Bd.state]; rfl
  have N0 := Fr.nil n0
  show Goes p e below s (Q0 Z q0 p1 q2 p3 wSL wWK wHE wCD wCS wCE wTR h0 n0) kC0 kS0 (s₁.setTop (entryFrame m #[(.long q0), (.int p1), (.long q2), (.int p3)] maxLocals))
  refine Goes.step (fun t k => castTop (own_ef0 m q0 p1 q2 p3) k) ?_
  show Goes _ _ _ _ _ _ _ (s₁.setTop (mkF m 0 #[.val (.long q0), .second, .val (.int p1), .val (.long q2), .second, .val (.int p3), .unset, .unset, .unset, .unset, .unset, .unset, .unset, .unset, .unset] []))
  refine Goes.step (fun t k => XS.bipush X0.here hx rfl (hb hby at_0) k) ?_
  show Goes _ _ _ _ _ _ _ (s₁.setTop (mkF m 2 #[.val (.long q0), .second, .val (.int p1), .val (.long q2), .second, .val (.int p3), .unset, .unset, .unset, .unset, .unset, .unset, .unset, .unset, .unset] [(.int (8 : Int32))]))
  obtain ⟨T1, h1, k1, X1, e1, E1, A1, st1⟩ := newP X0 hx hZ (hw _ (List.mem_of_getElem? (i := 0) rfl)) e0 (g := (mkF m 2 #[.val (.long q0), .second, .val (.int p1), .val (.long q2), .second, .val (.int p3), .unset, .unset, .unset, .unset, .unset, .unset, .unset, .unset, .unset] [(.int (8 : Int32))])) rfl (hb hby at_2) rfl (by decide) (cap := 8) (by decide) (by decide) (by decide) (by decide)
  obtain ⟨b1, g1⟩ : ∃ z, z = h0.size := ⟨_, rfl⟩
  rw [← g1] at A1 st1
  have Zs1 : n0 ≤ b1 := Nat.le_trans Z0 (Nat.le_of_eq g1.symm)
  have Zh1 : h0.size ≤ b1 := Nat.le_trans (Keep.refl h0 []).1 (Nat.le_of_eq g1.symm)
  have F2 := S_wSL.ext E1
  have F3 := S_wWK.ext E1
  have F4 := S_wHE.ext E1
  have F5 := S_wCD.ext E1
  have F6 := S_wCS.ext E1
  have F7 := S_wCE.ext E1
  have F8 := S_wTR.ext E1
  have K1 := (Keep.refl h0 []).ext E1
  have Z1 := Nat.le_trans Z0 E1.1
  have V1 : Ara Z h1 b1 .byte [(.int (0 : Int32)), (.int (0 : Int32)), (.int (0 : Int32)), (.int (0 : Int32)), (.int (0 : Int32)), (.int (0 : Int32)), (.int (0 : Int32)), (.int (0 : Int32))] := Ara.new A1 (by decide) rfl (fun _ q => nomatch q)
  refine Goes.step (fun t k => st1 t k) ?_
  show Goes _ _ _ _ _ _ _ (T1.setTop (mkF m 4 #[.val (.long q0), .second, .val (.int p1), .val (.long q2), .second, .val (.int p3), .unset, .unset, .unset, .unset, .unset, .unset, .unset, .unset, .unset] [(.ref b1)]))
  refine Goes.step (fun t k => XS.astore X1.here hx rfl (hb hby at_4) rfl rfl (l' := #[.val (.long q0), .second, .val (.int p1), .val (.long q2), .second, .val (.int p3), .val (.ref b1), .unset, .unset, .unset, .unset, .unset, .unset, .unset, .unset]) rfl k) ?_
  show Goes _ _ _ _ _ _ _ (T1.setTop (mkF m 6 #[.val (.long q0), .second, .val (.int p1), .val (.long q2), .second, .val (.int p3), .val (.ref b1), .unset, .unset, .unset, .unset, .unset, .unset, .unset, .unset] []))
  refine Goes.step (fun t k => XS.aload X1.here hx rfl (hb hby at_6) rfl rfl k) ?_
  show Goes _ _ _ _ _ _ _ (T1.setTop (mkF m 8 #[.val (.long q0), .second, .val (.int p1), .val (.long q2), .second, .val (.int p3), .val (.ref b1), .unset, .unset, .unset, .unset, .unset, .unset, .unset, .unset] [(.ref b1)]))
  refine Goes.step (fun t k => XS.iconst X1.here hx rfl (hb hby at_8) k) ?_
  show Goes _ _ _ _ _ _ _ (T1.setTop (mkF m 9 #[.val (.long q0), .second, .val (.int p1), .val (.long q2), .second, .val (.int p3), .val (.ref b1), .unset, .unset, .unset, .unset, .unset, .unset, .unset, .unset] [(.int (0 : Int32)), (.ref b1)]))
  refine Goes.step (fun t k => XS.lloadN X1.here hx rfl (hb hby at_9) rfl k) ?_
  show Goes _ _ _ _ _ _ _ (T1.setTop (mkF m 10 #[.val (.long q0), .second, .val (.int p1), .val (.long q2), .second, .val (.int p3), .val (.ref b1), .unset, .unset, .unset, .unset, .unset, .unset, .unset, .unset] [(.long q0), (.int (0 : Int32)), (.ref b1)]))
  refine Goes.step (fun t k => XS.iconst X1.here hx rfl (hb hby at_10) k) ?_
  show Goes _ _ _ _ _ _ _ (T1.setTop (mkF m 11 #[.val (.long q0), .second, .val (.int p1), .val (.long q2), .second, .val (.int p3), .val (.ref b1), .unset, .unset, .unset, .unset, .unset, .unset, .unset, .unset] [(.int (0 : Int32)), (.long q0), (.int (0 : Int32)), (.ref b1)]))
  obtain ⟨_, _, ⟨T9, L9, k9, n9⟩, -, X9, ⟨Lc9, hQ9, l9, y9, z9⟩, st9⟩ := Jvm.LawKit.callS X1 hx (y := (⟨"com/example/bounded_crawl/boundedcrawl/web/FramingEndPinLaw", "pick", "(JI)B"⟩ : MethodName)) hown (mvT hZ (hw _ (List.mem_of_getElem? (i := 1) rfl))) (mvT hZ (hw _ (List.mem_of_getElem? (i := 2) rfl))) (mvT hZ (hw _ (List.mem_of_getElem? (i := 3) rfl))) (mvT hZ (hw _ (List.mem_of_getElem? (i := 4) rfl))) (by decide) (backOf (W := 2) (rm1 l Z tA hw [] q0 (0 : Int32) h1) hZ (hw _ (List.mem_of_getElem? (i := 4) rfl)) (hw _ (List.mem_of_getElem? (i := 3) rfl)) (by decide) (by decide)) (g := (mkF m 11 #[.val (.long q0), .second, .val (.int p1), .val (.long q2), .second, .val (.int p3), .val (.ref b1), .unset, .unset, .unset, .unset, .unset, .unset, .unset, .unset] [(.int (0 : Int32)), (.long q0), (.int (0 : Int32)), (.ref b1)])) rfl (by rw [hml]; rfl) (argsL := [(.long q0), (.int (0 : Int32))]) (rest := [(.int (0 : Int32)), (.ref b1)]) (lenOf own_pd4 rfl) rfl (by show 2 * 0 + _ ≤ _; exact Nat.le_of_eq rfl) (hb hby at_11) (fun _ _ => ⟨rfl, e1, (by decide : 1 + 0 ≤ _), (by decide : 8 + 0 ≤ _)⟩)
  dsimp only [Pt.U, Pt.locs, Pt.cells, Pt.slots] at X9 l9 y9 z9 st9 hQ9
  rw [l9, y9, z9] at X9
  obtain ⟨rfl, rfl, e9⟩ := hQ9
  try rw [List.append_nil] at X9
  change Stand _ _ _ _ _ _ _ _ _ _ _ _ 1 8 at X9
  refine Goes.step (fun t k => st9 t k) ?_
  show Goes _ _ _ _ _ _ _ (T9.setTop (mkF m 14 #[.val (.long q0), .second, .val (.int p1), .val (.long q2), .second, .val (.int p3), .val (.ref b1), .unset, .unset, .unset, .unset, .unset, .unset, .unset, .unset] [(.int (f1 q0 (0 : Int32))), (.int (0 : Int32)), (.ref b1)]))
  obtain ⟨cl10, Ar10, q10, ll10, ff10, oo10⟩ := id V1
  have hn10 : ¬ (0 : Int32) < 0 := by decide
  have hl10 : ((0 : Int32)).toNatClampNeg < ([(.int (0 : Int32)), (.int (0 : Int32)), (.int (0 : Int32)), (.int (0 : Int32)), (.int (0 : Int32)), (.int (0 : Int32)), (.int (0 : Int32)), (.int (0 : Int32))] : List Value).length := by exact Nat.le_of_ble_eq_true rfl
  obtain ⟨T10, h10, X10, e10, W10, st10⟩ := stB X9 hx hZ e9 Ar10 (j := (0 : Int32)) (inb q10 hn10 hl10) (g := (mkF m 14 #[.val (.long q0), .second, .val (.int p1), .val (.long q2), .second, .val (.int p3), .val (.ref b1), .unset, .unset, .unset, .unset, .unset, .unset, .unset, .unset] [(.int (f1 q0 (0 : Int32))), (.int (0 : Int32)), (.ref b1)])) rfl rfl (hb hby at_14)
  have V10 : Ara Z h10 b1 .byte [(.int ((f1 q0 (0 : Int32)).toInt8.toInt32)), (.int (0 : Int32)), (.int (0 : Int32)), (.int (0 : Int32)), (.int (0 : Int32)), (.int (0 : Int32)), (.int (0 : Int32)), (.int (0 : Int32))] := Ara.same (j := (0 : Int32)) Ar10 q10 ll10 ff10 oo10 (fits_nar_byte _) W10
  have F11 := F2.wr W10
  have F12 := F3.wr W10
  have F13 := F4.wr W10
  have F14 := F5.wr W10
  have F15 := F6.wr W10
  have F16 := F7.wr W10
  have F17 := F8.wr W10
  have K10 := K1.wr W10 (Or.inr Zh1)
  have N10 := Fr.snoc X10 N0 Zs1
  have Z10 := Nat.le_trans Z1 (Nat.le_of_eq W10.size.symm)
  refine Goes.step (fun t k => st10 t k) ?_
  show Goes _ _ _ _ _ _ _ (T10.setTop (mkF m 15 #[.val (.long q0), .second, .val (.int p1), .val (.long q2), .second, .val (.int p3), .val (.ref b1), .unset, .unset, .unset, .unset, .unset, .unset, .unset, .unset] []))
  refine Goes.step (fun t k => XS.aload X10.here hx rfl (hb hby at_15) rfl rfl k) ?_
  show Goes _ _ _ _ _ _ _ (T10.setTop (mkF m 17 #[.val (.long q0), .second, .val (.int p1), .val (.long q2), .second, .val (.int p3), .val (.ref b1), .unset, .unset, .unset, .unset, .unset, .unset, .unset, .unset] [(.ref b1)]))
  refine Goes.step (fun t k => XS.iconst X10.here hx rfl (hb hby at_17) k) ?_
  show Goes _ _ _ _ _ _ _ (T10.setTop (mkF m 18 #[.val (.long q0), .second, .val (.int p1), .val (.long q2), .second, .val (.int p3), .val (.ref b1), .unset, .unset, .unset, .unset, .unset, .unset, .unset, .unset] [(.int (1 : Int32)), (.ref b1)]))
  refine Goes.step (fun t k => XS.lloadN X10.here hx rfl (hb hby at_18) rfl k) ?_
  show Goes _ _ _ _ _ _ _ (T10.setTop (mkF m 19 #[.val (.long q0), .second, .val (.int p1), .val (.long q2), .second, .val (.int p3), .val (.ref b1), .unset, .unset, .unset, .unset, .unset, .unset, .unset, .unset] [(.long q0), (.int (1 : Int32)), (.ref b1)]))
  refine Goes.step (fun t k => XS.bipush X10.here hx rfl (hb hby at_19) k) ?_
  show Goes _ _ _ _ _ _ _ (T10.setTop (mkF m 21 #[.val (.long q0), .second, .val (.int p1), .val (.long q2), .second, .val (.int p3), .val (.ref b1), .unset, .unset, .unset, .unset, .unset, .unset, .unset, .unset] [(.int (8 : Int32)), (.long q0), (.int (1 : Int32)), (.ref b1)]))
  obtain ⟨_, _, ⟨T18, L18, k18, n18⟩, -, X18, ⟨Lc18, hQ18, l18, y18, z18⟩, st18⟩ := Jvm.LawKit.callS X10 hx (y := (⟨"com/example/bounded_crawl/boundedcrawl/web/FramingEndPinLaw", "pick", "(JI)B"⟩ : MethodName)) hown (mvT hZ (hw _ (List.mem_of_getElem? (i := 1) rfl))) (mvT hZ (hw _ (List.mem_of_getElem? (i := 2) rfl))) (mvT hZ (hw _ (List.mem_of_getElem? (i := 3) rfl))) (mvT hZ (hw _ (List.mem_of_getElem? (i := 4) rfl))) (by decide) (backOf (W := 2) (rm1 l Z tA hw [] q0 (8 : Int32) h10) hZ (hw _ (List.mem_of_getElem? (i := 4) rfl)) (hw _ (List.mem_of_getElem? (i := 3) rfl)) (by decide) (by decide)) (g := (mkF m 21 #[.val (.long q0), .second, .val (.int p1), .val (.long q2), .second, .val (.int p3), .val (.ref b1), .unset, .unset, .unset, .unset, .unset, .unset, .unset, .unset] [(.int (8 : Int32)), (.long q0), (.int (1 : Int32)), (.ref b1)])) rfl (by rw [hml]; rfl) (argsL := [(.long q0), (.int (8 : Int32))]) (rest := [(.int (1 : Int32)), (.ref b1)]) (lenOf own_pd4 rfl) rfl (by show 2 * 0 + _ ≤ _; exact Nat.le_of_eq rfl) (hb hby at_21) (fun _ _ => ⟨rfl, e10, (by decide : 1 + 0 ≤ _), (by decide : 8 + 0 ≤ _)⟩)
  dsimp only [Pt.U, Pt.locs, Pt.cells, Pt.slots] at X18 l18 y18 z18 st18 hQ18
  rw [l18, y18, z18] at X18
  obtain ⟨rfl, rfl, e18⟩ := hQ18
  try rw [List.append_nil] at X18
  change Stand _ _ _ _ _ _ _ _ _ _ _ _ 1 8 at X18
  refine Goes.step (fun t k => st18 t k) ?_
  show Goes _ _ _ _ _ _ _ (T18.setTop (mkF m 24 #[.val (.long q0), .second, .val (.int p1), .val (.long q2), .second, .val (.int p3), .val (.ref b1), .unset, .unset, .unset, .unset, .unset, .unset, .unset, .unset] [(.int (f1 q0 (8 : Int32))), (.int (1 : Int32)), (.ref b1)]))
  obtain ⟨cl19, Ar19, q19, ll19, ff19, oo19⟩ := id V10
  have hn19 : ¬ (1 : Int32) < 0 := by decide
  have hl19 : ((1 : Int32)).toNatClampNeg < ([(.int ((f1 q0 (0 : Int32)).toInt8.toInt32)), (.int (0 : Int32)), (.int (0 : Int32)), (.int (0 : Int32)), (.int (0 : Int32)), (.int (0 : Int32)), (.int (0 : Int32)), (.int (0 : Int32))] : List Value).length := by exact Nat.le_of_ble_eq_true rfl
  obtain ⟨T19, h19, X19, e19, W19, st19⟩ := stB X18 hx hZ e18 Ar19 (j := (1 : Int32)) (inb q19 hn19 hl19) (g := (mkF m 24 #[.val (.long q0), .second, .val (.int p1), .val (.long q2), .second, .val (.int p3), .val (.ref b1), .unset, .unset, .unset, .unset, .unset, .unset, .unset, .unset] [(.int (f1 q0 (8 : Int32))), (.int (1 : Int32)), (.ref b1)])) rfl rfl (hb hby at_24)
  have V19 : Ara Z h19 b1 .byte [(.int ((f1 q0 (0 : Int32)).toInt8.toInt32)), (.int ((f1 q0 (8 : Int32)).toInt8.toInt32)), (.int (0 : Int32)), (.int (0 : Int32)), (.int (0 : Int32)), (.int (0 : Int32)), (.int (0 : Int32)), (.int (0 : Int32))] := Ara.same (j := (1 : Int32)) Ar19 q19 ll19 ff19 oo19 (fits_nar_byte _) W19
  have F20 := F11.wr W19
  have F21 := F12.wr W19
  have F22 := F13.wr W19
  have F23 := F14.wr W19
  have F24 := F15.wr W19
  have F25 := F16.wr W19
  have F26 := F17.wr W19
  have K19 := K10.wr W19 (Or.inr Zh1)
  have N19 := Fr.snoc X19 N10 Zs1
  have Z19 := Nat.le_trans Z10 (Nat.le_of_eq W19.size.symm)
  refine Goes.step (fun t k => st19 t k) ?_
  show Goes _ _ _ _ _ _ _ (T19.setTop (mkF m 25 #[.val (.long q0), .second, .val (.int p1), .val (.long q2), .second, .val (.int p3), .val (.ref b1), .unset, .unset, .unset, .unset, .unset, .unset, .unset, .unset] []))
  refine Goes.step (fun t k => XS.aload X19.here hx rfl (hb hby at_25) rfl rfl k) ?_
  show Goes _ _ _ _ _ _ _ (T19.setTop (mkF m 27 #[.val (.long q0), .second, .val (.int p1), .val (.long q2), .second, .val (.int p3), .val (.ref b1), .unset, .unset, .unset, .unset, .unset, .unset, .unset, .unset] [(.ref b1)]))
  refine Goes.step (fun t k => XS.iconst X19.here hx rfl (hb hby at_27) k) ?_
  show Goes _ _ _ _ _ _ _ (T19.setTop (mkF m 28 #[.val (.long q0), .second, .val (.int p1), .val (.long q2), .second, .val (.int p3), .val (.ref b1), .unset, .unset, .unset, .unset, .unset, .unset, .unset, .unset] [(.int (2 : Int32)), (.ref b1)]))
  refine Goes.step (fun t k => XS.lloadN X19.here hx rfl (hb hby at_28) rfl k) ?_
  show Goes _ _ _ _ _ _ _ (T19.setTop (mkF m 29 #[.val (.long q0), .second, .val (.int p1), .val (.long q2), .second, .val (.int p3), .val (.ref b1), .unset, .unset, .unset, .unset, .unset, .unset, .unset, .unset] [(.long q0), (.int (2 : Int32)), (.ref b1)]))
  refine Goes.step (fun t k => XS.bipush X19.here hx rfl (hb hby at_29) k) ?_
  show Goes _ _ _ _ _ _ _ (T19.setTop (mkF m 31 #[.val (.long q0), .second, .val (.int p1), .val (.long q2), .second, .val (.int p3), .val (.ref b1), .unset, .unset, .unset, .unset, .unset, .unset, .unset, .unset] [(.int (16 : Int32)), (.long q0), (.int (2 : Int32)), (.ref b1)]))
  obtain ⟨_, _, ⟨T27, L27, k27, n27⟩, -, X27, ⟨Lc27, hQ27, l27, y27, z27⟩, st27⟩ := Jvm.LawKit.callS X19 hx (y := (⟨"com/example/bounded_crawl/boundedcrawl/web/FramingEndPinLaw", "pick", "(JI)B"⟩ : MethodName)) hown (mvT hZ (hw _ (List.mem_of_getElem? (i := 1) rfl))) (mvT hZ (hw _ (List.mem_of_getElem? (i := 2) rfl))) (mvT hZ (hw _ (List.mem_of_getElem? (i := 3) rfl))) (mvT hZ (hw _ (List.mem_of_getElem? (i := 4) rfl))) (by decide) (backOf (W := 2) (rm1 l Z tA hw [] q0 (16 : Int32) h19) hZ (hw _ (List.mem_of_getElem? (i := 4) rfl)) (hw _ (List.mem_of_getElem? (i := 3) rfl)) (by decide) (by decide)) (g := (mkF m 31 #[.val (.long q0), .second, .val (.int p1), .val (.long q2), .second, .val (.int p3), .val (.ref b1), .unset, .unset, .unset, .unset, .unset, .unset, .unset, .unset] [(.int (16 : Int32)), (.long q0), (.int (2 : Int32)), (.ref b1)])) rfl (by rw [hml]; rfl) (argsL := [(.long q0), (.int (16 : Int32))]) (rest := [(.int (2 : Int32)), (.ref b1)]) (lenOf own_pd4 rfl) rfl (by show 2 * 0 + _ ≤ _; exact Nat.le_of_eq rfl) (hb hby at_31) (fun _ _ => ⟨rfl, e19, (by decide : 1 + 0 ≤ _), (by decide : 8 + 0 ≤ _)⟩)
  dsimp only [Pt.U, Pt.locs, Pt.cells, Pt.slots] at X27 l27 y27 z27 st27 hQ27
  rw [l27, y27, z27] at X27
  obtain ⟨rfl, rfl, e27⟩ := hQ27
  try rw [List.append_nil] at X27
  change Stand _ _ _ _ _ _ _ _ _ _ _ _ 1 8 at X27
  refine Goes.step (fun t k => st27 t k) ?_
  show Goes _ _ _ _ _ _ _ (T27.setTop (mkF m 34 #[.val (.long q0), .second, .val (.int p1), .val (.long q2), .second, .val (.int p3), .val (.ref b1), .unset, .unset, .unset, .unset, .unset, .unset, .unset, .unset] [(.int (f1 q0 (16 : Int32))), (.int (2 : Int32)), (.ref b1)]))
  obtain ⟨cl28, Ar28, q28, ll28, ff28, oo28⟩ := id V19
  have hn28 : ¬ (2 : Int32) < 0 := by decide
  have hl28 : ((2 : Int32)).toNatClampNeg < ([(.int ((f1 q0 (0 : Int32)).toInt8.toInt32)), (.int ((f1 q0 (8 : Int32)).toInt8.toInt32)), (.int (0 : Int32)), (.int (0 : Int32)), (.int (0 : Int32)), (.int (0 : Int32)), (.int (0 : Int32)), (.int (0 : Int32))] : List Value).length := by exact Nat.le_of_ble_eq_true rfl
  obtain ⟨T28, h28, X28, e28, W28, st28⟩ := stB X27 hx hZ e27 Ar28 (j := (2 : Int32)) (inb q28 hn28 hl28) (g := (mkF m 34 #[.val (.long q0), .second, .val (.int p1), .val (.long q2), .second, .val (.int p3), .val (.ref b1), .unset, .unset, .unset, .unset, .unset, .unset, .unset, .unset] [(.int (f1 q0 (16 : Int32))), (.int (2 : Int32)), (.ref b1)])) rfl rfl (hb hby at_34)
  have V28 : Ara Z h28 b1 .byte [(.int ((f1 q0 (0 : Int32)).toInt8.toInt32)), (.int ((f1 q0 (8 : Int32)).toInt8.toInt32)), (.int ((f1 q0 (16 : Int32)).toInt8.toInt32)), (.int (0 : Int32)), (.int (0 : Int32)), (.int (0 : Int32)), (.int (0 : Int32)), (.int (0 : Int32))] := Ara.same (j := (2 : Int32)) Ar28 q28 ll28 ff28 oo28 (fits_nar_byte _) W28
  have F29 := F20.wr W28
  have F30 := F21.wr W28
  have F31 := F22.wr W28
  have F32 := F23.wr W28
  have F33 := F24.wr W28
  have F34 := F25.wr W28
  have F35 := F26.wr W28
  have K28 := K19.wr W28 (Or.inr Zh1)
  have N28 := Fr.snoc X28 N19 Zs1
  have Z28 := Nat.le_trans Z19 (Nat.le_of_eq W28.size.symm)
  refine Goes.step (fun t k => st28 t k) ?_
  show Goes _ _ _ _ _ _ _ (T28.setTop (mkF m 35 #[.val (.long q0), .second, .val (.int p1), .val (.long q2), .second, .val (.int p3), .val (.ref b1), .unset, .unset, .unset, .unset, .unset, .unset, .unset, .unset] []))
  refine Goes.step (fun t k => XS.aload X28.here hx rfl (hb hby at_35) rfl rfl k) ?_
  show Goes _ _ _ _ _ _ _ (T28.setTop (mkF m 37 #[.val (.long q0), .second, .val (.int p1), .val (.long q2), .second, .val (.int p3), .val (.ref b1), .unset, .unset, .unset, .unset, .unset, .unset, .unset, .unset] [(.ref b1)]))
  refine Goes.step (fun t k => XS.iconst X28.here hx rfl (hb hby at_37) k) ?_
  show Goes _ _ _ _ _ _ _ (T28.setTop (mkF m 38 #[.val (.long q0), .second, .val (.int p1), .val (.long q2), .second, .val (.int p3), .val (.ref b1), .unset, .unset, .unset, .unset, .unset, .unset, .unset, .unset] [(.int (3 : Int32)), (.ref b1)]))
  refine Goes.step (fun t k => XS.lloadN X28.here hx rfl (hb hby at_38) rfl k) ?_
  show Goes _ _ _ _ _ _ _ (T28.setTop (mkF m 39 #[.val (.long q0), .second, .val (.int p1), .val (.long q2), .second, .val (.int p3), .val (.ref b1), .unset, .unset, .unset, .unset, .unset, .unset, .unset, .unset] [(.long q0), (.int (3 : Int32)), (.ref b1)]))
  refine Goes.step (fun t k => XS.bipush X28.here hx rfl (hb hby at_39) k) ?_
  show Goes _ _ _ _ _ _ _ (T28.setTop (mkF m 41 #[.val (.long q0), .second, .val (.int p1), .val (.long q2), .second, .val (.int p3), .val (.ref b1), .unset, .unset, .unset, .unset, .unset, .unset, .unset, .unset] [(.int (24 : Int32)), (.long q0), (.int (3 : Int32)), (.ref b1)]))
  obtain ⟨_, _, ⟨T36, L36, k36, n36⟩, -, X36, ⟨Lc36, hQ36, l36, y36, z36⟩, st36⟩ := Jvm.LawKit.callS X28 hx (y := (⟨"com/example/bounded_crawl/boundedcrawl/web/FramingEndPinLaw", "pick", "(JI)B"⟩ : MethodName)) hown (mvT hZ (hw _ (List.mem_of_getElem? (i := 1) rfl))) (mvT hZ (hw _ (List.mem_of_getElem? (i := 2) rfl))) (mvT hZ (hw _ (List.mem_of_getElem? (i := 3) rfl))) (mvT hZ (hw _ (List.mem_of_getElem? (i := 4) rfl))) (by decide) (backOf (W := 2) (rm1 l Z tA hw [] q0 (24 : Int32) h28) hZ (hw _ (List.mem_of_getElem? (i := 4) rfl)) (hw _ (List.mem_of_getElem? (i := 3) rfl)) (by decide) (by decide)) (g := (mkF m 41 #[.val (.long q0), .second, .val (.int p1), .val (.long q2), .second, .val (.int p3), .val (.ref b1), .unset, .unset, .unset, .unset, .unset, .unset, .unset, .unset] [(.int (24 : Int32)), (.long q0), (.int (3 : Int32)), (.ref b1)])) rfl (by rw [hml]; rfl) (argsL := [(.long q0), (.int (24 : Int32))]) (rest := [(.int (3 : Int32)), (.ref b1)]) (lenOf own_pd4 rfl) rfl (by show 2 * 0 + _ ≤ _; exact Nat.le_of_eq rfl) (hb hby at_41) (fun _ _ => ⟨rfl, e28, (by decide : 1 + 0 ≤ _), (by decide : 8 + 0 ≤ _)⟩)
  dsimp only [Pt.U, Pt.locs, Pt.cells, Pt.slots] at X36 l36 y36 z36 st36 hQ36
  rw [l36, y36, z36] at X36
  obtain ⟨rfl, rfl, e36⟩ := hQ36
  try rw [List.append_nil] at X36
  change Stand _ _ _ _ _ _ _ _ _ _ _ _ 1 8 at X36
  refine Goes.step (fun t k => st36 t k) ?_
  show Goes _ _ _ _ _ _ _ (T36.setTop (mkF m 44 #[.val (.long q0), .second, .val (.int p1), .val (.long q2), .second, .val (.int p3), .val (.ref b1), .unset, .unset, .unset, .unset, .unset, .unset, .unset, .unset] [(.int (f1 q0 (24 : Int32))), (.int (3 : Int32)), (.ref b1)]))
  obtain ⟨cl37, Ar37, q37, ll37, ff37, oo37⟩ := id V28
  have hn37 : ¬ (3 : Int32) < 0 := by decide
  have hl37 : ((3 : Int32)).toNatClampNeg < ([(.int ((f1 q0 (0 : Int32)).toInt8.toInt32)), (.int ((f1 q0 (8 : Int32)).toInt8.toInt32)), (.int ((f1 q0 (16 : Int32)).toInt8.toInt32)), (.int (0 : Int32)), (.int (0 : Int32)), (.int (0 : Int32)), (.int (0 : Int32)), (.int (0 : Int32))] : List Value).length := by exact Nat.le_of_ble_eq_true rfl
  obtain ⟨T37, h37, X37, e37, W37, st37⟩ := stB X36 hx hZ e36 Ar37 (j := (3 : Int32)) (inb q37 hn37 hl37) (g := (mkF m 44 #[.val (.long q0), .second, .val (.int p1), .val (.long q2), .second, .val (.int p3), .val (.ref b1), .unset, .unset, .unset, .unset, .unset, .unset, .unset, .unset] [(.int (f1 q0 (24 : Int32))), (.int (3 : Int32)), (.ref b1)])) rfl rfl (hb hby at_44)
  have V37 : Ara Z h37 b1 .byte [(.int ((f1 q0 (0 : Int32)).toInt8.toInt32)), (.int ((f1 q0 (8 : Int32)).toInt8.toInt32)), (.int ((f1 q0 (16 : Int32)).toInt8.toInt32)), (.int ((f1 q0 (24 : Int32)).toInt8.toInt32)), (.int (0 : Int32)), (.int (0 : Int32)), (.int (0 : Int32)), (.int (0 : Int32))] := Ara.same (j := (3 : Int32)) Ar37 q37 ll37 ff37 oo37 (fits_nar_byte _) W37
  have F38 := F29.wr W37
  have F39 := F30.wr W37
  have F40 := F31.wr W37
  have F41 := F32.wr W37
  have F42 := F33.wr W37
  have F43 := F34.wr W37
  have F44 := F35.wr W37
  have K37 := K28.wr W37 (Or.inr Zh1)
  have N37 := Fr.snoc X37 N28 Zs1
  have Z37 := Nat.le_trans Z28 (Nat.le_of_eq W37.size.symm)
  refine Goes.step (fun t k => st37 t k) ?_
  show Goes _ _ _ _ _ _ _ (T37.setTop (mkF m 45 #[.val (.long q0), .second, .val (.int p1), .val (.long q2), .second, .val (.int p3), .val (.ref b1), .unset, .unset, .unset, .unset, .unset, .unset, .unset, .unset] []))
  refine Goes.step (fun t k => XS.aload X37.here hx rfl (hb hby at_45) rfl rfl k) ?_
  show Goes _ _ _ _ _ _ _ (T37.setTop (mkF m 47 #[.val (.long q0), .second, .val (.int p1), .val (.long q2), .second, .val (.int p3), .val (.ref b1), .unset, .unset, .unset, .unset, .unset, .unset, .unset, .unset] [(.ref b1)]))
  refine Goes.step (fun t k => XS.iconst X37.here hx rfl (hb hby at_47) k) ?_
  show Goes _ _ _ _ _ _ _ (T37.setTop (mkF m 48 #[.val (.long q0), .second, .val (.int p1), .val (.long q2), .second, .val (.int p3), .val (.ref b1), .unset, .unset, .unset, .unset, .unset, .unset, .unset, .unset] [(.int (4 : Int32)), (.ref b1)]))
  refine Goes.step (fun t k => XS.lloadN X37.here hx rfl (hb hby at_48) rfl k) ?_
  show Goes _ _ _ _ _ _ _ (T37.setTop (mkF m 49 #[.val (.long q0), .second, .val (.int p1), .val (.long q2), .second, .val (.int p3), .val (.ref b1), .unset, .unset, .unset, .unset, .unset, .unset, .unset, .unset] [(.long q0), (.int (4 : Int32)), (.ref b1)]))
  refine Goes.step (fun t k => XS.bipush X37.here hx rfl (hb hby at_49) k) ?_
  show Goes _ _ _ _ _ _ _ (T37.setTop (mkF m 51 #[.val (.long q0), .second, .val (.int p1), .val (.long q2), .second, .val (.int p3), .val (.ref b1), .unset, .unset, .unset, .unset, .unset, .unset, .unset, .unset] [(.int (32 : Int32)), (.long q0), (.int (4 : Int32)), (.ref b1)]))
  obtain ⟨_, _, ⟨T45, L45, k45, n45⟩, -, X45, ⟨Lc45, hQ45, l45, y45, z45⟩, st45⟩ := Jvm.LawKit.callS X37 hx (y := (⟨"com/example/bounded_crawl/boundedcrawl/web/FramingEndPinLaw", "pick", "(JI)B"⟩ : MethodName)) hown (mvT hZ (hw _ (List.mem_of_getElem? (i := 1) rfl))) (mvT hZ (hw _ (List.mem_of_getElem? (i := 2) rfl))) (mvT hZ (hw _ (List.mem_of_getElem? (i := 3) rfl))) (mvT hZ (hw _ (List.mem_of_getElem? (i := 4) rfl))) (by decide) (backOf (W := 2) (rm1 l Z tA hw [] q0 (32 : Int32) h37) hZ (hw _ (List.mem_of_getElem? (i := 4) rfl)) (hw _ (List.mem_of_getElem? (i := 3) rfl)) (by decide) (by decide)) (g := (mkF m 51 #[.val (.long q0), .second, .val (.int p1), .val (.long q2), .second, .val (.int p3), .val (.ref b1), .unset, .unset, .unset, .unset, .unset, .unset, .unset, .unset] [(.int (32 : Int32)), (.long q0), (.int (4 : Int32)), (.ref b1)])) rfl (by rw [hml]; rfl) (argsL := [(.long q0), (.int (32 : Int32))]) (rest := [(.int (4 : Int32)), (.ref b1)]) (lenOf own_pd4 rfl) rfl (by show 2 * 0 + _ ≤ _; exact Nat.le_of_eq rfl) (hb hby at_51) (fun _ _ => ⟨rfl, e37, (by decide : 1 + 0 ≤ _), (by decide : 8 + 0 ≤ _)⟩)
  dsimp only [Pt.U, Pt.locs, Pt.cells, Pt.slots] at X45 l45 y45 z45 st45 hQ45
  rw [l45, y45, z45] at X45
  obtain ⟨rfl, rfl, e45⟩ := hQ45
  try rw [List.append_nil] at X45
  change Stand _ _ _ _ _ _ _ _ _ _ _ _ 1 8 at X45
  refine Goes.step (fun t k => st45 t k) ?_
  show Goes _ _ _ _ _ _ _ (T45.setTop (mkF m 54 #[.val (.long q0), .second, .val (.int p1), .val (.long q2), .second, .val (.int p3), .val (.ref b1), .unset, .unset, .unset, .unset, .unset, .unset, .unset, .unset] [(.int (f1 q0 (32 : Int32))), (.int (4 : Int32)), (.ref b1)]))
  obtain ⟨cl46, Ar46, q46, ll46, ff46, oo46⟩ := id V37
  have hn46 : ¬ (4 : Int32) < 0 := by decide
  have hl46 : ((4 : Int32)).toNatClampNeg < ([(.int ((f1 q0 (0 : Int32)).toInt8.toInt32)), (.int ((f1 q0 (8 : Int32)).toInt8.toInt32)), (.int ((f1 q0 (16 : Int32)).toInt8.toInt32)), (.int ((f1 q0 (24 : Int32)).toInt8.toInt32)), (.int (0 : Int32)), (.int (0 : Int32)), (.int (0 : Int32)), (.int (0 : Int32))] : List Value).length := by exact Nat.le_of_ble_eq_true rfl
  obtain ⟨T46, h46, X46, e46, W46, st46⟩ := stB X45 hx hZ e45 Ar46 (j := (4 : Int32)) (inb q46 hn46 hl46) (g := (mkF m 54 #[.val (.long q0), .second, .val (.int p1), .val (.long q2), .second, .val (.int p3), .val (.ref b1), .unset, .unset, .unset, .unset, .unset, .unset, .unset, .unset] [(.int (f1 q0 (32 : Int32))), (.int (4 : Int32)), (.ref b1)])) rfl rfl (hb hby at_54)
  have V46 : Ara Z h46 b1 .byte [(.int ((f1 q0 (0 : Int32)).toInt8.toInt32)), (.int ((f1 q0 (8 : Int32)).toInt8.toInt32)), (.int ((f1 q0 (16 : Int32)).toInt8.toInt32)), (.int ((f1 q0 (24 : Int32)).toInt8.toInt32)), (.int ((f1 q0 (32 : Int32)).toInt8.toInt32)), (.int (0 : Int32)), (.int (0 : Int32)), (.int (0 : Int32))] := Ara.same (j := (4 : Int32)) Ar46 q46 ll46 ff46 oo46 (fits_nar_byte _) W46
  have F47 := F38.wr W46
  have F48 := F39.wr W46
  have F49 := F40.wr W46
  have F50 := F41.wr W46
  have F51 := F42.wr W46
  have F52 := F43.wr W46
  have F53 := F44.wr W46
  have K46 := K37.wr W46 (Or.inr Zh1)
  have N46 := Fr.snoc X46 N37 Zs1
  have Z46 := Nat.le_trans Z37 (Nat.le_of_eq W46.size.symm)
  refine Goes.step (fun t k => st46 t k) ?_
  show Goes _ _ _ _ _ _ _ (T46.setTop (mkF m 55 #[.val (.long q0), .second, .val (.int p1), .val (.long q2), .second, .val (.int p3), .val (.ref b1), .unset, .unset, .unset, .unset, .unset, .unset, .unset, .unset] []))
  refine Goes.step (fun t k => XS.aload X46.here hx rfl (hb hby at_55) rfl rfl k) ?_
  show Goes _ _ _ _ _ _ _ (T46.setTop (mkF m 57 #[.val (.long q0), .second, .val (.int p1), .val (.long q2), .second, .val (.int p3), .val (.ref b1), .unset, .unset, .unset, .unset, .unset, .unset, .unset, .unset] [(.ref b1)]))
  refine Goes.step (fun t k => XS.iconst X46.here hx rfl (hb hby at_57) k) ?_
  show Goes _ _ _ _ _ _ _ (T46.setTop (mkF m 58 #[.val (.long q0), .second, .val (.int p1), .val (.long q2), .second, .val (.int p3), .val (.ref b1), .unset, .unset, .unset, .unset, .unset, .unset, .unset, .unset] [(.int (5 : Int32)), (.ref b1)]))
  refine Goes.step (fun t k => XS.lloadN X46.here hx rfl (hb hby at_58) rfl k) ?_
  show Goes _ _ _ _ _ _ _ (T46.setTop (mkF m 59 #[.val (.long q0), .second, .val (.int p1), .val (.long q2), .second, .val (.int p3), .val (.ref b1), .unset, .unset, .unset, .unset, .unset, .unset, .unset, .unset] [(.long q0), (.int (5 : Int32)), (.ref b1)]))
  refine Goes.step (fun t k => XS.bipush X46.here hx rfl (hb hby at_59) k) ?_
  show Goes _ _ _ _ _ _ _ (T46.setTop (mkF m 61 #[.val (.long q0), .second, .val (.int p1), .val (.long q2), .second, .val (.int p3), .val (.ref b1), .unset, .unset, .unset, .unset, .unset, .unset, .unset, .unset] [(.int (40 : Int32)), (.long q0), (.int (5 : Int32)), (.ref b1)]))
  obtain ⟨_, _, ⟨T54, L54, k54, n54⟩, -, X54, ⟨Lc54, hQ54, l54, y54, z54⟩, st54⟩ := Jvm.LawKit.callS X46 hx (y := (⟨"com/example/bounded_crawl/boundedcrawl/web/FramingEndPinLaw", "pick", "(JI)B"⟩ : MethodName)) hown (mvT hZ (hw _ (List.mem_of_getElem? (i := 1) rfl))) (mvT hZ (hw _ (List.mem_of_getElem? (i := 2) rfl))) (mvT hZ (hw _ (List.mem_of_getElem? (i := 3) rfl))) (mvT hZ (hw _ (List.mem_of_getElem? (i := 4) rfl))) (by decide) (backOf (W := 2) (rm1 l Z tA hw [] q0 (40 : Int32) h46) hZ (hw _ (List.mem_of_getElem? (i := 4) rfl)) (hw _ (List.mem_of_getElem? (i := 3) rfl)) (by decide) (by decide)) (g := (mkF m 61 #[.val (.long q0), .second, .val (.int p1), .val (.long q2), .second, .val (.int p3), .val (.ref b1), .unset, .unset, .unset, .unset, .unset, .unset, .unset, .unset] [(.int (40 : Int32)), (.long q0), (.int (5 : Int32)), (.ref b1)])) rfl (by rw [hml]; rfl) (argsL := [(.long q0), (.int (40 : Int32))]) (rest := [(.int (5 : Int32)), (.ref b1)]) (lenOf own_pd4 rfl) rfl (by show 2 * 0 + _ ≤ _; exact Nat.le_of_eq rfl) (hb hby at_61) (fun _ _ => ⟨rfl, e46, (by decide : 1 + 0 ≤ _), (by decide : 8 + 0 ≤ _)⟩)
  dsimp only [Pt.U, Pt.locs, Pt.cells, Pt.slots] at X54 l54 y54 z54 st54 hQ54
  rw [l54, y54, z54] at X54
  obtain ⟨rfl, rfl, e54⟩ := hQ54
  try rw [List.append_nil] at X54
  change Stand _ _ _ _ _ _ _ _ _ _ _ _ 1 8 at X54
  refine Goes.step (fun t k => st54 t k) ?_
  show Goes _ _ _ _ _ _ _ (T54.setTop (mkF m 64 #[.val (.long q0), .second, .val (.int p1), .val (.long q2), .second, .val (.int p3), .val (.ref b1), .unset, .unset, .unset, .unset, .unset, .unset, .unset, .unset] [(.int (f1 q0 (40 : Int32))), (.int (5 : Int32)), (.ref b1)]))
  obtain ⟨cl55, Ar55, q55, ll55, ff55, oo55⟩ := id V46
  have hn55 : ¬ (5 : Int32) < 0 := by decide
  have hl55 : ((5 : Int32)).toNatClampNeg < ([(.int ((f1 q0 (0 : Int32)).toInt8.toInt32)), (.int ((f1 q0 (8 : Int32)).toInt8.toInt32)), (.int ((f1 q0 (16 : Int32)).toInt8.toInt32)), (.int ((f1 q0 (24 : Int32)).toInt8.toInt32)), (.int ((f1 q0 (32 : Int32)).toInt8.toInt32)), (.int (0 : Int32)), (.int (0 : Int32)), (.int (0 : Int32))] : List Value).length := by exact Nat.le_of_ble_eq_true rfl
  obtain ⟨T55, h55, X55, e55, W55, st55⟩ := stB X54 hx hZ e54 Ar55 (j := (5 : Int32)) (inb q55 hn55 hl55) (g := (mkF m 64 #[.val (.long q0), .second, .val (.int p1), .val (.long q2), .second, .val (.int p3), .val (.ref b1), .unset, .unset, .unset, .unset, .unset, .unset, .unset, .unset] [(.int (f1 q0 (40 : Int32))), (.int (5 : Int32)), (.ref b1)])) rfl rfl (hb hby at_64)
  have V55 : Ara Z h55 b1 .byte [(.int ((f1 q0 (0 : Int32)).toInt8.toInt32)), (.int ((f1 q0 (8 : Int32)).toInt8.toInt32)), (.int ((f1 q0 (16 : Int32)).toInt8.toInt32)), (.int ((f1 q0 (24 : Int32)).toInt8.toInt32)), (.int ((f1 q0 (32 : Int32)).toInt8.toInt32)), (.int ((f1 q0 (40 : Int32)).toInt8.toInt32)), (.int (0 : Int32)), (.int (0 : Int32))] := Ara.same (j := (5 : Int32)) Ar55 q55 ll55 ff55 oo55 (fits_nar_byte _) W55
  have F56 := F47.wr W55
  have F57 := F48.wr W55
  have F58 := F49.wr W55
  have F59 := F50.wr W55
  have F60 := F51.wr W55
  have F61 := F52.wr W55
  have F62 := F53.wr W55
  have K55 := K46.wr W55 (Or.inr Zh1)
  have N55 := Fr.snoc X55 N46 Zs1
  have Z55 := Nat.le_trans Z46 (Nat.le_of_eq W55.size.symm)
  refine Goes.step (fun t k => st55 t k) ?_
  show Goes _ _ _ _ _ _ _ (T55.setTop (mkF m 65 #[.val (.long q0), .second, .val (.int p1), .val (.long q2), .second, .val (.int p3), .val (.ref b1), .unset, .unset, .unset, .unset, .unset, .unset, .unset, .unset] []))
  refine Goes.step (fun t k => XS.aload X55.here hx rfl (hb hby at_65) rfl rfl k) ?_
  show Goes _ _ _ _ _ _ _ (T55.setTop (mkF m 67 #[.val (.long q0), .second, .val (.int p1), .val (.long q2), .second, .val (.int p3), .val (.ref b1), .unset, .unset, .unset, .unset, .unset, .unset, .unset, .unset] [(.ref b1)]))
  refine Goes.step (fun t k => XS.bipush X55.here hx rfl (hb hby at_67) k) ?_
  show Goes _ _ _ _ _ _ _ (T55.setTop (mkF m 69 #[.val (.long q0), .second, .val (.int p1), .val (.long q2), .second, .val (.int p3), .val (.ref b1), .unset, .unset, .unset, .unset, .unset, .unset, .unset, .unset] [(.int (6 : Int32)), (.ref b1)]))
  refine Goes.step (fun t k => XS.lloadN X55.here hx rfl (hb hby at_69) rfl k) ?_
  show Goes _ _ _ _ _ _ _ (T55.setTop (mkF m 70 #[.val (.long q0), .second, .val (.int p1), .val (.long q2), .second, .val (.int p3), .val (.ref b1), .unset, .unset, .unset, .unset, .unset, .unset, .unset, .unset] [(.long q0), (.int (6 : Int32)), (.ref b1)]))
  refine Goes.step (fun t k => XS.bipush X55.here hx rfl (hb hby at_70) k) ?_
  show Goes _ _ _ _ _ _ _ (T55.setTop (mkF m 72 #[.val (.long q0), .second, .val (.int p1), .val (.long q2), .second, .val (.int p3), .val (.ref b1), .unset, .unset, .unset, .unset, .unset, .unset, .unset, .unset] [(.int (48 : Int32)), (.long q0), (.int (6 : Int32)), (.ref b1)]))
  obtain ⟨_, _, ⟨T63, L63, k63, n63⟩, -, X63, ⟨Lc63, hQ63, l63, y63, z63⟩, st63⟩ := Jvm.LawKit.callS X55 hx (y := (⟨"com/example/bounded_crawl/boundedcrawl/web/FramingEndPinLaw", "pick", "(JI)B"⟩ : MethodName)) hown (mvT hZ (hw _ (List.mem_of_getElem? (i := 1) rfl))) (mvT hZ (hw _ (List.mem_of_getElem? (i := 2) rfl))) (mvT hZ (hw _ (List.mem_of_getElem? (i := 3) rfl))) (mvT hZ (hw _ (List.mem_of_getElem? (i := 4) rfl))) (by decide) (backOf (W := 2) (rm1 l Z tA hw [] q0 (48 : Int32) h55) hZ (hw _ (List.mem_of_getElem? (i := 4) rfl)) (hw _ (List.mem_of_getElem? (i := 3) rfl)) (by decide) (by decide)) (g := (mkF m 72 #[.val (.long q0), .second, .val (.int p1), .val (.long q2), .second, .val (.int p3), .val (.ref b1), .unset, .unset, .unset, .unset, .unset, .unset, .unset, .unset] [(.int (48 : Int32)), (.long q0), (.int (6 : Int32)), (.ref b1)])) rfl (by rw [hml]; rfl) (argsL := [(.long q0), (.int (48 : Int32))]) (rest := [(.int (6 : Int32)), (.ref b1)]) (lenOf own_pd4 rfl) rfl (by show 2 * 0 + _ ≤ _; exact Nat.le_of_eq rfl) (hb hby at_72) (fun _ _ => ⟨rfl, e55, (by decide : 1 + 0 ≤ _), (by decide : 8 + 0 ≤ _)⟩)
  dsimp only [Pt.U, Pt.locs, Pt.cells, Pt.slots] at X63 l63 y63 z63 st63 hQ63
  rw [l63, y63, z63] at X63
  obtain ⟨rfl, rfl, e63⟩ := hQ63
  try rw [List.append_nil] at X63
  change Stand _ _ _ _ _ _ _ _ _ _ _ _ 1 8 at X63
  refine Goes.step (fun t k => st63 t k) ?_
  show Goes _ _ _ _ _ _ _ (T63.setTop (mkF m 75 #[.val (.long q0), .second, .val (.int p1), .val (.long q2), .second, .val (.int p3), .val (.ref b1), .unset, .unset, .unset, .unset, .unset, .unset, .unset, .unset] [(.int (f1 q0 (48 : Int32))), (.int (6 : Int32)), (.ref b1)]))
  obtain ⟨cl64, Ar64, q64, ll64, ff64, oo64⟩ := id V55
  have hn64 : ¬ (6 : Int32) < 0 := by decide
  have hl64 : ((6 : Int32)).toNatClampNeg < ([(.int ((f1 q0 (0 : Int32)).toInt8.toInt32)), (.int ((f1 q0 (8 : Int32)).toInt8.toInt32)), (.int ((f1 q0 (16 : Int32)).toInt8.toInt32)), (.int ((f1 q0 (24 : Int32)).toInt8.toInt32)), (.int ((f1 q0 (32 : Int32)).toInt8.toInt32)), (.int ((f1 q0 (40 : Int32)).toInt8.toInt32)), (.int (0 : Int32)), (.int (0 : Int32))] : List Value).length := by exact Nat.le_of_ble_eq_true rfl
  obtain ⟨T64, h64, X64, e64, W64, st64⟩ := stB X63 hx hZ e63 Ar64 (j := (6 : Int32)) (inb q64 hn64 hl64) (g := (mkF m 75 #[.val (.long q0), .second, .val (.int p1), .val (.long q2), .second, .val (.int p3), .val (.ref b1), .unset, .unset, .unset, .unset, .unset, .unset, .unset, .unset] [(.int (f1 q0 (48 : Int32))), (.int (6 : Int32)), (.ref b1)])) rfl rfl (hb hby at_75)
  have V64 : Ara Z h64 b1 .byte [(.int ((f1 q0 (0 : Int32)).toInt8.toInt32)), (.int ((f1 q0 (8 : Int32)).toInt8.toInt32)), (.int ((f1 q0 (16 : Int32)).toInt8.toInt32)), (.int ((f1 q0 (24 : Int32)).toInt8.toInt32)), (.int ((f1 q0 (32 : Int32)).toInt8.toInt32)), (.int ((f1 q0 (40 : Int32)).toInt8.toInt32)), (.int ((f1 q0 (48 : Int32)).toInt8.toInt32)), (.int (0 : Int32))] := Ara.same (j := (6 : Int32)) Ar64 q64 ll64 ff64 oo64 (fits_nar_byte _) W64
  have F65 := F56.wr W64
  have F66 := F57.wr W64
  have F67 := F58.wr W64
  have F68 := F59.wr W64
  have F69 := F60.wr W64
  have F70 := F61.wr W64
  have F71 := F62.wr W64
  have K64 := K55.wr W64 (Or.inr Zh1)
  have N64 := Fr.snoc X64 N55 Zs1
  have Z64 := Nat.le_trans Z55 (Nat.le_of_eq W64.size.symm)
  refine Goes.step (fun t k => st64 t k) ?_
  show Goes _ _ _ _ _ _ _ (T64.setTop (mkF m 76 #[.val (.long q0), .second, .val (.int p1), .val (.long q2), .second, .val (.int p3), .val (.ref b1), .unset, .unset, .unset, .unset, .unset, .unset, .unset, .unset] []))
  refine Goes.step (fun t k => XS.aload X64.here hx rfl (hb hby at_76) rfl rfl k) ?_
  show Goes _ _ _ _ _ _ _ (T64.setTop (mkF m 78 #[.val (.long q0), .second, .val (.int p1), .val (.long q2), .second, .val (.int p3), .val (.ref b1), .unset, .unset, .unset, .unset, .unset, .unset, .unset, .unset] [(.ref b1)]))
  refine Goes.step (fun t k => XS.bipush X64.here hx rfl (hb hby at_78) k) ?_
  show Goes _ _ _ _ _ _ _ (T64.setTop (mkF m 80 #[.val (.long q0), .second, .val (.int p1), .val (.long q2), .second, .val (.int p3), .val (.ref b1), .unset, .unset, .unset, .unset, .unset, .unset, .unset, .unset] [(.int (7 : Int32)), (.ref b1)]))
  refine Goes.step (fun t k => XS.lloadN X64.here hx rfl (hb hby at_80) rfl k) ?_
  show Goes _ _ _ _ _ _ _ (T64.setTop (mkF m 81 #[.val (.long q0), .second, .val (.int p1), .val (.long q2), .second, .val (.int p3), .val (.ref b1), .unset, .unset, .unset, .unset, .unset, .unset, .unset, .unset] [(.long q0), (.int (7 : Int32)), (.ref b1)]))
  refine Goes.step (fun t k => XS.bipush X64.here hx rfl (hb hby at_81) k) ?_
  show Goes _ _ _ _ _ _ _ (T64.setTop (mkF m 83 #[.val (.long q0), .second, .val (.int p1), .val (.long q2), .second, .val (.int p3), .val (.ref b1), .unset, .unset, .unset, .unset, .unset, .unset, .unset, .unset] [(.int (56 : Int32)), (.long q0), (.int (7 : Int32)), (.ref b1)]))
  obtain ⟨_, _, ⟨T72, L72, k72, n72⟩, -, X72, ⟨Lc72, hQ72, l72, y72, z72⟩, st72⟩ := Jvm.LawKit.callS X64 hx (y := (⟨"com/example/bounded_crawl/boundedcrawl/web/FramingEndPinLaw", "pick", "(JI)B"⟩ : MethodName)) hown (mvT hZ (hw _ (List.mem_of_getElem? (i := 1) rfl))) (mvT hZ (hw _ (List.mem_of_getElem? (i := 2) rfl))) (mvT hZ (hw _ (List.mem_of_getElem? (i := 3) rfl))) (mvT hZ (hw _ (List.mem_of_getElem? (i := 4) rfl))) (by decide) (backOf (W := 2) (rm1 l Z tA hw [] q0 (56 : Int32) h64) hZ (hw _ (List.mem_of_getElem? (i := 4) rfl)) (hw _ (List.mem_of_getElem? (i := 3) rfl)) (by decide) (by decide)) (g := (mkF m 83 #[.val (.long q0), .second, .val (.int p1), .val (.long q2), .second, .val (.int p3), .val (.ref b1), .unset, .unset, .unset, .unset, .unset, .unset, .unset, .unset] [(.int (56 : Int32)), (.long q0), (.int (7 : Int32)), (.ref b1)])) rfl (by rw [hml]; rfl) (argsL := [(.long q0), (.int (56 : Int32))]) (rest := [(.int (7 : Int32)), (.ref b1)]) (lenOf own_pd4 rfl) rfl (by show 2 * 0 + _ ≤ _; exact Nat.le_of_eq rfl) (hb hby at_83) (fun _ _ => ⟨rfl, e64, (by decide : 1 + 0 ≤ _), (by decide : 8 + 0 ≤ _)⟩)
  dsimp only [Pt.U, Pt.locs, Pt.cells, Pt.slots] at X72 l72 y72 z72 st72 hQ72
  rw [l72, y72, z72] at X72
  obtain ⟨rfl, rfl, e72⟩ := hQ72
  try rw [List.append_nil] at X72
  change Stand _ _ _ _ _ _ _ _ _ _ _ _ 1 8 at X72
  refine Goes.step (fun t k => st72 t k) ?_
  show Goes _ _ _ _ _ _ _ (T72.setTop (mkF m 86 #[.val (.long q0), .second, .val (.int p1), .val (.long q2), .second, .val (.int p3), .val (.ref b1), .unset, .unset, .unset, .unset, .unset, .unset, .unset, .unset] [(.int (f1 q0 (56 : Int32))), (.int (7 : Int32)), (.ref b1)]))
  obtain ⟨cl73, Ar73, q73, ll73, ff73, oo73⟩ := id V64
  have hn73 : ¬ (7 : Int32) < 0 := by decide
  have hl73 : ((7 : Int32)).toNatClampNeg < ([(.int ((f1 q0 (0 : Int32)).toInt8.toInt32)), (.int ((f1 q0 (8 : Int32)).toInt8.toInt32)), (.int ((f1 q0 (16 : Int32)).toInt8.toInt32)), (.int ((f1 q0 (24 : Int32)).toInt8.toInt32)), (.int ((f1 q0 (32 : Int32)).toInt8.toInt32)), (.int ((f1 q0 (40 : Int32)).toInt8.toInt32)), (.int ((f1 q0 (48 : Int32)).toInt8.toInt32)), (.int (0 : Int32))] : List Value).length := by exact Nat.le_of_ble_eq_true rfl
  obtain ⟨T73, h73, X73, e73, W73, st73⟩ := stB X72 hx hZ e72 Ar73 (j := (7 : Int32)) (inb q73 hn73 hl73) (g := (mkF m 86 #[.val (.long q0), .second, .val (.int p1), .val (.long q2), .second, .val (.int p3), .val (.ref b1), .unset, .unset, .unset, .unset, .unset, .unset, .unset, .unset] [(.int (f1 q0 (56 : Int32))), (.int (7 : Int32)), (.ref b1)])) rfl rfl (hb hby at_86)
  have V73 : Ara Z h73 b1 .byte [(.int ((f1 q0 (0 : Int32)).toInt8.toInt32)), (.int ((f1 q0 (8 : Int32)).toInt8.toInt32)), (.int ((f1 q0 (16 : Int32)).toInt8.toInt32)), (.int ((f1 q0 (24 : Int32)).toInt8.toInt32)), (.int ((f1 q0 (32 : Int32)).toInt8.toInt32)), (.int ((f1 q0 (40 : Int32)).toInt8.toInt32)), (.int ((f1 q0 (48 : Int32)).toInt8.toInt32)), (.int ((f1 q0 (56 : Int32)).toInt8.toInt32))] := Ara.same (j := (7 : Int32)) Ar73 q73 ll73 ff73 oo73 (fits_nar_byte _) W73
  have F74 := F65.wr W73
  have F75 := F66.wr W73
  have F76 := F67.wr W73
  have F77 := F68.wr W73
  have F78 := F69.wr W73
  have F79 := F70.wr W73
  have F80 := F71.wr W73
  have K73 := K64.wr W73 (Or.inr Zh1)
  have N73 := Fr.snoc X73 N64 Zs1
  have Z73 := Nat.le_trans Z64 (Nat.le_of_eq W73.size.symm)
  refine Goes.step (fun t k => st73 t k) ?_
  show Goes _ _ _ _ _ _ _ (T73.setTop (mkF m 87 #[.val (.long q0), .second, .val (.int p1), .val (.long q2), .second, .val (.int p3), .val (.ref b1), .unset, .unset, .unset, .unset, .unset, .unset, .unset, .unset] []))
  refine Goes.step (fun t k => XS.iloadN X73.here hx rfl (hb hby at_87) rfl k) ?_
  show Goes _ _ _ _ _ _ _ (T73.setTop (mkF m 88 #[.val (.long q0), .second, .val (.int p1), .val (.long q2), .second, .val (.int p3), .val (.ref b1), .unset, .unset, .unset, .unset, .unset, .unset, .unset, .unset] [(.int p1)]))
  refine Goes.step (fun t k => XS.bipush X73.here hx rfl (hb hby at_88) k) ?_
  show Goes _ _ _ _ _ _ _ (T73.setTop (mkF m 90 #[.val (.long q0), .second, .val (.int p1), .val (.long q2), .second, .val (.int p3), .val (.ref b1), .unset, .unset, .unset, .unset, .unset, .unset, .unset, .unset] [(.int (7 : Int32)), (.int p1)]))
  refine Goes.step (fun t k => XS.iand X73.here hx rfl (hb hby at_90) rfl k) ?_
  show Goes _ _ _ _ _ _ _ (T73.setTop (mkF m 91 #[.val (.long q0), .second, .val (.int p1), .val (.long q2), .second, .val (.int p3), .val (.ref b1), .unset, .unset, .unset, .unset, .unset, .unset, .unset, .unset] [(.int (p1 &&& (7 : Int32)))]))
  refine Goes.step (fun t k => XS.istore X73.here hx rfl (hb hby at_91) rfl (l' := #[.val (.long q0), .second, .val (.int p1), .val (.long q2), .second, .val (.int p3), .val (.ref b1), .val (.int (p1 &&& (7 : Int32))), .unset, .unset, .unset, .unset, .unset, .unset, .unset]) rfl k) ?_
  show Goes _ _ _ _ _ _ _ (T73.setTop (mkF m 93 #[.val (.long q0), .second, .val (.int p1), .val (.long q2), .second, .val (.int p3), .val (.ref b1), .val (.int (p1 &&& (7 : Int32))), .unset, .unset, .unset, .unset, .unset, .unset, .unset] []))
  generalize hy81 : (p1 &&& (7 : Int32)) = y81
  refine Goes.step (fun t k => XS.iloadN X73.here hx rfl (hb hby at_93) rfl k) ?_
  show Goes _ _ _ _ _ _ _ (T73.setTop (mkF m 94 #[.val (.long q0), .second, .val (.int p1), .val (.long q2), .second, .val (.int p3), .val (.ref b1), .val (.int y81), .unset, .unset, .unset, .unset, .unset, .unset, .unset] [(.int p1)]))
  refine Goes.step (fun t k => XS.iconst X73.here hx rfl (hb hby at_94) k) ?_
  show Goes _ _ _ _ _ _ _ (T73.setTop (mkF m 95 #[.val (.long q0), .second, .val (.int p1), .val (.long q2), .second, .val (.int p3), .val (.ref b1), .val (.int y81), .unset, .unset, .unset, .unset, .unset, .unset, .unset] [(.int (3 : Int32)), (.int p1)]))
  refine Goes.step (fun t k => XS.iushr X73.here hx rfl (hb hby at_95) rfl k) ?_
  show Goes _ _ _ _ _ _ _ (T73.setTop (mkF m 96 #[.val (.long q0), .second, .val (.int p1), .val (.long q2), .second, .val (.int p3), .val (.ref b1), .val (.int y81), .unset, .unset, .unset, .unset, .unset, .unset, .unset] [(.int ((p1.toUInt32 >>> ((3 : Int32) &&& 31).toUInt32).toInt32))]))
  refine Goes.step (fun t k => XS.bipush X73.here hx rfl (hb hby at_96) k) ?_
  show Goes _ _ _ _ _ _ _ (T73.setTop (mkF m 98 #[.val (.long q0), .second, .val (.int p1), .val (.long q2), .second, .val (.int p3), .val (.ref b1), .val (.int y81), .unset, .unset, .unset, .unset, .unset, .unset, .unset] [(.int (7 : Int32)), (.int ((p1.toUInt32 >>> ((3 : Int32) &&& 31).toUInt32).toInt32))]))
  refine Goes.step (fun t k => XS.iand X73.here hx rfl (hb hby at_98) rfl k) ?_
  show Goes _ _ _ _ _ _ _ (T73.setTop (mkF m 99 #[.val (.long q0), .second, .val (.int p1), .val (.long q2), .second, .val (.int p3), .val (.ref b1), .val (.int y81), .unset, .unset, .unset, .unset, .unset, .unset, .unset] [(.int (((p1.toUInt32 >>> ((3 : Int32) &&& 31).toUInt32).toInt32) &&& (7 : Int32)))]))
  refine Goes.step (fun t k => XS.istore X73.here hx rfl (hb hby at_99) rfl (l' := #[.val (.long q0), .second, .val (.int p1), .val (.long q2), .second, .val (.int p3), .val (.ref b1), .val (.int y81), .val (.int (((p1.toUInt32 >>> ((3 : Int32) &&& 31).toUInt32).toInt32) &&& (7 : Int32))), .unset, .unset, .unset, .unset, .unset, .unset]) rfl k) ?_
  show Goes _ _ _ _ _ _ _ (T73.setTop (mkF m 101 #[.val (.long q0), .second, .val (.int p1), .val (.long q2), .second, .val (.int p3), .val (.ref b1), .val (.int y81), .val (.int (((p1.toUInt32 >>> ((3 : Int32) &&& 31).toUInt32).toInt32) &&& (7 : Int32))), .unset, .unset, .unset, .unset, .unset, .unset] []))
  generalize hy82 : (((p1.toUInt32 >>> ((3 : Int32) &&& 31).toUInt32).toInt32) &&& (7 : Int32)) = y82
  refine Goes.step (fun t k => XS.iload X73.here hx rfl (hb hby at_101) rfl k) ?_
  show Goes _ _ _ _ _ _ _ (T73.setTop (mkF m 103 #[.val (.long q0), .second, .val (.int p1), .val (.long q2), .second, .val (.int p3), .val (.ref b1), .val (.int y81), .val (.int y82), .unset, .unset, .unset, .unset, .unset, .unset] [(.int p3)]))
  refine Goes.step (fun t k => XS.iconst X73.here hx rfl (hb hby at_103) k) ?_
  show Goes _ _ _ _ _ _ _ (T73.setTop (mkF m 104 #[.val (.long q0), .second, .val (.int p1), .val (.long q2), .second, .val (.int p3), .val (.ref b1), .val (.int y81), .val (.int y82), .unset, .unset, .unset, .unset, .unset, .unset] [(.int (1 : Int32)), (.int p3)]))
  refine Goes.step (fun t k => XS.iand X73.here hx rfl (hb hby at_104) rfl k) ?_
  show Goes _ _ _ _ _ _ _ (T73.setTop (mkF m 105 #[.val (.long q0), .second, .val (.int p1), .val (.long q2), .second, .val (.int p3), .val (.ref b1), .val (.int y81), .val (.int y82), .unset, .unset, .unset, .unset, .unset, .unset] [(.int (p3 &&& (1 : Int32)))]))
  suffices k84 : ∀ (x84_0 : Int32), x84_0 = (if (p3 &&& (1 : Int32)) = (0 : Int32) then (0 : Int32) else (1 : Int32)) → Goes p e below s (Q0 Z q0 p1 q2 p3 wSL wWK wHE wCD wCS wCE wTR h0 n0) kC0 kS0 (T73.setTop (mkF m 113 #[.val (.long q0), .second, .val (.int p1), .val (.long q2), .second, .val (.int p3), .val (.ref b1), .val (.int y81), .val (.int y82), .unset, .unset, .unset, .unset, .unset, .unset] [(.int x84_0)])) by
    by_cases hc105_83 : (p3 &&& (1 : Int32)) = (0 : Int32)
    · refine Goes.step (fun t k => XS.ifYes X73.here hx rfl (pc0 := 105) (pc' := 112) rfl (hb hby at_105) rfl ((if0 _ _).trans (teq hc105_83).1) (by decide) (by decide) k) ?_
      show Goes _ _ _ _ _ _ _ (T73.setTop (mkF m 112 #[.val (.long q0), .second, .val (.int p1), .val (.long q2), .second, .val (.int p3), .val (.ref b1), .val (.int y81), .val (.int y82), .unset, .unset, .unset, .unset, .unset, .unset] []))
      refine Goes.step (fun t k => XS.iconst X73.here hx rfl (hb hby at_112) k) ?_
      show Goes _ _ _ _ _ _ _ (T73.setTop (mkF m 113 #[.val (.long q0), .second, .val (.int p1), .val (.long q2), .second, .val (.int p3), .val (.ref b1), .val (.int y81), .val (.int y82), .unset, .unset, .unset, .unset, .unset, .unset] [(.int (0 : Int32))]))
      exact k84 _ (if_pos hc105_83).symm
    · refine Goes.step (fun t k => XS.ifNo X73.here hx rfl (hb hby at_105) rfl ((if0 _ _).trans (feq hc105_83).1) k) ?_
      show Goes _ _ _ _ _ _ _ (T73.setTop (mkF m 108 #[.val (.long q0), .second, .val (.int p1), .val (.long q2), .second, .val (.int p3), .val (.ref b1), .val (.int y81), .val (.int y82), .unset, .unset, .unset, .unset, .unset, .unset] []))
      refine Goes.step (fun t k => XS.iconst X73.here hx rfl (hb hby at_108) k) ?_
      show Goes _ _ _ _ _ _ _ (T73.setTop (mkF m 109 #[.val (.long q0), .second, .val (.int p1), .val (.long q2), .second, .val (.int p3), .val (.ref b1), .val (.int y81), .val (.int y82), .unset, .unset, .unset, .unset, .unset, .unset] [(.int (1 : Int32))]))
      refine Goes.step (fun t k => XS.goto X73.here hx rfl (pc0 := 109) (pc' := 113) rfl (hb hby at_109) (by decide) (by decide) k) ?_
      show Goes _ _ _ _ _ _ _ (T73.setTop (mkF m 113 #[.val (.long q0), .second, .val (.int p1), .val (.long q2), .second, .val (.int p3), .val (.ref b1), .val (.int y81), .val (.int y82), .unset, .unset, .unset, .unset, .unset, .unset] [(.int (1 : Int32))]))
      exact k84 _ (if_neg hc105_83).symm
  intro x84_0 hx84_0
  refine Goes.step (fun t k => XS.istore X73.here hx rfl (hb hby at_113) rfl (l' := #[.val (.long q0), .second, .val (.int p1), .val (.long q2), .second, .val (.int p3), .val (.ref b1), .val (.int y81), .val (.int y82), .val (.int x84_0), .unset, .unset, .unset, .unset, .unset]) rfl k) ?_
  show Goes _ _ _ _ _ _ _ (T73.setTop (mkF m 115 #[.val (.long q0), .second, .val (.int p1), .val (.long q2), .second, .val (.int p3), .val (.ref b1), .val (.int y81), .val (.int y82), .val (.int x84_0), .unset, .unset, .unset, .unset, .unset] []))
  obtain ⟨T85, h85, X85, e85, E85, A85, D85, Mo85, st85⟩ := newO X73 hx hZ hown (hw _ (List.mem_of_getElem? (i := 5) rfl)) (hw _ (List.mem_of_getElem? (i := 6) rfl)) (hw _ (List.mem_of_getElem? (i := 7) rfl)) e73 (g := (mkF m 115 #[.val (.long q0), .second, .val (.int p1), .val (.long q2), .second, .val (.int p3), .val (.ref b1), .val (.int y81), .val (.int y82), .val (.int x84_0), .unset, .unset, .unset, .unset, .unset] [])) rfl (hb hby at_115) (by decide) (by decide)
  obtain ⟨b85, g85⟩ : ∃ z, z = h73.size := ⟨_, rfl⟩
  rw [← g85] at A85 D85 Mo85 st85
  have ne_b1_b85 : b1 ≠ b85 := Nat.ne_of_lt (Nat.lt_of_lt_of_le V73.lt (Nat.le_of_eq g85.symm))
  have Zs85 : n0 ≤ b85 := Nat.le_trans Z73 (Nat.le_of_eq g85.symm)
  have Zh85 : h0.size ≤ b85 := Nat.le_trans K73.1 (Nat.le_of_eq g85.symm)
  have F86 := F74.ext E85
  have F87 := F75.ext E85
  have F88 := F76.ext E85
  have F89 := F77.ext E85
  have F90 := F78.ext E85
  have F91 := F79.ext E85
  have F92 := F80.ext E85
  have F93 := V73.ext E85
  have K85 := K73.ext E85
  have Z85 := Nat.le_trans Z73 E85.1
  have F94 : Fld Z h85 b85 "com/example/bounded_crawl/boundedcrawl/web/Framing" "statusLine" "Ljava/io/ByteArrayOutputStream;" .null := D85 (Or.inr (hw _ (List.mem_of_getElem? (i := 34) rfl))) (ty := (.object "java/io/ByteArrayOutputStream")) (by decide)
  have F95 : Fld Z h85 b85 "com/example/bounded_crawl/boundedcrawl/web/Framing" "held" "Ljava/io/ByteArrayOutputStream;" .null := D85 (Or.inr (hw _ (List.mem_of_getElem? (i := 36) rfl))) (ty := (.object "java/io/ByteArrayOutputStream")) (by decide)
  have F96 : Fld Z h85 b85 "com/example/bounded_crawl/boundedcrawl/web/Framing" "part" "Lcom/example/bounded_crawl/boundedcrawl/web/Framing$Part;" .null := D85 (Or.inl (hw _ (List.mem_of_getElem? (i := 41) rfl))) (ty := (.object "com/example/bounded_crawl/boundedcrawl/web/Framing$Part")) (by decide)
  have F97 : Fld Z h85 b85 "com/example/bounded_crawl/boundedcrawl/web/Framing" "chunkDigits" "Z" (.int (0 : Int32)) := D85 (Or.inl (hw _ (List.mem_of_getElem? (i := 43) rfl))) (ty := .boolean) (by decide)
  have F98 : Fld Z h85 b85 "com/example/bounded_crawl/boundedcrawl/web/Framing" "size" "J" (.long (0 : Int64)) := D85 (Or.inl (hw _ (List.mem_of_getElem? (i := 50) rfl))) (ty := .long) (by decide)
  have F99 : Fld Z h85 b85 "com/example/bounded_crawl/boundedcrawl/web/Framing" "position" "J" (.long (0 : Int64)) := D85 (Or.inl (hw _ (List.mem_of_getElem? (i := 62) rfl))) (ty := .long) (by decide)
  have F100 : Fld Z h85 b85 "com/example/bounded_crawl/boundedcrawl/web/Framing" "chunkFraming" "J" (.long (0 : Int64)) := D85 (Or.inl (hw _ (List.mem_of_getElem? (i := 64) rfl))) (ty := .long) (by decide)
  have F101 : Fld Z h85 b85 "com/example/bounded_crawl/boundedcrawl/web/Framing" "lineLength" "I" (.int (0 : Int32)) := D85 (Or.inl (hw _ (List.mem_of_getElem? (i := 77) rfl))) (ty := .int) (by decide)
  have F102 : Fld Z h85 b85 "com/example/bounded_crawl/boundedcrawl/web/Framing" "lineFirst" "B" (.int (0 : Int32)) := D85 (Or.inl (hw _ (List.mem_of_getElem? (i := 79) rfl))) (ty := .byte) (by decide)
  have F103 : Fld Z h85 b85 "com/example/bounded_crawl/boundedcrawl/web/Framing" "chunked" "Z" (.int (0 : Int32)) := D85 (Or.inl (hw _ (List.mem_of_getElem? (i := 98) rfl))) (ty := .boolean) (by decide)
  have F104 : Fld Z h85 b85 "com/example/bounded_crawl/boundedcrawl/web/Framing" "chunkLeft" "J" (.long (0 : Int64)) := D85 (Or.inl (hw _ (List.mem_of_getElem? (i := 110) rfl))) (ty := .long) (by decide)
  have F105 : Fld Z h85 b85 "com/example/bounded_crawl/boundedcrawl/web/Framing" "chunkSize" "J" (.long (0 : Int64)) := D85 (Or.inl (hw _ (List.mem_of_getElem? (i := 113) rfl))) (ty := .long) (by decide)
  refine Goes.step (fun t k => st85 t k) ?_
  show Goes _ _ _ _ _ _ _ (T85.setTop (mkF m 118 #[.val (.long q0), .second, .val (.int p1), .val (.long q2), .second, .val (.int p3), .val (.ref b1), .val (.int y81), .val (.int y82), .val (.int x84_0), .unset, .unset, .unset, .unset, .unset] [(.ref b85)]))
  refine Goes.step (fun t k => XS.dup X85.here hx rfl (hb hby at_118) rfl rfl k) ?_
  show Goes _ _ _ _ _ _ _ (T85.setTop (mkF m 119 #[.val (.long q0), .second, .val (.int p1), .val (.long q2), .second, .val (.int p3), .val (.ref b1), .val (.int y81), .val (.int y82), .val (.int x84_0), .unset, .unset, .unset, .unset, .unset] [(.ref b85), (.ref b85)]))
  obtain ⟨_, _, ⟨T106, L106, k106, n106⟩, -, X106, ⟨Lc106, hQ106, l106, y106, z106⟩, st106⟩ := X85.specialBack hx (y := (⟨"com/example/bounded_crawl/boundedcrawl/web/Framing", "<init>", "()V"⟩ : MethodName)) rfl hown (mvT hZ (hw _ (List.mem_of_getElem? (i := 8) rfl))) (mvT hZ (hw _ (List.mem_of_getElem? (i := 9) rfl))) (mvT hZ (hw _ (List.mem_of_getElem? (i := 10) rfl))) (by decide) (backOf (W := 1) (rm2 l Z tA hw [] b85 wSL h85 n0 Z85 A85 F94 F95 F96 F97 F98 F99 F100 F101 F102 F103 F86 Zs85) hZ (hw _ (List.mem_of_getElem? (i := 10) rfl)) (hw _ (List.mem_of_getElem? (i := 7) rfl)) (by decide) (by decide)) (g := (mkF m 119 #[.val (.long q0), .second, .val (.int p1), .val (.long q2), .second, .val (.int p3), .val (.ref b1), .val (.int y81), .val (.int y82), .val (.int x84_0), .unset, .unset, .unset, .unset, .unset] [(.ref b85), (.ref b85)])) rfl (by rw [hml]; rfl) (Steps.refl _) (a := b85) (argsL := []) (rest := [(.ref b85)]) (lenOf own_pd0 rfl) rfl (by show 2 * 0 + _ ≤ _; exact Nat.le_of_eq rfl) (hb hby at_119) (fun _ _ => ⟨rfl, e85, (by decide : 2 + 4 ≤ _), (by decide : 22 + 68 ≤ _)⟩)
  dsimp only [Pt.U, Pt.locs, Pt.cells, Pt.slots] at X106 l106 y106 z106 st106 hQ106
  rw [l106, y106, z106] at X106
  generalize e106 : T106.heap = h106 at hQ106
  obtain ⟨r106_0, r106_1, rfl, Nq106, Kq106, Zf106_r106_0, Zf106_r106_1, Nf106_0, G106_0, G106_1, G106_2, G106_3, G106_4, G106_5, G106_6, G106_7, G106_8, G106_9, G106_10, G106_11, G106_12, G106_13⟩ := hQ106
  have ne_b1_r106_0 : b1 ≠ r106_0 := Nat.ne_of_lt (Nat.lt_of_lt_of_le F93.lt Zf106_r106_0)
  have ne_b85_r106_0 : b85 ≠ r106_0 := Nat.ne_of_lt (Nat.lt_of_lt_of_le A85.lt Zf106_r106_0)
  have Zs106_r106_0 := Nat.le_trans Z85 Zf106_r106_0
  have Zh106_r106_0 := Nat.le_trans K85.1 Zf106_r106_0
  have ne_b1_r106_1 : b1 ≠ r106_1 := Nat.ne_of_lt (Nat.lt_of_lt_of_le F93.lt Zf106_r106_1)
  have ne_b85_r106_1 : b85 ≠ r106_1 := Nat.ne_of_lt (Nat.lt_of_lt_of_le A85.lt Zf106_r106_1)
  have Zs106_r106_1 := Nat.le_trans Z85 Zf106_r106_1
  have Zh106_r106_1 := Nat.le_trans K85.1 Zf106_r106_1
  have F107 := own_sta_keep F86 Kq106 (allS (notsta_exa A85) all0)
  have F108 := own_sta_keep F87 Kq106 (allS (notsta_exa A85) all0)
  have F109 := own_sta_keep F88 Kq106 (allS (notsta_exa A85) all0)
  have F110 := own_sta_keep F89 Kq106 (allS (notsta_exa A85) all0)
  have F111 := own_sta_keep F90 Kq106 (allS (notsta_exa A85) all0)
  have F112 := own_sta_keep F91 Kq106 (allS (notsta_exa A85) all0)
  have F113 := own_sta_keep F92 Kq106 (allS (notsta_exa A85) all0)
  have F114 := F93.keep Kq106 (ninS ne_b1_b85 nin0)
  have N106 := Fr.app N73 Nq106
  have K106 := K85.trans Kq106 (allS (Or.inr Zh85) all0)
  have Z106 := Nat.le_trans Z85 Kq106.1
  change Stand _ _ _ _ _ _ _ _ _ _ _ _ 6 90 at X106
  refine Goes.step (fun t k => st106.trans k) ?_
  show Goes _ _ _ _ _ _ _ (T106.setTop (mkF m 122 #[.val (.long q0), .second, .val (.int p1), .val (.long q2), .second, .val (.int p3), .val (.ref b1), .val (.int y81), .val (.int y82), .val (.int x84_0), .unset, .unset, .unset, .unset, .unset] [(.ref b85)]))
  refine Goes.step (fun t k => XS.astore X106.here hx rfl (hb hby at_122) rfl rfl (l' := #[.val (.long q0), .second, .val (.int p1), .val (.long q2), .second, .val (.int p3), .val (.ref b1), .val (.int y81), .val (.int y82), .val (.int x84_0), .val (.ref b85), .unset, .unset, .unset, .unset]) rfl k) ?_
  show Goes _ _ _ _ _ _ _ (T106.setTop (mkF m 124 #[.val (.long q0), .second, .val (.int p1), .val (.long q2), .second, .val (.int p3), .val (.ref b1), .val (.int y81), .val (.int y82), .val (.int x84_0), .val (.ref b85), .unset, .unset, .unset, .unset] []))
  refine Goes.step (fun t k => XS.aload X106.here hx rfl (hb hby at_124) rfl rfl k) ?_
  show Goes _ _ _ _ _ _ _ (T106.setTop (mkF m 126 #[.val (.long q0), .second, .val (.int p1), .val (.long q2), .second, .val (.int p3), .val (.ref b1), .val (.int y81), .val (.int y82), .val (.int x84_0), .val (.ref b85), .unset, .unset, .unset, .unset] [(.ref b85)]))
  refine Goes.step (fun t k => XS.aload X106.here hx rfl (hb hby at_126) rfl rfl k) ?_
  show Goes _ _ _ _ _ _ _ (T106.setTop (mkF m 128 #[.val (.long q0), .second, .val (.int p1), .val (.long q2), .second, .val (.int p3), .val (.ref b1), .val (.int y81), .val (.int y82), .val (.int x84_0), .val (.ref b85), .unset, .unset, .unset, .unset] [(.ref b1), (.ref b85)]))
  refine Goes.step (fun t k => XS.iconst X106.here hx rfl (hb hby at_128) k) ?_
  show Goes _ _ _ _ _ _ _ (T106.setTop (mkF m 129 #[.val (.long q0), .second, .val (.int p1), .val (.long q2), .second, .val (.int p3), .val (.ref b1), .val (.int y81), .val (.int y82), .val (.int x84_0), .val (.ref b85), .unset, .unset, .unset, .unset] [(.int (0 : Int32)), (.ref b1), (.ref b85)]))
  refine Goes.step (fun t k => XS.iload X106.here hx rfl (hb hby at_129) rfl k) ?_
  show Goes _ _ _ _ _ _ _ (T106.setTop (mkF m 131 #[.val (.long q0), .second, .val (.int p1), .val (.long q2), .second, .val (.int p3), .val (.ref b1), .val (.int y81), .val (.int y82), .val (.int x84_0), .val (.ref b85), .unset, .unset, .unset, .unset] [(.int y81), (.int (0 : Int32)), (.ref b1), (.ref b85)]))
  obtain ⟨cq115, kq115, q115a, q115b, q115c⟩ := isOf hZ e106 G106_0
  obtain ⟨_, _, ⟨T115, L115, k115, n115⟩, -, X115, ⟨Lc115, hQ115, l115, y115, z115⟩, st115⟩ := X106.virtualBack hx (y := (⟨"com/example/bounded_crawl/boundedcrawl/web/Framing", "received", "([BII)V"⟩ : MethodName)) (z := (⟨"com/example/bounded_crawl/boundedcrawl/web/Framing", "received", "([BII)V"⟩ : MethodName)) hown (mvT hZ (hw _ (List.mem_of_getElem? (i := 44) rfl))) (mvT hZ (hw _ (List.mem_of_getElem? (i := 45) rfl))) (notFace_of_selects (args := #[]) (mvT hZ (hw _ (List.mem_of_getElem? (i := 47) rfl)))) (mvT hZ (hw _ (List.mem_of_getElem? (i := 47) rfl))) (mvT hZ (hw _ (List.mem_of_getElem? (i := 46) rfl))) (by decide) (backOf (W := 0) (rm7 l Z tA hw [] b85 b1 (0 : Int32) y81 r106_0 (0 : Int64) (0 : Int64) (0 : Int32) (0 : Int32) (0 : Int32) r106_1 (0 : Int32) [(.int (0 : Int32)), (.int (0 : Int32)), (.int (0 : Int32)), (.int (0 : Int32)), (.int (0 : Int32)), (.int (0 : Int32)), (.int (0 : Int32)), (.int (0 : Int32)), (.int (0 : Int32)), (.int (0 : Int32)), (.int (0 : Int32)), (.int (0 : Int32)), (.int (0 : Int32)), (.int (0 : Int32)), (.int (0 : Int32)), (.int (0 : Int32)), (.int (0 : Int32)), (.int (0 : Int32)), (.int (0 : Int32)), (.int (0 : Int32)), (.int (0 : Int32)), (.int (0 : Int32)), (.int (0 : Int32)), (.int (0 : Int32)), (.int (0 : Int32)), (.int (0 : Int32)), (.int (0 : Int32)), (.int (0 : Int32)), (.int (0 : Int32)), (.int (0 : Int32)), (.int (0 : Int32)), (.int (0 : Int32))] wSL wWK wHE wCD wCS wCE wTR [(.int ((f1 q0 (0 : Int32)).toInt8.toInt32)), (.int ((f1 q0 (8 : Int32)).toInt8.toInt32)), (.int ((f1 q0 (16 : Int32)).toInt8.toInt32)), (.int ((f1 q0 (24 : Int32)).toInt8.toInt32)), (.int ((f1 q0 (32 : Int32)).toInt8.toInt32)), (.int ((f1 q0 (40 : Int32)).toInt8.toInt32)), (.int ((f1 q0 (48 : Int32)).toInt8.toInt32)), (.int ((f1 q0 (56 : Int32)).toInt8.toInt32))] h106 n0 Z106 G106_0 G106_1 G106_2 G106_3 G106_4 G106_5 G106_6 G106_7 G106_8 G106_9 G106_10 G106_11 G106_12 G106_13 F107 F108 F109 F110 F111 F112 F113 F114 Zs85 Zs106_r106_0 Zs106_r106_1 ne_b85_r106_0 ne_b85_r106_1 Nf106_0 ne_wSL_wWK ne_wSL_wHE ne_wSL_wCD ne_wSL_wCS ne_wSL_wCE ne_wSL_wTR ne_b1_b85 ne_b1_r106_0 ne_b1_r106_1 rfl (own_bytes (b := [((f1 q0 (0 : Int32)).toInt8.toInt32), ((f1 q0 (8 : Int32)).toInt8.toInt32), ((f1 q0 (16 : Int32)).toInt8.toInt32), ((f1 q0 (24 : Int32)).toInt8.toInt32), ((f1 q0 (32 : Int32)).toInt8.toInt32), ((f1 q0 (40 : Int32)).toInt8.toInt32), ((f1 q0 (48 : Int32)).toInt8.toInt32), ((f1 q0 (56 : Int32)).toInt8.toInt32)]) rfl (by intro x hx; simp only [List.mem_cons, List.not_mem_nil, or_false] at hx; rcases hx with rfl | rfl | rfl | rfl | rfl | rfl | rfl | rfl <;> exact own_pick _ _)) (by decide) (own_m7 _ _ hy81).1 (own_a8 (own_m7 _ _ hy81)).1 (by decide) (own_a8 (own_m7 _ _ hy81)).2) hZ (hw _ (List.mem_of_getElem? (i := 48) rfl)) (hw _ (List.mem_of_getElem? (i := 7) rfl)) (by decide) (by decide)) q115a q115c (g := (mkF m 131 #[.val (.long q0), .second, .val (.int p1), .val (.long q2), .second, .val (.int p3), .val (.ref b1), .val (.int y81), .val (.int y82), .val (.int x84_0), .val (.ref b85), .unset, .unset, .unset, .unset] [(.int y81), (.int (0 : Int32)), (.ref b1), (.ref b85)])) rfl (by rw [hml]; rfl) (Steps.refl _) (argsL := [(.ref b1), (.int (0 : Int32)), (.int y81)]) (rest := []) (lenOf own_pd3 rfl) rfl (by show 2 * 0 + _ ≤ _; exact Nat.le_of_eq rfl) (hb hby at_131) (fun _ _ => ⟨rfl, e106, (by decide : 6 + 0 ≤ _), (by decide : 90 + 0 ≤ _)⟩)
  dsimp only [Pt.U, Pt.locs, Pt.cells, Pt.slots] at X115 l115 y115 z115 st115 hQ115
  rw [l115, y115, z115] at X115
  obtain ⟨vl115, wf115, hvl115, hQ115⟩ := hQ115
  generalize e115 : T115.heap = h115 at hQ115
  obtain ⟨rfl, Nq115, Kq115, G115_0, G115_1, G115_2, G115_3, G115_4, G115_5, G115_6, G115_7, G115_8, G115_9, G115_10, G115_11, G115_12, G115_13⟩ := hQ115
  have F116 := own_sta_keep F107 Kq115 (allS (notsta_exa G106_0) (allS (notsta_exa G106_9) (allS (notsta_ara G106_12) all0)))
  have F117 := own_sta_keep F108 Kq115 (allS (notsta_exa G106_0) (allS (notsta_exa G106_9) (allS (notsta_ara G106_12) all0)))
  have F118 := own_sta_keep F109 Kq115 (allS (notsta_exa G106_0) (allS (notsta_exa G106_9) (allS (notsta_ara G106_12) all0)))
  have F119 := own_sta_keep F110 Kq115 (allS (notsta_exa G106_0) (allS (notsta_exa G106_9) (allS (notsta_ara G106_12) all0)))
  have F120 := own_sta_keep F111 Kq115 (allS (notsta_exa G106_0) (allS (notsta_exa G106_9) (allS (notsta_ara G106_12) all0)))
  have F121 := own_sta_keep F112 Kq115 (allS (notsta_exa G106_0) (allS (notsta_exa G106_9) (allS (notsta_ara G106_12) all0)))
  have F122 := own_sta_keep F113 Kq115 (allS (notsta_exa G106_0) (allS (notsta_exa G106_9) (allS (notsta_ara G106_12) all0)))
  have F123 := F114.keep Kq115 (ninS ne_b1_b85 (ninS ne_b1_r106_0 (ninS ne_b1_r106_1 nin0)))
  have N115 := Fr.app N106 Nq115
  have K115 := K106.trans Kq115 (allS (Or.inr Zh85) (allS (Or.inr Zh106_r106_0) (allS (Or.inr Zh106_r106_1) all0)))
  have Z115 := Nat.le_trans Z106 Kq115.1
  change Stand _ _ _ _ _ _ _ _ _ _ _ _ 6 90 at X115
  refine Goes.step (fun t k => st115.trans k) ?_
  show Goes _ _ _ _ _ _ _ (T115.setTop (mkF m 134 #[.val (.long q0), .second, .val (.int p1), .val (.long q2), .second, .val (.int p3), .val (.ref b1), .val (.int y81), .val (.int y82), .val (.int x84_0), .val (.ref b85), .unset, .unset, .unset, .unset] []))
  refine Goes.step (fun t k => XS.aload X115.here hx rfl (hb hby at_134) rfl rfl k) ?_
  show Goes _ _ _ _ _ _ _ (T115.setTop (mkF m 136 #[.val (.long q0), .second, .val (.int p1), .val (.long q2), .second, .val (.int p3), .val (.ref b1), .val (.int y81), .val (.int y82), .val (.int x84_0), .val (.ref b85), .unset, .unset, .unset, .unset] [(.ref b85)]))
  refine Goes.step (fun t k => XS.aload X115.here hx rfl (hb hby at_136) rfl rfl k) ?_
  show Goes _ _ _ _ _ _ _ (T115.setTop (mkF m 138 #[.val (.long q0), .second, .val (.int p1), .val (.long q2), .second, .val (.int p3), .val (.ref b1), .val (.int y81), .val (.int y82), .val (.int x84_0), .val (.ref b85), .unset, .unset, .unset, .unset] [(.ref b1), (.ref b85)]))
  refine Goes.step (fun t k => XS.bipush X115.here hx rfl (hb hby at_138) k) ?_
  show Goes _ _ _ _ _ _ _ (T115.setTop (mkF m 140 #[.val (.long q0), .second, .val (.int p1), .val (.long q2), .second, .val (.int p3), .val (.ref b1), .val (.int y81), .val (.int y82), .val (.int x84_0), .val (.ref b85), .unset, .unset, .unset, .unset] [(.int (8 : Int32)), (.ref b1), (.ref b85)]))
  refine Goes.step (fun t k => XS.iload X115.here hx rfl (hb hby at_140) rfl k) ?_
  show Goes _ _ _ _ _ _ _ (T115.setTop (mkF m 142 #[.val (.long q0), .second, .val (.int p1), .val (.long q2), .second, .val (.int p3), .val (.ref b1), .val (.int y81), .val (.int y82), .val (.int x84_0), .val (.ref b85), .unset, .unset, .unset, .unset] [(.int y82), (.int (8 : Int32)), (.ref b1), (.ref b85)]))
  refine Goes.step (fun t k => XS.isub X115.here hx rfl (hb hby at_142) rfl k) ?_
  show Goes _ _ _ _ _ _ _ (T115.setTop (mkF m 143 #[.val (.long q0), .second, .val (.int p1), .val (.long q2), .second, .val (.int p3), .val (.ref b1), .val (.int y81), .val (.int y82), .val (.int x84_0), .val (.ref b85), .unset, .unset, .unset, .unset] [(.int ((8 : Int32) - y82)), (.ref b1), (.ref b85)]))
  refine Goes.step (fun t k => XS.iload X115.here hx rfl (hb hby at_143) rfl k) ?_
  show Goes _ _ _ _ _ _ _ (T115.setTop (mkF m 145 #[.val (.long q0), .second, .val (.int p1), .val (.long q2), .second, .val (.int p3), .val (.ref b1), .val (.int y81), .val (.int y82), .val (.int x84_0), .val (.ref b85), .unset, .unset, .unset, .unset] [(.int y82), (.int ((8 : Int32) - y82)), (.ref b1), (.ref b85)]))
  obtain ⟨cq124, kq124, q124a, q124b, q124c⟩ := isOf hZ e115 G115_0
  obtain ⟨_, _, ⟨T124, L124, k124, n124⟩, -, X124, ⟨Lc124, hQ124, l124, y124, z124⟩, st124⟩ := X115.virtualBack hx (y := (⟨"com/example/bounded_crawl/boundedcrawl/web/Framing", "received", "([BII)V"⟩ : MethodName)) (z := (⟨"com/example/bounded_crawl/boundedcrawl/web/Framing", "received", "([BII)V"⟩ : MethodName)) hown (mvT hZ (hw _ (List.mem_of_getElem? (i := 44) rfl))) (mvT hZ (hw _ (List.mem_of_getElem? (i := 45) rfl))) (notFace_of_selects (args := #[]) (mvT hZ (hw _ (List.mem_of_getElem? (i := 47) rfl)))) (mvT hZ (hw _ (List.mem_of_getElem? (i := 47) rfl))) (mvT hZ (hw _ (List.mem_of_getElem? (i := 46) rfl))) (by decide) (backOf (W := 0) (rm7 l Z tA hw [] b85 b1 ((8 : Int32) - y82) y82 r106_0 ((0 : Int64) + y81.toInt64) ((0 : Int64) + y81.toInt64) ((0 : Int32) + y81) wf115 (0 : Int32) r106_1 ((0 : Int32) + y81) vl115 wSL wWK wHE wCD wCS wCE wTR [(.int ((f1 q0 (0 : Int32)).toInt8.toInt32)), (.int ((f1 q0 (8 : Int32)).toInt8.toInt32)), (.int ((f1 q0 (16 : Int32)).toInt8.toInt32)), (.int ((f1 q0 (24 : Int32)).toInt8.toInt32)), (.int ((f1 q0 (32 : Int32)).toInt8.toInt32)), (.int ((f1 q0 (40 : Int32)).toInt8.toInt32)), (.int ((f1 q0 (48 : Int32)).toInt8.toInt32)), (.int ((f1 q0 (56 : Int32)).toInt8.toInt32))] h115 n0 Z115 G115_0 G115_1 G115_2 G115_3 G115_4 G115_5 G115_6 G115_7 G115_8 G115_9 G115_10 G115_11 G115_12 G115_13 F116 F117 F118 F119 F120 F121 F122 F123 Zs85 Zs106_r106_0 Zs106_r106_1 ne_b85_r106_0 ne_b85_r106_1 Nf106_0 ne_wSL_wWK ne_wSL_wHE ne_wSL_wCD ne_wSL_wCS ne_wSL_wCE ne_wSL_wTR ne_b1_b85 ne_b1_r106_0 ne_b1_r106_1 hvl115 (own_bytes (b := [((f1 q0 (0 : Int32)).toInt8.toInt32), ((f1 q0 (8 : Int32)).toInt8.toInt32), ((f1 q0 (16 : Int32)).toInt8.toInt32), ((f1 q0 (24 : Int32)).toInt8.toInt32), ((f1 q0 (32 : Int32)).toInt8.toInt32), ((f1 q0 (40 : Int32)).toInt8.toInt32), ((f1 q0 (48 : Int32)).toInt8.toInt32), ((f1 q0 (56 : Int32)).toInt8.toInt32)]) rfl (by intro x hx; simp only [List.mem_cons, List.not_mem_nil, or_false] at hx; rcases hx with rfl | rfl | rfl | rfl | rfl | rfl | rfl | rfl <;> exact own_pick _ _)) (own_b8 (own_m7 _ _ hy82)).1 (own_m7 _ _ hy82).1 (own_b8 (own_m7 _ _ hy82)).2 (own_c8 (own_m7 _ _ hy81) (own_m7 _ _ hy82)).1 (own_c8 (own_m7 _ _ hy81) (own_m7 _ _ hy82)).2) hZ (hw _ (List.mem_of_getElem? (i := 48) rfl)) (hw _ (List.mem_of_getElem? (i := 7) rfl)) (by decide) (by decide)) q124a q124c (g := (mkF m 145 #[.val (.long q0), .second, .val (.int p1), .val (.long q2), .second, .val (.int p3), .val (.ref b1), .val (.int y81), .val (.int y82), .val (.int x84_0), .val (.ref b85), .unset, .unset, .unset, .unset] [(.int y82), (.int ((8 : Int32) - y82)), (.ref b1), (.ref b85)])) rfl (by rw [hml]; rfl) (Steps.refl _) (argsL := [(.ref b1), (.int ((8 : Int32) - y82)), (.int y82)]) (rest := []) (lenOf own_pd3 rfl) rfl (by show 2 * 0 + _ ≤ _; exact Nat.le_of_eq rfl) (hb hby at_145) (fun _ _ => ⟨rfl, e115, (by decide : 6 + 0 ≤ _), (by decide : 90 + 0 ≤ _)⟩)
  dsimp only [Pt.U, Pt.locs, Pt.cells, Pt.slots] at X124 l124 y124 z124 st124 hQ124
  rw [l124, y124, z124] at X124
  obtain ⟨vl124, wf124, hvl124, hQ124⟩ := hQ124
  generalize e124 : T124.heap = h124 at hQ124
  obtain ⟨rfl, Nq124, Kq124, G124_0, G124_1, G124_2, G124_3, G124_4, G124_5, G124_6, G124_7, G124_8, G124_9, G124_10, G124_11, G124_12, G124_13⟩ := hQ124
  have F125 := own_sta_keep F116 Kq124 (allS (notsta_exa G115_0) (allS (notsta_exa G115_9) (allS (notsta_ara G115_12) all0)))
  have F126 := own_sta_keep F117 Kq124 (allS (notsta_exa G115_0) (allS (notsta_exa G115_9) (allS (notsta_ara G115_12) all0)))
  have F127 := own_sta_keep F118 Kq124 (allS (notsta_exa G115_0) (allS (notsta_exa G115_9) (allS (notsta_ara G115_12) all0)))
  have F128 := own_sta_keep F119 Kq124 (allS (notsta_exa G115_0) (allS (notsta_exa G115_9) (allS (notsta_ara G115_12) all0)))
  have F129 := own_sta_keep F120 Kq124 (allS (notsta_exa G115_0) (allS (notsta_exa G115_9) (allS (notsta_ara G115_12) all0)))
  have F130 := own_sta_keep F121 Kq124 (allS (notsta_exa G115_0) (allS (notsta_exa G115_9) (allS (notsta_ara G115_12) all0)))
  have F131 := own_sta_keep F122 Kq124 (allS (notsta_exa G115_0) (allS (notsta_exa G115_9) (allS (notsta_ara G115_12) all0)))
  have F132 := F123.keep Kq124 (ninS ne_b1_b85 (ninS ne_b1_r106_0 (ninS ne_b1_r106_1 nin0)))
  have N124 := Fr.app N115 Nq124
  have K124 := K115.trans Kq124 (allS (Or.inr Zh85) (allS (Or.inr Zh106_r106_0) (allS (Or.inr Zh106_r106_1) all0)))
  have Z124 := Nat.le_trans Z115 Kq124.1
  change Stand _ _ _ _ _ _ _ _ _ _ _ _ 6 90 at X124
  refine Goes.step (fun t k => st124.trans k) ?_
  show Goes _ _ _ _ _ _ _ (T124.setTop (mkF m 148 #[.val (.long q0), .second, .val (.int p1), .val (.long q2), .second, .val (.int p3), .val (.ref b1), .val (.int y81), .val (.int y82), .val (.int x84_0), .val (.ref b85), .unset, .unset, .unset, .unset] []))
  refine Goes.step (fun t k => XS.aload X124.here hx rfl (hb hby at_148) rfl rfl k) ?_
  show Goes _ _ _ _ _ _ _ (T124.setTop (mkF m 150 #[.val (.long q0), .second, .val (.int p1), .val (.long q2), .second, .val (.int p3), .val (.ref b1), .val (.int y81), .val (.int y82), .val (.int x84_0), .val (.ref b85), .unset, .unset, .unset, .unset] [(.ref b85)]))
  refine Goes.step (fun t k => XS.iload X124.here hx rfl (hb hby at_150) rfl k) ?_
  show Goes _ _ _ _ _ _ _ (T124.setTop (mkF m 152 #[.val (.long q0), .second, .val (.int p1), .val (.long q2), .second, .val (.int p3), .val (.ref b1), .val (.int y81), .val (.int y82), .val (.int x84_0), .val (.ref b85), .unset, .unset, .unset, .unset] [(.int x84_0), (.ref b85)]))
  obtain ⟨cq133, kq133, q133a, q133b, q133c⟩ := isOf hZ e124 G124_0
  obtain ⟨_, _, ⟨T133, L133, k133, n133⟩, -, X133, ⟨Lc133, hQ133, l133, y133, z133⟩, st133⟩ := X124.virtualBack hx (y := (⟨"com/example/bounded_crawl/boundedcrawl/web/Framing", "framed", "(Z)V"⟩ : MethodName)) (z := (⟨"com/example/bounded_crawl/boundedcrawl/web/Framing", "framed", "(Z)V"⟩ : MethodName)) hown (mvT hZ (hw _ (List.mem_of_getElem? (i := 92) rfl))) (mvT hZ (hw _ (List.mem_of_getElem? (i := 93) rfl))) (notFace_of_selects (args := #[]) (mvT hZ (hw _ (List.mem_of_getElem? (i := 95) rfl)))) (mvT hZ (hw _ (List.mem_of_getElem? (i := 95) rfl))) (mvT hZ (hw _ (List.mem_of_getElem? (i := 94) rfl))) (by decide) (backOf (W := 0) (rm12 l Z tA hw [] b85 x84_0 (0 : Int32) (((0 : Int64) + y81.toInt64) + y82.toInt64) (((0 : Int64) + y81.toInt64) + y82.toInt64) wSL wHE h124 n0 Z124 G124_0 G124_8 G124_4 G124_3 G124_2 F127 Zs85 ne_wSL_wHE) hZ (hw _ (List.mem_of_getElem? (i := 96) rfl)) (hw _ (List.mem_of_getElem? (i := 7) rfl)) (by decide) (by decide)) q133a q133c (g := (mkF m 152 #[.val (.long q0), .second, .val (.int p1), .val (.long q2), .second, .val (.int p3), .val (.ref b1), .val (.int y81), .val (.int y82), .val (.int x84_0), .val (.ref b85), .unset, .unset, .unset, .unset] [(.int x84_0), (.ref b85)])) rfl (by rw [hml]; rfl) (Steps.refl _) (argsL := [(.int x84_0)]) (rest := []) (lenOf own_pd5 rfl) rfl (by show 2 * 0 + _ ≤ _; exact Nat.le_of_eq rfl) (hb hby at_152) (fun _ _ => ⟨rfl, e124, (by decide : 6 + 0 ≤ _), (by decide : 90 + 0 ≤ _)⟩)
  dsimp only [Pt.U, Pt.locs, Pt.cells, Pt.slots] at X133 l133 y133 z133 st133 hQ133
  rw [l133, y133, z133] at X133
  generalize e133 : T133.heap = h133 at hQ133
  obtain ⟨rfl, Nq133, Kq133, G133_0, G133_1, G133_2, G133_3⟩ := hQ133
  have F134 := own_sta_keep F125 Kq133 (allS (notsta_exa G124_0) all0)
  have F135 := own_sta_keep F126 Kq133 (allS (notsta_exa G124_0) all0)
  have F136 := own_sta_keep F127 Kq133 (allS (notsta_exa G124_0) all0)
  have F137 := own_sta_keep F128 Kq133 (allS (notsta_exa G124_0) all0)
  have F138 := own_sta_keep F129 Kq133 (allS (notsta_exa G124_0) all0)
  have F139 := own_sta_keep F130 Kq133 (allS (notsta_exa G124_0) all0)
  have F140 := own_sta_keep F131 Kq133 (allS (notsta_exa G124_0) all0)
  have F141 := F132.keep Kq133 (ninS ne_b1_b85 nin0)
  have F142 := G124_9.keep Kq133
  have F143 := G124_10.keep Kq133 (ninS (Ne.symm ne_b85_r106_0) nin0)
  have F144 := G124_11.keep Kq133 (ninS (Ne.symm ne_b85_r106_0) nin0)
  have F145 := G124_12.keep Kq133 (ninS (Ne.symm ne_b85_r106_1) nin0)
  have F146 := G124_13.keep Kq133 (ninS (Ne.symm ne_b85_r106_0) nin0)
  have N133 := Fr.app N124 Nq133
  have K133 := K124.trans Kq133 (allS (Or.inr Zh85) all0)
  have Z133 := Nat.le_trans Z124 Kq133.1
  change Stand _ _ _ _ _ _ _ _ _ _ _ _ 6 90 at X133
  refine Goes.step (fun t k => st133.trans k) ?_
  show Goes _ _ _ _ _ _ _ (T133.setTop (mkF m 155 #[.val (.long q0), .second, .val (.int p1), .val (.long q2), .second, .val (.int p3), .val (.ref b1), .val (.int y81), .val (.int y82), .val (.int x84_0), .val (.ref b85), .unset, .unset, .unset, .unset] []))
  refine Goes.step (fun t k => XS.iload X133.here hx rfl (hb hby at_155) rfl k) ?_
  show Goes _ _ _ _ _ _ _ (T133.setTop (mkF m 157 #[.val (.long q0), .second, .val (.int p1), .val (.long q2), .second, .val (.int p3), .val (.ref b1), .val (.int y81), .val (.int y82), .val (.int x84_0), .val (.ref b85), .unset, .unset, .unset, .unset] [(.int y81)]))
  refine Goes.step (fun t k => XS.i2l X133.here hx rfl (hb hby at_157) rfl k) ?_
  show Goes _ _ _ _ _ _ _ (T133.setTop (mkF m 158 #[.val (.long q0), .second, .val (.int p1), .val (.long q2), .second, .val (.int p3), .val (.ref b1), .val (.int y81), .val (.int y82), .val (.int x84_0), .val (.ref b85), .unset, .unset, .unset, .unset] [(.long (y81.toInt64))]))
  refine Goes.step (fun t k => XS.iload X133.here hx rfl (hb hby at_158) rfl k) ?_
  show Goes _ _ _ _ _ _ _ (T133.setTop (mkF m 160 #[.val (.long q0), .second, .val (.int p1), .val (.long q2), .second, .val (.int p3), .val (.ref b1), .val (.int y81), .val (.int y82), .val (.int x84_0), .val (.ref b85), .unset, .unset, .unset, .unset] [(.int y82), (.long (y81.toInt64))]))
  refine Goes.step (fun t k => XS.i2l X133.here hx rfl (hb hby at_160) rfl k) ?_
  show Goes _ _ _ _ _ _ _ (T133.setTop (mkF m 161 #[.val (.long q0), .second, .val (.int p1), .val (.long q2), .second, .val (.int p3), .val (.ref b1), .val (.int y81), .val (.int y82), .val (.int x84_0), .val (.ref b85), .unset, .unset, .unset, .unset] [(.long (y82.toInt64)), (.long (y81.toInt64))]))
  refine Goes.step (fun t k => XS.ladd X133.here hx rfl (hb hby at_161) rfl k) ?_
  show Goes _ _ _ _ _ _ _ (T133.setTop (mkF m 162 #[.val (.long q0), .second, .val (.int p1), .val (.long q2), .second, .val (.int p3), .val (.ref b1), .val (.int y81), .val (.int y82), .val (.int x84_0), .val (.ref b85), .unset, .unset, .unset, .unset] [(.long ((y81.toInt64) + (y82.toInt64)))]))
  refine Goes.step (fun t k => XS.lstore X133.here hx rfl (hb hby at_162) rfl (l' := #[.val (.long q0), .second, .val (.int p1), .val (.long q2), .second, .val (.int p3), .val (.ref b1), .val (.int y81), .val (.int y82), .val (.int x84_0), .val (.ref b85), .val (.long ((y81.toInt64) + (y82.toInt64))), .second, .unset, .unset]) rfl k) ?_
  show Goes _ _ _ _ _ _ _ (T133.setTop (mkF m 164 #[.val (.long q0), .second, .val (.int p1), .val (.long q2), .second, .val (.int p3), .val (.ref b1), .val (.int y81), .val (.int y82), .val (.int x84_0), .val (.ref b85), .val (.long ((y81.toInt64) + (y82.toInt64))), .second, .unset, .unset] []))
  generalize hy147 : ((y81.toInt64) + (y82.toInt64)) = y147
  refine Goes.step (fun t k => XS.iload X133.here hx rfl (hb hby at_164) rfl k) ?_
  show Goes _ _ _ _ _ _ _ (T133.setTop (mkF m 166 #[.val (.long q0), .second, .val (.int p1), .val (.long q2), .second, .val (.int p3), .val (.ref b1), .val (.int y81), .val (.int y82), .val (.int x84_0), .val (.ref b85), .val (.long y147), .second, .unset, .unset] [(.int x84_0)]))
  suffices k149 : ∀ (x149_0 : Int64), x149_0 = (if x84_0 = (0 : Int32) then (y147 + q2) else y147) → Goes p e below s (Q0 Z q0 p1 q2 p3 wSL wWK wHE wCD wCS wCE wTR h0 n0) kC0 kS0 (T133.setTop (mkF m 178 #[.val (.long q0), .second, .val (.int p1), .val (.long q2), .second, .val (.int p3), .val (.ref b1), .val (.int y81), .val (.int y82), .val (.int x84_0), .val (.ref b85), .val (.long y147), .second, .unset, .unset] [(.long x149_0)])) by
    by_cases hc166_148 : x84_0 = (0 : Int32)
    · refine Goes.step (fun t k => XS.ifYes X133.here hx rfl (pc0 := 166) (pc' := 174) rfl (hb hby at_166) rfl ((if0 _ _).trans (teq hc166_148).1) (by decide) (by decide) k) ?_
      show Goes _ _ _ _ _ _ _ (T133.setTop (mkF m 174 #[.val (.long q0), .second, .val (.int p1), .val (.long q2), .second, .val (.int p3), .val (.ref b1), .val (.int y81), .val (.int y82), .val (.int x84_0), .val (.ref b85), .val (.long y147), .second, .unset, .unset] []))
      refine Goes.step (fun t k => XS.lload X133.here hx rfl (hb hby at_174) rfl k) ?_
      show Goes _ _ _ _ _ _ _ (T133.setTop (mkF m 176 #[.val (.long q0), .second, .val (.int p1), .val (.long q2), .second, .val (.int p3), .val (.ref b1), .val (.int y81), .val (.int y82), .val (.int x84_0), .val (.ref b85), .val (.long y147), .second, .unset, .unset] [(.long y147)]))
      refine Goes.step (fun t k => XS.lloadN X133.here hx rfl (hb hby at_176) rfl k) ?_
      show Goes _ _ _ _ _ _ _ (T133.setTop (mkF m 177 #[.val (.long q0), .second, .val (.int p1), .val (.long q2), .second, .val (.int p3), .val (.ref b1), .val (.int y81), .val (.int y82), .val (.int x84_0), .val (.ref b85), .val (.long y147), .second, .unset, .unset] [(.long q2), (.long y147)]))
      refine Goes.step (fun t k => XS.ladd X133.here hx rfl (hb hby at_177) rfl k) ?_
      show Goes _ _ _ _ _ _ _ (T133.setTop (mkF m 178 #[.val (.long q0), .second, .val (.int p1), .val (.long q2), .second, .val (.int p3), .val (.ref b1), .val (.int y81), .val (.int y82), .val (.int x84_0), .val (.ref b85), .val (.long y147), .second, .unset, .unset] [(.long (y147 + q2))]))
      exact k149 _ (if_pos hc166_148).symm
    · refine Goes.step (fun t k => XS.ifNo X133.here hx rfl (hb hby at_166) rfl ((if0 _ _).trans (feq hc166_148).1) k) ?_
      show Goes _ _ _ _ _ _ _ (T133.setTop (mkF m 169 #[.val (.long q0), .second, .val (.int p1), .val (.long q2), .second, .val (.int p3), .val (.ref b1), .val (.int y81), .val (.int y82), .val (.int x84_0), .val (.ref b85), .val (.long y147), .second, .unset, .unset] []))
      refine Goes.step (fun t k => XS.lload X133.here hx rfl (hb hby at_169) rfl k) ?_
      show Goes _ _ _ _ _ _ _ (T133.setTop (mkF m 171 #[.val (.long q0), .second, .val (.int p1), .val (.long q2), .second, .val (.int p3), .val (.ref b1), .val (.int y81), .val (.int y82), .val (.int x84_0), .val (.ref b85), .val (.long y147), .second, .unset, .unset] [(.long y147)]))
      refine Goes.step (fun t k => XS.goto X133.here hx rfl (pc0 := 171) (pc' := 178) rfl (hb hby at_171) (by decide) (by decide) k) ?_
      show Goes _ _ _ _ _ _ _ (T133.setTop (mkF m 178 #[.val (.long q0), .second, .val (.int p1), .val (.long q2), .second, .val (.int p3), .val (.ref b1), .val (.int y81), .val (.int y82), .val (.int x84_0), .val (.ref b85), .val (.long y147), .second, .unset, .unset] [(.long y147)]))
      exact k149 _ (if_neg hc166_148).symm
  intro x149_0 hx149_0
  refine Goes.step (fun t k => XS.lstore X133.here hx rfl (hb hby at_178) rfl (l' := #[.val (.long q0), .second, .val (.int p1), .val (.long q2), .second, .val (.int p3), .val (.ref b1), .val (.int y81), .val (.int y82), .val (.int x84_0), .val (.ref b85), .val (.long y147), .second, .val (.long x149_0), .second]) rfl k) ?_
  show Goes _ _ _ _ _ _ _ (T133.setTop (mkF m 180 #[.val (.long q0), .second, .val (.int p1), .val (.long q2), .second, .val (.int p3), .val (.ref b1), .val (.int y81), .val (.int y82), .val (.int x84_0), .val (.ref b85), .val (.long y147), .second, .val (.long x149_0), .second] []))
  refine Goes.step (fun t k => XS.aload X133.here hx rfl (hb hby at_180) rfl rfl k) ?_
  show Goes _ _ _ _ _ _ _ (T133.setTop (mkF m 182 #[.val (.long q0), .second, .val (.int p1), .val (.long q2), .second, .val (.int p3), .val (.ref b1), .val (.int y81), .val (.int y82), .val (.int x84_0), .val (.ref b85), .val (.long y147), .second, .val (.long x149_0), .second] [(.ref b85)]))
  refine Goes.step (fun t k => XS.lloadN X133.here hx rfl (hb hby at_182) rfl k) ?_
  show Goes _ _ _ _ _ _ _ (T133.setTop (mkF m 183 #[.val (.long q0), .second, .val (.int p1), .val (.long q2), .second, .val (.int p3), .val (.ref b1), .val (.int y81), .val (.int y82), .val (.int x84_0), .val (.ref b85), .val (.long y147), .second, .val (.long x149_0), .second] [(.long q2), (.ref b85)]))
  obtain ⟨cq150, kq150, q150a, q150b, q150c⟩ := isOf hZ e133 G133_0
  obtain ⟨_, _, ⟨T150, L150, k150, n150⟩, -, X150, ⟨Lc150, hQ150, l150, y150, z150⟩, st150⟩ := X133.virtualBack hx (y := (⟨"com/example/bounded_crawl/boundedcrawl/web/Framing", "end", "(J)J"⟩ : MethodName)) (z := (⟨"com/example/bounded_crawl/boundedcrawl/web/Framing", "end", "(J)J"⟩ : MethodName)) hown (mvT hZ (hw _ (List.mem_of_getElem? (i := 99) rfl))) (mvT hZ (hw _ (List.mem_of_getElem? (i := 100) rfl))) (notFace_of_selects (args := #[]) (mvT hZ (hw _ (List.mem_of_getElem? (i := 102) rfl)))) (mvT hZ (hw _ (List.mem_of_getElem? (i := 102) rfl))) (mvT hZ (hw _ (List.mem_of_getElem? (i := 101) rfl))) (by decide) (backOf (W := 0) (rm13 l Z tA hw [] b85 q2 (nar .boolean x84_0) (((0 : Int64) + y81.toInt64) + y82.toInt64) h133 G133_1 G133_2) hZ (hw _ (List.mem_of_getElem? (i := 103) rfl)) (hw _ (List.mem_of_getElem? (i := 7) rfl)) (by decide) (by decide)) q150a q150c (g := (mkF m 183 #[.val (.long q0), .second, .val (.int p1), .val (.long q2), .second, .val (.int p3), .val (.ref b1), .val (.int y81), .val (.int y82), .val (.int x84_0), .val (.ref b85), .val (.long y147), .second, .val (.long x149_0), .second] [(.long q2), (.ref b85)])) rfl (by rw [hml]; rfl) (Steps.refl _) (argsL := [(.long q2)]) (rest := []) (lenOf own_pd6 rfl) rfl (by show 2 * 0 + _ ≤ _; exact Nat.le_of_eq rfl) (hb hby at_183) (fun _ _ => ⟨rfl, e133, (by decide : 6 + 0 ≤ _), (by decide : 90 + 0 ≤ _)⟩)
  dsimp only [Pt.U, Pt.locs, Pt.cells, Pt.slots] at X150 l150 y150 z150 st150 hQ150
  rw [l150, y150, z150] at X150
  obtain ⟨rfl, rfl, e150⟩ := hQ150
  try rw [List.append_nil] at X150
  change Stand _ _ _ _ _ _ _ _ _ _ _ _ 6 90 at X150
  refine Goes.step (fun t k => st150.trans k) ?_
  show Goes _ _ _ _ _ _ _ (T150.setTop (mkF m 186 #[.val (.long q0), .second, .val (.int p1), .val (.long q2), .second, .val (.int p3), .val (.ref b1), .val (.int y81), .val (.int y82), .val (.int x84_0), .val (.ref b85), .val (.long y147), .second, .val (.long x149_0), .second] [(.long (f13 q2 (nar .boolean x84_0) (((0 : Int64) + y81.toInt64) + y82.toInt64)))]))
  generalize hy151 : (f13 q2 (nar .boolean x84_0) (((0 : Int64) + y81.toInt64) + y82.toInt64)) = y151
  refine Goes.step (fun t k => XS.lload X150.here hx rfl (hb hby at_186) rfl k) ?_
  show Goes _ _ _ _ _ _ _ (T150.setTop (mkF m 188 #[.val (.long q0), .second, .val (.int p1), .val (.long q2), .second, .val (.int p3), .val (.ref b1), .val (.int y81), .val (.int y82), .val (.int x84_0), .val (.ref b85), .val (.long y147), .second, .val (.long x149_0), .second] [(.long x149_0), (.long y151)]))
  refine Goes.step (fun t k => XS.lcmp X150.here hx rfl (hb hby at_188) rfl k) ?_
  show Goes _ _ _ _ _ _ _ (T150.setTop (mkF m 189 #[.val (.long q0), .second, .val (.int p1), .val (.long q2), .second, .val (.int p3), .val (.ref b1), .val (.int y81), .val (.int y82), .val (.int x84_0), .val (.ref b85), .val (.long y147), .second, .val (.long x149_0), .second] [(.int (lcmpW y151 x149_0))]))
  suffices k156 : ∀ (T156 : State) (L156 : List Loc) (x156_0 : Int32), Stand p l e room_1 s m #[(.long q0), (.int p1), (.long q2), (.int p3)] below meth c T156 L156 6 90 → T156.heap = h133 → Fr n0 L156 → x156_0 = (if y151 = x149_0 then (if (f14 (((0 : Int64) + y81.toInt64) + y82.toInt64)) = y147 then (1 : Int32) else (0 : Int32)) else (0 : Int32)) → Goes p e below s (Q0 Z q0 p1 q2 p3 wSL wWK wHE wCD wCS wCE wTR h0 n0) kC0 kS0 (T156.setTop (mkF m 208 #[.val (.long q0), .second, .val (.int p1), .val (.long q2), .second, .val (.int p3), .val (.ref b1), .val (.int y81), .val (.int y82), .val (.int x84_0), .val (.ref b85), .val (.long y147), .second, .val (.long x149_0), .second] [(.int x156_0)])) by
    by_cases hc189_152 : y151 = x149_0
    · refine Goes.step (fun t k => XS.ifNo X150.here hx rfl (hb hby at_189) rfl ((if0 _ _).trans (teq ((lw_eq _ _).mpr hc189_152)).2) k) ?_
      show Goes _ _ _ _ _ _ _ (T150.setTop (mkF m 192 #[.val (.long q0), .second, .val (.int p1), .val (.long q2), .second, .val (.int p3), .val (.ref b1), .val (.int y81), .val (.int y82), .val (.int x84_0), .val (.ref b85), .val (.long y147), .second, .val (.long x149_0), .second] []))
      refine Goes.step (fun t k => XS.aload X150.here hx rfl (hb hby at_192) rfl rfl k) ?_
      show Goes _ _ _ _ _ _ _ (T150.setTop (mkF m 194 #[.val (.long q0), .second, .val (.int p1), .val (.long q2), .second, .val (.int p3), .val (.ref b1), .val (.int y81), .val (.int y82), .val (.int x84_0), .val (.ref b85), .val (.long y147), .second, .val (.long x149_0), .second] [(.ref b85)]))
      obtain ⟨cq153, kq153, q153a, q153b, q153c⟩ := isOf hZ e150 G133_0
      obtain ⟨_, _, ⟨T153, L153, k153, n153⟩, -, X153, ⟨Lc153, hQ153, l153, y153, z153⟩, st153⟩ := X150.virtualBack hx (y := (⟨"com/example/bounded_crawl/boundedcrawl/web/Framing", "size", "()J"⟩ : MethodName)) (z := (⟨"com/example/bounded_crawl/boundedcrawl/web/Framing", "size", "()J"⟩ : MethodName)) hown (mvT hZ (hw _ (List.mem_of_getElem? (i := 104) rfl))) (mvT hZ (hw _ (List.mem_of_getElem? (i := 105) rfl))) (notFace_of_selects (args := #[]) (mvT hZ (hw _ (List.mem_of_getElem? (i := 107) rfl)))) (mvT hZ (hw _ (List.mem_of_getElem? (i := 107) rfl))) (mvT hZ (hw _ (List.mem_of_getElem? (i := 106) rfl))) (by decide) (backOf (W := 0) (rm14 l Z tA hw [] b85 (((0 : Int64) + y81.toInt64) + y82.toInt64) h133 G133_3) hZ (hw _ (List.mem_of_getElem? (i := 108) rfl)) (hw _ (List.mem_of_getElem? (i := 7) rfl)) (by decide) (by decide)) q153a q153c (g := (mkF m 194 #[.val (.long q0), .second, .val (.int p1), .val (.long q2), .second, .val (.int p3), .val (.ref b1), .val (.int y81), .val (.int y82), .val (.int x84_0), .val (.ref b85), .val (.long y147), .second, .val (.long x149_0), .second] [(.ref b85)])) rfl (by rw [hml]; rfl) (Steps.refl _) (argsL := []) (rest := []) (lenOf own_pd7 rfl) rfl (by show 2 * 0 + _ ≤ _; exact Nat.le_of_eq rfl) (hb hby at_194) (fun _ _ => ⟨rfl, e150, (by decide : 6 + 0 ≤ _), (by decide : 90 + 0 ≤ _)⟩)
      dsimp only [Pt.U, Pt.locs, Pt.cells, Pt.slots] at X153 l153 y153 z153 st153 hQ153
      rw [l153, y153, z153] at X153
      obtain ⟨rfl, rfl, e153⟩ := hQ153
      try rw [List.append_nil] at X153
      change Stand _ _ _ _ _ _ _ _ _ _ _ _ 6 90 at X153
      refine Goes.step (fun t k => st153.trans k) ?_
      show Goes _ _ _ _ _ _ _ (T153.setTop (mkF m 197 #[.val (.long q0), .second, .val (.int p1), .val (.long q2), .second, .val (.int p3), .val (.ref b1), .val (.int y81), .val (.int y82), .val (.int x84_0), .val (.ref b85), .val (.long y147), .second, .val (.long x149_0), .second] [(.long (f14 (((0 : Int64) + y81.toInt64) + y82.toInt64)))]))
      generalize hy154 : (f14 (((0 : Int64) + y81.toInt64) + y82.toInt64)) = y154
      refine Goes.step (fun t k => XS.lload X153.here hx rfl (hb hby at_197) rfl k) ?_
      show Goes _ _ _ _ _ _ _ (T153.setTop (mkF m 199 #[.val (.long q0), .second, .val (.int p1), .val (.long q2), .second, .val (.int p3), .val (.ref b1), .val (.int y81), .val (.int y82), .val (.int x84_0), .val (.ref b85), .val (.long y147), .second, .val (.long x149_0), .second] [(.long y147), (.long y154)]))
      refine Goes.step (fun t k => XS.lcmp X153.here hx rfl (hb hby at_199) rfl k) ?_
      show Goes _ _ _ _ _ _ _ (T153.setTop (mkF m 200 #[.val (.long q0), .second, .val (.int p1), .val (.long q2), .second, .val (.int p3), .val (.ref b1), .val (.int y81), .val (.int y82), .val (.int x84_0), .val (.ref b85), .val (.long y147), .second, .val (.long x149_0), .second] [(.int (lcmpW y154 y147))]))
      by_cases hc200_155 : y154 = y147
      · refine Goes.step (fun t k => XS.ifNo X153.here hx rfl (hb hby at_200) rfl ((if0 _ _).trans (teq ((lw_eq _ _).mpr hc200_155)).2) k) ?_
        show Goes _ _ _ _ _ _ _ (T153.setTop (mkF m 203 #[.val (.long q0), .second, .val (.int p1), .val (.long q2), .second, .val (.int p3), .val (.ref b1), .val (.int y81), .val (.int y82), .val (.int x84_0), .val (.ref b85), .val (.long y147), .second, .val (.long x149_0), .second] []))
        refine Goes.step (fun t k => XS.iconst X153.here hx rfl (hb hby at_203) k) ?_
        show Goes _ _ _ _ _ _ _ (T153.setTop (mkF m 204 #[.val (.long q0), .second, .val (.int p1), .val (.long q2), .second, .val (.int p3), .val (.ref b1), .val (.int y81), .val (.int y82), .val (.int x84_0), .val (.ref b85), .val (.long y147), .second, .val (.long x149_0), .second] [(.int (1 : Int32))]))
        refine Goes.step (fun t k => XS.goto X153.here hx rfl (pc0 := 204) (pc' := 208) rfl (hb hby at_204) (by decide) (by decide) k) ?_
        show Goes _ _ _ _ _ _ _ (T153.setTop (mkF m 208 #[.val (.long q0), .second, .val (.int p1), .val (.long q2), .second, .val (.int p3), .val (.ref b1), .val (.int y81), .val (.int y82), .val (.int x84_0), .val (.ref b85), .val (.long y147), .second, .val (.long x149_0), .second] [(.int (1 : Int32))]))
        subst hy154
        exact k156 _ _ _ X153 e153 N133 ((if_pos hc189_152).trans (if_pos hc200_155)).symm
      · refine Goes.step (fun t k => XS.ifYes X153.here hx rfl (pc0 := 200) (pc' := 207) rfl (hb hby at_200) rfl ((if0 _ _).trans (feq (fun q => hc200_155 ((lw_eq _ _).mp q))).2) (by decide) (by decide) k) ?_
        show Goes _ _ _ _ _ _ _ (T153.setTop (mkF m 207 #[.val (.long q0), .second, .val (.int p1), .val (.long q2), .second, .val (.int p3), .val (.ref b1), .val (.int y81), .val (.int y82), .val (.int x84_0), .val (.ref b85), .val (.long y147), .second, .val (.long x149_0), .second] []))
        refine Goes.step (fun t k => XS.iconst X153.here hx rfl (hb hby at_207) k) ?_
        show Goes _ _ _ _ _ _ _ (T153.setTop (mkF m 208 #[.val (.long q0), .second, .val (.int p1), .val (.long q2), .second, .val (.int p3), .val (.ref b1), .val (.int y81), .val (.int y82), .val (.int x84_0), .val (.ref b85), .val (.long y147), .second, .val (.long x149_0), .second] [(.int (0 : Int32))]))
        subst hy154
        exact k156 _ _ _ X153 e153 N133 ((if_pos hc189_152).trans (if_neg hc200_155)).symm
    · refine Goes.step (fun t k => XS.ifYes X150.here hx rfl (pc0 := 189) (pc' := 207) rfl (hb hby at_189) rfl ((if0 _ _).trans (feq (fun q => hc189_152 ((lw_eq _ _).mp q))).2) (by decide) (by decide) k) ?_
      show Goes _ _ _ _ _ _ _ (T150.setTop (mkF m 207 #[.val (.long q0), .second, .val (.int p1), .val (.long q2), .second, .val (.int p3), .val (.ref b1), .val (.int y81), .val (.int y82), .val (.int x84_0), .val (.ref b85), .val (.long y147), .second, .val (.long x149_0), .second] []))
      refine Goes.step (fun t k => XS.iconst X150.here hx rfl (hb hby at_207) k) ?_
      show Goes _ _ _ _ _ _ _ (T150.setTop (mkF m 208 #[.val (.long q0), .second, .val (.int p1), .val (.long q2), .second, .val (.int p3), .val (.ref b1), .val (.int y81), .val (.int y82), .val (.int x84_0), .val (.ref b85), .val (.long y147), .second, .val (.long x149_0), .second] [(.int (0 : Int32))]))
      exact k156 _ _ _ X150 e150 N133 (if_neg hc189_152).symm
  intro T156 L156 x156_0 X156 e156 N156 hx156_0
  exact Goes.retZ X156 hx Bd.notSynchronized (r := (1 : Int32)) Bd.returns (by simp) (hb hby at_208) (own_plain p1 q2 p3 y81 y82 x84_0 y147 x149_0 y151 x156_0 hy81 hy82 hx84_0 hy147 hx149_0 hy151 hx156_0) ⟨rfl, N156⟩ (by decide) (by decide)
set_option maxRecDepth 65536 in
set_option maxHeartbeats 40000000 in
theorem comes_1 {Post : Tables → Env → Array Value → State → Outcome → State → Prop} (hpost : ∀ tb e args s v u, (limb_1_1.after args s (.returned v) u = true ∧ limb_1_2.after args s (.returned v) u = true ∧ True) → FrameEnd s (.returned v) u (Jvm.fieldLocs frame_1_writes args s ++ Jvm.arrayLocs frame_1_arrays args s ++ Jvm.staticLocs frame_1_statics s) 24 256 → Post tb e args s (.returned v) u) :
    ArmFor flags0 classFile x code maxLocals ret World_1 tables_1 room_1 Calls_1 rest_1 Pre_1 Post := by
  intro l hfl _ _ p e ha hc hk s m args below hf hA hF happ hP
  obtain ⟨hcalls, hrest, hpre⟩ := hP
  obtain ⟨-, -, -, hnamed, -, -, -, hat⟩ := (Spec.applies_iff hf).mp happ
  obtain ⟨hg, hn⟩ := and_e (Cond.before_iff.mp (show (Jvm.Cond.and given_1 narrow_1).before args s = true from hpre))
  obtain ⟨g0, gr0⟩ := and_e hg
  obtain ⟨ga0, gr1⟩ := and_e gr0
  obtain ⟨ga1, gr2⟩ := and_e gr1
  obtain ⟨ga2, gr3⟩ := and_e gr2
  have ga3 := gr3
  obtain ⟨w0, w1, w2, w3, rfl⟩ : ∃ w0 w1 w2 w3 : Value, args = #[w0, w1, w2, w3] := by
    have hs : args.size = 4 := by simpa [Cond.value, given_1] using g0
    obtain ⟨L⟩ := args
    match L, hs with
    | [w0, w1, w2, w3], _ => exact ⟨w0, w1, w2, w3, rfl⟩
  have hw := fun d (hd : d ∈ tables_1) => atoms_spec (ws := Jvm.Cond.code x code maxLocals ret :: tables_1) hat d (List.mem_cons_of_mem _ hd)
  have hfit : Fit s := fun {y c} hc i hi => by
    obtain ⟨ha, rfl⟩ := Array.getElem?_eq_some_iff.mp hc
    have q := List.all_eq_true.mp ((Array.all_eq_true_iff_forall_mem.mp hF) _ (Array.getElem_mem ha)) i (List.mem_range.mpr hi)
    simpa [Array.getElem?_eq_getElem hi] using q
  obtain ⟨i0, ei0⟩ := isL_v ga0
  obtain rfl : w0 = (.long i0) := Option.some.inj ei0
  obtain ⟨i1, ei1⟩ := is_v ga1
  obtain rfl : w1 = (.int i1) := Option.some.inj ei1
  obtain ⟨i2, ei2⟩ := isL_v ga2
  obtain rfl : w2 = (.long i2) := Option.some.inj ei2
  obtain ⟨i3, ei3⟩ := is_v ga3
  obtain rfl : w3 = (.int i3) := Option.some.inj ei3
  obtain ⟨nn0, nr0⟩ := and_e hn
  obtain ⟨nn1, nr1⟩ := and_e nr0
  obtain ⟨nn2, nr2⟩ := and_e nr1
  obtain ⟨nn3, nr3⟩ := and_e nr2
  obtain ⟨nn4, nr4⟩ := and_e nr3
  obtain ⟨nn5, nr5⟩ := and_e nr4
  obtain ⟨nn6, nr6⟩ := and_e nr5
  obtain ⟨nn7, nr7⟩ := and_e nr6
  obtain ⟨nn8, nr8⟩ := and_e nr7
  obtain ⟨nn9, nr9⟩ := and_e nr8
  obtain ⟨nn10, nr10⟩ := and_e nr9
  obtain ⟨nn11, nr11⟩ := and_e nr10
  obtain ⟨nn12, nr12⟩ := and_e nr11
  have nn13 := nr12
  obtain ⟨w_STATUS_LINE, ev_STATUS_LINE⟩ := exa_v nn0
  have E_STATUS_LINE := Exa.start ev_STATUS_LINE nn0
  have S_STATUS_LINE := Sta.start ev_STATUS_LINE (Or.inr ⟨(hw _ (List.mem_of_getElem? (i := 38) rfl)), (hw _ (List.mem_of_getElem? (i := 39) rfl))⟩)
  obtain ⟨w_WALKED, ev_WALKED⟩ := exa_v nn1
  have E_WALKED := Exa.start ev_WALKED nn1
  have S_WALKED := Sta.start ev_WALKED (Or.inr ⟨(hw _ (List.mem_of_getElem? (i := 38) rfl)), (hw _ (List.mem_of_getElem? (i := 56) rfl))⟩)
  obtain ⟨w_HELD, ev_HELD⟩ := exa_v nn4
  have E_HELD := Exa.start ev_HELD nn4
  have S_HELD := Sta.start ev_HELD (Or.inr ⟨(hw _ (List.mem_of_getElem? (i := 38) rfl)), (hw _ (List.mem_of_getElem? (i := 58) rfl))⟩)
  obtain ⟨w_CHUNK_DATA, ev_CHUNK_DATA⟩ := exa_v nn6
  have E_CHUNK_DATA := Exa.start ev_CHUNK_DATA nn6
  have S_CHUNK_DATA := Sta.start ev_CHUNK_DATA (Or.inr ⟨(hw _ (List.mem_of_getElem? (i := 38) rfl)), (hw _ (List.mem_of_getElem? (i := 60) rfl))⟩)
  obtain ⟨w_CHUNK_SIZE, ev_CHUNK_SIZE⟩ := exa_v nn8
  have E_CHUNK_SIZE := Exa.start ev_CHUNK_SIZE nn8
  have S_CHUNK_SIZE := Sta.start ev_CHUNK_SIZE (Or.inr ⟨(hw _ (List.mem_of_getElem? (i := 38) rfl)), (hw _ (List.mem_of_getElem? (i := 66) rfl))⟩)
  obtain ⟨w_CHUNK_END, ev_CHUNK_END⟩ := exa_v nn10
  have E_CHUNK_END := Exa.start ev_CHUNK_END nn10
  have S_CHUNK_END := Sta.start ev_CHUNK_END (Or.inr ⟨(hw _ (List.mem_of_getElem? (i := 38) rfl)), (hw _ (List.mem_of_getElem? (i := 68) rfl))⟩)
  obtain ⟨w_TRAILER, ev_TRAILER⟩ := exa_v nn12
  have E_TRAILER := Exa.start ev_TRAILER nn12
  have S_TRAILER := Sta.start ev_TRAILER (Or.inr ⟨(hw _ (List.mem_of_getElem? (i := 38) rfl)), (hw _ (List.mem_of_getElem? (i := 70) rfl))⟩)
  have D_STATUS_LINE_ordinal : Fld s s.heap w_STATUS_LINE "java/lang/Enum" "ordinal" "I" (.int (0 : Int32)) := Fld.start ((fld_at ev_STATUS_LINE).symm.trans (eqi_v nn2))
  have D_WALKED_ordinal : Fld s s.heap w_WALKED "java/lang/Enum" "ordinal" "I" (.int (7 : Int32)) := Fld.start ((fld_at ev_WALKED).symm.trans (eqi_v nn3))
  have D_HELD_ordinal : Fld s s.heap w_HELD "java/lang/Enum" "ordinal" "I" (.int (2 : Int32)) := Fld.start ((fld_at ev_HELD).symm.trans (eqi_v nn5))
  have D_CHUNK_DATA_ordinal : Fld s s.heap w_CHUNK_DATA "java/lang/Enum" "ordinal" "I" (.int (4 : Int32)) := Fld.start ((fld_at ev_CHUNK_DATA).symm.trans (eqi_v nn7))
  have D_CHUNK_SIZE_ordinal : Fld s s.heap w_CHUNK_SIZE "java/lang/Enum" "ordinal" "I" (.int (3 : Int32)) := Fld.start ((fld_at ev_CHUNK_SIZE).symm.trans (eqi_v nn9))
  have D_CHUNK_END_ordinal : Fld s s.heap w_CHUNK_END "java/lang/Enum" "ordinal" "I" (.int (5 : Int32)) := Fld.start ((fld_at ev_CHUNK_END).symm.trans (eqi_v nn11))
  have D_TRAILER_ordinal : Fld s s.heap w_TRAILER "java/lang/Enum" "ordinal" "I" (.int (6 : Int32)) := Fld.start ((fld_at ev_TRAILER).symm.trans (eqi_v nn13))
  obtain ⟨n, o, h1, h2, h3, _, L, rfl, ⟨rfl, N⟩, hq⟩ := rm0 l s _ hw tables_1 i0 i1 i2 i3 w_STATUS_LINE w_WALKED w_HELD w_CHUNK_DATA w_CHUNK_SIZE w_CHUNK_END w_TRAILER s.heap s.heap.size (Nat.le_refl _) S_STATUS_LINE S_WALKED S_HELD S_CHUNK_DATA S_CHUNK_SIZE S_CHUNK_END S_TRAILER (Fld.ne D_STATUS_LINE_ordinal D_WALKED_ordinal (by decide)) (Fld.ne D_STATUS_LINE_ordinal D_HELD_ordinal (by decide)) (Fld.ne D_STATUS_LINE_ordinal D_CHUNK_DATA_ordinal (by decide)) (Fld.ne D_STATUS_LINE_ordinal D_CHUNK_SIZE_ordinal (by decide)) (Fld.ne D_STATUS_LINE_ordinal D_CHUNK_END_ordinal (by decide)) (Fld.ne D_STATUS_LINE_ordinal D_TRAILER_ordinal (by decide)) p e ha hc hk s m _ below hf ((Spec.applies_iff_loose hf).mp happ).1 ⟨rfl, State.Warmed39.refl s, rfl⟩ trivial
  refine ⟨n, _, h1, h2, h3, hpost _ _ _ _ _ _ ⟨Cond.after_iff.mpr rfl, Cond.after_iff.mpr (eq_i res_at (Term.int_eval (1)) rfl), trivial⟩ ⟨hq.1, hq.2.1, (hq.2.2.sift fun y hy => Or.inr (N y hy)).mono (by decide) (by decide)⟩⟩
theorem main_1_1 : Claimed_1_1 := comes_1 fun _ _ _ _ _ _ h hF => ⟨h.1, hF⟩
theorem main_1_2 : Claimed_1_2 := comes_1 fun _ _ _ _ _ _ h hF => ⟨h.2.1, hF⟩
end Jvm.Pilot.@@N@@
namespace Jvm.Pilot.@@N@@
open Jvm Jvm.ClassFile Sem Op Lib Jvm.Free Jvm.Stand Jvm.Pilot.@@N@@.Jvm.D
/-! MADE BY PROGRAM (witnessworld.py) out of the Statement's table words and the real class files: 18 classes; the members and pool entries that the words name. The judged class is class 1, her method 1. -/
namespace start1
open Jvm.ClassFile
def u (s : String) : CpInfo := .utf8 (stringToUtf16 s)
/-- a pool by its gaps: so many unusable entries, then the entry; so many at the end -/
def gap : Nat → List CpInfo → List CpInfo
  | 0, r => r
  | n + 1, r => .unusable :: gap n r
def poolList (es : List (Nat × CpInfo)) (last : Nat) : List CpInfo := es.foldr (fun e r => gap e.1 (e.2 :: r)) (gap last [])
def pool (es : List (Nat × CpInfo)) (last : Nat) : Array CpInfo := ⟨poolList es last⟩
def fileOf (pool : Array CpInfo) (this : Nat) (attrs : Array Attribute := #[]) (ms : Array MethodInfo := #[]) (fl : Nat := 33) (sup : Nat := 0) (ifs : Array Nat := #[]) (fds : Array FieldInfo := #[]) : ClassFile where
  minorVersion := 0
  majorVersion := 65
  constantPool := pool
  accessFlags := fl
  thisClass := this
  superClass := sup
  interfaces := ifs
  fields := fds
  methods := ms
  attributes := attrs
def plain (name : String) (sup : Option ClassId) : Class where
  name := name
  kind := .ordinary
  loader := none
  accessFlags := 33
  super := sup
  interfaces := #[]
  cf := none
  fields := #[]
  methods := #[]
  instanceTypes := #[]
  staticTypes := #[]
  resolved := #[]
  callSites := []
  init := .initialized
  statics := none
  mirror := none

def pool0 : Array CpInfo := pool [(5, u "<init>"), (0, u "()V"), (1, .class_ 10), (1, u "java/lang/Object")] 113

def k0c0 : Code := { maxStack := 0, maxLocals := 1, code := object_method_1_code, exceptionTable := #[], attributes := #[] }
def k0m0 : Method := { name := "<init>", desc := "()V", sig := { parameters := [], returnType := none }, accessFlags := 1, code := some k0c0 }
/-- java/lang/Object -/
def k0 : Class := { plain "java/lang/Object" none with
  accessFlags := 33
  interfaces := #[]
  cf := some (fileOf pool0 8 #[] #[{ accessFlags := 1, nameIndex := 5, descriptorIndex := 6, attributes := #[] }] 33 0 #[] #[])
  fields := #[]
  methods := #[k0m0]
  instanceTypes := #[]
  staticTypes := #[]
  resolved := Array.replicate 124 none
  statics := none }

def pool1 : Array CpInfo := pool [(2, .class_ 4), (0, .nameAndType 5 6), (0, u "java/lang/Object"), (0, u "<init>"), (0, u "()V"), (0, .methodref 8 9), (0, .class_ 10), (0, .nameAndType 11 12), (0, u "com/example/bounded_crawl/boundedcrawl/web/FramingEndPinLaw"), (0, u "pick"), (0, u "(JI)B"), (0, .class_ 14), (0, u "com/example/bounded_crawl/boundedcrawl/web/Framing"), (0, .methodref 13 3), (0, .methodref 13 17), (0, .nameAndType 18 19), (0, u "received"), (0, u "([BII)V"), (0, .methodref 13 21), (0, .nameAndType 22 23), (0, u "framed"), (0, u "(Z)V"), (0, .methodref 13 25), (0, .nameAndType 26 27), (0, u "end"), (0, u "(J)J"), (0, .methodref 13 29), (0, .nameAndType 30 31), (0, u "size"), (0, u "()J"), (2, u "law"), (0, u "(JIJI)Z")] 8

def k1m0 : Method := { name := "<init>", desc := "()V", sig := { parameters := [], returnType := none }, accessFlags := 1, code := none }
def k1c1 : Code := { maxStack := 5, maxLocals := 15, code := code, exceptionTable := #[], attributes := #[] }
def k1m1 : Method := { name := "law", desc := "(JIJI)Z", sig := { parameters := [.long, .int, .long, .int], returnType := some .boolean }, accessFlags := 9, code := some k1c1 }
def k1c2 : Code := { maxStack := 3, maxLocals := 4, code := method_3_code, exceptionTable := #[], attributes := #[] }
def k1m2 : Method := { name := "pick", desc := "(JI)B", sig := { parameters := [.long, .int], returnType := some .byte }, accessFlags := 10, code := some k1c2 }
/-- com/example/bounded_crawl/boundedcrawl/web/FramingEndPinLaw -/
def k1 : Class := { plain "com/example/bounded_crawl/boundedcrawl/web/FramingEndPinLaw" (some 0) with
  accessFlags := 49
  interfaces := #[]
  cf := some (fileOf pool1 8 #[] #[{ accessFlags := 1, nameIndex := 5, descriptorIndex := 6, attributes := #[] }, { accessFlags := 9, nameIndex := 34, descriptorIndex := 35, attributes := #[] }, { accessFlags := 10, nameIndex := 11, descriptorIndex := 12, attributes := #[] }] 49 2 #[] #[])
  fields := #[]
  methods := #[k1m0, k1m1, k1m2]
  instanceTypes := #[]
  staticTypes := #[]
  resolved := Array.replicate 44 none
  statics := none }

def pool2 : Array CpInfo := pool [(1, .methodref 2 3), (0, .class_ 4), (0, .nameAndType 5 6), (0, u "java/lang/Object"), (0, u "<init>"), (0, u "()V"), (0, .class_ 8), (0, u "java/io/ByteArrayOutputStream"), (0, .methodref 7 3), (0, .fieldref 11 12), (0, .class_ 13), (0, .nameAndType 14 15), (0, u "com/example/bounded_crawl/boundedcrawl/web/Framing"), (0, u "statusLine"), (0, u "Ljava/io/ByteArrayOutputStream;"), (0, .fieldref 11 17), (0, .nameAndType 18 15), (0, u "held"), (0, .fieldref 20 21), (0, .class_ 22), (0, .nameAndType 23 24), (0, u "com/example/bounded_crawl/boundedcrawl/web/Framing$Part"), (0, u "STATUS_LINE"), (0, u "Lcom/example/bounded_crawl/boundedcrawl/web/Framing$Part;"), (0, .fieldref 11 26), (0, .nameAndType 27 24), (0, u "part"), (0, .fieldref 11 29), (0, .nameAndType 30 31), (0, u "chunkDigits"), (0, u "Z"), (0, .fieldref 11 33), (0, .nameAndType 34 35), (0, u "size"), (0, u "J"), (0, .methodref 11 37), (0, .nameAndType 38 39), (0, u "walk"), (0, u "([BII)V"), (0, .fieldref 11 41), (0, .nameAndType 42 31), (0, u "chunked"), (0, .fieldref 20 44), (0, .nameAndType 45 24), (0, u "HELD"), (0, .fieldref 20 47), (0, .nameAndType 48 24), (0, u "CHUNK_SIZE"), (0, .fieldref 20 50), (0, .nameAndType 51 24), (0, u "WALKED"), (12, u "start"), (0, .fieldref 11 66), (0, .nameAndType 67 35), (0, u "position"), (2, u "write"), (0, .fieldref 20 72), (0, .nameAndType 73 24), (0, u "CHUNK_DATA"), (0, .fieldref 11 75), (0, .nameAndType 76 35), (0, u "chunkLeft"), (6, .fieldref 20 84), (0, .nameAndType 85 24), (0, u "CHUNK_END"), (0, .fieldref 11 87), (0, .nameAndType 88 35), (0, u "chunkFraming"), (0, .fieldref 20 90), (0, .nameAndType 91 24), (0, u "TRAILER"), (0, .long 1048576), (11, .methodref 11 105), (0, .nameAndType 106 107), (0, u "lineGrew"), (0, u "(B)V"), (0, .fieldref 11 109), (0, .nameAndType 110 111), (0, u "lineLength"), (0, u "I"), (0, .fieldref 11 113), (0, .nameAndType 114 115), (0, u "lineFirst"), (0, u "B"), (0, .integer 65536), (8, .methodref 7 126), (0, .nameAndType 70 127), (0, u "(I)V"), (6, .fieldref 11 135), (0, .nameAndType 136 35), (0, u "chunkSize"), (30, u "interim"), (5, u "Ljava/util/regex/Pattern;"), (31, u "MOST_CHUNK_LINE"), (1, u "MOST_FRAMING"), (4, u "received"), (1, u "framed"), (0, u "(Z)V"), (0, u "()J"), (0, u "end"), (0, u "(J)J")] 22

def k2c0 : Code := { maxStack := 3, maxLocals := 1, code := prog_44_method_1_code, exceptionTable := #[], attributes := #[] }
def k2m0 : Method := { name := "<init>", desc := "()V", sig := { parameters := [], returnType := none }, accessFlags := 0, code := some k2c0 }
def k2c1 : Code := { maxStack := 5, maxLocals := 4, code := prog_44_method_3_code, exceptionTable := #[], attributes := #[] }
def k2m1 : Method := { name := "received", desc := "([BII)V", sig := { parameters := [(.array .byte), .int, .int], returnType := none }, accessFlags := 0, code := some k2c1 }
def k2c2 : Code := { maxStack := 4, maxLocals := 2, code := prog_44_method_4_code, exceptionTable := #[], attributes := #[] }
def k2m2 : Method := { name := "framed", desc := "(Z)V", sig := { parameters := [.boolean], returnType := none }, accessFlags := 0, code := some k2c2 }
def k2c3 : Code := { maxStack := 2, maxLocals := 1, code := prog_44_method_5_code, exceptionTable := #[], attributes := #[] }
def k2m3 : Method := { name := "size", desc := "()J", sig := { parameters := [], returnType := some .long }, accessFlags := 0, code := some k2c3 }
def k2c4 : Code := { maxStack := 4, maxLocals := 3, code := prog_44_method_7_code, exceptionTable := #[], attributes := #[] }
def k2m4 : Method := { name := "end", desc := "(J)J", sig := { parameters := [.long], returnType := some .long }, accessFlags := 0, code := some k2c4 }
def k2c5 : Code := { maxStack := 5, maxLocals := 6, code := prog_44_method_8_code, exceptionTable := #[], attributes := #[] }
def k2m5 : Method := { name := "walk", desc := "([BII)V", sig := { parameters := [(.array .byte), .int, .int], returnType := none }, accessFlags := 2, code := some k2c5 }
def k2c6 : Code := { maxStack := 5, maxLocals := 4, code := prog_44_method_9_code, exceptionTable := #[], attributes := #[] }
def k2m6 : Method := { name := "lineGrew", desc := "(B)V", sig := { parameters := [.byte], returnType := none }, accessFlags := 2, code := some k2c6 }
/-- com/example/bounded_crawl/boundedcrawl/web/Framing -/
def k2 : Class := { plain "com/example/bounded_crawl/boundedcrawl/web/Framing" (some 0) with
  accessFlags := 32
  interfaces := #[]
  cf := some (fileOf pool2 11 #[.nestMembers #[20]] #[{ accessFlags := 0, nameIndex := 5, descriptorIndex := 6, attributes := #[] }, { accessFlags := 0, nameIndex := 212, descriptorIndex := 39, attributes := #[] }, { accessFlags := 0, nameIndex := 214, descriptorIndex := 215, attributes := #[] }, { accessFlags := 0, nameIndex := 34, descriptorIndex := 216, attributes := #[] }, { accessFlags := 0, nameIndex := 217, descriptorIndex := 218, attributes := #[] }, { accessFlags := 2, nameIndex := 38, descriptorIndex := 39, attributes := #[] }, { accessFlags := 2, nameIndex := 106, descriptorIndex := 107, attributes := #[] }] 32 2 #[] #[{ accessFlags := 24, nameIndex := 205, descriptorIndex := 111, attributes := #[] }, { accessFlags := 24, nameIndex := 207, descriptorIndex := 111, attributes := #[] }, { accessFlags := 26, nameIndex := 23, descriptorIndex := 173, attributes := #[] }, { accessFlags := 18, nameIndex := 14, descriptorIndex := 15, attributes := #[] }, { accessFlags := 18, nameIndex := 18, descriptorIndex := 15, attributes := #[] }, { accessFlags := 2, nameIndex := 27, descriptorIndex := 24, attributes := #[] }, { accessFlags := 2, nameIndex := 167, descriptorIndex := 31, attributes := #[] }, { accessFlags := 2, nameIndex := 42, descriptorIndex := 31, attributes := #[] }, { accessFlags := 2, nameIndex := 34, descriptorIndex := 35, attributes := #[] }, { accessFlags := 2, nameIndex := 67, descriptorIndex := 35, attributes := #[] }, { accessFlags := 2, nameIndex := 64, descriptorIndex := 35, attributes := #[] }, { accessFlags := 2, nameIndex := 88, descriptorIndex := 35, attributes := #[] }, { accessFlags := 2, nameIndex := 110, descriptorIndex := 111, attributes := #[] }, { accessFlags := 2, nameIndex := 114, descriptorIndex := 115, attributes := #[] }, { accessFlags := 2, nameIndex := 136, descriptorIndex := 35, attributes := #[] }, { accessFlags := 2, nameIndex := 30, descriptorIndex := 31, attributes := #[] }, { accessFlags := 2, nameIndex := 76, descriptorIndex := 35, attributes := #[] }])
  fields := #[{ name := "MOST_CHUNK_LINE", type := .int, accessFlags := 24, slot := 0, constantValue := 0 }, { name := "MOST_FRAMING", type := .int, accessFlags := 24, slot := 1, constantValue := 0 }, { name := "STATUS_LINE", type := (.object "java/util/regex/Pattern"), accessFlags := 26, slot := 2, constantValue := 0 }, { name := "statusLine", type := (.object "java/io/ByteArrayOutputStream"), accessFlags := 18, slot := 0, constantValue := 0 }, { name := "held", type := (.object "java/io/ByteArrayOutputStream"), accessFlags := 18, slot := 1, constantValue := 0 }, { name := "part", type := (.object "com/example/bounded_crawl/boundedcrawl/web/Framing$Part"), accessFlags := 2, slot := 2, constantValue := 0 }, { name := "interim", type := .boolean, accessFlags := 2, slot := 3, constantValue := 0 }, { name := "chunked", type := .boolean, accessFlags := 2, slot := 4, constantValue := 0 }, { name := "size", type := .long, accessFlags := 2, slot := 5, constantValue := 0 }, { name := "position", type := .long, accessFlags := 2, slot := 6, constantValue := 0 }, { name := "start", type := .long, accessFlags := 2, slot := 7, constantValue := 0 }, { name := "chunkFraming", type := .long, accessFlags := 2, slot := 8, constantValue := 0 }, { name := "lineLength", type := .int, accessFlags := 2, slot := 9, constantValue := 0 }, { name := "lineFirst", type := .byte, accessFlags := 2, slot := 10, constantValue := 0 }, { name := "chunkSize", type := .long, accessFlags := 2, slot := 11, constantValue := 0 }, { name := "chunkDigits", type := .boolean, accessFlags := 2, slot := 12, constantValue := 0 }, { name := "chunkLeft", type := .long, accessFlags := 2, slot := 13, constantValue := 0 }]
  methods := #[k2m0, k2m1, k2m2, k2m3, k2m4, k2m5, k2m6]
  instanceTypes := #[(.object "java/io/ByteArrayOutputStream"), (.object "java/io/ByteArrayOutputStream"), (.object "com/example/bounded_crawl/boundedcrawl/web/Framing$Part"), .boolean, .boolean, .long, .long, .long, .long, .int, .byte, .long, .boolean, .long]
  staticTypes := #[.int, .int, (.object "java/util/regex/Pattern")]
  resolved := Array.replicate 241 none
  statics := none }

def pool3 : Array CpInfo := pool [(1, .class_ 2), (0, u "java/lang/AutoCloseable"), (0, .class_ 4), (0, u "java/lang/Object")] 7

/-- java/lang/AutoCloseable -/
def k3 : Class := { plain "java/lang/AutoCloseable" (some 0) with
  accessFlags := 1537
  interfaces := #[]
  cf := some (fileOf pool3 1 #[] #[] 1537 3 #[] #[])
  fields := #[]
  methods := #[]
  instanceTypes := #[]
  staticTypes := #[]
  resolved := Array.replicate 12 none
  statics := none }

def pool4 : Array CpInfo := pool [(1, .class_ 2), (0, u "java/io/Closeable"), (0, .class_ 4), (0, u "java/lang/Object"), (0, .class_ 6), (0, u "java/lang/AutoCloseable")] 7

/-- java/io/Closeable -/
def k4 : Class := { plain "java/io/Closeable" (some 0) with
  accessFlags := 1537
  interfaces := #[3]
  cf := some (fileOf pool4 1 #[] #[] 1537 3 #[5] #[])
  fields := #[]
  methods := #[]
  instanceTypes := #[]
  staticTypes := #[]
  resolved := Array.replicate 14 none
  statics := none }

def pool5 : Array CpInfo := pool [(1, .class_ 2), (0, u "java/io/Flushable"), (0, .class_ 4), (0, u "java/lang/Object")] 7

/-- java/io/Flushable -/
def k5 : Class := { plain "java/io/Flushable" (some 0) with
  accessFlags := 1537
  interfaces := #[]
  cf := some (fileOf pool5 1 #[] #[] 1537 3 #[] #[])
  fields := #[]
  methods := #[]
  instanceTypes := #[]
  staticTypes := #[]
  resolved := Array.replicate 12 none
  statics := none }

def pool6 : Array CpInfo := pool [(1, .methodref 2 3), (0, .class_ 4), (0, .nameAndType 5 6), (0, u "java/lang/Object"), (0, u "<init>"), (0, u "()V"), (0, .class_ 8), (0, u "java/io/OutputStream$1"), (2, .class_ 13), (1, u "java/io/OutputStream"), (11, .class_ 26), (0, u "java/io/Closeable"), (0, .class_ 28), (0, u "java/io/Flushable")] 24

def k6c0 : Code := { maxStack := 1, maxLocals := 1, code := jdk_2038_method_1_code, exceptionTable := #[], attributes := #[] }
def k6m0 : Method := { name := "<init>", desc := "()V", sig := { parameters := [], returnType := none }, accessFlags := 1, code := some k6c0 }
/-- java/io/OutputStream -/
def k6 : Class := { plain "java/io/OutputStream" (some 0) with
  accessFlags := 1057
  interfaces := #[4, 5]
  cf := some (fileOf pool6 11 #[.nestMembers #[7]] #[{ accessFlags := 1, nameIndex := 5, descriptorIndex := 6, attributes := #[] }] 1057 2 #[25, 27] #[])
  fields := #[]
  methods := #[k6m0]
  instanceTypes := #[]
  staticTypes := #[]
  resolved := Array.replicate 53 none
  statics := none }

def pool7 : Array CpInfo := pool [(1, .methodref 2 3), (0, .class_ 4), (0, .nameAndType 5 6), (0, u "java/io/ByteArrayOutputStream"), (0, u "<init>"), (0, u "(I)V"), (0, .methodref 8 9), (0, .class_ 10), (0, .nameAndType 5 11), (0, u "java/io/OutputStream"), (0, u "()V"), (21, .fieldref 2 34), (0, .nameAndType 35 36), (0, u "buf"), (0, u "[B"), (12, .fieldref 2 50), (0, .nameAndType 51 52), (0, u "count"), (0, u "I"), (0, .methodref 2 54), (0, .nameAndType 55 6), (0, u "ensureCapacity"), (13, u "write")] 75

def k7c0 : Code := { maxStack := 2, maxLocals := 1, code := jdk_2005_method_1_code, exceptionTable := #[], attributes := #[] }
def k7m0 : Method := { name := "<init>", desc := "()V", sig := { parameters := [], returnType := none }, accessFlags := 1, code := some k7c0 }
def k7c1 : Code := { maxStack := 4, maxLocals := 2, code := jdk_2005_method_2_code, exceptionTable := #[], attributes := #[] }
def k7m1 : Method := { name := "<init>", desc := "(I)V", sig := { parameters := [.int], returnType := none }, accessFlags := 1, code := some k7c1 }
def k7c2 : Code := { maxStack := 5, maxLocals := 4, code := jdk_2005_method_3_code, exceptionTable := #[], attributes := #[] }
def k7m2 : Method := { name := "ensureCapacity", desc := "(I)V", sig := { parameters := [.int], returnType := none }, accessFlags := 2, code := some k7c2 }
def k7c3 : Code := { maxStack := 3, maxLocals := 2, code := ⟨#[0x2a, 0x2a, 0xb4, 0x00, 0x31, 0x04, 0x60, 0xb6, 0x00, 0x35, 0x2a, 0xb4, 0x00, 0x21, 0x2a, 0xb4, 0x00, 0x31, 0x1b, 0x91, 0x54, 0x2a, 0x59, 0xb4, 0x00, 0x31, 0x04, 0x60, 0xb5, 0x00, 0x31, 0xb1]⟩, exceptionTable := #[], attributes := #[] }
def k7m3 : Method := { name := "write", desc := "(I)V", sig := { parameters := [.int], returnType := none }, accessFlags := 33, code := some k7c3 }
/-- java/io/ByteArrayOutputStream -/
def k7 : Class := { plain "java/io/ByteArrayOutputStream" (some 6) with
  accessFlags := 33
  interfaces := #[]
  cf := some (fileOf pool7 2 #[] #[{ accessFlags := 1, nameIndex := 5, descriptorIndex := 11, attributes := #[] }, { accessFlags := 1, nameIndex := 5, descriptorIndex := 6, attributes := #[] }, { accessFlags := 2, nameIndex := 55, descriptorIndex := 6, attributes := #[] }, { accessFlags := 33, nameIndex := 69, descriptorIndex := 6, attributes := #[] }] 33 8 #[] #[{ accessFlags := 4, nameIndex := 35, descriptorIndex := 36, attributes := #[] }, { accessFlags := 4, nameIndex := 51, descriptorIndex := 52, attributes := #[] }])
  fields := #[{ name := "buf", type := (.array .byte), accessFlags := 4, slot := 0, constantValue := 0 }, { name := "count", type := .int, accessFlags := 4, slot := 1, constantValue := 0 }]
  methods := #[k7m0, k7m1, k7m2, k7m3]
  instanceTypes := #[(.array .byte), .int]
  staticTypes := #[]
  resolved := Array.replicate 145 none
  statics := none }

def pool8 : Array CpInfo := pool [(1, .class_ 2), (0, u "java/lang/constant/Constable"), (0, .class_ 4), (0, u "java/lang/Object")] 6

/-- java/lang/constant/Constable -/
def k8 : Class := { plain "java/lang/constant/Constable" (some 0) with
  accessFlags := 1537
  interfaces := #[]
  cf := some (fileOf pool8 1 #[] #[] 1537 3 #[] #[])
  fields := #[]
  methods := #[]
  instanceTypes := #[]
  staticTypes := #[]
  resolved := Array.replicate 11 none
  statics := none }

def pool9 : Array CpInfo := pool [(1, .class_ 2), (0, u "java/lang/Comparable"), (0, .class_ 4), (0, u "java/lang/Object")] 7

/-- java/lang/Comparable -/
def k9 : Class := { plain "java/lang/Comparable" (some 0) with
  accessFlags := 1537
  interfaces := #[]
  cf := some (fileOf pool9 1 #[] #[] 1537 3 #[] #[])
  fields := #[]
  methods := #[]
  instanceTypes := #[]
  staticTypes := #[]
  resolved := Array.replicate 12 none
  statics := none }

def pool10 : Array CpInfo := pool [(1, .class_ 2), (0, u "java/io/Serializable"), (0, .class_ 4), (0, u "java/lang/Object")] 2

/-- java/io/Serializable -/
def k10 : Class := { plain "java/io/Serializable" (some 0) with
  accessFlags := 1537
  interfaces := #[]
  cf := some (fileOf pool10 1 #[] #[] 1537 3 #[] #[])
  fields := #[]
  methods := #[]
  instanceTypes := #[]
  staticTypes := #[]
  resolved := Array.replicate 7 none
  statics := none }

def pool11 : Array CpInfo := pool [(2, .class_ 4), (1, u "java/lang/Enum"), (0, u "name"), (0, u "Ljava/lang/String;"), (2, u "ordinal"), (0, u "I"), (1, .class_ 14), (1, u "java/lang/Object"), (4, u "hash"), (86, .class_ 108), (1, u "java/lang/Enum$EnumDesc"), (2, .class_ 112), (0, u "java/lang/constant/Constable"), (0, .class_ 114), (0, u "java/lang/Comparable"), (0, .class_ 116), (0, u "java/io/Serializable")] 87

/-- java/lang/Enum -/
def k11 : Class := { plain "java/lang/Enum" (some 0) with
  accessFlags := 1057
  interfaces := #[8, 9, 10]
  cf := some (fileOf pool11 2 #[.nestMembers #[106]] #[] 1057 12 #[111, 113, 115] #[{ accessFlags := 18, nameIndex := 5, descriptorIndex := 6, attributes := #[] }, { accessFlags := 18, nameIndex := 9, descriptorIndex := 10, attributes := #[] }, { accessFlags := 2, nameIndex := 19, descriptorIndex := 10, attributes := #[] }])
  fields := #[{ name := "name", type := (.object "java/lang/String"), accessFlags := 18, slot := 0, constantValue := 0 }, { name := "ordinal", type := .int, accessFlags := 18, slot := 1, constantValue := 0 }, { name := "hash", type := .int, accessFlags := 2, slot := 2, constantValue := 0 }]
  methods := #[]
  instanceTypes := #[(.object "java/lang/String"), .int, .int]
  staticTypes := #[]
  resolved := Array.replicate 204 none
  statics := none }

def pool12 : Array CpInfo := pool [(1, .class_ 2), (0, u "com/example/bounded_crawl/boundedcrawl/web/Framing$Part"), (2, u "STATUS_LINE"), (0, u "Lcom/example/bounded_crawl/boundedcrawl/web/Framing$Part;"), (2, u "HEADER_FIELDS"), (2, u "HELD"), (2, u "CHUNK_SIZE"), (2, u "CHUNK_DATA"), (2, u "CHUNK_END"), (2, u "TRAILER"), (2, u "WALKED"), (2, u "$VALUES"), (0, u "[Lcom/example/bounded_crawl/boundedcrawl/web/Framing$Part;"), (6, .class_ 40), (1, u "java/lang/Enum"), (31, .class_ 73), (0, u "com/example/bounded_crawl/boundedcrawl/web/Framing")] 2

/-- com/example/bounded_crawl/boundedcrawl/web/Framing$Part -/
def k12 : Class := { plain "com/example/bounded_crawl/boundedcrawl/web/Framing$Part" (some 11) with
  accessFlags := 16432
  interfaces := #[]
  cf := some (fileOf pool12 1 #[.nestHost 72] #[] 16432 38 #[] #[{ accessFlags := 16409, nameIndex := 5, descriptorIndex := 6, attributes := #[] }, { accessFlags := 16409, nameIndex := 9, descriptorIndex := 6, attributes := #[] }, { accessFlags := 16409, nameIndex := 12, descriptorIndex := 6, attributes := #[] }, { accessFlags := 16409, nameIndex := 15, descriptorIndex := 6, attributes := #[] }, { accessFlags := 16409, nameIndex := 18, descriptorIndex := 6, attributes := #[] }, { accessFlags := 16409, nameIndex := 21, descriptorIndex := 6, attributes := #[] }, { accessFlags := 16409, nameIndex := 24, descriptorIndex := 6, attributes := #[] }, { accessFlags := 16409, nameIndex := 27, descriptorIndex := 6, attributes := #[] }, { accessFlags := 4122, nameIndex := 30, descriptorIndex := 31, attributes := #[] }])
  fields := #[{ name := "STATUS_LINE", type := (.object "com/example/bounded_crawl/boundedcrawl/web/Framing$Part"), accessFlags := 16409, slot := 0, constantValue := 0 }, { name := "HEADER_FIELDS", type := (.object "com/example/bounded_crawl/boundedcrawl/web/Framing$Part"), accessFlags := 16409, slot := 1, constantValue := 0 }, { name := "HELD", type := (.object "com/example/bounded_crawl/boundedcrawl/web/Framing$Part"), accessFlags := 16409, slot := 2, constantValue := 0 }, { name := "CHUNK_SIZE", type := (.object "com/example/bounded_crawl/boundedcrawl/web/Framing$Part"), accessFlags := 16409, slot := 3, constantValue := 0 }, { name := "CHUNK_DATA", type := (.object "com/example/bounded_crawl/boundedcrawl/web/Framing$Part"), accessFlags := 16409, slot := 4, constantValue := 0 }, { name := "CHUNK_END", type := (.object "com/example/bounded_crawl/boundedcrawl/web/Framing$Part"), accessFlags := 16409, slot := 5, constantValue := 0 }, { name := "TRAILER", type := (.object "com/example/bounded_crawl/boundedcrawl/web/Framing$Part"), accessFlags := 16409, slot := 6, constantValue := 0 }, { name := "WALKED", type := (.object "com/example/bounded_crawl/boundedcrawl/web/Framing$Part"), accessFlags := 16409, slot := 7, constantValue := 0 }, { name := "$VALUES", type := (.array (.object "com/example/bounded_crawl/boundedcrawl/web/Framing$Part")), accessFlags := 4122, slot := 8, constantValue := 0 }]
  methods := #[]
  instanceTypes := #[(.object "java/lang/String"), .int, .int]
  staticTypes := #[(.object "com/example/bounded_crawl/boundedcrawl/web/Framing$Part"), (.object "com/example/bounded_crawl/boundedcrawl/web/Framing$Part"), (.object "com/example/bounded_crawl/boundedcrawl/web/Framing$Part"), (.object "com/example/bounded_crawl/boundedcrawl/web/Framing$Part"), (.object "com/example/bounded_crawl/boundedcrawl/web/Framing$Part"), (.object "com/example/bounded_crawl/boundedcrawl/web/Framing$Part"), (.object "com/example/bounded_crawl/boundedcrawl/web/Framing$Part"), (.object "com/example/bounded_crawl/boundedcrawl/web/Framing$Part"), (.array (.object "com/example/bounded_crawl/boundedcrawl/web/Framing$Part"))]
  resolved := Array.replicate 76 none
  statics := some 0 }

def pool13 : Array CpInfo := pool [(1, u "java/lang/Cloneable"), (0, .class_ 1), (0, u "java/lang/Object"), (0, .class_ 3)] 3

/-- java/lang/Cloneable -/
def k13 : Class := { plain "java/lang/Cloneable" (some 0) with
  accessFlags := 1537
  interfaces := #[]
  cf := some (fileOf pool13 2 #[] #[] 1537 4 #[] #[])
  fields := #[]
  methods := #[]
  instanceTypes := #[]
  staticTypes := #[]
  resolved := Array.replicate 8 none
  statics := none }

/-- the primitive byte -/
def k14 : Class := { plain "byte" none with kind := .primitive 'B', accessFlags := 0x411 }
/-- [B -/
def k15 : Class := { plain "[B" (some 0) with kind := .array 14 .byte, interfaces := #[13, 10], accessFlags := 1041 }

/-- the primitive int -/
def k16 : Class := { plain "int" none with kind := .primitive 'I', accessFlags := 0x411 }
/-- [I -/
def k17 : Class := { plain "[I" (some 0) with kind := .array 16 .int, interfaces := #[13, 10], accessFlags := 1041 }

def heap : Heap := #[{ cls := 12, slots := #[.ref 1, .null, .ref 3, .ref 5, .ref 4, .ref 6, .ref 7, .ref 2, .null], vm := .statics 12 },
  { cls := 12, slots := #[.null, .int 0, .int 0], vm := .none },
  { cls := 12, slots := #[.null, .int 7, .int 0], vm := .none },
  { cls := 12, slots := #[.null, .int 2, .int 0], vm := .none },
  { cls := 12, slots := #[.null, .int 4, .int 0], vm := .none },
  { cls := 12, slots := #[.null, .int 3, .int 0], vm := .none },
  { cls := 12, slots := #[.null, .int 5, .int 0], vm := .none },
  { cls := 12, slots := #[.null, .int 6, .int 0], vm := .none }]
def classes : Array Class := #[k0, k1, k2, k3, k4, k5, k6, k7, k8, k9, k10, k11, k12, k13, k14, k15, k16, k17]
def interned : List (Array UInt16 × Addr) := []
def slotsUsed : Nat := 30
def theMethod : MethodId := ⟨1, 1⟩
def args0 : Array Value := #[.long 5, .int 19, .long 7, .int 1]
def aboutOver (below : List Frame) : State where
  vm := { classes := classes, interned := interned.toArray }
  heap := heap
  slotsUsed := slotsUsed
  threads := #[{ frames := .invoking theMethod args0 :: below }]
def below0 : List Frame := [.native { method := ⟨0, 0⟩, args := #[] }]
def about1 : State := aboutOver below0
def p0 : Program := .bare "" "" ""
def e0 : Env := launch0.env 0 0 0
theorem w_frames : about1.frames = Frame.invoking theMethod args0 :: below0 := rfl
set_option maxRecDepth 65536 in
theorem w_args : argsFit about1.vm theMethod args0 = true := by decide +kernel
set_option maxRecDepth 65536 in
theorem w_heap : heapFits about1 = true := by decide +kernel
set_option maxRecDepth 65536 in
theorem w_runnable : about1.curStatus? = some .runnable := by decide +kernel
set_option maxRecDepth 65536 in
theorem w_alone : about1.alone = true := by decide +kernel
set_option maxRecDepth 65536 in
theorem w_named : about1.methodNamed? x = some theMethod := by decide +kernel
set_option maxRecDepth 65536 in
theorem w_hears : about1.hears theMethod below0 = true := by decide +kernel
set_option maxRecDepth 65536 in
theorem w_ripe : about1.ripe theMethod args0 below0 = true := by decide +kernel
theorem w_running : about1.status = .running := rfl
set_option maxRecDepth 65536 in
theorem w_room : about1.hasRoom e0.platform room_1 = true :=
  launch0.hasRoom_least _ room_1 (by decide +kernel) (by decide +kernel) (by decide +kernel) (by decide +kernel) (by decide +kernel) (by decide +kernel)
theorem allAtoms_all (ts : List Jvm.Cond) (a : Array Jvm.Value) (st : Jvm.State) : (allAtoms ts).before a st = ts.all (fun c => c.before a st) := by
  induction ts with
  | nil => rfl
  | cons c t ih =>
    show (Jvm.Cond.and c (allAtoms t)).before a st = _
    rw [Jvm.Cond.before_and, ih, List.all_cons]
def words1 : List Jvm.Cond := Jvm.Cond.code x code maxLocals ret :: tables_1
/-- a 'code' word, met by the world's own term for the bytes: nothing is compared byte by byte -/
theorem code_word {y : MethodName} {bytes : ByteArray} {mx : Nat} {rt : Option FieldType} {a : Array Value} {s : State} {m : MethodId} {meth : Method} {c : Code} (h1 : s.methodNamed? y = some m) (h2 : s.vm.method? m = some meth) (h3 : meth.code = some c) (h4 : c.code = bytes)
    (h5 : (c.maxLocals == mx && c.exceptionTable.isEmpty && decide (c.maxStack ≤ mostOperands) && decide (meth.sig.returnType = rt) && !meth.locks && decide (parseMethodDescriptor y.desc = some meth.sig)) = true) : (Jvm.Cond.code y bytes mx rt).before a s = true := by
  simp only [Bool.and_eq_true, beq_iff_eq, Bool.not_eq_true', decide_eq_true_eq] at h5
  obtain ⟨⟨⟨⟨⟨g1, g2⟩, g3⟩, g4⟩, g5⟩, g6⟩ := h5
  simp [Cond.before, Cond.holds, Cond.value, h1, h2, h3, h4, g1, g2, g3, g4, g5, g6]
def isCode : Jvm.Cond → Bool
  | .code _ _ _ _ => true
  | _ => false
theorem all_split {L : List Jvm.Cond} {P : Jvm.Cond → Bool} (h1 : L.all (fun c => isCode c || P c) = true) (h2 : ∀ c ∈ L.filter isCode, P c = true) : L.all P = true := by
  refine List.all_eq_true.mpr fun c hc => ?_
  have h := List.all_eq_true.mp h1 c hc
  rcases Bool.eq_false_or_eq_true (isCode c) with hi | hi
  · exact h2 c (List.mem_filter.mpr ⟨hc, hi⟩)
  · simpa [hi] using h
set_option maxRecDepth 65536 in
theorem w_c0 : (Jvm.Cond.code x code maxLocals ret).before args0 about1 = true := code_word (m := ⟨1, 1⟩) (meth := k1m1) (c := k1c1) (by decide +kernel) rfl rfl rfl (by decide +kernel)
set_option maxRecDepth 65536 in
theorem w_c1 : (Jvm.Cond.code ({ cls := "com/example/bounded_crawl/boundedcrawl/web/FramingEndPinLaw", name := "pick", desc := "(JI)B" } : Jvm.MethodName) method_3_code (4 : Nat) (Option.some Jvm.ClassFile.FieldType.byte)).before args0 about1 = true := code_word (m := ⟨1, 2⟩) (meth := k1m2) (c := k1c2) (by decide +kernel) rfl rfl rfl (by decide +kernel)
set_option maxRecDepth 65536 in
theorem w_c2 : (Jvm.Cond.code ({ cls := "com/example/bounded_crawl/boundedcrawl/web/Framing", name := "<init>", desc := "()V" } : Jvm.MethodName) prog_44_method_1_code (1 : Nat) (Option.none : Option Jvm.ClassFile.FieldType)).before args0 about1 = true := code_word (m := ⟨2, 0⟩) (meth := k2m0) (c := k2c0) (by decide +kernel) rfl rfl rfl (by decide +kernel)
set_option maxRecDepth 65536 in
theorem w_c3 : (Jvm.Cond.code ({ cls := "java/lang/Object", name := "<init>", desc := "()V" } : Jvm.MethodName) object_method_1_code (1 : Nat) (Option.none : Option Jvm.ClassFile.FieldType)).before args0 about1 = true := code_word (m := ⟨0, 0⟩) (meth := k0m0) (c := k0c0) (by decide +kernel) rfl rfl rfl (by decide +kernel)
set_option maxRecDepth 65536 in
theorem w_c4 : (Jvm.Cond.code ({ cls := "java/io/ByteArrayOutputStream", name := "<init>", desc := "()V" } : Jvm.MethodName) jdk_2005_method_1_code (1 : Nat) (Option.none : Option Jvm.ClassFile.FieldType)).before args0 about1 = true := code_word (m := ⟨7, 0⟩) (meth := k7m0) (c := k7c0) (by decide +kernel) rfl rfl rfl (by decide +kernel)
set_option maxRecDepth 65536 in
theorem w_c5 : (Jvm.Cond.code ({ cls := "java/io/ByteArrayOutputStream", name := "<init>", desc := "(I)V" } : Jvm.MethodName) jdk_2005_method_2_code (2 : Nat) (Option.none : Option Jvm.ClassFile.FieldType)).before args0 about1 = true := code_word (m := ⟨7, 1⟩) (meth := k7m1) (c := k7c1) (by decide +kernel) rfl rfl rfl (by decide +kernel)
set_option maxRecDepth 65536 in
theorem w_c6 : (Jvm.Cond.code ({ cls := "java/io/OutputStream", name := "<init>", desc := "()V" } : Jvm.MethodName) jdk_2038_method_1_code (1 : Nat) (Option.none : Option Jvm.ClassFile.FieldType)).before args0 about1 = true := code_word (m := ⟨6, 0⟩) (meth := k6m0) (c := k6c0) (by decide +kernel) rfl rfl rfl (by decide +kernel)
set_option maxRecDepth 65536 in
theorem w_c7 : (Jvm.Cond.code ({ cls := "com/example/bounded_crawl/boundedcrawl/web/Framing", name := "received", desc := "([BII)V" } : Jvm.MethodName) prog_44_method_3_code (4 : Nat) (Option.none : Option Jvm.ClassFile.FieldType)).before args0 about1 = true := code_word (m := ⟨2, 1⟩) (meth := k2m1) (c := k2c1) (by decide +kernel) rfl rfl rfl (by decide +kernel)
set_option maxRecDepth 65536 in
theorem w_c8 : (Jvm.Cond.code ({ cls := "com/example/bounded_crawl/boundedcrawl/web/Framing", name := "walk", desc := "([BII)V" } : Jvm.MethodName) prog_44_method_8_code (6 : Nat) (Option.none : Option Jvm.ClassFile.FieldType)).before args0 about1 = true := code_word (m := ⟨2, 5⟩) (meth := k2m5) (c := k2c5) (by decide +kernel) rfl rfl rfl (by decide +kernel)
set_option maxRecDepth 65536 in
theorem w_c9 : (Jvm.Cond.code ({ cls := "com/example/bounded_crawl/boundedcrawl/web/Framing", name := "lineGrew", desc := "(B)V" } : Jvm.MethodName) prog_44_method_9_code (4 : Nat) (Option.none : Option Jvm.ClassFile.FieldType)).before args0 about1 = true := code_word (m := ⟨2, 6⟩) (meth := k2m6) (c := k2c6) (by decide +kernel) rfl rfl rfl (by decide +kernel)
set_option maxRecDepth 65536 in
theorem w_c10 : (Jvm.Cond.code ({ cls := "java/io/ByteArrayOutputStream", name := "ensureCapacity", desc := "(I)V" } : Jvm.MethodName) jdk_2005_method_3_code (4 : Nat) (Option.none : Option Jvm.ClassFile.FieldType)).before args0 about1 = true := code_word (m := ⟨7, 2⟩) (meth := k7m2) (c := k7c2) (by decide +kernel) rfl rfl rfl (by decide +kernel)
set_option maxRecDepth 65536 in
theorem w_c11 : (Jvm.Cond.code ({ cls := "com/example/bounded_crawl/boundedcrawl/web/Framing", name := "framed", desc := "(Z)V" } : Jvm.MethodName) prog_44_method_4_code (2 : Nat) (Option.none : Option Jvm.ClassFile.FieldType)).before args0 about1 = true := code_word (m := ⟨2, 2⟩) (meth := k2m2) (c := k2c2) (by decide +kernel) rfl rfl rfl (by decide +kernel)
set_option maxRecDepth 65536 in
theorem w_c12 : (Jvm.Cond.code ({ cls := "com/example/bounded_crawl/boundedcrawl/web/Framing", name := "end", desc := "(J)J" } : Jvm.MethodName) prog_44_method_7_code (3 : Nat) (Option.some Jvm.ClassFile.FieldType.long)).before args0 about1 = true := code_word (m := ⟨2, 4⟩) (meth := k2m4) (c := k2c4) (by decide +kernel) rfl rfl rfl (by decide +kernel)
set_option maxRecDepth 65536 in
theorem w_c13 : (Jvm.Cond.code ({ cls := "com/example/bounded_crawl/boundedcrawl/web/Framing", name := "size", desc := "()J" } : Jvm.MethodName) prog_44_method_5_code (1 : Nat) (Option.some Jvm.ClassFile.FieldType.long)).before args0 about1 = true := code_word (m := ⟨2, 3⟩) (meth := k2m3) (c := k2c3) (by decide +kernel) rfl rfl rfl (by decide +kernel)
def codes1 : List Jvm.Cond := [Jvm.Cond.code x code maxLocals ret, Jvm.Cond.code ({ cls := "com/example/bounded_crawl/boundedcrawl/web/FramingEndPinLaw", name := "pick", desc := "(JI)B" } : Jvm.MethodName) method_3_code (4 : Nat) (Option.some Jvm.ClassFile.FieldType.byte), Jvm.Cond.code ({ cls := "com/example/bounded_crawl/boundedcrawl/web/Framing", name := "<init>", desc := "()V" } : Jvm.MethodName) prog_44_method_1_code (1 : Nat) (Option.none : Option Jvm.ClassFile.FieldType), Jvm.Cond.code ({ cls := "java/lang/Object", name := "<init>", desc := "()V" } : Jvm.MethodName) object_method_1_code (1 : Nat) (Option.none : Option Jvm.ClassFile.FieldType), Jvm.Cond.code ({ cls := "java/io/ByteArrayOutputStream", name := "<init>", desc := "()V" } : Jvm.MethodName) jdk_2005_method_1_code (1 : Nat) (Option.none : Option Jvm.ClassFile.FieldType), Jvm.Cond.code ({ cls := "java/io/ByteArrayOutputStream", name := "<init>", desc := "(I)V" } : Jvm.MethodName) jdk_2005_method_2_code (2 : Nat) (Option.none : Option Jvm.ClassFile.FieldType), Jvm.Cond.code ({ cls := "java/io/OutputStream", name := "<init>", desc := "()V" } : Jvm.MethodName) jdk_2038_method_1_code (1 : Nat) (Option.none : Option Jvm.ClassFile.FieldType), Jvm.Cond.code ({ cls := "com/example/bounded_crawl/boundedcrawl/web/Framing", name := "received", desc := "([BII)V" } : Jvm.MethodName) prog_44_method_3_code (4 : Nat) (Option.none : Option Jvm.ClassFile.FieldType), Jvm.Cond.code ({ cls := "com/example/bounded_crawl/boundedcrawl/web/Framing", name := "walk", desc := "([BII)V" } : Jvm.MethodName) prog_44_method_8_code (6 : Nat) (Option.none : Option Jvm.ClassFile.FieldType), Jvm.Cond.code ({ cls := "com/example/bounded_crawl/boundedcrawl/web/Framing", name := "lineGrew", desc := "(B)V" } : Jvm.MethodName) prog_44_method_9_code (4 : Nat) (Option.none : Option Jvm.ClassFile.FieldType), Jvm.Cond.code ({ cls := "java/io/ByteArrayOutputStream", name := "ensureCapacity", desc := "(I)V" } : Jvm.MethodName) jdk_2005_method_3_code (4 : Nat) (Option.none : Option Jvm.ClassFile.FieldType), Jvm.Cond.code ({ cls := "com/example/bounded_crawl/boundedcrawl/web/Framing", name := "framed", desc := "(Z)V" } : Jvm.MethodName) prog_44_method_4_code (2 : Nat) (Option.none : Option Jvm.ClassFile.FieldType), Jvm.Cond.code ({ cls := "com/example/bounded_crawl/boundedcrawl/web/Framing", name := "end", desc := "(J)J" } : Jvm.MethodName) prog_44_method_7_code (3 : Nat) (Option.some Jvm.ClassFile.FieldType.long), Jvm.Cond.code ({ cls := "com/example/bounded_crawl/boundedcrawl/web/Framing", name := "size", desc := "()J" } : Jvm.MethodName) prog_44_method_5_code (1 : Nat) (Option.some Jvm.ClassFile.FieldType.long)]
set_option maxRecDepth 65536 in
theorem codes_eq : words1.filter isCode = codes1 := rfl
theorem w_codes : ∀ c ∈ words1.filter isCode, c.before args0 about1 = true := by
  rw [codes_eq]
  intro c hc
  simp only [codes1, List.mem_cons, List.not_mem_nil, or_false] at hc
  rcases hc with rfl | rfl | rfl | rfl | rfl | rfl | rfl | rfl | rfl | rfl | rfl | rfl | rfl | rfl
  · exact w_c0
  · exact w_c1
  · exact w_c2
  · exact w_c3
  · exact w_c4
  · exact w_c5
  · exact w_c6
  · exact w_c7
  · exact w_c8
  · exact w_c9
  · exact w_c10
  · exact w_c11
  · exact w_c12
  · exact w_c13
set_option maxRecDepth 65536 in
theorem w_t1 : (words1.take 24).all (fun c => isCode c || c.before args0 about1) = true := by decide +kernel
set_option maxRecDepth 65536 in
theorem w_t2 : ((words1.drop 24).take 24).all (fun c => isCode c || c.before args0 about1) = true := by decide +kernel
set_option maxRecDepth 65536 in
theorem w_t3 : (((words1.drop 24).drop 24).take 24).all (fun c => isCode c || c.before args0 about1) = true := by decide +kernel
set_option maxRecDepth 65536 in
theorem w_t4 : ((((words1.drop 24).drop 24).drop 24).take 24).all (fun c => isCode c || c.before args0 about1) = true := by decide +kernel
set_option maxRecDepth 65536 in
theorem w_t5 : ((((words1.drop 24).drop 24).drop 24).drop 24).all (fun c => isCode c || c.before args0 about1) = true := by decide +kernel
theorem w_tables : (allAtoms (Jvm.Cond.code x code maxLocals ret :: tables_1)).before args0 about1 = true := by
  rw [allAtoms_all]
  show words1.all (fun c => c.before args0 about1) = true
  refine all_split ?_ w_codes
  rw [← List.take_append_drop 24 words1, List.all_append, w_t1, ← List.take_append_drop 24 (words1.drop 24), List.all_append, w_t2, ← List.take_append_drop 24 ((words1.drop 24).drop 24), List.all_append, w_t3, ← List.take_append_drop 24 (((words1.drop 24).drop 24).drop 24), List.all_append, w_t4, w_t5]
  rfl
set_option maxRecDepth 65536 in
theorem w_case : (Jvm.Cond.and given_1 narrow_1).before args0 about1 = true := by decide +kernel
theorem w_applies : (headSpec (Jvm.Cond.code x code maxLocals ret :: tables_1) room_1).applies x e0.platform about1 = true :=
  (Spec.applies_iff w_frames).mpr ⟨w_running, w_runnable, w_alone, w_named, w_hears, w_ripe, w_room, w_tables⟩
theorem atStart : AtStart classFile x code maxLocals ret World_1 tables_1 room_1 Calls_1 rest_1 Pre_1 launch0 p0 e0 about1 theMethod args0 below0 :=
  ⟨lists_1, trivial, launch0.admits_env _ _ _, launch0.least_env, fairChoices_fair.cas, fairChoices_fair.clock, w_frames, w_args, w_heap, w_applies, trivial, trivial, w_case⟩
end start1
theorem witness_1 : WitnessClaimed_1 := ⟨start1.p0, start1.e0, start1.about1, start1.theMethod, start1.args0, start1.below0, start1.atStart⟩
end Jvm.Pilot.@@N@@
