import JvmDerived
import JvmDerived.Pilot.@@N@@Statement
import JvmDerived.Pilot.@@N@@Code
set_option linter.unusedVariables false
set_option linter.unusedSimpArgs false
@@BLOCK:NumsL.lean.txt@@
namespace Jvm.Pilot.@@N@@
open Jvm Jvm.ClassFile Sem Op Lib Jvm.Free Jvm.Stand Jvm.LawKit Jvm.RoadKit Bundle Jvm.Pilot.@@N@@.Jvm.D
theorem ow {a0 : Array Value} {Z : State} (hw : ∀ d ∈ tables_1, d.before a0 Z = true) (i : Nat) {d : Jvm.Cond} (h : tables_1[i]? = some d) : d.before a0 Z = true := hw _ (List.mem_of_getElem? h)
section OwnKit
abbrev uu : Slot := .unset
abbrev ss : Slot := .second
abbrev jv (x : Int64) : Slot := .val (.long x)
variable {p : Program} {l : Launch} {e : Env} {R : Room} {s : State} {m : MethodId} {args : Array Value} {below : List Frame} {meth : Method} {c : Code} {T : State} {locs : List Loc} {cells slots : Nat} {Z : State} {a0 : Array Value} {h h' : Heap} {K : State → Outcome → Prop}
/-- from here the run comes to an end that K takes -/
def own_Wp (tb : Tables) (e : Env) (below : List Frame) (K : State → Outcome → Prop) (st : State) : Prop := ∃ s₂ o, Steps tb e below st s₂ ∧ K s₂ o
theorem own_of {tb : Tables} {A B : State} (h : ∀ t, Steps tb e below B t → Steps tb e below A t) (w : own_Wp tb e below K B) : own_Wp tb e below K A := by
  obtain ⟨s₂, o, h1, h2⟩ := w
  exact ⟨s₂, o, h _ h1, h2⟩
def own_K (R : Room) (s : State) (below : List Frame) (Q : Option Value → Heap → List Loc → Prop) (s₂ : State) (o : Outcome) : Prop :=
  s₂.status = .running ∧ Ended s₂ below o ∧ ∃ v L, o = .returned v ∧ Q v s₂.heap L ∧ FrameEnd s o s₂ L R.cells R.slots
theorem own_ret {Q : Option Value → Heap → List Loc → Prop} (X : Stand p l e R s m args below meth c T locs cells slots) (hlk : meth.locks = false) (v : Option Value) (hv : meth.sig.returnType = none → v = none) {f : JFrame}
    (hs : ∀ fs, (∀ (f : JFrame) (acts : List Action), f.method = m → f.locked = none → f.entered = [] → (doReturn e (T.setTop f) acts v).1 = T.setFrames fs) → Steps p.tables e below (T.setTop f) (T.setFrames fs))
    (hQ : Q v T.heap locs) (hc : cells ≤ R.cells) (hsl : slots ≤ R.slots) : own_Wp p.tables e below (own_K R s below Q) (T.setTop f) := by
  obtain ⟨fs, hr, hrun, hended, hW, hsame⟩ := X.leave (v := v) hv hlk
  exact ⟨_, _, hs fs hr, hrun, hended, _, _, rfl, hQ, ⟨_, rfl⟩, hW, hsame.mono hc hsl⟩
theorem own_rtI {i : FieldType} {v : Option Value} {r : Option FieldType} (h1 : r = some i) : r = none → v = none := fun h => by rw [h1] at h; cases h
theorem own_retI (X : Stand p l e R s m args below meth c T locs cells slots) (hx : p.tables.exec = Jvm.exec) {pc : Nat} {Ls : Array Slot} {z : Int32} {rest : List Value} (hret : meth.sig.returnType = some .int) (hd : decode c.code pc = .ok (.ireturn, 1)) {fs : List Frame}
    (hl : ∀ (f : JFrame) (acts : List Action), f.method = m → f.locked = none → f.entered = [] → (doReturn e (T.setTop f) acts (some (.int z))).1 = T.setFrames fs) : Steps p.tables e below (T.setTop (mkF m pc Ls (.int z :: rest))) (T.setFrames fs) :=
  retOut X hx hret rfl (Or.inl ⟨rfl, Or.inl rfl, z, rfl⟩) hd hl
theorem own_retJ (X : Stand p l e R s m args below meth c T locs cells slots) (hx : p.tables.exec = Jvm.exec) {pc : Nat} {Ls : Array Slot} {z : Int64} {rest : List Value} (hret : meth.sig.returnType = some .long) (hd : decode c.code pc = .ok (.lreturn, 1)) {fs : List Frame}
    (hl : ∀ (f : JFrame) (acts : List Action), f.method = m → f.locked = none → f.entered = [] → (doReturn e (T.setTop f) acts (some (.long z))).1 = T.setFrames fs) : Steps p.tables e below (T.setTop (mkF m pc Ls (.long z :: rest))) (T.setFrames fs) :=
  retOut X hx hret rfl (Or.inr (Or.inl ⟨rfl, rfl, z, rfl⟩)) hd hl
theorem own_retR (X : Stand p l e R s m args below meth c T locs cells slots) (hx : p.tables.exec = Jvm.exec) {pc : Nat} {Ls : Array Slot} {w : Value} {t : FieldType} {rest : List Value} (hret : meth.sig.returnType = some t) (hw : w.isRef = true) (ht : t.isReference = true) (hn : narrow t w = w) (hd : decode c.code pc = .ok (.areturn, 1)) {fs : List Frame}
    (hl : ∀ (f : JFrame) (acts : List Action), f.method = m → f.locked = none → f.entered = [] → (doReturn e (T.setTop f) acts (some w)).1 = T.setFrames fs) : Steps p.tables e below (T.setTop (mkF m pc Ls (w :: rest))) (T.setFrames fs) :=
  retOut X hx hret hn (Or.inr (Or.inr (Or.inr (Or.inr ⟨rfl, ht, hw⟩)))) hd hl
/-- a method's contract: called so, at the heap h0, it returns as Q says -/
abbrev own_Ctr (l : Launch) (Z : State) (y : MethodName) (bytes : ByteArray) (maxL : Nat) (ret : Option FieldType) (ws : List Jvm.Cond) (rm : Room) (as' : Array Value) (h0 : Heap) (Q : Option Value → Heap → List Loc → Prop) : Prop :=
  MetFree l y (head1 (Jvm.Cond.code y bytes maxL ret :: ws) rm) (fun a U => a = as' ∧ Z.Warmed39 U.vm ∧ U.heap = h0) (fun _ _ _ _ _ => True) (fun _ U o U' => ∃ v L, o = .returned v ∧ Q v U'.heap L ∧ FrameEnd U o U' L rm.cells rm.slots)
theorem own_enter {y : MethodName} {bytes : ByteArray} {maxL : Nat} {ret : Option FieldType} {ws : List Jvm.Cond} {rm : Room} {as' : Array Value} {h0 : Heap} {Q : Option Value → Heap → List Loc → Prop} (hpl : plainFor y = true)
    (body : ∀ (p : Program) (e : Env) (s : State) (m : MethodId) (below : List Frame) (meth : Method) (c : Code) (s₁ : State), Stand p l e rm s m as' below meth c s₁ [] 0 0 → p.tables.exec = Jvm.exec → c.code = bytes → c.maxLocals = maxL → meth.sig.returnType = ret → meth.locks = false → Z.Warmed39 s.vm → s.vm.findClass y.cls = some m.cls → meth.name = y.name → s₁.heap = h0 → own_Wp p.tables e below (own_K rm s below Q) (s₁.setTop (entryFrame m as' maxL))) :
    own_Ctr l Z y bytes maxL ret ws rm as' h0 Q := by
  refine MetFree.of_bodySF hpl hisR ?_
  intro p e s m args below meth c s₁ Bd hml0 hP hK
  obtain ⟨rfl, hZ, hh⟩ := hP
  obtain ⟨s₂, o, h1, h2, h3, h4⟩ := body p e s m below meth c s₁ (Stand.of_body Bd) Bd.exec Bd.bytes hml0 Bd.returns Bd.notSynchronized hZ (findClass_of_methodNamed Bd.named) (name_of_methodNamed Bd.named Bd.method).1 (by rw [← hh, Bd.state]; rfl)
  exact ⟨s₂, o, h1, h2, h3, h4⟩
section Calls
variable {own C : String} {index maxL W : Nat} {y z : MethodName} {bytes : ByteArray} {ret : Option FieldType} {rm : Room} {Q : Option Value → Heap → List Loc → Prop} {argsL rest : List Value} {g : JFrame} {a : Addr}
theorem own_callS (X : Stand p l e R s m args below meth c T locs cells slots) (hx : p.tables.exec = Jvm.exec) (hZ : Z.Warmed39 s.vm) (hown : s.vm.findClass own = some m.cls)
    (w1 : (Jvm.Cond.methodLink own index y).before a0 Z = true) (w2 : (Jvm.Cond.static y).before a0 Z = true) (w3 : (Jvm.Cond.initialized y.cls).before a0 Z = true) (w4 : (Jvm.Cond.code y bytes maxL ret).before a0 Z = true)
    (hy : y.cls ≠ "java/lang/invoke/MethodHandle" ∧ y.cls ≠ "java/lang/invoke/VarHandle") (eT : T.heap = h) (hM : own_Ctr l Z y bytes maxL ret [] rm argsL.toArray h Q)
    (hf : rm.frames + 1 ≤ R.frames) (hl : W + (maxL + 11) + rm.locals ≤ R.locals) (hc : cells + rm.cells ≤ R.cells) (hs : slots + rm.slots ≤ R.slots)
    (hg : g.method = m) (hsize : g.locals.size = c.maxLocals) (hlen : ∀ sig, parseMethodDescriptor y.desc = some sig → argsL.length = sig.parameters.length) (hstack : g.stack = argsL.reverse ++ rest) (hW : 2 * g.monitorRoom + (rest.map fun v => v.category).sum ≤ W) (hdg : decode c.code g.pc = .ok (.invokestatic index, 3))
    (k : ∀ (T' : State) (L : List Loc) (v : Option Value), Stand p l e R s m args below meth c T' (locs ++ L) (cells + rm.cells) (slots + rm.slots) → Q v T'.heap L → own_Wp p.tables e below K (T'.setTop { g with pc := g.pc + 3, stack := v.toList ++ rest })) :
    own_Wp p.tables e below K (T.setTop g) := by
  obtain ⟨v, _, ⟨T', L', k', n'⟩, -, X', ⟨Lc, hQ, l1, y1, z1⟩, st⟩ := Jvm.LawKit.callS X hx hown (mvT hZ w1) (mvT hZ w2) (mvT hZ w3) (mvT hZ w4) hy (backOf (W := W) hM hZ w4 w3 hf hl) hg hsize hlen hstack hW hdg (fun _ _ => ⟨rfl, eT, hc, hs⟩)
  dsimp only [Pt.U, Pt.locs, Pt.cells, Pt.slots] at X' l1 y1 z1 st hQ
  subst l1 y1 z1
  exact own_of st (k _ _ _ X' hQ)
theorem own_callI (X : Stand p l e R s m args below meth c T locs cells slots) (hx : p.tables.exec = Jvm.exec) (hZ : Z.Warmed39 s.vm) (hy1 : y.name = "<init>") (hown : s.vm.findClass own = some m.cls)
    (w1 : (Jvm.Cond.methodLink own index y).before a0 Z = true) (w2 : (Jvm.Cond.instanceMethod y).before a0 Z = true) (w3 : (Jvm.Cond.initialized y.cls).before a0 Z = true) (w4 : (Jvm.Cond.code y bytes maxL none).before a0 Z = true)
    (hy : y.cls ≠ "java/lang/invoke/MethodHandle" ∧ y.cls ≠ "java/lang/invoke/VarHandle") (eT : T.heap = h) (hM : own_Ctr l Z y bytes maxL none [] rm (.ref a :: argsL).toArray h Q)
    (hf : rm.frames + 1 ≤ R.frames) (hl : W + (maxL + 11) + rm.locals ≤ R.locals) (hc : cells + rm.cells ≤ R.cells) (hs : slots + rm.slots ≤ R.slots)
    (hg : g.method = m) (hsize : g.locals.size = c.maxLocals) (hlen : ∀ sig, parseMethodDescriptor y.desc = some sig → argsL.length = sig.parameters.length) (hstack : g.stack = argsL.reverse ++ .ref a :: rest) (hW : 2 * g.monitorRoom + (rest.map fun v => v.category).sum ≤ W) (hdg : decode c.code g.pc = .ok (.invokespecial index, 3))
    (k : ∀ (T' : State) (L : List Loc) (v : Option Value), Stand p l e R s m args below meth c T' (locs ++ L) (cells + rm.cells) (slots + rm.slots) → Q v T'.heap L → own_Wp p.tables e below K (T'.setTop { g with pc := g.pc + 3, stack := v.toList ++ rest })) :
    own_Wp p.tables e below K (T.setTop g) := by
  obtain ⟨v, _, ⟨T', L', k', n'⟩, -, X', ⟨Lc, hQ, l1, y1, z1⟩, st⟩ := X.specialBack hx hy1 hown (mvT hZ w1) (mvT hZ w2) (mvT hZ w4) hy (backOf (W := W) hM hZ w4 w3 hf hl) hg hsize (Steps.refl _) hlen hstack hW hdg (fun _ _ => ⟨rfl, eT, hc, hs⟩)
  dsimp only [Pt.U, Pt.locs, Pt.cells, Pt.slots] at X' l1 y1 z1 st hQ
  subst l1 y1 z1
  exact own_of (fun t q => st.trans q) (k _ _ _ X' hQ)
theorem own_callV (X : Stand p l e R s m args below meth c T locs cells slots) (hx : p.tables.exec = Jvm.exec) (hZ : Z.Warmed39 s.vm) (hown : s.vm.findClass own = some m.cls)
    (w1 : (Jvm.Cond.methodLink own index y).before a0 Z = true) (w2 : (Jvm.Cond.declares y).before a0 Z = true) (w5 : (Jvm.Cond.selects C y y).before a0 Z = true) (w6 : (Jvm.Cond.instanceMethod y).before a0 Z = true) (w3 : (Jvm.Cond.initialized y.cls).before a0 Z = true) (w4 : (Jvm.Cond.code y bytes maxL ret).before a0 Z = true)
    (hy : y.cls ≠ "java/lang/invoke/MethodHandle" ∧ y.cls ≠ "java/lang/invoke/VarHandle") (eT : T.heap = h) (E : Exa Z h a C) (hM : own_Ctr l Z y bytes maxL ret [] rm (.ref a :: argsL).toArray h Q)
    (hf : rm.frames + 1 ≤ R.frames) (hl : W + (maxL + 11) + rm.locals ≤ R.locals) (hc : cells + rm.cells ≤ R.cells) (hs : slots + rm.slots ≤ R.slots)
    (hg : g.method = m) (hsize : g.locals.size = c.maxLocals) (hlen : ∀ sig, parseMethodDescriptor y.desc = some sig → argsL.length = sig.parameters.length) (hstack : g.stack = argsL.reverse ++ .ref a :: rest) (hW : 2 * g.monitorRoom + (rest.map fun v => v.category).sum ≤ W) (hdg : decode c.code g.pc = .ok (.invokevirtual index, 3))
    (k : ∀ (T' : State) (L : List Loc) (v : Option Value), Stand p l e R s m args below meth c T' (locs ++ L) (cells + rm.cells) (slots + rm.slots) → Q v T'.heap L → own_Wp p.tables e below K (T'.setTop { g with pc := g.pc + 3, stack := v.toList ++ rest })) :
    own_Wp p.tables e below K (T.setTop g) := by
  obtain ⟨cq, kq, qa, qb, qc⟩ := isOf hZ eT E
  obtain ⟨v, _, ⟨T', L', k', n'⟩, -, X', ⟨Lc, hQ, l1, y1, z1⟩, st⟩ := X.virtualBack hx hown (mvT hZ w1) (mvT hZ w2) (notFace_of_selects (args := #[]) (mvT hZ w5)) (mvT hZ w5) (mvT hZ w6) hy (backOf (W := W) hM hZ w4 w3 hf hl) qa qc hg hsize (Steps.refl _) hlen hstack hW hdg (fun _ _ => ⟨rfl, eT, hc, hs⟩)
  dsimp only [Pt.U, Pt.locs, Pt.cells, Pt.slots] at X' l1 y1 z1 st hQ
  subst l1 y1 z1
  exact own_of (fun t q => st.trans q) (k _ _ _ X' hQ)
theorem own_callP {nI : Nat} {C0 : String} (X : Stand p l e R s m args below meth c T locs cells slots) (hx : p.tables.exec = Jvm.exec) (hZ : Z.Warmed39 s.vm) (hown : s.vm.findClass own = some m.cls)
    (w1 : (Jvm.Cond.methodLink own index y).before a0 Z = true) (w2 : (Jvm.Cond.instanceMethod y).before a0 Z = true) (wi : (Jvm.Cond.instantiable y.cls nI).before a0 Z = true) (wp : (Jvm.Cond.privateMethod y).before a0 Z = true) (w3 : (Jvm.Cond.initialized y.cls).before a0 Z = true) (w4 : (Jvm.Cond.code y bytes maxL ret).before a0 Z = true)
    (hy : y.cls ≠ "java/lang/invoke/MethodHandle" ∧ y.cls ≠ "java/lang/invoke/VarHandle") (eT : T.heap = h) (E : Exa Z h a C0) (hM : own_Ctr l Z y bytes maxL ret [] rm (.ref a :: argsL).toArray h Q)
    (hf : rm.frames + 1 ≤ R.frames) (hl : W + (maxL + 11) + rm.locals ≤ R.locals) (hc : cells + rm.cells ≤ R.cells) (hs : slots + rm.slots ≤ R.slots)
    (hg : g.method = m) (hsize : g.locals.size = c.maxLocals) (hlen : ∀ sig, parseMethodDescriptor y.desc = some sig → argsL.length = sig.parameters.length) (hstack : g.stack = argsL.reverse ++ .ref a :: rest) (hW : 2 * g.monitorRoom + (rest.map fun v => v.category).sum ≤ W) (hdg : decode c.code g.pc = .ok (.invokevirtual index, 3))
    (k : ∀ (T' : State) (L : List Loc) (v : Option Value), Stand p l e R s m args below meth c T' (locs ++ L) (cells + rm.cells) (slots + rm.slots) → Q v T'.heap L → own_Wp p.tables e below K (T'.setTop { g with pc := g.pc + 3, stack := v.toList ++ rest })) :
    own_Wp p.tables e below K (T.setTop g) := by
  obtain ⟨cq, q1, q2⟩ := E.cell
  obtain ⟨ci, ki, i1, i2, -, i4, -⟩ := Cond.instantiable_spec (mvT (args := args) hZ wi)
  simp only [Bool.or_eq_false_iff] at i4
  have hpr : s.PrivateAt y := Cond.privateMethod_at (mvP hZ wp (args := #[]))
  have hsel : (Jvm.Cond.selects y.cls y y).before args s = true := selects_self_of_private i1 i2 i4.1 hpr (mvT hZ w2) hy
  obtain ⟨v, _, ⟨T', L', k', n'⟩, -, X', ⟨Lc, hQ, l1, y1, z1⟩, st⟩ := X.privateBack hx hown (mvT hZ w1) (mvT hZ w2) hsel hpr (mvT hZ w4) hy (backOf (W := W) hM hZ w4 w3 hf hl) hg hsize (Steps.refl _) (by rw [eT]; exact q1) q2 hlen hstack hW hdg (fun _ _ => ⟨rfl, eT, hc, hs⟩)
  dsimp only [Pt.U, Pt.locs, Pt.cells, Pt.slots] at X' l1 y1 z1 st hQ
  subst l1 y1 z1
  exact own_of (fun t q => st.trans q) (k _ _ _ X' hQ)
end Calls
end OwnKit
section OwnArr
variable {p : Program} {l : Launch} {e : Env} {R : Room} {s : State} {m : MethodId} {args : Array Value} {below : List Frame} {meth : Method} {c : Code} {T : State} {locs : List Loc} {cells slots : Nat} {Z : State} {a0 : Array Value} {h h' : Heap} {K : State → Outcome → Prop}
variable {a b : Addr} {ty : FieldType} {n sl : Nat} {f : Nat → Value} {v : Value} {ws : List Addr}
theorem own_nat {j : Int32} {i : Nat} (hj : j.toInt = (i : Int)) : j.toNatClampNeg = i := by
  show j.toInt.toNat = i
  rw [hj]; exact Int.toNat_natCast i
theorem own_nneg {j : Int32} {i : Nat} (hj : j.toInt = (i : Int)) : ¬ j < 0 := by
  rw [Int32.lt_iff_toInt_lt, hj]
  show ¬ ((i : Int) < 0)
  omega
/-- the array at a: its kind, its length, its elements -/
def own_Ar (Z : State) (h : Heap) (a : Addr) (ty : FieldType) (n : Nat) (f : Nat → Value) : Prop := n < 2147483648 ∧ ∃ c : Cell, Arr Z h a c ty ∧ c.slots.size = n ∧ ∀ i, i < n → c.slots[i]? = some (f i)
def own_set (f : Nat → Value) (i : Nat) (v : Value) : Nat → Value := fun k => if k = i then v else f k
theorem own_set_eq (f : Nat → Value) (i : Nat) (v : Value) : own_set f i v i = v := if_pos rfl
theorem own_set_ne {f : Nat → Value} {i k : Nat} {v : Value} (q : k ≠ i) : own_set f i v k = f k := if_neg q
theorem own_Ar.lt (F : own_Ar Z h a ty n f) : a < h.size := by obtain ⟨_, c, A, -⟩ := F; exact A.lt
theorem own_Ar.ext (F : own_Ar Z h a ty n f) (E : Ext h h') : own_Ar Z h' a ty n f := by obtain ⟨q, c, A, r⟩ := F; exact ⟨q, c, A.ext E, r⟩
theorem own_Ar.other (F : own_Ar Z h a ty n f) (W : Wr h h' b sl v) (q : a ≠ b) : own_Ar Z h' a ty n f := by obtain ⟨q0, c, A, r⟩ := F; exact ⟨q0, c, A.other W q, r⟩
theorem own_Ar.keep (F : own_Ar Z h a ty n f) (K : Keep h h' ws) (q : a ∉ ws) : own_Ar Z h' a ty n f := by obtain ⟨q0, c, A, r⟩ := F; exact ⟨q0, c, ⟨K.2.1 a c A.1 q, A.2⟩, r⟩
theorem own_Ar.fn {f' : Nat → Value} (F : own_Ar Z h a ty n f) (q : ∀ i, i < n → f i = f' i) : own_Ar Z h a ty n f' := by obtain ⟨q0, c, A, r1, r2⟩ := F; exact ⟨q0, c, A, r1, fun i hi => by rw [← q i hi]; exact r2 i hi⟩
theorem own_Ar.new {k : ClassId} {z : Int32} (A : Arr Z h a (newA k ty z) ty) (q : ¬ z < 0) (e : z.toNatClampNeg = n) : own_Ar Z h a ty n (fun _ => defaultValue ty) := by
  refine ⟨by rw [← e]; exact (back32 q).2, _, A, by rw [sz_new, e], fun i hi => ?_⟩
  simp [newA, e, hi]
theorem own_Ar.start (A : Arr Z h a c' ty) (hs : c'.slots.size < 2147483648) (H : ∀ i, i < c'.slots.size → c'.slots[i]? = some (f i)) : own_Ar Z h a ty c'.slots.size f := ⟨hs, _, A, rfl, H⟩
section Steps
variable {j : Int32} {i : Nat} {g : JFrame} {rest : List Value}
theorem own_in {cl : Cell} (hj : j.toInt = (i : Int)) (hi : i < n) (hsz : cl.slots.size = n) : ¬ (j < 0 ∨ cl.slots.size ≤ j.toNatClampNeg) := by
  rw [own_nat hj, hsz]
  rintro (q | q)
  · exact own_nneg hj q
  · omega
theorem own_iaload {v : Int32} (X : Stand p l e R s m args below meth c T locs cells slots) (hx : p.tables.exec = Jvm.exec) (hZ : Z.Warmed39 s.vm) (eT : T.heap = h) (A : own_Ar Z h a .int n f) (hj : j.toInt = (i : Int)) (hi : i < n) (hv : f i = .int v)
    (hg : g.method = m) (hs : g.stack = .int j :: .ref a :: rest) (hd : decode c.code g.pc = .ok (.iaload, 1)) (k : own_Wp p.tables e below K (T.setTop { g with pc := g.pc + 1, stack := .int v :: rest })) : own_Wp p.tables e below K (T.setTop g) := by
  obtain ⟨-, cl, A, hsz, H⟩ := A
  exact own_of (X.iaload hx (by rw [eT]; exact A.1) (State.isArrayOf_alike hZ.alike A.2.1) A.2.2 (own_in hj hi hsz) (by rw [own_nat hj, H i hi, hv]) hg hs hd) k
theorem own_laload {v : Int64} (X : Stand p l e R s m args below meth c T locs cells slots) (hx : p.tables.exec = Jvm.exec) (hZ : Z.Warmed39 s.vm) (eT : T.heap = h) (A : own_Ar Z h a .long n f) (hj : j.toInt = (i : Int)) (hi : i < n) (hv : f i = .long v)
    (hg : g.method = m) (hs : g.stack = .int j :: .ref a :: rest) (hd : decode c.code g.pc = .ok (.laload, 1)) (k : own_Wp p.tables e below K (T.setTop { g with pc := g.pc + 1, stack := .long v :: rest })) : own_Wp p.tables e below K (T.setTop g) := by
  obtain ⟨-, cl, A, hsz, H⟩ := A
  exact own_of (X.laload hx (by rw [eT]; exact A.1) (State.isArrayOf_alike hZ.alike A.2.1) A.2.2 (own_in hj hi hsz) (by rw [own_nat hj, H i hi, hv]) hg hs hd) k
theorem own_baload {v : Int32} (X : Stand p l e R s m args below meth c T locs cells slots) (hx : p.tables.exec = Jvm.exec) (hZ : Z.Warmed39 s.vm) (eT : T.heap = h) (A : own_Ar Z h a .byte n f) (hj : j.toInt = (i : Int)) (hi : i < n) (hv : f i = .int v)
    (hg : g.method = m) (hs : g.stack = .int j :: .ref a :: rest) (hd : decode c.code g.pc = .ok (.baload, 1)) (k : own_Wp p.tables e below K (T.setTop { g with pc := g.pc + 1, stack := .int v :: rest })) : own_Wp p.tables e below K (T.setTop g) := by
  obtain ⟨-, cl, A, hsz, H⟩ := A
  exact own_of (X.baloadBytes hx (by rw [eT]; exact A.1) (State.isArrayOf_alike hZ.alike A.2.1) A.2.2 (own_in hj hi hsz) (by rw [own_nat hj, H i hi, hv]) hg hs hd) k
theorem own_zaload {v : Int32} (X : Stand p l e R s m args below meth c T locs cells slots) (hx : p.tables.exec = Jvm.exec) (hZ : Z.Warmed39 s.vm) (eT : T.heap = h) (A : own_Ar Z h a .boolean n f) (hj : j.toInt = (i : Int)) (hi : i < n) (hv : f i = .int v)
    (hg : g.method = m) (hs : g.stack = .int j :: .ref a :: rest) (hd : decode c.code g.pc = .ok (.baload, 1)) (k : own_Wp p.tables e below K (T.setTop { g with pc := g.pc + 1, stack := .int v :: rest })) : own_Wp p.tables e below K (T.setTop g) := by
  obtain ⟨-, cl, A, hsz, H⟩ := A
  exact own_of (X.baloadBooleans hx (by rw [eT]; exact A.1) (State.isArrayOf_alike hZ.alike A.2.1) A.2.2 (own_in hj hi hsz) (by rw [own_nat hj, H i hi, hv]) hg hs hd) k
theorem own_aaload {C : String} {v : Value} (X : Stand p l e R s m args below meth c T locs cells slots) (hx : p.tables.exec = Jvm.exec) (hZ : Z.Warmed39 s.vm) (eT : T.heap = h) (A : own_Ar Z h a (.object C) n f) (hj : j.toInt = (i : Int)) (hi : i < n) (hv : f i = v)
    (hg : g.method = m) (hs : g.stack = .int j :: .ref a :: rest) (hd : decode c.code g.pc = .ok (.aaload, 1)) (k : own_Wp p.tables e below K (T.setTop { g with pc := g.pc + 1, stack := v :: rest })) : own_Wp p.tables e below K (T.setTop g) := by
  obtain ⟨-, cl, A, hsz, H⟩ := A
  exact own_of (X.aaload hx (by rw [eT]; exact A.1) (State.isArrayOf_alike hZ.alike A.2.1) rfl A.2.2 (own_in hj hi hsz) (by rw [own_nat hj, H i hi, hv]) hg hs hd) k
theorem own_len {z : Int32} (X : Stand p l e R s m args below meth c T locs cells slots) (hx : p.tables.exec = Jvm.exec) (hZ : Z.Warmed39 s.vm) (eT : T.heap = h) (A : own_Ar Z h a ty n f) (hz : z.toInt = (n : Int))
    (hg : g.method = m) (hs : g.stack = .ref a :: rest) (hd : decode c.code g.pc = .ok (.arraylength, 1)) (k : own_Wp p.tables e below K (T.setTop { g with pc := g.pc + 1, stack := .int z :: rest })) : own_Wp p.tables e below K (T.setTop g) := by
  obtain ⟨-, cl, A, hsz, H⟩ := A
  have q : cl.slots.size.toInt32 = z := by rw [hsz, ← own_nat hz]; exact (back32 (own_nneg hz)).1
  rw [← q] at k
  exact own_of (X.arraylength hx (by rw [eT]; exact A.1) (State.isArrayOf_alike hZ.alike A.2.1) hg hs hd) k
theorem own_Ar.set {cl : Cell} {hn : n < 2147483648} (A : Arr Z h a cl ty) (hsz : cl.slots.size = n) (H : ∀ i, i < n → cl.slots[i]? = some (f i)) (hi : i < n) (W : Wr h h' a i v) : own_Ar Z h' a ty n (own_set f i v) := by
  refine ⟨hn, _, A.same W, by rw [sz_set]; exact hsz, fun q hq => ?_⟩
  by_cases e : q = i
  · subst e; rw [own_set_eq]; simp [Cell.setSlot, hsz, hq]
  · rw [own_set_ne e, ← H q hq]; exact Array.getElem?_setIfInBounds_ne (Ne.symm e)
theorem own_stI {x : Int32} (X : Stand p l e R s m args below meth c T locs cells slots) (hx : p.tables.exec = Jvm.exec) (hZ : Z.Warmed39 s.vm) (eT : T.heap = h) (A : own_Ar Z h a .int n f) (hj : j.toInt = (i : Int)) (hi : i < n)
    (hg : g.method = m) (hs : g.stack = .int x :: .int j :: .ref a :: rest) (hd : decode c.code g.pc = .ok (.iastore, 1)) :
    ∃ T' h', Stand p l e R s m args below meth c T' (locs ++ [⟨a, i⟩]) cells slots ∧ T'.heap = h' ∧ Wr h h' a i (.int x) ∧ own_Ar Z h' a .int n (own_set f i (.int x)) ∧ ∀ target, Steps p.tables e below (T'.setTop { g with pc := g.pc + 1, stack := rest }) target → Steps p.tables e below (T.setTop g) target := by
  obtain ⟨hn, cl, A, hsz, H⟩ := A
  obtain ⟨T', h', X', e', W, st⟩ := stI X hx hZ eT A (own_in hj hi hsz) hg hs hd
  rw [own_nat hj] at X' W
  exact ⟨T', h', X', e', W, own_Ar.set (hn := hn) A hsz H hi W, st⟩
theorem own_stJ {x : Int64} (X : Stand p l e R s m args below meth c T locs cells slots) (hx : p.tables.exec = Jvm.exec) (hZ : Z.Warmed39 s.vm) (eT : T.heap = h) (A : own_Ar Z h a .long n f) (hj : j.toInt = (i : Int)) (hi : i < n)
    (hg : g.method = m) (hs : g.stack = .long x :: .int j :: .ref a :: rest) (hd : decode c.code g.pc = .ok (.lastore, 1)) :
    ∃ T' h', Stand p l e R s m args below meth c T' (locs ++ [⟨a, i⟩]) cells slots ∧ T'.heap = h' ∧ Wr h h' a i (.long x) ∧ own_Ar Z h' a .long n (own_set f i (.long x)) ∧ ∀ target, Steps p.tables e below (T'.setTop { g with pc := g.pc + 1, stack := rest }) target → Steps p.tables e below (T.setTop g) target := by
  obtain ⟨hn, cl, A, hsz, H⟩ := A
  obtain ⟨T', h', X', e', W, st⟩ := stJ X hx hZ eT A (own_in hj hi hsz) hg hs hd
  rw [own_nat hj] at X' W
  exact ⟨T', h', X', e', W, own_Ar.set (hn := hn) A hsz H hi W, st⟩
theorem own_stB {x : Int32} (X : Stand p l e R s m args below meth c T locs cells slots) (hx : p.tables.exec = Jvm.exec) (hZ : Z.Warmed39 s.vm) (eT : T.heap = h) (A : own_Ar Z h a .byte n f) (hj : j.toInt = (i : Int)) (hi : i < n)
    (hg : g.method = m) (hs : g.stack = .int x :: .int j :: .ref a :: rest) (hd : decode c.code g.pc = .ok (.bastore, 1)) :
    ∃ T' h', Stand p l e R s m args below meth c T' (locs ++ [⟨a, i⟩]) cells slots ∧ T'.heap = h' ∧ Wr h h' a i (.int x.toInt8.toInt32) ∧ own_Ar Z h' a .byte n (own_set f i (.int x.toInt8.toInt32)) ∧ ∀ target, Steps p.tables e below (T'.setTop { g with pc := g.pc + 1, stack := rest }) target → Steps p.tables e below (T.setTop g) target := by
  obtain ⟨hn, cl, A, hsz, H⟩ := A
  obtain ⟨T', h', X', e', W, st⟩ := stB X hx hZ eT A (own_in hj hi hsz) hg hs hd
  rw [own_nat hj] at X' W
  exact ⟨T', h', X', e', W, own_Ar.set (hn := hn) A hsz H hi W, st⟩
end Steps
theorem own_more {cells' slots' : Nat} (X : Stand p l e R s m args below meth c T locs cells slots) (h1 : cells ≤ cells') (h2 : slots ≤ slots') : Stand p l e R s m args below meth c T locs cells' slots' := { X with same := X.same.mono h1 h2 }
section Start
variable {C nm d : String}
theorem own_refArr {t : Term} (ha : (Jvm.Cond.arrayOf t ty).value args s none s [] = some true) : ∃ (a : Addr) (cl : Cell), Arr s s.heap a cl ty ∧ s.arrayAt? a = some cl ∧ t.eval args s none [] s = some (.ref a) := by
  obtain ⟨a, ev⟩ : ∃ a, t.eval args s none [] s = some (.ref a) := by
    simp only [Cond.value] at ha
    split at ha
    · cases ha
    · split at ha
      · exact ⟨_, by assumption⟩
      · cases ha
      · cases ha
  obtain ⟨cl, A⟩ := Arr.start ev ha
  exact ⟨a, cl, A, IntBox.arrayAt_of A.1 A.2.1 A.2.2, ev⟩
theorem own_exaRef {t : Term} {K : String} (h : (Jvm.Cond.exactly t K).value args s none s [] = some true) : ∃ a, Exa s s.heap a K ∧ t.eval args s none [] s = some (.ref a) := by
  obtain ⟨a', c', cell, k, e1, -⟩ := Cond.exactly_spec (Cond.before_iff.mpr h)
  exact ⟨a', Exa.start e1 h, e1⟩
theorem own_fldOf {t : Term} {v : Value} {O : String} (ev : t.eval args s none [] s = some (.ref a)) (e : (Term.field t O nm d).eval args s none [] s = some v) : Fld s s.heap a O nm d v := by
  simp only [Term.eval, ev, Option.bind_eq_bind, Option.bind_some] at e
  exact Fld.start e
theorem own_fldI {t : Term} {x : Int32} {O : String} (ev : t.eval args s none [] s = some (.ref a)) (h : (Jvm.Cond.eq (.field t O nm d) (.int x)).value args s none s [] = some true) : Fld s s.heap a O nm d (.int x) := by
  cases he : (Term.field t O nm d).eval args s none [] s with
  | none => simp [Cond.value, he] at h
  | some w =>
    have : w = .int x := by
      simp only [Cond.value, he] at h
      rw [show (Term.int x).eval args s none [] s = some (.int x) from rfl] at h
      cases w <;> simp at h
      subst h; rfl
    subst this
    exact own_fldOf ev he
theorem own_isRef {t : Term} (h : (Jvm.Cond.isRef t).value args s none s [] = some true) : ∃ v, t.eval args s none [] s = some v ∧ (v = .null ∨ ∃ b, v = .ref b) := by
  simp only [Cond.value] at h
  cases he : t.eval args s none [] s with
  | none => simp [he] at h
  | some w => rw [he] at h; cases w <;> simp at h <;> simp
theorem own_notZero {t : Term} {x : Int32} (ev : t.eval args s none [] s = some (.int x)) (h : (Jvm.Cond.not (Jvm.Cond.eq t (.int 0))).value args s none s [] = some true) : ¬ x = 0 := by
  intro q
  subst q
  simp [Cond.value, ev, Term.eval] at h
theorem own_ltOf {x y : Int32} {i k : Nat} (h1 : x.toInt = (i : Int)) (h2 : y.toInt = (k : Int)) (h : i < k) : x < y := by
  rw [Int32.lt_iff_toInt_lt, h1, h2]; omega
theorem own_Ar.some {cl : Cell} (A : Arr Z h a cl ty) (hs : cl.slots.size < 2147483648) : own_Ar Z h a ty cl.slots.size (fun k => (cl.slots[k]?).getD .null) :=
  ⟨hs, _, A, rfl, fun i hi => by simp [Array.getElem?_eq_getElem hi]⟩
/-- a static that holds an array, at the start -/
theorem own_staArr (hi : (Jvm.Cond.initialized C).before args s = true) (hl : (Jvm.Cond.laysStatic C nm d).before args s = true) (ha : (Jvm.Cond.arrayOf (.static C nm d) ty).value args s none s [] = some true) :
    ∃ (a : Addr) (cl : Cell), Sta s s.heap C nm d (.ref a) ∧ Arr s s.heap a cl ty ∧ s.arrayAt? a = some cl ∧ (Term.static C nm d).eval args s none [] s = some (.ref a) := by
  obtain ⟨a, ev⟩ : ∃ a, (Term.static C nm d).eval args s none [] s = some (.ref a) := by
    simp only [Cond.value] at ha
    split at ha
    · cases ha
    · split at ha
      · exact ⟨_, by assumption⟩
      · cases ha
      · cases ha
  obtain ⟨cl, A⟩ := Arr.start ev ha
  exact ⟨a, cl, Sta.start ev (Or.inr ⟨hi, hl⟩), A, IntBox.arrayAt_of A.1 A.2.1 A.2.2, ev⟩
/-- an element that the case names -/
theorem own_elemEq {t i b : Term} {x : Int32} {cl : Cell} {jj : Int32} {idx : List Nat} (ev : t.eval args s none idx s = some (.ref a)) (hat : s.arrayAt? a = some cl) (hi : i.eval args s none idx s = some (.int jj)) (hb : b.eval args s none idx s = some (.int x)) (h : (Jvm.Cond.eq (.elem t i) b).value args s none s idx = some true) : ¬ jj < 0 ∧ cl.slots[jj.toNatClampNeg]? = some (.int x) := by
  simp only [Cond.value, hb] at h
  cases he : (Term.elem t i).eval args s none idx s with
  | none => simp [he] at h
  | some w =>
    obtain ⟨a', j', cl', q1, q2, q3, q4, q5⟩ := Term.elem_spec he
    cases ev.symm.trans q1
    cases hi.symm.trans q2
    cases hat.symm.trans q3
    rw [he] at h
    cases w <;> simp at h
    subst h
    exact ⟨fun z => q4 (Or.inl z), q5⟩
theorem own_lenEq {t : Term} {x : Int32} {cl : Cell} (ev : t.eval args s none [] s = some (.ref a)) (hat : s.arrayAt? a = some cl) (h : (Jvm.Cond.eq (.length t) (.int x)).value args s none s [] = some true) : (cl.slots.size : Int) = x.toInt := by
  simp only [Cond.value, Term.eval, ev, hat, Option.bind_eq_bind, Option.bind_some] at h
  by_cases q : cl.slots.size < 2147483648
  · simp [q] at h
    rw [← h]
    exact (Int32.toInt_ofNat_of_lt q).symm
  · simp [q] at h
theorem own_or {A B : Jvm.Cond} {idx : List Nat} (h : (Jvm.Cond.or A B).value args s none s idx = some true) : A.value args s none s idx = some true ∨ B.value args s none s idx = some true := by
  simp only [Cond.value] at h
  split at h
  · exact Or.inr h
  · exact Or.inl h
theorem own_leV {A B : Term} {x y : Int32} {idx : List Nat} (ha : A.eval args s none idx s = some (.int x)) (hb : B.eval args s none idx s = some (.int y)) (h : (Jvm.Cond.le A B).value args s none s idx = some true) : x.toInt ≤ y.toInt := by
  rw [Cond.le_ints ha hb] at h
  exact Int32.le_iff_toInt_le.mp (by simpa using h)
theorem own_ltV {A B : Term} {x y : Int32} {idx : List Nat} (ha : A.eval args s none idx s = some (.int x)) (hb : B.eval args s none idx s = some (.int y)) (h : (Jvm.Cond.lt A B).value args s none s idx = some true) : x.toInt < y.toInt := by
  simp only [Cond.value, ha, hb] at h
  exact Int32.lt_iff_toInt_lt.mp (by simpa using h)
theorem own_idx {k : Nat} (hk : k < 2147483648) : (k.toInt32).toInt = (k : Int) := Int32.toInt_ofNat_of_lt hk
section Elems
variable {t b : Term} {cl : Cell} {x lo hi : Int32} {k : Nat}
theorem own_elemK (ev : ∀ idx, t.eval args s none idx s = some (.ref a)) (hat : s.arrayAt? a = some cl) (hk : k < 2147483648) (hb : b.eval args s none [k] s = some (.int x)) (h : (Jvm.Cond.eq (.elem t (.index 0)) b).value args s none s [k] = some true) : cl.slots[k]? = some (.int x) := by
  have q := (own_elemEq (ev _) hat (Term.index_eval k) hb h).2
  rwa [own_nat (own_idx hk)] at q
theorem own_all1 (ev : ∀ idx, t.eval args s none idx s = some (.ref a)) (hat : s.arrayAt? a = some cl) (hn : cl.slots.size < 2147483648) (h : (Jvm.Cond.all t (.or (.le (.int lo) (.index 0)) (.eq (.elem t (.index 0)) b))).value args s none s [] = some true) (hk : k < cl.slots.size) (h1 : (k : Int) < lo.toInt) (hb : b.eval args s none [k] s = some (.int x)) : cl.slots[k]? = some (.int x) := by
  rcases own_or (Cond.all_elim (ev _) hat h k hk) with q | q
  · have := own_leV rfl (Term.index_eval k) q; rw [own_idx (by omega)] at this; omega
  · exact own_elemK ev hat (by omega) hb q
theorem own_all2 (ev : ∀ idx, t.eval args s none idx s = some (.ref a)) (hat : s.arrayAt? a = some cl) (hn : cl.slots.size < 2147483648) (h : (Jvm.Cond.all t (.or (.lt (.index 0) (.int lo)) (.or (.le (.int hi) (.index 0)) (.eq (.elem t (.index 0)) b)))).value args s none s [] = some true) (hk : k < cl.slots.size) (h1 : lo.toInt ≤ (k : Int)) (h2 : (k : Int) < hi.toInt) (hb : b.eval args s none [k] s = some (.int x)) : cl.slots[k]? = some (.int x) := by
  rcases own_or (Cond.all_elim (ev _) hat h k hk) with q | q
  · have := own_ltV (Term.index_eval k) rfl q; rw [own_idx (by omega)] at this; omega
  · rcases own_or q with q | q
    · have := own_leV rfl (Term.index_eval k) q; rw [own_idx (by omega)] at this; omega
    · exact own_elemK ev hat (by omega) hb q
theorem own_all3 (ev : ∀ idx, t.eval args s none idx s = some (.ref a)) (hat : s.arrayAt? a = some cl) (hn : cl.slots.size < 2147483648) (h : (Jvm.Cond.all t (.or (.lt (.index 0) (.int lo)) (.eq (.elem t (.index 0)) b))).value args s none s [] = some true) (hk : k < cl.slots.size) (h1 : lo.toInt ≤ (k : Int)) (hb : b.eval args s none [k] s = some (.int x)) : cl.slots[k]? = some (.int x) := by
  rcases own_or (Cond.all_elim (ev _) hat h k hk) with q | q
  · have := own_ltV (Term.index_eval k) rfl q; rw [own_idx (by omega)] at this; omega
  · exact own_elemK ev hat (by omega) hb q
theorem own_one (ev : ∀ idx, t.eval args s none idx s = some (.ref a)) (hat : s.arrayAt? a = some cl) (h : (Jvm.Cond.eq (.elem t (.int lo)) (.int x)).value args s none s [] = some true) (hk : lo.toInt = (k : Int)) : cl.slots[k]? = some (.int x) := by
  have q := (own_elemEq (ev _) hat rfl rfl h).2
  rwa [own_nat hk] at q
end Elems
end Start
end OwnArr
section OwnBits
/-- the bit j of a long -/
def own_Bt (x : Int64) (j : Nat) : Prop := x.toBitVec.getLsbD j = true
theorem own_Bt_and (x y : Int64) (j : Nat) : own_Bt (x &&& y) j ↔ own_Bt x j ∧ own_Bt y j := by unfold own_Bt; rw [Int64.toBitVec_and, BitVec.getLsbD_and]; simp
theorem own_Bt_or (x y : Int64) (j : Nat) : own_Bt (x ||| y) j ↔ own_Bt x j ∨ own_Bt y j := by unfold own_Bt; rw [Int64.toBitVec_or, BitVec.getLsbD_or]; simp
theorem own_Bt_lt {x : Int64} {j : Nat} (h : own_Bt x j) : j < 64 := by
  unfold own_Bt at h
  exact Nat.lt_of_not_le fun q => by rw [BitVec.getLsbD_of_ge _ _ q] at h; cases h
theorem own_Bt_zero (x : Int64) : x = 0 ↔ ∀ j, ¬ own_Bt x j := by
  constructor
  · intro h j; subst h; unfold own_Bt; simp
  · intro h
    apply Int64.toBitVec_inj.mp
    apply BitVec.eq_of_getLsbD_eq
    intro i hi
    have := h i
    unfold own_Bt at this
    simpa using this
theorem own_Bt_shl (x s : Int64) {k : Nat} (hs : (s.toBitVec.smod 64).toNat = k) (j : Nat) : own_Bt (x <<< s) j ↔ j < 64 ∧ k ≤ j ∧ own_Bt x (j - k) := by
  unfold own_Bt
  rw [Int64.toBitVec_shiftLeft, BitVec.shiftLeft_eq', BitVec.getLsbD_shiftLeft, hs]
  simp [and_assoc]
theorem own_Bt_s1 (x : Int64) (j : Nat) : own_Bt (x <<< ((1 : Int32) &&& 0x3f).toInt64) j ↔ j < 64 ∧ 1 ≤ j ∧ own_Bt x (j - 1) := own_Bt_shl x _ (by decide) j
theorem own_Bt_s2 (x : Int64) (j : Nat) : own_Bt (x <<< ((2 : Int32) &&& 0x3f).toInt64) j ↔ j < 64 ∧ 2 ≤ j ∧ own_Bt x (j - 2) := own_Bt_shl x _ (by decide) j
def own_upTo (p : Int32) : Int64 := if p < (63 : Int32) then (((1 : Int64) <<< ((p + (1 : Int32)) &&& 0x3f).toInt64) - (1 : Int64)) else (-1 : Int64)
def own_mni (a b : Int32) : Int32 := if b < a then b else a
theorem own_up4 : ∀ m : Fin 4, own_upTo (Int32.ofNat m.1) = Int64.ofNat (2 ^ (m.1 + 1) - 1) := by decide +kernel
theorem own_Bt_nat (w j : Nat) (hw : w < 2 ^ 64) : own_Bt (Int64.ofNat w) j ↔ w.testBit j = true := by
  unfold own_Bt
  rw [show (Int64.ofNat w).toBitVec = BitVec.ofNat 64 w from rfl, BitVec.getLsbD_ofNat]
  simp
  intro h
  exact Nat.lt_of_not_le fun q => by
    have := Nat.testBit_lt_two_pow (Nat.lt_of_lt_of_le hw (Nat.pow_le_pow_right (by decide) q))
    rw [this] at h; cases h
theorem own_Bt_up {m : Nat} (hm : m < 4) (j : Nat) : own_Bt (own_upTo (Int32.ofNat m)) j ↔ j ≤ m := by
  have h4 : 2 ^ (m + 1) ≤ 2 ^ 4 := Nat.pow_le_pow_right (by decide) (by omega)
  rw [own_up4 ⟨m, hm⟩, own_Bt_nat _ _ (by show 2 ^ (m + 1) - 1 < _; omega)]
  show (2 ^ (m + 1) - 1).testBit j = true ↔ _
  rw [Nat.testBit_two_pow_sub_one]
  simp; omega
theorem own_ofN {k : Nat} (h : k < 2147483648) : (Int32.ofNat k).toInt = (k : Int) := Int32.toInt_ofNat_of_lt h
theorem own_succ (k : Nat) : Int32.ofNat k + (1 : Int32) = Int32.ofNat (k + 1) := (Int32.ofNat_add k 1).symm
theorem own_mniN {a b : Nat} (ha : a < 2147483648) (hb : b < 2147483648) : own_mni (Int32.ofNat a) (Int32.ofNat b) = Int32.ofNat (min a b) := by
  unfold own_mni
  by_cases h : b < a
  · rw [if_pos (by rw [Int32.lt_iff_toInt_lt, own_ofN ha, own_ofN hb]; omega), Nat.min_eq_right (by omega)]
  · rw [if_neg (by rw [Int32.lt_iff_toInt_lt, own_ofN ha, own_ofN hb]; omega), Nat.min_eq_left (by omega)]
/-- the first row -/
def own_rc (n k : Nat) : Int64 := own_upTo (own_mni (Int32.ofNat k) (Int32.ofNat n))
def own_R0 (n hb : Nat) (out : Int64) (k : Nat) : Int64 := if hb < k then own_rc n k &&& (own_rc n hb ||| out) else own_rc n k
theorem own_Bt_rc {n k : Nat} (hn : n < 4) (hk : k < 64) (j : Nat) : own_Bt (own_rc n k) j ↔ j ≤ k ∧ j ≤ n := by
  unfold own_rc
  rw [own_mniN (by omega) (by omega), own_Bt_up (by omega)]
  omega
def own_D0 (head : Int) (hb j : Nat) : Nat := if (j : Int) ≤ head ∧ hb < j then 1000 else j
theorem own_Bt_R0 {n hb k : Nat} {out : Int64} {head : Int} (hn : n < 4) (hk : k < 64) (ho : ∀ j, j ≤ n → (own_Bt out j ↔ head < (j : Int))) (j : Nat) : own_Bt (own_R0 n hb out k) j ↔ j ≤ n ∧ own_D0 head hb j ≤ k := by
  unfold own_R0 own_D0
  by_cases h : hb < k
  · rw [if_pos h, own_Bt_and, own_Bt_or, own_Bt_rc hn hk, own_Bt_rc hn (by omega)]
    by_cases hj : j ≤ n
    · rw [ho j hj]
      split <;> omega
    · constructor <;> (intro q; omega)
  · rw [if_neg h, own_Bt_rc hn hk]
    split <;> omega
/-- a further row -/
def own_G (m sw cols out : Int64) (hb : Nat) (ab tw : Nat → Int64) (hv : Int64) : Nat → Int64
  | 0 => m &&& (ab 0 <<< ((1 : Int32) &&& 0x3f).toInt64)
  | d + 1 =>
    let r1 := (((m &&& (ab (d + 1) <<< ((1 : Int32) &&& 0x3f).toInt64)) ||| ab d) ||| (ab d <<< ((1 : Int32) &&& 0x3f).toInt64)) ||| (own_G m sw cols out hb ab tw hv d <<< ((1 : Int32) &&& 0x3f).toInt64)
    let r2 := if sw = 0 then r1 else r1 ||| (sw &&& (tw d <<< ((2 : Int32) &&& 0x3f).toInt64))
    let r3 := r2 &&& cols
    if hb < d + 1 then r3 &&& (hv ||| out) else r3
theorem own_G_hv (m sw cols out : Int64) (hb : Nat) (ab tw : Nat → Int64) (x y : Int64) : ∀ d, d ≤ hb → own_G m sw cols out hb ab tw x d = own_G m sw cols out hb ab tw y d := by
  intro d
  induction d with
  | zero => intro _; rfl
  | succ d ih =>
    intro h
    have h2 : ¬ hb < d + 1 := by omega
    simp only [own_G, ih (by omega), if_neg h2]
/-- the rows' vector for the cost d, the head's vector put in -/
def own_F (m sw cols out : Int64) (hb : Nat) (ab tw : Nat → Int64) (d : Nat) : Int64 := own_G m sw cols out hb ab tw (own_G m sw cols out hb ab tw 0 hb) d
theorem own_F_hb (m sw cols out : Int64) (hb : Nat) (ab tw : Nat → Int64) : own_F m sw cols out hb ab tw hb = own_G m sw cols out hb ab tw 0 hb := own_G_hv _ _ _ _ _ _ _ _ _ _ (Nat.le_refl _)
theorem own_F_succ (m sw cols out : Int64) (hb : Nat) (ab tw : Nat → Int64) (d : Nat) : own_F m sw cols out hb ab tw (d + 1) =
    (let r1 := (((m &&& (ab (d + 1) <<< ((1 : Int32) &&& 0x3f).toInt64)) ||| ab d) ||| (ab d <<< ((1 : Int32) &&& 0x3f).toInt64)) ||| (own_F m sw cols out hb ab tw d <<< ((1 : Int32) &&& 0x3f).toInt64)
    let r2 := if sw = 0 then r1 else r1 ||| (sw &&& (tw d <<< ((2 : Int32) &&& 0x3f).toInt64))
    let r3 := r2 &&& cols
    if hb < d + 1 then r3 &&& (own_F m sw cols out hb ab tw hb ||| out) else r3) := by
  rw [own_F_hb]; rfl
/-- one cell of the table: A: the row above, T: two above, D0: the cell on the left -/
def own_v (M S : Bool) (A0 A1 D0 T2 : Nat) : Nat := min (min (min A1 D0 + 1) (A0 + (if M then 0 else 1))) (if S then T2 + 1 else 5000)
def own_cap (head : Int) (hb v j : Nat) : Nat := if (j : Int) ≤ head ∧ hb < v then 1000 else v
theorem own_v_le (M S : Bool) (A0 A1 D0 T2 : Nat) {d : Nat} (hd : d < 1000) : own_v M S A0 A1 D0 T2 ≤ d ↔ (A1 + 1 ≤ d ∨ D0 + 1 ≤ d ∨ A0 + 1 ≤ d ∨ (M = true ∧ A0 ≤ d) ∨ (S = true ∧ T2 + 1 ≤ d)) := by
  unfold own_v
  cases M <;> cases S <;> simp <;> omega
theorem own_cap_le (head : Int) (hb v j : Nat) {d : Nat} (hd : d < 1000) : own_cap head hb v j ≤ d ↔ v ≤ d ∧ ((j : Int) ≤ head → v ≤ hb) := by
  unfold own_cap
  split <;> omega
theorem own_Bt_F {n hb bd : Nat} {m sw cols out : Int64} {ab tw : Nat → Int64} {head : Int} {M S : Nat → Bool} {A T D : Nat → Nat} (hn : n < 4) (hbd : bd < 64) (ho : ∀ j, j ≤ n → (own_Bt out j ↔ head < (j : Int)))
    (hc : ∀ j, own_Bt cols j ↔ j ≤ n) (hm : ∀ j, own_Bt m j ↔ (1 ≤ j ∧ j ≤ n ∧ M j = true)) (hs : ∀ j, own_Bt sw j ↔ (2 ≤ j ∧ j ≤ n ∧ S j = true))
    (hab : ∀ d, d ≤ bd → ∀ j, own_Bt (ab d) j ↔ j ≤ n ∧ A j ≤ d) (htw : ¬ sw = 0 → ∀ d, d ≤ bd → ∀ j, own_Bt (tw d) j ↔ j ≤ n ∧ T j ≤ d)
    (hD0 : D 0 = own_cap head hb (A 0 + 1) 0)
    (hD : ∀ j, j < n → D (j + 1) = own_cap head hb (own_v (M (j + 1)) (decide (1 ≤ j) && S (j + 1)) (A j) (A (j + 1)) (D j) (T (j - 1))) (j + 1)) :
    ∀ d, d ≤ bd → ∀ j, own_Bt (own_F m sw cols out hb ab tw d) j ↔ j ≤ n ∧ D j ≤ d := by
  intro d
  induction d using Nat.strongRecOn with
  | _ d ih =>
    intro hd j
    have hsw0 : sw = 0 → ∀ j, ¬ (2 ≤ j ∧ j ≤ n ∧ S j = true) := fun e j q => (own_Bt_zero sw).mp e j ((hs j).mpr q)
    cases d with
    | zero =>
      show own_Bt (m &&& (ab 0 <<< ((1 : Int32) &&& 0x3f).toInt64)) j ↔ _
      rw [own_Bt_and, own_Bt_s1, hm, hab 0 (by omega)]
      rcases j with _ | j
      · rw [hD0, own_cap_le _ _ _ _ (by omega)]; omega
      · by_cases hj : j < n
        · have c1 := own_cap_le head hb (own_v (M (j + 1)) (decide (1 ≤ j) && S (j + 1)) (A j) (A (j + 1)) (D j) (T (j - 1))) (j + 1) (d := 0) (by omega)
          rw [← hD j hj] at c1
          have hv0 := own_v_le (M (j + 1)) (decide (1 ≤ j) && S (j + 1)) (A j) (A (j + 1)) (D j) (T (j - 1)) (d := 0) (by omega)
          generalize own_v (M (j + 1)) (decide (1 ≤ j) && S (j + 1)) (A j) (A (j + 1)) (D j) (T (j - 1)) = v at hv0 c1
          rw [c1, show j + 1 - 1 = j from rfl]
          clear hD0 hD hm hs hab htw ho hc ih hsw0
          by_cases hM : M (j + 1) = true
          · simp only [hM, true_and, and_true] at hv0 ⊢; omega
          · simp only [hM, false_and, and_false, Bool.false_eq_true, false_or, or_false, false_iff] at hv0 ⊢; omega
        · constructor <;> (intro q; omega)
    | succ d =>
      have h1 := ih d (by omega) (by omega)
      have h2 : hb ≤ d → ∀ j, own_Bt (own_F m sw cols out hb ab tw hb) j ↔ j ≤ n ∧ D j ≤ hb := fun q => ih hb (by omega) (by omega)
      rw [own_F_succ]
      obtain ⟨r1, hr1⟩ : ∃ r1, r1 = (((m &&& (ab (d + 1) <<< ((1 : Int32) &&& 0x3f).toInt64)) ||| ab d) ||| (ab d <<< ((1 : Int32) &&& 0x3f).toInt64)) ||| (own_F m sw cols out hb ab tw d <<< ((1 : Int32) &&& 0x3f).toInt64) := ⟨_, rfl⟩
      have b1 : own_Bt r1 j ↔ (((1 ≤ j ∧ j ≤ n ∧ M j = true) ∧ (j < 64 ∧ 1 ≤ j ∧ (j - 1 ≤ n ∧ A (j - 1) ≤ d + 1))) ∨ (j ≤ n ∧ A j ≤ d)) ∨ (j < 64 ∧ 1 ≤ j ∧ (j - 1 ≤ n ∧ A (j - 1) ≤ d)) ∨ (j < 64 ∧ 1 ≤ j ∧ (j - 1 ≤ n ∧ D (j - 1) ≤ d)) := by
        rw [hr1, own_Bt_or, own_Bt_or, own_Bt_or, own_Bt_and, own_Bt_s1, own_Bt_s1, own_Bt_s1, hm, hab (d + 1) hd, hab d (by omega), hab d (by omega), h1, or_assoc]
      obtain ⟨r2, hr2⟩ : ∃ r2, r2 = if sw = 0 then r1 else r1 ||| (sw &&& (tw d <<< ((2 : Int32) &&& 0x3f).toInt64)) := ⟨_, rfl⟩
      have b2 : own_Bt r2 j ↔ own_Bt r1 j ∨ ((2 ≤ j ∧ j ≤ n ∧ S j = true) ∧ T (j - 2) ≤ d) := by
        rw [hr2]
        by_cases e : sw = 0
        · rw [if_pos e]
          exact ⟨Or.inl, fun q => q.elim id (fun z => absurd z.1 (hsw0 e j))⟩
        · rw [if_neg e, own_Bt_or, own_Bt_and, own_Bt_s2, hs, htw e d (by omega)]
          constructor
          · rintro (q | ⟨q, q1, q2, q3, q4⟩)
            · exact Or.inl q
            · exact Or.inr ⟨q, q4⟩
          · rintro (q | ⟨q, q4⟩)
            · exact Or.inl q
            · exact Or.inr ⟨q, by omega, by omega, by omega, q4⟩
      simp only [← hr1, ← hr2]
      have b3 : own_Bt (if hb < d + 1 then (r2 &&& cols) &&& (own_F m sw cols out hb ab tw hb ||| out) else (r2 &&& cols)) j ↔ (own_Bt r2 j ∧ j ≤ n) ∧ (hb < d + 1 → (D j ≤ hb ∨ head < (j : Int))) := by
        by_cases q : hb < d + 1
        · rw [if_pos q, own_Bt_and, own_Bt_and, own_Bt_or, hc, h2 (by omega)]
          constructor
          · rintro ⟨⟨z1, z2⟩, z3⟩
            exact ⟨⟨z1, z2⟩, fun _ => z3.elim (fun z => Or.inl z.2) (fun z => Or.inr ((ho j z2).mp z))⟩
          · rintro ⟨⟨z1, z2⟩, z3⟩
            exact ⟨⟨z1, z2⟩, (z3 q).elim (fun z => Or.inl ⟨z2, z⟩) (fun z => Or.inr ((ho j z2).mpr z))⟩
        · rw [if_neg q, own_Bt_and, hc]
          exact ⟨fun z => ⟨z, fun z' => absurd z' q⟩, fun z => z.1⟩
      rw [b3, b2, b1]
      clear b1 b2 b3 hr1 hr2 hm hs hab htw ho hc ih hsw0 h1 h2
      rcases j with _ | j
      · have c1 := own_cap_le head hb (A 0 + 1) 0 (d := d + 1) (by omega)
        rw [← hD0] at c1
        have c2 := fun q : hb < d + 1 => own_cap_le head hb (A 0 + 1) 0 (d := hb) (by omega)
        rw [← hD0] at c2
        clear hD0 hD
        rw [c1]
        by_cases q : hb < d + 1
        · have c3 := c2 q; omega
        · simp only [q, false_implies, and_true]; omega
      · by_cases hj : j < n
        · have c1 := own_cap_le head hb (own_v (M (j + 1)) (decide (1 ≤ j) && S (j + 1)) (A j) (A (j + 1)) (D j) (T (j - 1))) (j + 1) (d := d + 1) (by omega)
          rw [← hD j hj] at c1
          have c2 := fun q : hb < d + 1 => own_cap_le head hb (own_v (M (j + 1)) (decide (1 ≤ j) && S (j + 1)) (A j) (A (j + 1)) (D j) (T (j - 1))) (j + 1) (d := hb) (by omega)
          rw [← hD j hj] at c2
          have hv1 := own_v_le (M (j + 1)) (decide (1 ≤ j) && S (j + 1)) (A j) (A (j + 1)) (D j) (T (j - 1)) (d := d + 1) (by omega)
          have hS : (decide (1 ≤ j) && S (j + 1)) = true ↔ (2 ≤ j + 1 ∧ S (j + 1) = true) := by simp
          rw [hS] at hv1
          clear hD0 hD
          generalize own_v (M (j + 1)) (decide (1 ≤ j) && S (j + 1)) (A j) (A (j + 1)) (D j) (T (j - 1)) = v at hv1 c1 c2
          rw [c1, show j + 1 - 1 = j from rfl, show j + 1 - 2 = j - 1 from rfl]
          by_cases q : hb < d + 1
          · have c3 := c2 q
            clear c2 c1 hS
            by_cases hM : M (j + 1) = true <;> by_cases hS' : S (j + 1) = true <;> simp only [hM, hS', true_and, and_true, false_and, and_false, or_false, false_or, Bool.false_eq_true] at hv1 ⊢ <;> omega
          · clear c2 c1 hS
            simp only [q, false_implies, and_true]
            by_cases hM : M (j + 1) = true <;> by_cases hS' : S (j + 1) = true <;> simp only [hM, hS', true_and, and_true, false_and, and_false, or_false, false_or, Bool.false_eq_true] at hv1 ⊢ <;> omega
        · constructor <;> (intro q; omega)
end OwnBits
section OwnTab
def own_upd {α : Type} (f : Nat → α) (i : Nat) (v : α) : Nat → α := fun k => if k = i then v else f k
/-- the walk through the table of characters -/
def own_find (cp : Nat → Int32) (c : Int32) : Nat → Nat → Nat
  | 0, s => s
  | f + 1, s => if cp s = c ∨ cp s = -1 then s else own_find cp c f ((s + 1) % 128)
def own_sl (cp : Nat → Int32) (c : Int32) : Nat := own_find cp c 8 (c &&& 127).toNatClampNeg
def own_T0 : (Nat → Int32) × (Nat → Int64) := (fun _ => -1, fun _ => 0)
def own_ins (T : (Nat → Int32) × (Nat → Int64)) (j : Int32) (c : Int32) : (Nat → Int32) × (Nat → Int64) :=
  (own_upd T.1 (own_sl T.1 c) c, own_upd T.2 (own_sl T.1 c) (T.2 (own_sl T.1 c) ||| ((1 : Int64) <<< (j &&& 0x3f).toInt64)))
def own_T1 (c1 : Int32) := own_ins own_T0 (1 : Int32) c1
def own_T2 (c1 c2 : Int32) := own_ins (own_T1 c1) ((1 : Int32) + (1 : Int32)) c2
def own_T3 (c1 c2 c3 : Int32) := own_ins (own_T2 c1 c2) (((1 : Int32) + (1 : Int32)) + (1 : Int32)) c3
def own_chr (k : Nat) : Int32 := Int32.ofNat (k % 4 + 128 * (k / 4))
abbrev own_ok (T : (Nat → Int32) × (Nat → Int64)) (c : Int32) (mask : Nat) : Prop := (T.1 (own_sl T.1 c) = c ∨ T.1 (own_sl T.1 c) = -1) ∧ own_sl T.1 c < 128 ∧ T.2 (own_sl T.1 c) = Int64.ofNat mask
def own_b2 (a b : Int32) (w : Nat) : Nat := if a = b then w else 0
theorem own_ok0 : ∀ k : Fin 8, own_ok own_T0 (own_chr k) 0 := by decide +kernel
theorem own_ok1 : ∀ a k : Fin 8, own_ok (own_T1 (own_chr a)) (own_chr k) (own_b2 (own_chr a) (own_chr k) 2) := by decide +kernel
theorem own_ok2 : ∀ a b k : Fin 8, own_ok (own_T2 (own_chr a) (own_chr b)) (own_chr k) (own_b2 (own_chr a) (own_chr k) 2 + own_b2 (own_chr b) (own_chr k) 4) := by decide +kernel
theorem own_ok3 : ∀ a b c k : Fin 8, own_ok (own_T3 (own_chr a) (own_chr b) (own_chr c)) (own_chr k) (own_b2 (own_chr a) (own_chr k) 2 + own_b2 (own_chr b) (own_chr k) 4 + own_b2 (own_chr c) (own_chr k) 8) := by decide +kernel
theorem own_ch8 : ∀ k : Fin 8, (((Int32.ofNat k.1) &&& (3 : Int32)) ||| (((Int32.ofNat k.1) &&& (4 : Int32)) <<< ((5 : Int32) &&& 31))) = own_chr k.1 := by decide +kernel
theorem own_ch (x : Int32) : ∃ k : Fin 8, ((x &&& (3 : Int32)) ||| ((x &&& (4 : Int32)) <<< ((5 : Int32) &&& 31))) = own_chr k.1 := by
  have hm := Jvm.Kit.i32_mask x 7 (k := 3) (by decide) (by decide)
  have e : x &&& 7 = Int32.ofNat (x.toInt % 8).toNat := by
    apply Int32.toInt_inj.mp
    rw [hm, Int32.toInt_ofNat_of_lt (by omega)]; omega
  refine ⟨⟨(x.toInt % 8).toNat, by omega⟩, ?_⟩
  have h := own_ch8 ⟨(x.toInt % 8).toNat, by omega⟩
  dsimp only at h
  rw [← e, Int32.and_assoc, Int32.and_assoc, show (7 : Int32) &&& 3 = 3 from by decide, show (7 : Int32) &&& 4 = 4 from by decide] at h
  exact h
end OwnTab
section OwnMore
theorem own_lc0 (x : Int64) : lcmpW x (0 : Int64) = (0 : Int32) ↔ x = 0 := by
  unfold lcmpW
  by_cases h : x > 0
  · rw [if_pos h]
    constructor
    · intro q; cases q
    · intro q; subst q; exact absurd h (by decide)
  · rw [if_neg h]
    by_cases e : x = 0
    · simp [e]
    · rw [if_neg e]; simp [e]
theorem own_setI (f : Nat → Int32) (i : Nat) (c : Int32) (k : Nat) : own_set (fun k => .int (f k)) i (.int c) k = .int (own_upd f i c k) := by unfold own_set own_upd; split <;> rfl
theorem own_setJ (f : Nat → Int64) (i : Nat) (c : Int64) (k : Nat) : own_set (fun k => .long (f k)) i (.long c) k = .long (own_upd f i c k) := by unfold own_set own_upd; split <;> rfl
def own_r0k (n hb : Nat) (out : Int64) (k x : Nat) : Int64 := if x < k then own_R0 n hb out x else 0
theorem own_setR0 (n hb : Nat) (out : Int64) (k x : Nat) : own_upd (own_r0k n hb out k) k (own_R0 n hb out k) x = own_r0k n hb out (k + 1) x := by
  unfold own_upd own_r0k
  by_cases h : x = k
  · subst h; rw [if_pos rfl, if_pos (by omega)]
  · rw [if_neg h]
    by_cases q : x < k
    · rw [if_pos q, if_pos (by omega)]
    · rw [if_neg q, if_neg (by omega)]
/-- the rows while the row at B is being filled -/
def own_rk (rf : Nat → Int64) (B : Nat) (F : Nat → Int64) (k x : Nat) : Int64 := if B ≤ x ∧ x < B + k then F (x - B) else rf x
theorem own_rk_lt {rf : Nat → Int64} {B : Nat} {F : Nat → Int64} {k x : Nat} (h : x < B) : own_rk rf B F k x = rf x := if_neg (by omega)
theorem own_rk_in {rf : Nat → Int64} {B : Nat} {F : Nat → Int64} {k d : Nat} (h : d < k) : own_rk rf B F k (B + d) = F d := by unfold own_rk; rw [if_pos (by omega), Nat.add_sub_cancel_left]
theorem own_setRk (rf : Nat → Int64) (B : Nat) (F : Nat → Int64) (k x : Nat) : own_upd (own_rk rf B F k) (B + k) (F k) x = own_rk rf B F (k + 1) x := by
  unfold own_upd own_rk
  by_cases h : x = B + k
  · subst h; rw [if_pos rfl, if_pos (by omega), Nat.add_sub_cancel_left]
  · rw [if_neg h]
    by_cases q : B ≤ x ∧ x < B + k
    · rw [if_pos q, if_pos (by omega)]
    · rw [if_neg q, if_neg (by omega)]
theorem own_rk0 (rf : Nat → Int64) (B : Nat) (F : Nat → Int64) (x : Nat) : own_upd rf B (F 0) x = own_rk rf B F 1 x := by
  have h := own_setRk rf B F 0 x
  have e : own_rk rf B F 0 = rf := by funext z; unfold own_rk; rw [if_neg (by omega)]
  rwa [e] at h
theorem own_addI {x y : Int32} {a b : Int} (hx : x.toInt = a) (hy : y.toInt = b) (h1 : -2147483648 ≤ a + b) (h2 : a + b < 2147483648) : (x + y).toInt = a + b := by
  rw [Jvm.Kit.i32_add (by omega) (by omega), hx, hy]
theorem own_subI {x y : Int32} {a b : Int} (hx : x.toInt = a) (hy : y.toInt = b) (h1 : -2147483648 ≤ a - b) (h2 : a - b < 2147483648) : (x - y).toInt = a - b := by
  rw [Jvm.Kit.i32_sub (by omega) (by omega), hx, hy]
theorem own_slot1 {s : Nat} {x : Int32} (h : x.toInt = (s : Int)) (hs : s < 128) : ((x + (1 : Int32)) &&& (127 : Int32)).toInt = (((s + 1) % 128 : Nat) : Int) := by
  rw [Jvm.Kit.i32_mask _ 127 (k := 7) (by decide) (by decide), own_addI h (show (1 : Int32).toInt = 1 from by decide) (by omega) (by omega)]
  omega
theorem own_slot0 (c : Int32) : (c &&& (127 : Int32)).toInt = (((c &&& 127).toNatClampNeg : Nat) : Int) ∧ (c &&& 127).toNatClampNeg < 128 := by
  have h := Jvm.Kit.i32_mask c 127 (k := 7) (by decide) (by decide)
  have q : ¬ (c &&& 127) < 0 := by rw [Int32.lt_iff_toInt_lt]; have : (0 : Int32).toInt = 0 := (by decide); omega
  exact ⟨nat_of q, by have := nat_of q; omega⟩
end OwnMore
section OwnRows
def own_row (head : Int) (hb : Nat) (M S : Nat → Bool) (A T : Nat → Nat) : Nat → Nat
  | 0 => own_cap head hb (A 0 + 1) 0
  | j + 1 => own_cap head hb (own_v (M (j + 1)) (decide (1 ≤ j) && S (j + 1)) (A j) (A (j + 1)) (own_row head hb M S A T j) (T (j - 1))) (j + 1)
theorem own_last4 : ∀ n : Fin 4, ((1 : Int64) <<< ((Int32.ofNat n.1) &&& 0x3f).toInt64) = Int64.ofNat (2 ^ n.1) := by decide +kernel
theorem own_lastZ {n : Nat} (hn : n < 4) (x : Int64) : x &&& ((1 : Int64) <<< ((Int32.ofNat n) &&& 0x3f).toInt64) = 0 ↔ ¬ own_Bt x n := by
  rw [own_last4 ⟨n, hn⟩, own_Bt_zero]
  have hb : ∀ j, own_Bt (Int64.ofNat (2 ^ n)) j ↔ j = n := by
    intro j
    rw [own_Bt_nat _ _ (Nat.pow_lt_pow_right (by decide) (by omega)), Nat.testBit_two_pow]
    simp; exact eq_comm
  constructor
  · intro h q
    exact h n ((own_Bt_and _ _ _).mpr ⟨q, (hb n).mpr rfl⟩)
  · intro h j q
    obtain ⟨q1, q2⟩ := (own_Bt_and _ _ _).mp q
    rw [(hb j).mp q2] at q1
    exact h q1
def own_rD (D bd : Nat) : Int32 := if D ≤ bd then Int32.ofNat D else -1
theorem own_dist {n bd B D : Nat} {rf : Nat → Int64} (hn : n < 4) (hbd : bd ≤ 63) (h : ∀ d, d ≤ bd → (own_Bt (rf (B + d)) n ↔ D ≤ d)) :
    (((rf (B + bd)) &&& ((1 : Int64) <<< ((Int32.ofNat n) &&& 0x3f).toInt64)) = 0 → own_rD D bd = -1) ∧ (¬ ((rf (B + bd)) &&& ((1 : Int64) <<< ((Int32.ofNat n) &&& 0x3f).toInt64)) = 0 → D ≤ bd ∧ ¬ ((rf (B + D)) &&& ((1 : Int64) <<< ((Int32.ofNat n) &&& 0x3f).toInt64)) = 0 ∧ (own_rD D bd).toInt = (D : Int)) ∧ ((∀ k, k < D → k ≤ bd → ((rf (B + k)) &&& ((1 : Int64) <<< ((Int32.ofNat n) &&& 0x3f).toInt64)) = 0)) := by
  refine ⟨fun q => ?_, fun q => ?_, fun k hk hk2 => ?_⟩
  · rw [own_lastZ hn, h bd (Nat.le_refl _)] at q
    exact if_neg q
  · rw [own_lastZ hn, h bd (Nat.le_refl _), Decidable.not_not] at q
    refine ⟨q, ?_, ?_⟩
    · rw [own_lastZ hn, h D q, Decidable.not_not]; exact Nat.le_refl _
    · unfold own_rD; rw [if_pos q]; exact own_ofN (by omega)
  · rw [own_lastZ hn, h k (by omega)]; omega
def own_cpI (d b : Int32) : Int32 := if b < d then -1 else d
theorem own_fin {D bd : Nat} {b : Int32} (hb : b.toInt = (bd : Int)) (hD : D < 2147483648) : own_rD D bd = own_cpI (Int32.ofNat D) b := by
  unfold own_rD own_cpI
  by_cases h : D ≤ bd
  · rw [if_pos h, if_neg (by rw [Int32.lt_iff_toInt_lt, own_ofN hD, hb]; omega)]
  · rw [if_neg h, if_pos (by rw [Int32.lt_iff_toInt_lt, own_ofN hD, hb]; omega)]
/-- the bits of the mask of one character -/
theorem own_Bt_mask {n : Nat} (t : Nat → Int32) (c : Int32) (hn : n < 4) (j : Nat) :
    own_Bt (Int64.ofNat ((if 1 ≤ n then own_b2 (t 1) c 2 else 0) + (if 2 ≤ n then own_b2 (t 2) c 4 else 0) + (if 3 ≤ n then own_b2 (t 3) c 8 else 0))) j ↔ (1 ≤ j ∧ j ≤ n ∧ decide (t j = c) = true) := by
  have w2 : own_b2 (t 1) c 2 = 0 ∨ own_b2 (t 1) c 2 = 2 := by unfold own_b2; split <;> simp
  have w4 : own_b2 (t 2) c 4 = 0 ∨ own_b2 (t 2) c 4 = 4 := by unfold own_b2; split <;> simp
  have w8 : own_b2 (t 3) c 8 = 0 ∨ own_b2 (t 3) c 8 = 8 := by unfold own_b2; split <;> simp
  rw [own_Bt_nat _ _ (by split <;> split <;> split <;> omega)]
  have e1 : own_b2 (t 1) c 2 = if decide (t 1 = c) = true then 2 else 0 := by unfold own_b2; simp
  have e2 : own_b2 (t 2) c 4 = if decide (t 2 = c) = true then 4 else 0 := by unfold own_b2; simp
  have e3 : own_b2 (t 3) c 8 = if decide (t 3 = c) = true then 8 else 0 := by unfold own_b2; simp
  rw [e1, e2, e3]
  have key : ∀ (b1 b2 b3 : Bool) (n : Fin 4) (j : Fin 4), (((if 1 ≤ n.1 then (if b1 = true then 2 else 0) else 0) + (if 2 ≤ n.1 then (if b2 = true then 4 else 0) else 0) + (if 3 ≤ n.1 then (if b3 = true then 8 else 0) else 0)).testBit j.1 = true ↔ (1 ≤ j.1 ∧ j.1 ≤ n.1 ∧ (if j.1 = 1 then b1 else if j.1 = 2 then b2 else b3) = true)) := by decide
  by_cases hj : j < 4
  · rw [key (decide (t 1 = c)) (decide (t 2 = c)) (decide (t 3 = c)) ⟨n, hn⟩ ⟨j, hj⟩]
    have : j = 0 ∨ j = 1 ∨ j = 2 ∨ j = 3 := by omega
    rcases this with rfl | rfl | rfl | rfl <;> simp
  · constructor
    · intro q
      exfalso
      have hlt : ((if 1 ≤ n then (if decide (t 1 = c) = true then 2 else 0) else 0) + (if 2 ≤ n then (if decide (t 2 = c) = true then 4 else 0) else 0) + (if 3 ≤ n then (if decide (t 3 = c) = true then 8 else 0) else 0)) < 2 ^ j := by
        have : 2 ^ 4 ≤ 2 ^ j := Nat.pow_le_pow_right (by decide) (by omega)
        rw [← e1, ← e2, ← e3]
        split <;> split <;> split <;> omega
      rw [Nat.testBit_lt_two_pow hlt] at q
      cases q
    · intro q; omega
theorem own_Bt_neg (j : Nat) (hj : j < 64) : own_Bt (-1 : Int64) j := by
  unfold own_Bt
  rw [show (-1 : Int64).toBitVec = BitVec.allOnes 64 from by decide, BitVec.getLsbD_allOnes]
  exact decide_eq_true hj
theorem own_Bt_cols {n : Nat} (hn : n < 4) (j : Nat) : own_Bt (own_upTo (Int32.ofNat n)) j ↔ j ≤ n := own_Bt_up hn j
theorem own_Bt_sw {n : Nat} {m m' : Int64} {M M' : Nat → Bool} (hn : n < 4) (hm : ∀ j, own_Bt m j ↔ (1 ≤ j ∧ j ≤ n ∧ M j = true)) (hm' : ∀ j, own_Bt m' j ↔ (1 ≤ j ∧ j ≤ n ∧ M' j = true)) (j : Nat) :
    own_Bt ((m <<< ((1 : Int32) &&& 0x3f).toInt64) &&& m') j ↔ (2 ≤ j ∧ j ≤ n ∧ (M (j - 1) && M' j) = true) := by
  rw [own_Bt_and, own_Bt_s1, hm, hm', Bool.and_eq_true]
  constructor
  · rintro ⟨⟨a, b, c, d, e⟩, f, g, h⟩; exact ⟨by omega, g, e, h⟩
  · rintro ⟨a, b, c, d⟩; exact ⟨⟨by omega, by omega, by omega, by omega, c⟩, by omega, b, d⟩
end OwnRows
section OwnM1
def own_e (b : Bool) : Int32 := if b then 0 else 1
def own_eqv (x y : Int32) : Int32 := if x = y then (0 : Int32) else 1
theorem own_eqe (x y : Int32) : own_eqv x y = own_e (decide (x = y)) := by unfold own_eqv own_e; by_cases h : x = y <;> simp [h]
def own_pk (n x0 x1 x2 : Int32) : Int32 := if n = 0 then x0 else if n = 1 then x1 else x2
theorem own_capN (hb v j : Nat) : own_cap (-1) hb v j = v := by unfold own_cap; rw [if_neg (by omega)]
def own_rowN (M S : Nat → Bool) (A T : Nat → Nat) : Nat → Nat
  | 0 => A 0 + 1
  | j + 1 => own_v (M (j + 1)) (decide (1 ≤ j) && S (j + 1)) (A j) (A (j + 1)) (own_rowN M S A T j) (T (j - 1))
theorem own_rowN_eq (hb : Nat) (M S : Nat → Bool) (A T : Nat → Nat) (j : Nat) : own_row (-1) hb M S A T j = own_rowN M S A T j := by
  induction j with
  | zero => exact own_capN _ _ _
  | succ j ih => show own_cap (-1) hb (own_v _ _ _ _ (own_row (-1) hb M S A T j) _) _ = _; rw [own_capN, ih]; rfl
def own_M (b1 b2 : Bool) : Nat → Bool := fun j => if j = 1 then b1 else b2
def own_id : Nat → Nat := fun j => j
def own_E1 (b11 b12 : Bool) : Nat → Nat := own_rowN (own_M b11 b12) (fun _ => false) own_id own_id
def own_E2 (b11 b12 b21 b22 : Bool) : Nat → Nat := own_rowN (own_M b21 b22) (fun j => own_M b21 b22 (j - 1) && own_M b11 b12 j) (own_E1 b11 b12) own_id
theorem own_m1d : ∀ b11 b12 b21 b22 : Bool,
    (let d11 := own_mni ((own_mni (1 : Int32) (1 : Int32)) + (1 : Int32)) ((0 : Int32) + own_e b11)
     let d12 := own_mni ((own_mni (2 : Int32) d11) + (1 : Int32)) ((1 : Int32) + own_e b12)
     let d21 := own_mni ((own_mni d11 (2 : Int32)) + (1 : Int32)) ((1 : Int32) + own_e b21)
     let d22 := own_mni ((own_mni d12 d21) + (1 : Int32)) (d11 + own_e b22)
     let e22 := if b21 && b12 then own_mni d22 ((0 : Int32) + (1 : Int32)) else d22
     d11 = Int32.ofNat (own_E1 b11 b12 1) ∧ d12 = Int32.ofNat (own_E1 b11 b12 2) ∧ d21 = Int32.ofNat (own_E2 b11 b12 b21 b22 1) ∧ e22 = Int32.ofNat (own_E2 b11 b12 b21 b22 2) ∧ own_E1 b11 b12 0 = 1 ∧ own_E2 b11 b12 b21 b22 0 = 2 ∧ (∀ j : Fin 3, own_E1 b11 b12 j.1 < 10 ∧ own_E2 b11 b12 b21 b22 j.1 < 10)) := by decide +kernel
theorem own_Bt_m1 {n bd : Nat} (hn : n < 4) (hbd : bd ≤ 63) (t : Nat → Int32) (k1 k2 : Int32) {m1 m2 : Int64}
    (hm1 : ∀ j, own_Bt m1 j ↔ (1 ≤ j ∧ j ≤ n ∧ decide (t j = k1) = true)) (hm2 : ∀ j, own_Bt m2 j ↔ (1 ≤ j ∧ j ≤ n ∧ decide (t j = k2) = true)) (cols : Int64) (hc : ∀ j, own_Bt cols j ↔ j ≤ n)
    (rf0 F1 rf1 F2 rf2 : Nat → Int64) (hrf0 : rf0 = own_r0k n bd (-1) (bd + 1))
    (hF1 : F1 = own_F m1 0 cols (-1) bd (fun d => rf0 (0 * (bd + 1) + d)) (fun d => rf0 (0 * (bd + 1) + d)))
    (hrf1 : rf1 = own_rk rf0 (1 * (bd + 1)) F1 (bd + 1))
    (hF2 : F2 = own_F m2 ((m2 <<< ((1 : Int32) &&& 0x3f).toInt64) &&& m1) cols (-1) bd (fun d => rf1 (1 * (bd + 1) + d)) (fun d => rf1 (0 * (bd + 1) + d)))
    (hrf2 : rf2 = own_rk rf1 (2 * (bd + 1)) F2 (bd + 1)) :
    (∀ d, d ≤ bd → ∀ j, own_Bt (rf2 (0 * (bd + 1) + d)) j ↔ j ≤ n ∧ j ≤ d) ∧
    (∀ d, d ≤ bd → ∀ j, own_Bt (rf2 (1 * (bd + 1) + d)) j ↔ j ≤ n ∧ own_rowN (fun j => decide (t j = k1)) (fun _ => false) own_id own_id j ≤ d) ∧
    (∀ d, d ≤ bd → ∀ j, own_Bt (rf2 (2 * (bd + 1) + d)) j ↔ j ≤ n ∧ own_rowN (fun j => decide (t j = k2)) (fun j => decide (t (j - 1) = k2) && decide (t j = k1)) (own_rowN (fun j => decide (t j = k1)) (fun _ => false) own_id own_id) own_id j ≤ d) := by
  have ho : ∀ j, j ≤ n → (own_Bt (-1 : Int64) j ↔ (-1 : Int) < (j : Int)) := fun j hj => ⟨fun _ => by omega, fun _ => own_Bt_neg j (by omega)⟩
  have b0 : ∀ d, d ≤ bd → ∀ j, own_Bt (rf0 (0 * (bd + 1) + d)) j ↔ j ≤ n ∧ own_id j ≤ d := by
    intro d hd j
    rw [hrf0]
    unfold own_r0k
    rw [if_pos (by omega), Nat.zero_mul, Nat.zero_add, own_Bt_R0 (head := -1) hn (by omega) ho]
    unfold own_D0 own_id
    rw [if_neg (by omega)]
  have b1 : ∀ d, d ≤ bd → ∀ j, own_Bt (F1 d) j ↔ j ≤ n ∧ own_rowN (fun j => decide (t j = k1)) (fun _ => false) own_id own_id j ≤ d := by
    intro d hd j
    rw [hF1]
    refine own_Bt_F (head := -1) (M := fun j => decide (t j = k1)) (S := fun _ => false) (A := own_id) (T := own_id) hn (by omega) ho hc hm1 ?_ b0 (fun q => absurd rfl q) (own_capN _ _ _).symm (fun j hj => (own_capN _ _ _).symm) d hd j
    intro j
    exact ⟨fun q => absurd q ((own_Bt_zero 0).mp rfl j), fun q => absurd q.2.2 (by simp)⟩
  have c0 : ∀ d, d ≤ bd → ∀ j, own_Bt (rf1 (0 * (bd + 1) + d)) j ↔ j ≤ n ∧ own_id j ≤ d := by
    intro d hd j
    rw [hrf1, own_rk_lt (by omega)]
    exact b0 d hd j
  have c1 : ∀ d, d ≤ bd → ∀ j, own_Bt (rf1 (1 * (bd + 1) + d)) j ↔ j ≤ n ∧ own_rowN (fun j => decide (t j = k1)) (fun _ => false) own_id own_id j ≤ d := by
    intro d hd j
    rw [hrf1, own_rk_in (by omega)]
    exact b1 d hd j
  have b2 : ∀ d, d ≤ bd → ∀ j, own_Bt (F2 d) j ↔ j ≤ n ∧ own_rowN (fun j => decide (t j = k2)) (fun j => decide (t (j - 1) = k2) && decide (t j = k1)) (own_rowN (fun j => decide (t j = k1)) (fun _ => false) own_id own_id) own_id j ≤ d := by
    intro d hd j
    rw [hF2]
    exact own_Bt_F (head := -1) (M := fun j => decide (t j = k2)) (S := fun j => decide (t (j - 1) = k2) && decide (t j = k1)) (A := own_rowN (fun j => decide (t j = k1)) (fun _ => false) own_id own_id) (T := own_id) hn (by omega) ho hc hm2 (own_Bt_sw hn hm2 hm1) c1 (fun _ => c0) (own_capN _ _ _).symm (fun j hj => (own_capN _ _ _).symm) d hd j
  refine ⟨?_, ?_, ?_⟩
  · intro d hd j
    rw [hrf2, own_rk_lt (by omega)]
    exact c0 d hd j
  · intro d hd j
    rw [hrf2, own_rk_lt (by omega)]
    exact c1 d hd j
  · intro d hd j
    rw [hrf2, own_rk_in (by omega)]
    exact b2 d hd j
end OwnM1
def own_tt (x y z : Int32) : Nat → Int32 := fun j => if j = 1 then x else if j = 2 then y else z
theorem own_tb0  : ∃  (cp0 : Nat → Int32) (co0 : Nat → Int64), (∀ k, cp0 k = -1) ∧ (∀ k, co0 k = 0) ∧ (∀ k : Fin 8, ∃ RR, own_find cp0 (own_chr k) 8 ((own_chr k) &&& 127).toNatClampNeg = RR ∧ (cp0 RR = own_chr k ∨ cp0 RR = -1) ∧ RR < 128 ∧ ∀ j, own_Bt (co0 RR) j ↔ (1 ≤ j ∧ j ≤ 0 ∧ decide ((own_tt 0 0 0) j = own_chr k) = true)) := by
  refine ⟨own_T0.1, own_T0.2, fun _ => rfl, fun _ => rfl, ?_⟩
  intro k
  refine ⟨own_sl own_T0.1 (own_chr k), rfl, (own_ok0  k).1, (own_ok0  k).2.1, fun j => ?_⟩
  have h := own_Bt_mask (n := 0) (own_tt 0 0 0) (own_chr k) (by decide) j
  have e := (own_ok0  k).2.2
  rw [show own_T0.2 (own_sl own_T0.1 (own_chr k)) = _ from e]
  simpa [own_tt] using h
theorem own_tb1 (a : Fin 8) : ∃ (RR1 : Nat) (cp0 cp1 : Nat → Int32) (co0 co1 : Nat → Int64), (∀ k, cp0 k = -1) ∧ (∀ k, co0 k = 0) ∧ own_find cp0 (own_chr a) 8 ((own_chr a) &&& 127).toNatClampNeg = RR1 ∧ ((cp0 RR1 = (own_chr a) ∨ cp0 RR1 = -1) ∧ RR1 < 128) ∧ cp1 = own_upd cp0 RR1 (own_chr a) ∧ co1 = own_upd co0 RR1 (co0 RR1 ||| ((1 : Int64) <<< ((1 : Int32) &&& 0x3f).toInt64)) ∧ (∀ k : Fin 8, ∃ RR, own_find cp1 (own_chr k) 8 ((own_chr k) &&& 127).toNatClampNeg = RR ∧ (cp1 RR = own_chr k ∨ cp1 RR = -1) ∧ RR < 128 ∧ ∀ j, own_Bt (co1 RR) j ↔ (1 ≤ j ∧ j ≤ 1 ∧ decide ((own_tt (own_chr a) 0 0) j = own_chr k) = true)) := by
  refine ⟨(own_sl own_T0.1 (own_chr a)), own_T0.1, (own_T1 (own_chr a)).1, own_T0.2, (own_T1 (own_chr a)).2, fun _ => rfl, fun _ => rfl, rfl, ⟨(own_ok0 a).1, (own_ok0 a).2.1⟩, rfl, rfl, ?_⟩
  intro k
  refine ⟨own_sl (own_T1 (own_chr a)).1 (own_chr k), rfl, (own_ok1 a k).1, (own_ok1 a k).2.1, fun j => ?_⟩
  have h := own_Bt_mask (n := 1) (own_tt (own_chr a) 0 0) (own_chr k) (by decide) j
  have e := (own_ok1 a k).2.2
  rw [show (own_T1 (own_chr a)).2 (own_sl (own_T1 (own_chr a)).1 (own_chr k)) = _ from e]
  simpa [own_tt] using h
theorem own_tb2 (a b : Fin 8) : ∃ (RR1 RR2 : Nat) (cp0 cp1 cp2 : Nat → Int32) (co0 co1 co2 : Nat → Int64), (∀ k, cp0 k = -1) ∧ (∀ k, co0 k = 0) ∧ own_find cp0 (own_chr a) 8 ((own_chr a) &&& 127).toNatClampNeg = RR1 ∧ ((cp0 RR1 = (own_chr a) ∨ cp0 RR1 = -1) ∧ RR1 < 128) ∧ cp1 = own_upd cp0 RR1 (own_chr a) ∧ co1 = own_upd co0 RR1 (co0 RR1 ||| ((1 : Int64) <<< ((1 : Int32) &&& 0x3f).toInt64)) ∧ own_find cp1 (own_chr b) 8 ((own_chr b) &&& 127).toNatClampNeg = RR2 ∧ ((cp1 RR2 = (own_chr b) ∨ cp1 RR2 = -1) ∧ RR2 < 128) ∧ cp2 = own_upd cp1 RR2 (own_chr b) ∧ co2 = own_upd co1 RR2 (co1 RR2 ||| ((1 : Int64) <<< (((1 : Int32) + (1 : Int32)) &&& 0x3f).toInt64)) ∧ (∀ k : Fin 8, ∃ RR, own_find cp2 (own_chr k) 8 ((own_chr k) &&& 127).toNatClampNeg = RR ∧ (cp2 RR = own_chr k ∨ cp2 RR = -1) ∧ RR < 128 ∧ ∀ j, own_Bt (co2 RR) j ↔ (1 ≤ j ∧ j ≤ 2 ∧ decide ((own_tt (own_chr a) (own_chr b) 0) j = own_chr k) = true)) := by
  refine ⟨(own_sl own_T0.1 (own_chr a)), (own_sl (own_T1 (own_chr a)).1 (own_chr b)), own_T0.1, (own_T1 (own_chr a)).1, (own_T2 (own_chr a) (own_chr b)).1, own_T0.2, (own_T1 (own_chr a)).2, (own_T2 (own_chr a) (own_chr b)).2, fun _ => rfl, fun _ => rfl, rfl, ⟨(own_ok0 a).1, (own_ok0 a).2.1⟩, rfl, rfl, rfl, ⟨(own_ok1 a b).1, (own_ok1 a b).2.1⟩, rfl, rfl, ?_⟩
  intro k
  refine ⟨own_sl (own_T2 (own_chr a) (own_chr b)).1 (own_chr k), rfl, (own_ok2 a b k).1, (own_ok2 a b k).2.1, fun j => ?_⟩
  have h := own_Bt_mask (n := 2) (own_tt (own_chr a) (own_chr b) 0) (own_chr k) (by decide) j
  have e := (own_ok2 a b k).2.2
  rw [show (own_T2 (own_chr a) (own_chr b)).2 (own_sl (own_T2 (own_chr a) (own_chr b)).1 (own_chr k)) = _ from e]
  simpa [own_tt] using h
theorem d6_0 : decode jdk_29_method_69_code 0 = .ok (.iload_n 0, 1) := by decide +kernel
theorem d6_1 : decode jdk_29_method_69_code 1 = .ok (.iload_n 1, 1) := by decide +kernel
theorem d6_2 : decode jdk_29_method_69_code 2 = .ok (.if_icmp .gt 7, 3) := by decide +kernel
theorem d6_9 : decode jdk_29_method_69_code 9 = .ok (.iload_n 1, 1) := by decide +kernel
theorem d6_10 : decode jdk_29_method_69_code 10 = .ok (.ireturn, 1) := by decide +kernel
theorem d6_5 : decode jdk_29_method_69_code 5 = .ok (.iload_n 0, 1) := by decide +kernel
theorem d6_6 : decode jdk_29_method_69_code 6 = .ok (.goto 4, 3) := by decide +kernel
def Q_rmmin (Z : State) (p1 : Int32) (p2 : Int32) (h0 : Heap) (n0 : Nat) (v : Option Value) (h : Heap) (L : List Loc) : Prop := v = some (.int (own_mni p1 p2)) ∧ Fr n0 L ∧ h = h0
set_option maxRecDepth 65536 in
set_option maxHeartbeats 40000000 in
theorem rmmin (l : Launch) (Z : State) (a0 : Array Value) (hw : ∀ d ∈ tables_1, d.before a0 Z = true) (ws : List Jvm.Cond) (p1 : Int32) (p2 : Int32) (h0 : Heap) (n0 : Nat) (Z0 : n0 ≤ h0.size)  :
    own_Ctr l Z (⟨"java/lang/Math", "min", "(II)I"⟩ : MethodName) jdk_29_method_69_code 2 (some .int) ws ({ frames := 0, cells := 0, slots := 0, locals := 0 } : Room) #[(.int p1), (.int p2)] h0 (Q_rmmin Z p1 p2 h0 n0) := by
  refine own_enter (Jvm.Free.JP.mathPlain rfl (by decide +kernel)) ?_
  intro p e s m below meth c s₁ X0 hx hby hml hrt hlk hZ hown hnm e0
  have N0 := Fr.nil n0
  have Zs := Z0
  rw [show entryFrame m #[(.int p1), (.int p2)] 2 = mkF m 0 #[iv p1, iv p2] [] from by first | (simp [entryFrame, mkF, argsToLocals, Value.category]; done) | rfl]
  show own_Wp _ _ _ _ (s₁.setTop (mkF m 0 #[iv p1, iv p2] []))
  refine own_of (fun tgt kon => XS.iloadN X0.here hx rfl (hb hby d6_0) rfl kon) ?_
  refine own_of (fun tgt kon => XS.iloadN X0.here hx rfl (hb hby d6_1) rfl kon) ?_
  by_cases hc2 : p2 < p1
  · skip
    refine own_of (fun tgt kon => XS.icmpYes X0.here hx rfl (pc0 := 2) (pc' := 9) rfl (hb hby d6_2) rfl (tlt hc2).2.2.1 (by decide) (by decide) kon) ?_
    refine own_of (fun tgt kon => XS.iloadN X0.here hx rfl (hb hby d6_9) rfl kon) ?_
    show own_Wp _ _ _ _ (s₁.setTop (mkF m 10 #[iv p1, iv p2] [(.int p2)]))
    refine own_ret X0 hlk (some (.int p2)) (own_rtI hrt) (fun fs hr => own_retI X0 hx hrt (hb hby d6_10) hr) ?_ (by decide) (by decide)
    rw [e0]
    exact ⟨by unfold own_mni; rw [if_pos hc2], N0, rfl⟩
  · skip
    refine own_of (fun tgt kon => XS.icmpNo X0.here hx rfl (hb hby d6_2) rfl (flt hc2).2.2.1 kon) ?_
    refine own_of (fun tgt kon => XS.iloadN X0.here hx rfl (hb hby d6_5) rfl kon) ?_
    refine own_of (fun tgt kon => XS.goto X0.here hx rfl (pc0 := 6) (pc' := 10) rfl (hb hby d6_6) (by decide) (by decide) kon) ?_
    show own_Wp _ _ _ _ (s₁.setTop (mkF m 10 #[iv p1, iv p2] [(.int p1)]))
    refine own_ret X0 hlk (some (.int p1)) (own_rtI hrt) (fun fs hr => own_retI X0 hx hrt (hb hby d6_10) hr) ?_ (by decide) (by decide)
    rw [e0]
    exact ⟨by unfold own_mni; rw [if_neg hc2], N0, rfl⟩
theorem own_pn0 : plainName "com/example/close_words/closewords/BitRows" = true := by first | (simp [plainName, overriddenIn]; done) | decide +kernel
theorem d4_0 : decode prog_6_method_5_code 0 = .ok (.iload_n 0, 1) := by decide +kernel
theorem d4_1 : decode prog_6_method_5_code 1 = .ok (.bipush 63, 2) := by decide +kernel
theorem d4_3 : decode prog_6_method_5_code 3 = .ok (.if_icmp .lt 9, 3) := by decide +kernel
theorem d4_12 : decode prog_6_method_5_code 12 = .ok (.lconst 1, 1) := by decide +kernel
theorem d4_13 : decode prog_6_method_5_code 13 = .ok (.iload_n 0, 1) := by decide +kernel
theorem d4_14 : decode prog_6_method_5_code 14 = .ok (.iconst 1, 1) := by decide +kernel
theorem d4_15 : decode prog_6_method_5_code 15 = .ok (.iadd, 1) := by decide +kernel
theorem d4_16 : decode prog_6_method_5_code 16 = .ok (.lshl, 1) := by decide +kernel
theorem d4_17 : decode prog_6_method_5_code 17 = .ok (.lconst 1, 1) := by decide +kernel
theorem d4_18 : decode prog_6_method_5_code 18 = .ok (.lsub, 1) := by decide +kernel
theorem d4_19 : decode prog_6_method_5_code 19 = .ok (.lreturn, 1) := by decide +kernel
theorem d4_6 : decode prog_6_method_5_code 6 = .ok (.ldc2_w 32, 3) := by decide +kernel
theorem d4_9 : decode prog_6_method_5_code 9 = .ok (.goto 10, 3) := by decide +kernel
def Q_rmup (Z : State) (p1 : Int32) (h0 : Heap) (n0 : Nat) (v : Option Value) (h : Heap) (L : List Loc) : Prop := v = some (.long (own_upTo p1)) ∧ Fr n0 L ∧ h = h0
set_option maxRecDepth 65536 in
set_option maxHeartbeats 40000000 in
theorem rmup (l : Launch) (Z : State) (a0 : Array Value) (hw : ∀ d ∈ tables_1, d.before a0 Z = true) (ws : List Jvm.Cond) (p1 : Int32) (h0 : Heap) (n0 : Nat) (Z0 : n0 ≤ h0.size)  :
    own_Ctr l Z (⟨"com/example/close_words/closewords/BitRows", "upTo", "(I)J"⟩ : MethodName) prog_6_method_5_code 1 (some .long) ws ({ frames := 0, cells := 0, slots := 0, locals := 0 } : Room) #[(.int p1)] h0 (Q_rmup Z p1 h0 n0) := by
  refine own_enter (plainFor_of_name own_pn0) ?_
  intro p e s m below meth c s₁ X0 hx hby hml hrt hlk hZ hown hnm e0
  have N0 := Fr.nil n0
  have Zs := Z0
  rw [show entryFrame m #[(.int p1)] 1 = mkF m 0 #[iv p1] [] from by first | (simp [entryFrame, mkF, argsToLocals, Value.category]; done) | rfl]
  show own_Wp _ _ _ _ (s₁.setTop (mkF m 0 #[iv p1] []))
  refine own_of (fun tgt kon => XS.iloadN X0.here hx rfl (hb hby d4_0) rfl kon) ?_
  refine own_of (fun tgt kon => XS.bipush X0.here hx rfl (hb hby d4_1) kon) ?_
  by_cases hc3 : p1 < (63 : Int32)
  · skip
    refine own_of (fun tgt kon => XS.icmpYes X0.here hx rfl (pc0 := 3) (pc' := 12) rfl (hb hby d4_3) rfl (tlt hc3).1 (by decide) (by decide) kon) ?_
    refine own_of (fun tgt kon => XS.lconst X0.here hx rfl (hb hby d4_12) kon) ?_
    refine own_of (fun tgt kon => XS.iloadN X0.here hx rfl (hb hby d4_13) rfl kon) ?_
    show own_Wp _ _ _ _ (s₁.setTop (mkF m 14 #[iv p1] [(.int p1), (.long (1 : Int64))]))
    refine own_of (fun tgt kon => XS.iconst X0.here hx rfl (hb hby d4_14) kon) ?_
    refine own_of (fun tgt kon => XS.iadd X0.here hx rfl (hb hby d4_15) rfl kon) ?_
    refine own_of (fun tgt kon => XS.lshl X0.here hx rfl (hb hby d4_16) rfl kon) ?_
    refine own_of (fun tgt kon => XS.lconst X0.here hx rfl (hb hby d4_17) kon) ?_
    refine own_of (fun tgt kon => XS.lsub X0.here hx rfl (hb hby d4_18) rfl kon) ?_
    show own_Wp _ _ _ _ (s₁.setTop (mkF m 19 #[iv p1] [(.long (((1 : Int64) <<< ((p1 + (1 : Int32)) &&& 0x3f).toInt64) - (1 : Int64)))]))
    refine own_ret X0 hlk (some (.long (((1 : Int64) <<< ((p1 + (1 : Int32)) &&& 0x3f).toInt64) - (1 : Int64)))) (own_rtI hrt) (fun fs hr => own_retJ X0 hx hrt (hb hby d4_19) hr) ?_ (by decide) (by decide)
    rw [e0]
    exact ⟨by unfold own_upTo; rw [if_pos hc3], N0, rfl⟩
  · skip
    refine own_of (fun tgt kon => XS.icmpNo X0.here hx rfl (hb hby d4_3) rfl (flt hc3).1 kon) ?_
    refine own_of (X0.ldc2Long hx hown (mvT hZ (ow hw 27 rfl)) (g := (mkF m 6 #[iv p1] [])) rfl (hb hby d4_6)) ?_
    refine own_of (fun tgt kon => XS.goto X0.here hx rfl (pc0 := 9) (pc' := 19) rfl (hb hby d4_9) (by decide) (by decide) kon) ?_
    show own_Wp _ _ _ _ (s₁.setTop (mkF m 19 #[iv p1] [(.long (-1 : Int64))]))
    refine own_ret X0 hlk (some (.long (-1 : Int64))) (own_rtI hrt) (fun fs hr => own_retJ X0 hx hrt (hb hby d4_19) hr) ?_ (by decide) (by decide)
    rw [e0]
    exact ⟨by unfold own_upTo; rw [if_neg hc3], N0, rfl⟩
theorem own_pn1 : plainName "java/util/Arrays" = true := by first | (simp [plainName, overriddenIn]; done) | decide +kernel
theorem d5_0 : decode jdk_65_method_103_code 0 = .ok (.iconst 0, 1) := by decide +kernel
theorem d5_1 : decode jdk_65_method_103_code 1 = .ok (.istore_n 2, 1) := by decide +kernel
theorem d5_2 : decode jdk_65_method_103_code 2 = .ok (.aload_n 0, 1) := by decide +kernel
theorem d5_3 : decode jdk_65_method_103_code 3 = .ok (.arraylength, 1) := by decide +kernel
theorem d5_4 : decode jdk_65_method_103_code 4 = .ok (.istore_n 3, 1) := by decide +kernel
theorem d5_5 : decode jdk_65_method_103_code 5 = .ok (.iload_n 2, 1) := by decide +kernel
theorem d5_6 : decode jdk_65_method_103_code 6 = .ok (.iload_n 3, 1) := by decide +kernel
theorem d5_7 : decode jdk_65_method_103_code 7 = .ok (.if_icmp .ge 13, 3) := by decide +kernel
theorem d5_10 : decode jdk_65_method_103_code 10 = .ok (.aload_n 0, 1) := by decide +kernel
theorem d5_11 : decode jdk_65_method_103_code 11 = .ok (.iload_n 2, 1) := by decide +kernel
theorem d5_12 : decode jdk_65_method_103_code 12 = .ok (.iload_n 1, 1) := by decide +kernel
theorem d5_13 : decode jdk_65_method_103_code 13 = .ok (.iastore, 1) := by decide +kernel
theorem d5_14 : decode jdk_65_method_103_code 14 = .ok (.iinc 2 1, 3) := by decide +kernel
theorem d5_17 : decode jdk_65_method_103_code 17 = .ok (.goto (-12), 3) := by decide +kernel
theorem d5_20 : decode jdk_65_method_103_code 20 = .ok (.return_, 1) := by decide +kernel
def Q_rmaf (Z : State) (a1 : Addr) (p2 : Int32) (f : Nat → Value) (h0 : Heap) (n0 : Nat) (v : Option Value) (h : Heap) (L : List Loc) : Prop := v = none ∧ Fr n0 L ∧ Keep h0 h [a1] ∧ own_Ar Z h a1 .int 128 (fun _ => .int p2)
set_option maxRecDepth 65536 in
set_option maxHeartbeats 40000000 in
theorem rmaf (l : Launch) (Z : State) (a0 : Array Value) (hw : ∀ d ∈ tables_1, d.before a0 Z = true) (ws : List Jvm.Cond) (a1 : Addr) (p2 : Int32) (f : Nat → Value) (h0 : Heap) (n0 : Nat) (Z0 : n0 ≤ h0.size) (V_a1 : own_Ar Z h0 a1 .int 128 f) (g_a1 : n0 ≤ a1) :
    own_Ctr l Z (⟨"java/util/Arrays", "fill", "([II)V"⟩ : MethodName) jdk_65_method_103_code 4 none ws ({ frames := 0, cells := 0, slots := 0, locals := 0 } : Room) #[(.ref a1), (.int p2)] h0 (Q_rmaf Z a1 p2 f h0 n0) := by
  refine own_enter (plainFor_of_name own_pn1) ?_
  intro p e s m below meth c s₁ X0 hx hby hml hrt hlk hZ hown hnm e0
  have N0 := Fr.nil n0
  have Zs := Z0
  have K0 := Keep.refl h0 [a1]
  rw [show entryFrame m #[(.ref a1), (.int p2)] 4 = mkF m 0 #[rv a1, iv p2, uu, uu] [] from by first | (simp [entryFrame, mkF, argsToLocals, Value.category]; done) | rfl]
  show own_Wp _ _ _ _ (s₁.setTop (mkF m 0 #[rv a1, iv p2, uu, uu] []))
  refine own_of (fun tgt kon => XS.iconst X0.here hx rfl (hb hby d5_0) kon) ?_
  refine own_of (fun tgt kon => XS.istoreN X0.here hx rfl (hb hby d5_1) rfl (l' := #[rv a1, iv p2, iv (0 : Int32), uu]) rfl kon) ?_
  refine own_of (fun tgt kon => XS.aloadN X0.here hx rfl (hb hby d5_2) rfl rfl kon) ?_
  refine own_len X0 hx hZ e0 V_a1 (z := (128 : Int32)) (by decide) rfl rfl (hb hby d5_3) ?_
  refine own_of (fun tgt kon => XS.istoreN X0.here hx rfl (hb hby d5_4) rfl (l' := #[rv a1, iv p2, iv (0 : Int32), iv (128 : Int32)]) rfl kon) ?_
  show own_Wp _ _ _ _ (s₁.setTop (mkF m 5 #[rv a1, iv p2, iv (0 : Int32), iv (128 : Int32)] []))
  have J5 : ∀ (nn : Nat) (T1 : State) (lc1 : List Loc) (h1 : Heap) (k : Nat) (gf : Nat → Value), (Stand p l e ({ frames := 0, cells := 0, slots := 0, locals := 0 } : Room) s m #[(.ref a1), (.int p2)] below meth c T1 lc1 0 0) → (T1.heap = h1) → (Fr n0 lc1) → (n0 ≤ h1.size) → (Keep h0 h1 [a1]) → (own_Ar Z h1 a1 .int 128 gf) → (k ≤ 128) → (∀ x, x < k → gf x = .int p2) → (128 - k < nn) → own_Wp p.tables e below (own_K ({ frames := 0, cells := 0, slots := 0, locals := 0 } : Room) s below (Q_rmaf Z a1 p2 f h0 n0)) (T1.setTop (mkF m 5 #[rv a1, iv p2, iv (Int32.ofNat k), iv (128 : Int32)] [])) := by
    clear K0 V_a1 Zs
    intro nn
    induction nn with
    | zero => intro T1 lc1 h1 k gf X1 e1 N1 Zs K0 V_a1 hk hg hmu; exact absurd hmu (Nat.not_lt_zero _)
    | succ nn ih =>
      skip
      intro T1 lc1 h1 k gf X1 e1 N1 Zs K0 V_a1 hk hg hmu
      refine own_of (fun tgt kon => XS.iloadN X1.here hx rfl (hb hby d5_5) rfl kon) ?_
      refine own_of (fun tgt kon => XS.iloadN X1.here hx rfl (hb hby d5_6) rfl kon) ?_
      by_cases hc7 : (Int32.ofNat k) < (128 : Int32)
      · skip
        refine own_of (fun tgt kon => XS.icmpNo X1.here hx rfl (hb hby d5_7) rfl (tlt hc7).2.1 kon) ?_
        show own_Wp _ _ _ _ (T1.setTop (mkF m 10 #[rv a1, iv p2, iv (Int32.ofNat k), iv (128 : Int32)] []))
        have hlt : k < 128 := by
          have q := hc7
          rw [Int32.lt_iff_toInt_lt, own_ofN (by omega)] at q
          have l : (128 : Int32).toInt = 128 := by decide
          omega
        refine own_of (fun tgt kon => XS.aloadN X1.here hx rfl (hb hby d5_10) rfl rfl kon) ?_
        refine own_of (fun tgt kon => XS.iloadN X1.here hx rfl (hb hby d5_11) rfl kon) ?_
        refine own_of (fun tgt kon => XS.iloadN X1.here hx rfl (hb hby d5_12) rfl kon) ?_
        obtain ⟨T2, h2, X2, e2, W2, Aq2, st2⟩ := own_stI X1 hx hZ e1 V_a1 (j := (Int32.ofNat k)) (i := k) (x := p2) (own_ofN (by omega)) hlt (g := (mkF m 13 #[rv a1, iv p2, iv (Int32.ofNat k), iv (128 : Int32)] [(.int p2), (.int (Int32.ofNat k)), (.ref a1)])) rfl rfl (hb hby d5_13)
        refine own_of st2 ?_
        clear st2
        replace Zs := Nat.le_trans Zs (Keep.of_wr W2).1
        replace K0 := K0.wr W2 (Or.inl (List.mem_of_getElem? (i := 0) rfl))
        replace V_a1 := Aq2
        clear Aq2
        have N2 := Fr.snoc X2 N1 g_a1
        refine own_of (fun tgt kon => XS.iinc X2.here hx rfl (hb hby d5_14) rfl (l' := #[rv a1, iv p2, iv ((Int32.ofNat k) + (1 : Int32)), iv (128 : Int32)]) rfl kon) ?_
        show own_Wp _ _ _ _ (T2.setTop (mkF m 17 #[rv a1, iv p2, iv ((Int32.ofNat k) + (1 : Int32)), iv (128 : Int32)] []))
        refine own_of (fun tgt kon => XS.goto X2.here hx rfl (pc0 := 17) (pc' := 5) rfl (hb hby d5_17) (by decide) (by decide) kon) ?_
        show own_Wp _ _ _ _ (T2.setTop (mkF m 5 #[rv a1, iv p2, iv ((Int32.ofNat k) + (1 : Int32)), iv (128 : Int32)] []))
        rw [own_succ]
        exact ih T2 _ _ (k + 1) ((own_set gf k (.int p2))) X2 e2 N2 Zs K0 V_a1 (by omega) (by intro x hx; exact if e : x = k then (by subst e; exact own_set_eq _ _ _) else (by rw [own_set_ne e]; exact hg x (by omega))) (by omega)
      · skip
        refine own_of (fun tgt kon => XS.icmpYes X1.here hx rfl (pc0 := 7) (pc' := 20) rfl (hb hby d5_7) rfl (flt hc7).2.1 (by decide) (by decide) kon) ?_
        show own_Wp _ _ _ _ (T1.setTop (mkF m 20 #[rv a1, iv p2, iv (Int32.ofNat k), iv (128 : Int32)] []))
        refine own_ret X1 hlk none (fun _ => rfl) (fun fs hr => X1.returnOut hx hrt (hb hby d5_20) hr) ?_ (by decide) (by decide)
        rw [e1]
        have hge : ¬ k < 128 := by
          intro q
          apply hc7
          rw [Int32.lt_iff_toInt_lt, own_ofN (by omega)]
          have l : (128 : Int32).toInt = 128 := by decide
          omega
        exact ⟨rfl, N1, K0, V_a1.fn (fun i hi => hg i (by omega))⟩
  show own_Wp _ _ _ _ (s₁.setTop (mkF m 5 #[rv a1, iv p2, iv (0 : Int32), iv (128 : Int32)] []))
  exact J5 _ s₁ _ _ (0) (f) X0 e0 N0 Zs K0 V_a1 (by omega) (by intro x hx; omega) (Nat.lt_succ_self _)
theorem d8_0 : decode prog_6_method_4_code 0 = .ok (.iload_n 1, 1) := by decide +kernel
theorem d8_1 : decode prog_6_method_4_code 1 = .ok (.bipush 127, 2) := by decide +kernel
theorem d8_3 : decode prog_6_method_4_code 3 = .ok (.iand, 1) := by decide +kernel
theorem d8_4 : decode prog_6_method_4_code 4 = .ok (.istore_n 2, 1) := by decide +kernel
theorem d8_5 : decode prog_6_method_4_code 5 = .ok (.aload_n 0, 1) := by decide +kernel
theorem d8_6 : decode prog_6_method_4_code 6 = .ok (.getfield 37, 3) := by decide +kernel
theorem d8_9 : decode prog_6_method_4_code 9 = .ok (.iload_n 2, 1) := by decide +kernel
theorem d8_10 : decode prog_6_method_4_code 10 = .ok (.iaload, 1) := by decide +kernel
theorem d8_11 : decode prog_6_method_4_code 11 = .ok (.iload_n 1, 1) := by decide +kernel
theorem d8_12 : decode prog_6_method_4_code 12 = .ok (.if_icmp .eq 23, 3) := by decide +kernel
theorem d8_35 : decode prog_6_method_4_code 35 = .ok (.iload_n 2, 1) := by decide +kernel
theorem d8_36 : decode prog_6_method_4_code 36 = .ok (.ireturn, 1) := by decide +kernel
theorem d8_15 : decode prog_6_method_4_code 15 = .ok (.aload_n 0, 1) := by decide +kernel
theorem d8_16 : decode prog_6_method_4_code 16 = .ok (.getfield 37, 3) := by decide +kernel
theorem d8_19 : decode prog_6_method_4_code 19 = .ok (.iload_n 2, 1) := by decide +kernel
theorem d8_20 : decode prog_6_method_4_code 20 = .ok (.iaload, 1) := by decide +kernel
theorem d8_21 : decode prog_6_method_4_code 21 = .ok (.iconst (-1), 1) := by decide +kernel
theorem d8_22 : decode prog_6_method_4_code 22 = .ok (.if_icmp .eq 13, 3) := by decide +kernel
theorem d8_25 : decode prog_6_method_4_code 25 = .ok (.iload_n 2, 1) := by decide +kernel
theorem d8_26 : decode prog_6_method_4_code 26 = .ok (.iconst 1, 1) := by decide +kernel
theorem d8_27 : decode prog_6_method_4_code 27 = .ok (.iadd, 1) := by decide +kernel
theorem d8_28 : decode prog_6_method_4_code 28 = .ok (.bipush 127, 2) := by decide +kernel
theorem d8_30 : decode prog_6_method_4_code 30 = .ok (.iand, 1) := by decide +kernel
theorem d8_31 : decode prog_6_method_4_code 31 = .ok (.istore_n 2, 1) := by decide +kernel
theorem d8_32 : decode prog_6_method_4_code 32 = .ok (.goto (-27), 3) := by decide +kernel
def Q_rmslot (Z : State) (a1 : Addr) (p2 : Int32) (ac : Addr) (cp : Nat → Int32) (RR : Nat) (sv : Int32) (h0 : Heap) (n0 : Nat) (v : Option Value) (h : Heap) (L : List Loc) : Prop := v = some (.int sv) ∧ Fr n0 L ∧ h = h0
set_option maxRecDepth 65536 in
set_option maxHeartbeats 40000000 in
theorem rmslot (l : Launch) (Z : State) (a0 : Array Value) (hw : ∀ d ∈ tables_1, d.before a0 Z = true) (ws : List Jvm.Cond) (a1 : Addr) (p2 : Int32) (ac : Addr) (cp : Nat → Int32) (RR : Nat) (sv : Int32) (h0 : Heap) (n0 : Nat) (Z0 : n0 ≤ h0.size) (E_a1 : Exa Z h0 a1 "com/example/close_words/closewords/BitRows") (F_cp : Fld Z h0 a1 "com/example/close_words/closewords/BitRows" "codePoints" "[I" (.ref ac)) (V_ac : own_Ar Z h0 ac .int 128 (fun k => .int (cp k))) (hR0 : own_find cp p2 8 (p2 &&& 127).toNatClampNeg = RR) (hR : cp RR = p2 ∨ cp RR = -1) (hsv : sv.toInt = (RR : Int)) :
    own_Ctr l Z (⟨"com/example/close_words/closewords/BitRows", "slot", "(I)I"⟩ : MethodName) prog_6_method_4_code 3 (some .int) ws ({ frames := 0, cells := 0, slots := 0, locals := 0 } : Room) #[(.ref a1), (.int p2)] h0 (Q_rmslot Z a1 p2 ac cp RR sv h0 n0) := by
  refine own_enter (plainFor_of_name own_pn0) ?_
  intro p e s m below meth c s₁ X0 hx hby hml hrt hlk hZ hown hnm e0
  have N0 := Fr.nil n0
  have Zs := Z0
  rw [show entryFrame m #[(.ref a1), (.int p2)] 3 = mkF m 0 #[rv a1, iv p2, uu] [] from by first | (simp [entryFrame, mkF, argsToLocals, Value.category]; done) | rfl]
  show own_Wp _ _ _ _ (s₁.setTop (mkF m 0 #[rv a1, iv p2, uu] []))
  refine own_of (fun tgt kon => XS.iloadN X0.here hx rfl (hb hby d8_0) rfl kon) ?_
  refine own_of (fun tgt kon => XS.bipush X0.here hx rfl (hb hby d8_1) kon) ?_
  refine own_of (fun tgt kon => XS.iand X0.here hx rfl (hb hby d8_3) rfl kon) ?_
  refine own_of (fun tgt kon => XS.istoreN X0.here hx rfl (hb hby d8_4) rfl (l' := #[rv a1, iv p2, iv (p2 &&& (127 : Int32))]) rfl kon) ?_
  show own_Wp _ _ _ _ (s₁.setTop (mkF m 5 #[rv a1, iv p2, iv (p2 &&& (127 : Int32))] []))
  have J5 : ∀ (nn : Nat) (T1 : State) (lc1 : List Loc) (f : Nat) (sl : Nat) (sI : Int32), (Stand p l e ({ frames := 0, cells := 0, slots := 0, locals := 0 } : Room) s m #[(.ref a1), (.int p2)] below meth c T1 lc1 0 0) → (T1.heap = h0) → (Fr n0 lc1) → (sI.toInt = (sl : Int)) → (sl < 128) → (own_find cp p2 f sl = RR) → (f < nn) → own_Wp p.tables e below (own_K ({ frames := 0, cells := 0, slots := 0, locals := 0 } : Room) s below (Q_rmslot Z a1 p2 ac cp RR sv h0 n0)) (T1.setTop (mkF m 5 #[rv a1, iv p2, iv sI] [])) := by
    intro nn
    induction nn with
    | zero => intro T1 lc1 f sl sI X1 e1 N1 h1 h2 h3 hmu; exact absurd hmu (Nat.not_lt_zero _)
    | succ nn ih =>
      intro T1 lc1 f sl sI X1 e1 N1 h1 h2 h3 hmu
      refine own_of (fun tgt kon => XS.aloadN X1.here hx rfl (hb hby d8_5) rfl rfl kon) ?_
      obtain ⟨T2, X2, e2, st2⟩ := getF X1 hx hZ hown (host := "") (Or.inl (ow hw 30 rfl)) Via.refl e1 F_cp (g := (mkF m 6 #[rv a1, iv p2, iv sI] [(.ref a1)])) rfl rfl (hb hby d8_6)
      refine own_of st2 ?_
      clear st2
      refine own_of (fun tgt kon => XS.iloadN X2.here hx rfl (hb hby d8_9) rfl kon) ?_
      refine own_iaload X2 hx hZ e2 V_ac (j := sI) (i := sl) (v := (cp sl)) h1 h2 rfl rfl rfl (hb hby d8_10) ?_
      refine own_of (fun tgt kon => XS.iloadN X2.here hx rfl (hb hby d8_11) rfl kon) ?_
      show own_Wp _ _ _ _ (T2.setTop (mkF m 12 #[rv a1, iv p2, iv sI] [(.int p2), (.int (cp sl))]))
      by_cases hc12 : (cp sl) = p2
      · skip
        refine own_of (fun tgt kon => XS.icmpYes X2.here hx rfl (pc0 := 12) (pc' := 35) rfl (hb hby d8_12) rfl (teq hc12).1 (by decide) (by decide) kon) ?_
        refine own_of (fun tgt kon => XS.iloadN X2.here hx rfl (hb hby d8_35) rfl kon) ?_
        show own_Wp _ _ _ _ (T2.setTop (mkF m 36 #[rv a1, iv p2, iv sI] [(.int sI)]))
        refine own_ret X2 hlk (some (.int sI)) (own_rtI hrt) (fun fs hr => own_retI X2 hx hrt (hb hby d8_36) hr) ?_ (by decide) (by decide)
        rw [e2]
        have e : sl = RR := by
          rw [← h3]
          rcases f with _ | f'
          · rfl
          · exact (if_pos (Or.inl hc12)).symm
        subst e
        exact ⟨by rw [show sI = sv from Int32.toInt_inj.mp (h1.trans hsv.symm)], N1, rfl⟩
      · skip
        refine own_of (fun tgt kon => XS.icmpNo X2.here hx rfl (hb hby d8_12) rfl (feq hc12).1 kon) ?_
        refine own_of (fun tgt kon => XS.aloadN X2.here hx rfl (hb hby d8_15) rfl rfl kon) ?_
        obtain ⟨T3, X3, e3, st3⟩ := getF X2 hx hZ hown (host := "") (Or.inl (ow hw 30 rfl)) Via.refl e2 F_cp (g := (mkF m 16 #[rv a1, iv p2, iv sI] [(.ref a1)])) rfl rfl (hb hby d8_16)
        refine own_of st3 ?_
        clear st3
        refine own_of (fun tgt kon => XS.iloadN X3.here hx rfl (hb hby d8_19) rfl kon) ?_
        refine own_iaload X3 hx hZ e3 V_ac (j := sI) (i := sl) (v := (cp sl)) h1 h2 rfl rfl rfl (hb hby d8_20) ?_
        show own_Wp _ _ _ _ (T3.setTop (mkF m 21 #[rv a1, iv p2, iv sI] [(.int (cp sl))]))
        refine own_of (fun tgt kon => XS.iconst X3.here hx rfl (hb hby d8_21) kon) ?_
        by_cases hc22 : (cp sl) = (-1 : Int32)
        · skip
          refine own_of (fun tgt kon => XS.icmpYes X3.here hx rfl (pc0 := 22) (pc' := 35) rfl (hb hby d8_22) rfl (teq hc22).1 (by decide) (by decide) kon) ?_
          refine own_of (fun tgt kon => XS.iloadN X3.here hx rfl (hb hby d8_35) rfl kon) ?_
          show own_Wp _ _ _ _ (T3.setTop (mkF m 36 #[rv a1, iv p2, iv sI] [(.int sI)]))
          refine own_ret X3 hlk (some (.int sI)) (own_rtI hrt) (fun fs hr => own_retI X3 hx hrt (hb hby d8_36) hr) ?_ (by decide) (by decide)
          rw [e3]
          have e : sl = RR := by
            rw [← h3]
            rcases f with _ | f'
            · rfl
            · exact (if_pos (Or.inr hc22)).symm
          subst e
          exact ⟨by rw [show sI = sv from Int32.toInt_inj.mp (h1.trans hsv.symm)], N1, rfl⟩
        · skip
          refine own_of (fun tgt kon => XS.icmpNo X3.here hx rfl (hb hby d8_22) rfl (feq hc22).1 kon) ?_
          show own_Wp _ _ _ _ (T3.setTop (mkF m 25 #[rv a1, iv p2, iv sI] []))
          obtain ⟨f, rfl⟩ : ∃ f', f = f' + 1 := by
            rcases f with _ | f'
            · exfalso
              have e : sl = RR := h3
              subst e
              exact hR.elim hc12 hc22
            · exact ⟨f', rfl⟩
          rw [show own_find cp p2 (f + 1) sl = own_find cp p2 f ((sl + 1) % 128) from if_neg (fun q => q.elim hc12 hc22)] at h3
          refine own_of (fun tgt kon => XS.iloadN X3.here hx rfl (hb hby d8_25) rfl kon) ?_
          refine own_of (fun tgt kon => XS.iconst X3.here hx rfl (hb hby d8_26) kon) ?_
          refine own_of (fun tgt kon => XS.iadd X3.here hx rfl (hb hby d8_27) rfl kon) ?_
          refine own_of (fun tgt kon => XS.bipush X3.here hx rfl (hb hby d8_28) kon) ?_
          refine own_of (fun tgt kon => XS.iand X3.here hx rfl (hb hby d8_30) rfl kon) ?_
          show own_Wp _ _ _ _ (T3.setTop (mkF m 31 #[rv a1, iv p2, iv sI] [(.int ((sI + (1 : Int32)) &&& (127 : Int32)))]))
          refine own_of (fun tgt kon => XS.istoreN X3.here hx rfl (hb hby d8_31) rfl (l' := #[rv a1, iv p2, iv ((sI + (1 : Int32)) &&& (127 : Int32))]) rfl kon) ?_
          refine own_of (fun tgt kon => XS.goto X3.here hx rfl (pc0 := 32) (pc' := 5) rfl (hb hby d8_32) (by decide) (by decide) kon) ?_
          show own_Wp _ _ _ _ (T3.setTop (mkF m 5 #[rv a1, iv p2, iv ((sI + (1 : Int32)) &&& (127 : Int32))] []))
          exact ih T3 _ (f) ((sl + 1) % 128) (((sI + (1 : Int32)) &&& (127 : Int32))) X3 e3 N1 (by exact own_slot1 h1 h2) (by omega) (by exact h3) (by omega)
  show own_Wp _ _ _ _ (s₁.setTop (mkF m 5 #[rv a1, iv p2, iv (p2 &&& (127 : Int32))] []))
  exact J5 _ s₁ _ (8) ((p2 &&& 127).toNatClampNeg) ((p2 &&& (127 : Int32))) X0 e0 N0 (by exact (own_slot0 p2).1) (by exact (own_slot0 p2).2) (by exact hR0) (Nat.lt_succ_self _)
theorem d2_0 : decode prog_6_method_1_code 0 = .ok (.aload_n 0, 1) := by decide +kernel
theorem d2_1 : decode prog_6_method_1_code 1 = .ok (.invokespecial 3, 3) := by decide +kernel
theorem d2_4 : decode prog_6_method_1_code 4 = .ok (.aload_n 1, 1) := by decide +kernel
theorem d2_5 : decode prog_6_method_1_code 5 = .ok (.arraylength, 1) := by decide +kernel
theorem d2_6 : decode prog_6_method_1_code 6 = .ok (.istore 6, 2) := by decide +kernel
theorem d2_8 : decode prog_6_method_1_code 8 = .ok (.aload_n 0, 1) := by decide +kernel
theorem d2_9 : decode prog_6_method_1_code 9 = .ok (.iload_n 2, 1) := by decide +kernel
theorem d2_10 : decode prog_6_method_1_code 10 = .ok (.putfield 9, 3) := by decide +kernel
theorem d2_13 : decode prog_6_method_1_code 13 = .ok (.aload_n 0, 1) := by decide +kernel
theorem d2_14 : decode prog_6_method_1_code 14 = .ok (.iload 4, 2) := by decide +kernel
theorem d2_16 : decode prog_6_method_1_code 16 = .ok (.putfield 15, 3) := by decide +kernel
theorem d2_19 : decode prog_6_method_1_code 19 = .ok (.aload_n 0, 1) := by decide +kernel
theorem d2_20 : decode prog_6_method_1_code 20 = .ok (.iload_n 2, 1) := by decide +kernel
theorem d2_21 : decode prog_6_method_1_code 21 = .ok (.iconst 1, 1) := by decide +kernel
theorem d2_22 : decode prog_6_method_1_code 22 = .ok (.iadd, 1) := by decide +kernel
theorem d2_23 : decode prog_6_method_1_code 23 = .ok (.putfield 18, 3) := by decide +kernel
theorem d2_26 : decode prog_6_method_1_code 26 = .ok (.aload_n 0, 1) := by decide +kernel
theorem d2_27 : decode prog_6_method_1_code 27 = .ok (.iload 6, 2) := by decide +kernel
theorem d2_29 : decode prog_6_method_1_code 29 = .ok (.invokestatic 21, 3) := by decide +kernel
theorem own_pd0 : parseMethodDescriptor "(I)J" = some ⟨[.int], some .long⟩ := by decide +kernel
theorem d2_32 : decode prog_6_method_1_code 32 = .ok (.putfield 25, 3) := by decide +kernel
theorem d2_35 : decode prog_6_method_1_code 35 = .ok (.aload_n 0, 1) := by decide +kernel
theorem d2_36 : decode prog_6_method_1_code 36 = .ok (.lconst 1, 1) := by decide +kernel
theorem d2_37 : decode prog_6_method_1_code 37 = .ok (.iload 6, 2) := by decide +kernel
theorem d2_39 : decode prog_6_method_1_code 39 = .ok (.lshl, 1) := by decide +kernel
theorem d2_40 : decode prog_6_method_1_code 40 = .ok (.putfield 29, 3) := by decide +kernel
theorem d2_43 : decode prog_6_method_1_code 43 = .ok (.aload_n 0, 1) := by decide +kernel
theorem d2_44 : decode prog_6_method_1_code 44 = .ok (.iload_n 3, 1) := by decide +kernel
theorem d2_62 : decode prog_6_method_1_code 62 = .ok (.putfield 34, 3) := by decide +kernel
theorem d2_65 : decode prog_6_method_1_code 65 = .ok (.aload_n 0, 1) := by decide +kernel
theorem d2_66 : decode prog_6_method_1_code 66 = .ok (.sipush 128, 3) := by decide +kernel
theorem d2_69 : decode prog_6_method_1_code 69 = .ok (.newarray .int, 2) := by decide +kernel
theorem d2_71 : decode prog_6_method_1_code 71 = .ok (.putfield 37, 3) := by decide +kernel
theorem d2_74 : decode prog_6_method_1_code 74 = .ok (.aload_n 0, 1) := by decide +kernel
theorem d2_75 : decode prog_6_method_1_code 75 = .ok (.sipush 128, 3) := by decide +kernel
theorem d2_78 : decode prog_6_method_1_code 78 = .ok (.newarray .long, 2) := by decide +kernel
theorem d2_80 : decode prog_6_method_1_code 80 = .ok (.putfield 41, 3) := by decide +kernel
theorem d2_83 : decode prog_6_method_1_code 83 = .ok (.aload_n 0, 1) := by decide +kernel
theorem d2_84 : decode prog_6_method_1_code 84 = .ok (.iload 5, 2) := by decide +kernel
theorem d2_86 : decode prog_6_method_1_code 86 = .ok (.iconst 1, 1) := by decide +kernel
theorem d2_87 : decode prog_6_method_1_code 87 = .ok (.iadd, 1) := by decide +kernel
theorem d2_88 : decode prog_6_method_1_code 88 = .ok (.aload_n 0, 1) := by decide +kernel
theorem d2_89 : decode prog_6_method_1_code 89 = .ok (.getfield 18, 3) := by decide +kernel
theorem d2_92 : decode prog_6_method_1_code 92 = .ok (.imul, 1) := by decide +kernel
theorem d2_93 : decode prog_6_method_1_code 93 = .ok (.newarray .long, 2) := by decide +kernel
theorem d2_95 : decode prog_6_method_1_code 95 = .ok (.putfield 45, 3) := by decide +kernel
theorem d2_98 : decode prog_6_method_1_code 98 = .ok (.aload_n 0, 1) := by decide +kernel
theorem d2_99 : decode prog_6_method_1_code 99 = .ok (.iload 5, 2) := by decide +kernel
theorem d2_101 : decode prog_6_method_1_code 101 = .ok (.iconst 1, 1) := by decide +kernel
theorem d2_102 : decode prog_6_method_1_code 102 = .ok (.iadd, 1) := by decide +kernel
theorem d2_103 : decode prog_6_method_1_code 103 = .ok (.newarray .long, 2) := by decide +kernel
theorem d2_105 : decode prog_6_method_1_code 105 = .ok (.putfield 48, 3) := by decide +kernel
theorem d2_108 : decode prog_6_method_1_code 108 = .ok (.aload_n 0, 1) := by decide +kernel
theorem d2_109 : decode prog_6_method_1_code 109 = .ok (.getfield 37, 3) := by decide +kernel
theorem d2_112 : decode prog_6_method_1_code 112 = .ok (.iconst (-1), 1) := by decide +kernel
theorem d2_113 : decode prog_6_method_1_code 113 = .ok (.invokestatic 51, 3) := by decide +kernel
theorem own_pd1 : parseMethodDescriptor "([II)V" = some ⟨[(.array .int), .int], none⟩ := by decide +kernel
theorem d2_116 : decode prog_6_method_1_code 116 = .ok (.iconst 1, 1) := by decide +kernel
theorem d2_117 : decode prog_6_method_1_code 117 = .ok (.istore 7, 2) := by decide +kernel
theorem d2_119 : decode prog_6_method_1_code 119 = .ok (.iload 7, 2) := by decide +kernel
theorem d2_121 : decode prog_6_method_1_code 121 = .ok (.iload 6, 2) := by decide +kernel
theorem d2_123 : decode prog_6_method_1_code 123 = .ok (.if_icmp .gt 48, 3) := by decide +kernel
theorem d2_171 : decode prog_6_method_1_code 171 = .ok (.iconst 0, 1) := by decide +kernel
theorem d2_172 : decode prog_6_method_1_code 172 = .ok (.istore 7, 2) := by decide +kernel
theorem d2_174 : decode prog_6_method_1_code 174 = .ok (.iload 7, 2) := by decide +kernel
theorem d2_176 : decode prog_6_method_1_code 176 = .ok (.iload_n 2, 1) := by decide +kernel
theorem d2_177 : decode prog_6_method_1_code 177 = .ok (.if_icmp .gt 55, 3) := by decide +kernel
theorem d2_180 : decode prog_6_method_1_code 180 = .ok (.iload 7, 2) := by decide +kernel
theorem d2_182 : decode prog_6_method_1_code 182 = .ok (.iload 6, 2) := by decide +kernel
theorem d2_184 : decode prog_6_method_1_code 184 = .ok (.invokestatic 61, 3) := by decide +kernel
theorem own_pd2 : parseMethodDescriptor "(II)I" = some ⟨[.int, .int], some .int⟩ := by decide +kernel
theorem d2_187 : decode prog_6_method_1_code 187 = .ok (.invokestatic 21, 3) := by decide +kernel
theorem d2_190 : decode prog_6_method_1_code 190 = .ok (.lstore 8, 2) := by decide +kernel
theorem d2_192 : decode prog_6_method_1_code 192 = .ok (.aload_n 0, 1) := by decide +kernel
theorem d2_193 : decode prog_6_method_1_code 193 = .ok (.getfield 45, 3) := by decide +kernel
theorem d2_196 : decode prog_6_method_1_code 196 = .ok (.iload 7, 2) := by decide +kernel
theorem d2_198 : decode prog_6_method_1_code 198 = .ok (.iload 7, 2) := by decide +kernel
theorem d2_200 : decode prog_6_method_1_code 200 = .ok (.iload 4, 2) := by decide +kernel
theorem d2_202 : decode prog_6_method_1_code 202 = .ok (.if_icmp .le 21, 3) := by decide +kernel
theorem d2_223 : decode prog_6_method_1_code 223 = .ok (.lload 8, 2) := by decide +kernel
theorem d2_225 : decode prog_6_method_1_code 225 = .ok (.lastore, 1) := by decide +kernel
theorem d2_226 : decode prog_6_method_1_code 226 = .ok (.iinc 7 1, 3) := by decide +kernel
theorem d2_229 : decode prog_6_method_1_code 229 = .ok (.goto (-55), 3) := by decide +kernel
theorem d2_232 : decode prog_6_method_1_code 232 = .ok (.return_, 1) := by decide +kernel
theorem d2_205 : decode prog_6_method_1_code 205 = .ok (.lload 8, 2) := by decide +kernel
theorem d2_207 : decode prog_6_method_1_code 207 = .ok (.aload_n 0, 1) := by decide +kernel
theorem d2_208 : decode prog_6_method_1_code 208 = .ok (.getfield 45, 3) := by decide +kernel
theorem d2_211 : decode prog_6_method_1_code 211 = .ok (.iload 4, 2) := by decide +kernel
theorem d2_213 : decode prog_6_method_1_code 213 = .ok (.laload, 1) := by decide +kernel
theorem d2_214 : decode prog_6_method_1_code 214 = .ok (.aload_n 0, 1) := by decide +kernel
theorem d2_215 : decode prog_6_method_1_code 215 = .ok (.getfield 34, 3) := by decide +kernel
theorem d2_218 : decode prog_6_method_1_code 218 = .ok (.lor, 1) := by decide +kernel
theorem d2_219 : decode prog_6_method_1_code 219 = .ok (.land, 1) := by decide +kernel
theorem d2_220 : decode prog_6_method_1_code 220 = .ok (.goto 5, 3) := by decide +kernel
theorem d2_45 : decode prog_6_method_1_code 45 = .ok (.ifCond .ge 9, 3) := by decide +kernel
theorem d2_48 : decode prog_6_method_1_code 48 = .ok (.ldc2_w 32, 3) := by decide +kernel
theorem d2_51 : decode prog_6_method_1_code 51 = .ok (.goto 11, 3) := by decide +kernel
theorem d2_54 : decode prog_6_method_1_code 54 = .ok (.iload_n 3, 1) := by decide +kernel
theorem d2_55 : decode prog_6_method_1_code 55 = .ok (.invokestatic 21, 3) := by decide +kernel
theorem d2_58 : decode prog_6_method_1_code 58 = .ok (.ldc2_w 32, 3) := by decide +kernel
theorem d2_61 : decode prog_6_method_1_code 61 = .ok (.lxor, 1) := by decide +kernel
def Q_rmct0 (Z : State) (a1 : Addr) (a2 : Addr) (p3 : Int32) (p4 : Int32) (p5 : Int32) (p6 : Int32) (tx : Nat → Int32) (bd : Nat) (ph : Nat) (dp : Nat) (RL : Nat) (cp0 : Nat → Int32) (co0 : Nat → Int64) (h0 : Heap) (n0 : Nat) (v : Option Value) (h : Heap) (L : List Loc) : Prop := v = none ∧ Fr n0 L ∧ Keep h0 h [a1] ∧ Exa Z h a1 "com/example/close_words/closewords/BitRows" ∧ ∃ ac ao ar am : Addr, n0 ≤ ac ∧ n0 ≤ ao ∧ n0 ≤ ar ∧ n0 ≤ am ∧ a1 ≠ ar ∧ a1 ≠ am ∧ ac ≠ ar ∧ ac ≠ am ∧ ao ≠ ar ∧ ao ≠ am ∧ am ≠ ar ∧ Fld Z h a1 "com/example/close_words/closewords/BitRows" "bound" "I" (.int p3) ∧ Fld Z h a1 "com/example/close_words/closewords/BitRows" "headBound" "I" (.int p5) ∧ Fld Z h a1 "com/example/close_words/closewords/BitRows" "levels" "I" (.int (p3 + (1 : Int32))) ∧ Fld Z h a1 "com/example/close_words/closewords/BitRows" "columns" "J" (.long (own_upTo (0 : Int32))) ∧ Fld Z h a1 "com/example/close_words/closewords/BitRows" "lastColumn" "J" (.long ((1 : Int64) <<< ((0 : Int32) &&& 0x3f).toInt64)) ∧ Fld Z h a1 "com/example/close_words/closewords/BitRows" "outsideHead" "J" (.long (if p4 < (0 : Int32) then (-1 : Int64) else (own_upTo p4 ^^^ (-1 : Int64)))) ∧ Fld Z h a1 "com/example/close_words/closewords/BitRows" "codePoints" "[I" (.ref ac) ∧ Fld Z h a1 "com/example/close_words/closewords/BitRows" "columnsOf" "[J" (.ref ao) ∧ Fld Z h a1 "com/example/close_words/closewords/BitRows" "rows" "[J" (.ref ar) ∧ Fld Z h a1 "com/example/close_words/closewords/BitRows" "matches" "[J" (.ref am) ∧ own_Ar Z h ac .int 128 (fun k => .int (cp0 k)) ∧ own_Ar Z h ao .long 128 (fun k => .long (co0 k)) ∧ own_Ar Z h ar .long RL (fun y => .long (own_r0k 0 ph (if p4 < (0 : Int32) then (-1 : Int64) else (own_upTo p4 ^^^ (-1 : Int64))) (bd + 1) y)) ∧ own_Ar Z h am .long (dp + 1) (fun _ => .long (0 : Int64))
set_option maxRecDepth 65536 in
set_option maxHeartbeats 40000000 in
theorem rmct0 (l : Launch) (Z : State) (a0 : Array Value) (hw : ∀ d ∈ tables_1, d.before a0 Z = true) (ws : List Jvm.Cond) (a1 : Addr) (a2 : Addr) (p3 : Int32) (p4 : Int32) (p5 : Int32) (p6 : Int32) (tx : Nat → Int32) (bd : Nat) (ph : Nat) (dp : Nat) (RL : Nat) (cp0 : Nat → Int32) (co0 : Nat → Int64) (h0 : Heap) (n0 : Nat) (Z0 : n0 ≤ h0.size) (E_a1 : Exa Z h0 a1 "com/example/close_words/closewords/BitRows") (u_bound : Value) (u_headBound : Value) (u_levels : Value) (u_columns : Value) (u_lastColumn : Value) (u_outsideHead : Value) (u_codePoints : Value) (u_columnsOf : Value) (u_rows : Value) (u_matches : Value) (F_bound : Fld Z h0 a1 "com/example/close_words/closewords/BitRows" "bound" "I" u_bound) (F_headBound : Fld Z h0 a1 "com/example/close_words/closewords/BitRows" "headBound" "I" u_headBound) (F_levels : Fld Z h0 a1 "com/example/close_words/closewords/BitRows" "levels" "I" u_levels) (F_columns : Fld Z h0 a1 "com/example/close_words/closewords/BitRows" "columns" "J" u_columns) (F_lastColumn : Fld Z h0 a1 "com/example/close_words/closewords/BitRows" "lastColumn" "J" u_lastColumn) (F_outsideHead : Fld Z h0 a1 "com/example/close_words/closewords/BitRows" "outsideHead" "J" u_outsideHead) (F_codePoints : Fld Z h0 a1 "com/example/close_words/closewords/BitRows" "codePoints" "[I" u_codePoints) (F_columnsOf : Fld Z h0 a1 "com/example/close_words/closewords/BitRows" "columnsOf" "[J" u_columnsOf) (F_rows : Fld Z h0 a1 "com/example/close_words/closewords/BitRows" "rows" "[J" u_rows) (F_matches : Fld Z h0 a1 "com/example/close_words/closewords/BitRows" "matches" "[J" u_matches) (V_a2 : own_Ar Z h0 a2 .int 0 (fun k => .int (tx k))) (ne12 : a1 ≠ a2) (g_a1 : n0 ≤ a1) (hbd : p3.toInt = (bd : Int)) (hbd63 : bd ≤ 63) (hhb : p5.toInt = (ph : Int)) (hhb63 : ph ≤ 63) (hdp : p6.toInt = (dp : Int)) (hdp3 : dp ≤ 3) (hRL : RL = (dp + 1) * (bd + 1)) (hcp0 : ∀ k, cp0 k = -1) (hco0 : ∀ k, co0 k = 0) :
    own_Ctr l Z (⟨"com/example/close_words/closewords/BitRows", "<init>", "([IIIII)V"⟩ : MethodName) prog_6_method_1_code 10 none ws ({ frames := 1, cells := 4, slots := 516, locals := 15 } : Room) #[(.ref a1), (.ref a2), (.int p3), (.int p4), (.int p5), (.int p6)] h0 (Q_rmct0 Z a1 a2 p3 p4 p5 p6 tx bd ph dp RL cp0 co0 h0 n0) := by
  refine own_enter (plainFor_of_name own_pn0) ?_
  intro p e s m below meth c s₁ X0 hx hby hml hrt hlk hZ hown hnm e0
  have N0 := Fr.nil n0
  have Zs := Z0
  have K0 := Keep.refl h0 [a1]
  have hLV : (p6 + (1 : Int32)).toInt = ((dp + 1 : Nat) : Int) := by have q := own_addI hdp (show (1 : Int32).toInt = 1 from by decide) (by omega) (by omega); omega
  have hLW : (p3 + (1 : Int32)).toInt = ((bd + 1 : Nat) : Int) := by have q := own_addI hbd (show (1 : Int32).toInt = 1 from by decide) (by omega) (by omega); omega
  have hmul : (dp + 1) * (bd + 1) ≤ 4 * 64 := Nat.mul_le_mul (by omega) (by omega)
  have hRB : bd + 1 ≤ RL := by rw [hRL]; exact Nat.le_mul_of_pos_left _ (by omega)
  have hRT : ((p6 + (1 : Int32)) * (p3 + (1 : Int32))).toInt = (RL : Int) := by
    rw [Jvm.Kit.i32_mul (by rw [hLV, hLW, ← Int.natCast_mul]; omega) (by rw [hLV, hLW, ← Int.natCast_mul]; omega), hLV, hLW, ← Int.natCast_mul, hRL]
  rw [show entryFrame m #[(.ref a1), (.ref a2), (.int p3), (.int p4), (.int p5), (.int p6)] 10 = mkF m 0 #[rv a1, rv a2, iv p3, iv p4, iv p5, iv p6, uu, uu, uu, uu] [] from by first | (simp [entryFrame, mkF, argsToLocals, Value.category]; done) | rfl]
  show own_Wp _ _ _ _ (s₁.setTop (mkF m 0 #[rv a1, rv a2, iv p3, iv p4, iv p5, iv p6, uu, uu, uu, uu] []))
  refine own_of (fun tgt kon => XS.aloadN X0.here hx rfl (hb hby d2_0) rfl rfl kon) ?_
  obtain ⟨T1, X1, e1, st1⟩ := initO X0 hx hZ hown (ow hw 11 rfl) (ow hw 12 rfl) (ow hw 13 rfl) e0 (g := (mkF m 1 #[rv a1, rv a2, iv p3, iv p4, iv p5, iv p6, uu, uu, uu, uu] [(.ref a1)])) rfl (by rw [hml]; rfl) rfl (hb hby d2_1) (by decide) (W := 0) (by show 2 * 0 + _ ≤ _; exact Nat.le_of_eq rfl) (by decide)
  refine own_of st1 ?_
  clear st1
  show own_Wp _ _ _ _ (T1.setTop (mkF m 4 #[rv a1, rv a2, iv p3, iv p4, iv p5, iv p6, uu, uu, uu, uu] []))
  refine own_of (fun tgt kon => XS.aloadN X1.here hx rfl (hb hby d2_4) rfl rfl kon) ?_
  refine own_len X1 hx hZ e1 V_a2 (z := (0 : Int32)) (by decide) rfl rfl (hb hby d2_5) ?_
  refine own_of (fun tgt kon => XS.istore X1.here hx rfl (hb hby d2_6) rfl (l' := #[rv a1, rv a2, iv p3, iv p4, iv p5, iv p6, iv (0 : Int32), uu, uu, uu]) rfl kon) ?_
  refine own_of (fun tgt kon => XS.aloadN X1.here hx rfl (hb hby d2_8) rfl rfl kon) ?_
  refine own_of (fun tgt kon => XS.iloadN X1.here hx rfl (hb hby d2_9) rfl kon) ?_
  show own_Wp _ _ _ _ (T1.setTop (mkF m 10 #[rv a1, rv a2, iv p3, iv p4, iv p5, iv p6, iv (0 : Int32), uu, uu, uu] [(.int p3), (.ref a1)]))
  obtain ⟨T2, h2, X2, e2, W2, st2⟩ := putF X1 hx hZ hown (host := "") (Or.inl (ow hw 14 rfl)) Via.refl e1 F_bound E_a1 (Or.inr ⟨(ow hw 15 rfl), rfl, hnm⟩) (ow hw 6 rfl) (ty := .int) (by decide) rfl rfl (g := (mkF m 10 #[rv a1, rv a2, iv p3, iv p4, iv p5, iv p6, iv (0 : Int32), uu, uu, uu] [(.int p3), (.ref a1)])) rfl rfl (hb hby d2_10)
  refine own_of st2 ?_
  clear st2
  have Fq2 := Fld.same W2 F_bound
  replace Zs := Nat.le_trans Zs (Keep.of_wr W2).1
  replace K0 := K0.wr W2 (Or.inl (List.mem_of_getElem? (i := 0) rfl))
  replace E_a1 := E_a1.wr W2
  replace F_headBound := F_headBound.other W2 (Or.inr (slot_ne (Or.inr (ow hw 17 rfl)) (Or.inr (ow hw 15 rfl)) (by decide) (t := .int) (t' := .int) (by decide) (by decide)))
  replace F_levels := F_levels.other W2 (Or.inr (slot_ne (Or.inr (ow hw 19 rfl)) (Or.inr (ow hw 15 rfl)) (by decide) (t := .int) (t' := .int) (by decide) (by decide)))
  replace F_columns := F_columns.other W2 (Or.inr (slot_ne (Or.inr (ow hw 24 rfl)) (Or.inr (ow hw 15 rfl)) (by decide) (t := .long) (t' := .int) (by decide) (by decide)))
  replace F_lastColumn := F_lastColumn.other W2 (Or.inr (slot_ne (Or.inr (ow hw 26 rfl)) (Or.inr (ow hw 15 rfl)) (by decide) (t := .long) (t' := .int) (by decide) (by decide)))
  replace F_outsideHead := F_outsideHead.other W2 (Or.inr (slot_ne (Or.inr (ow hw 29 rfl)) (Or.inr (ow hw 15 rfl)) (by decide) (t := .long) (t' := .int) (by decide) (by decide)))
  replace F_codePoints := F_codePoints.other W2 (Or.inr (slot_ne (Or.inr (ow hw 31 rfl)) (Or.inr (ow hw 15 rfl)) (by decide) (t := (.array .int)) (t' := .int) (by decide) (by decide)))
  replace F_columnsOf := F_columnsOf.other W2 (Or.inr (slot_ne (Or.inr (ow hw 34 rfl)) (Or.inr (ow hw 15 rfl)) (by decide) (t := (.array .long)) (t' := .int) (by decide) (by decide)))
  replace F_rows := F_rows.other W2 (Or.inr (slot_ne (Or.inr (ow hw 36 rfl)) (Or.inr (ow hw 15 rfl)) (by decide) (t := (.array .long)) (t' := .int) (by decide) (by decide)))
  replace F_matches := F_matches.other W2 (Or.inr (slot_ne (Or.inr (ow hw 38 rfl)) (Or.inr (ow hw 15 rfl)) (by decide) (t := (.array .long)) (t' := .int) (by decide) (by decide)))
  replace V_a2 := V_a2.other W2 (Ne.symm ne12)
  replace F_bound := Fq2
  clear Fq2
  have N2 := Fr.snoc X2 N0 g_a1
  refine own_of (fun tgt kon => XS.aloadN X2.here hx rfl (hb hby d2_13) rfl rfl kon) ?_
  refine own_of (fun tgt kon => XS.iload X2.here hx rfl (hb hby d2_14) rfl kon) ?_
  obtain ⟨T3, h3, X3, e3, W3, st3⟩ := putF X2 hx hZ hown (host := "") (Or.inl (ow hw 16 rfl)) Via.refl e2 F_headBound E_a1 (Or.inr ⟨(ow hw 17 rfl), rfl, hnm⟩) (ow hw 6 rfl) (ty := .int) (by decide) rfl rfl (g := (mkF m 16 #[rv a1, rv a2, iv p3, iv p4, iv p5, iv p6, iv (0 : Int32), uu, uu, uu] [(.int p5), (.ref a1)])) rfl rfl (hb hby d2_16)
  refine own_of st3 ?_
  clear st3
  have Fq3 := Fld.same W3 F_headBound
  replace Zs := Nat.le_trans Zs (Keep.of_wr W3).1
  replace K0 := K0.wr W3 (Or.inl (List.mem_of_getElem? (i := 0) rfl))
  replace E_a1 := E_a1.wr W3
  replace F_bound := F_bound.other W3 (Or.inr (slot_ne (Or.inr (ow hw 15 rfl)) (Or.inr (ow hw 17 rfl)) (by decide) (t := .int) (t' := .int) (by decide) (by decide)))
  replace F_levels := F_levels.other W3 (Or.inr (slot_ne (Or.inr (ow hw 19 rfl)) (Or.inr (ow hw 17 rfl)) (by decide) (t := .int) (t' := .int) (by decide) (by decide)))
  replace F_columns := F_columns.other W3 (Or.inr (slot_ne (Or.inr (ow hw 24 rfl)) (Or.inr (ow hw 17 rfl)) (by decide) (t := .long) (t' := .int) (by decide) (by decide)))
  replace F_lastColumn := F_lastColumn.other W3 (Or.inr (slot_ne (Or.inr (ow hw 26 rfl)) (Or.inr (ow hw 17 rfl)) (by decide) (t := .long) (t' := .int) (by decide) (by decide)))
  replace F_outsideHead := F_outsideHead.other W3 (Or.inr (slot_ne (Or.inr (ow hw 29 rfl)) (Or.inr (ow hw 17 rfl)) (by decide) (t := .long) (t' := .int) (by decide) (by decide)))
  replace F_codePoints := F_codePoints.other W3 (Or.inr (slot_ne (Or.inr (ow hw 31 rfl)) (Or.inr (ow hw 17 rfl)) (by decide) (t := (.array .int)) (t' := .int) (by decide) (by decide)))
  replace F_columnsOf := F_columnsOf.other W3 (Or.inr (slot_ne (Or.inr (ow hw 34 rfl)) (Or.inr (ow hw 17 rfl)) (by decide) (t := (.array .long)) (t' := .int) (by decide) (by decide)))
  replace F_rows := F_rows.other W3 (Or.inr (slot_ne (Or.inr (ow hw 36 rfl)) (Or.inr (ow hw 17 rfl)) (by decide) (t := (.array .long)) (t' := .int) (by decide) (by decide)))
  replace F_matches := F_matches.other W3 (Or.inr (slot_ne (Or.inr (ow hw 38 rfl)) (Or.inr (ow hw 17 rfl)) (by decide) (t := (.array .long)) (t' := .int) (by decide) (by decide)))
  replace V_a2 := V_a2.other W3 (Ne.symm ne12)
  replace F_headBound := Fq3
  clear Fq3
  have N3 := Fr.snoc X3 N2 g_a1
  refine own_of (fun tgt kon => XS.aloadN X3.here hx rfl (hb hby d2_19) rfl rfl kon) ?_
  show own_Wp _ _ _ _ (T3.setTop (mkF m 20 #[rv a1, rv a2, iv p3, iv p4, iv p5, iv p6, iv (0 : Int32), uu, uu, uu] [(.ref a1)]))
  refine own_of (fun tgt kon => XS.iloadN X3.here hx rfl (hb hby d2_20) rfl kon) ?_
  refine own_of (fun tgt kon => XS.iconst X3.here hx rfl (hb hby d2_21) kon) ?_
  refine own_of (fun tgt kon => XS.iadd X3.here hx rfl (hb hby d2_22) rfl kon) ?_
  obtain ⟨T4, h4, X4, e4, W4, st4⟩ := putF X3 hx hZ hown (host := "") (Or.inl (ow hw 18 rfl)) Via.refl e3 F_levels E_a1 (Or.inr ⟨(ow hw 19 rfl), rfl, hnm⟩) (ow hw 6 rfl) (ty := .int) (by decide) rfl rfl (g := (mkF m 23 #[rv a1, rv a2, iv p3, iv p4, iv p5, iv p6, iv (0 : Int32), uu, uu, uu] [(.int (p3 + (1 : Int32))), (.ref a1)])) rfl rfl (hb hby d2_23)
  refine own_of st4 ?_
  clear st4
  have Fq4 := Fld.same W4 F_levels
  replace Zs := Nat.le_trans Zs (Keep.of_wr W4).1
  replace K0 := K0.wr W4 (Or.inl (List.mem_of_getElem? (i := 0) rfl))
  replace E_a1 := E_a1.wr W4
  replace F_bound := F_bound.other W4 (Or.inr (slot_ne (Or.inr (ow hw 15 rfl)) (Or.inr (ow hw 19 rfl)) (by decide) (t := .int) (t' := .int) (by decide) (by decide)))
  replace F_headBound := F_headBound.other W4 (Or.inr (slot_ne (Or.inr (ow hw 17 rfl)) (Or.inr (ow hw 19 rfl)) (by decide) (t := .int) (t' := .int) (by decide) (by decide)))
  replace F_columns := F_columns.other W4 (Or.inr (slot_ne (Or.inr (ow hw 24 rfl)) (Or.inr (ow hw 19 rfl)) (by decide) (t := .long) (t' := .int) (by decide) (by decide)))
  replace F_lastColumn := F_lastColumn.other W4 (Or.inr (slot_ne (Or.inr (ow hw 26 rfl)) (Or.inr (ow hw 19 rfl)) (by decide) (t := .long) (t' := .int) (by decide) (by decide)))
  replace F_outsideHead := F_outsideHead.other W4 (Or.inr (slot_ne (Or.inr (ow hw 29 rfl)) (Or.inr (ow hw 19 rfl)) (by decide) (t := .long) (t' := .int) (by decide) (by decide)))
  replace F_codePoints := F_codePoints.other W4 (Or.inr (slot_ne (Or.inr (ow hw 31 rfl)) (Or.inr (ow hw 19 rfl)) (by decide) (t := (.array .int)) (t' := .int) (by decide) (by decide)))
  replace F_columnsOf := F_columnsOf.other W4 (Or.inr (slot_ne (Or.inr (ow hw 34 rfl)) (Or.inr (ow hw 19 rfl)) (by decide) (t := (.array .long)) (t' := .int) (by decide) (by decide)))
  replace F_rows := F_rows.other W4 (Or.inr (slot_ne (Or.inr (ow hw 36 rfl)) (Or.inr (ow hw 19 rfl)) (by decide) (t := (.array .long)) (t' := .int) (by decide) (by decide)))
  replace F_matches := F_matches.other W4 (Or.inr (slot_ne (Or.inr (ow hw 38 rfl)) (Or.inr (ow hw 19 rfl)) (by decide) (t := (.array .long)) (t' := .int) (by decide) (by decide)))
  replace V_a2 := V_a2.other W4 (Ne.symm ne12)
  replace F_levels := Fq4
  clear Fq4
  have N4 := Fr.snoc X4 N3 g_a1
  refine own_of (fun tgt kon => XS.aloadN X4.here hx rfl (hb hby d2_26) rfl rfl kon) ?_
  show own_Wp _ _ _ _ (T4.setTop (mkF m 27 #[rv a1, rv a2, iv p3, iv p4, iv p5, iv p6, iv (0 : Int32), uu, uu, uu] [(.ref a1)]))
  refine own_of (fun tgt kon => XS.iload X4.here hx rfl (hb hby d2_27) rfl kon) ?_
  refine own_callS X4 hx hZ (y := (⟨"com/example/close_words/closewords/BitRows", "upTo", "(I)J"⟩ : MethodName)) (argsL := [(.int (0 : Int32))]) (rest := [(.ref a1)]) (W := 1) hown (ow hw 20 rfl) (ow hw 21 rfl) (ow hw 7 rfl) (ow hw 22 rfl) (by decide) e4 (rmup l Z a0 hw [] (0 : Int32) h4 n0 Zs) (by decide) (by decide) (by decide) (by decide) rfl (by rw [hml]; rfl) (lenOf own_pd0 rfl) rfl (by show 2 * 0 + _ ≤ _; exact Nat.le_of_eq rfl) (hb hby d2_29) ?_
  rintro T5 L5 _ X5 ⟨rfl, N5q, e5⟩
  have N5 := Fr.app N4 N5q
  show own_Wp _ _ _ _ (T5.setTop (mkF m 32 #[rv a1, rv a2, iv p3, iv p4, iv p5, iv p6, iv (0 : Int32), uu, uu, uu] [(.long (own_upTo (0 : Int32))), (.ref a1)]))
  obtain ⟨T6, h6, X6, e6, W6, st6⟩ := putF X5 hx hZ hown (host := "") (Or.inl (ow hw 23 rfl)) Via.refl e5 F_columns E_a1 (Or.inr ⟨(ow hw 24 rfl), rfl, hnm⟩) (ow hw 6 rfl) (ty := .long) (by decide) rfl rfl (g := (mkF m 32 #[rv a1, rv a2, iv p3, iv p4, iv p5, iv p6, iv (0 : Int32), uu, uu, uu] [(.long (own_upTo (0 : Int32))), (.ref a1)])) rfl rfl (hb hby d2_32)
  refine own_of st6 ?_
  clear st6
  have Fq6 := Fld.same W6 F_columns
  replace Zs := Nat.le_trans Zs (Keep.of_wr W6).1
  replace K0 := K0.wr W6 (Or.inl (List.mem_of_getElem? (i := 0) rfl))
  replace E_a1 := E_a1.wr W6
  replace F_bound := F_bound.other W6 (Or.inr (slot_ne (Or.inr (ow hw 15 rfl)) (Or.inr (ow hw 24 rfl)) (by decide) (t := .int) (t' := .long) (by decide) (by decide)))
  replace F_headBound := F_headBound.other W6 (Or.inr (slot_ne (Or.inr (ow hw 17 rfl)) (Or.inr (ow hw 24 rfl)) (by decide) (t := .int) (t' := .long) (by decide) (by decide)))
  replace F_levels := F_levels.other W6 (Or.inr (slot_ne (Or.inr (ow hw 19 rfl)) (Or.inr (ow hw 24 rfl)) (by decide) (t := .int) (t' := .long) (by decide) (by decide)))
  replace F_lastColumn := F_lastColumn.other W6 (Or.inr (slot_ne (Or.inr (ow hw 26 rfl)) (Or.inr (ow hw 24 rfl)) (by decide) (t := .long) (t' := .long) (by decide) (by decide)))
  replace F_outsideHead := F_outsideHead.other W6 (Or.inr (slot_ne (Or.inr (ow hw 29 rfl)) (Or.inr (ow hw 24 rfl)) (by decide) (t := .long) (t' := .long) (by decide) (by decide)))
  replace F_codePoints := F_codePoints.other W6 (Or.inr (slot_ne (Or.inr (ow hw 31 rfl)) (Or.inr (ow hw 24 rfl)) (by decide) (t := (.array .int)) (t' := .long) (by decide) (by decide)))
  replace F_columnsOf := F_columnsOf.other W6 (Or.inr (slot_ne (Or.inr (ow hw 34 rfl)) (Or.inr (ow hw 24 rfl)) (by decide) (t := (.array .long)) (t' := .long) (by decide) (by decide)))
  replace F_rows := F_rows.other W6 (Or.inr (slot_ne (Or.inr (ow hw 36 rfl)) (Or.inr (ow hw 24 rfl)) (by decide) (t := (.array .long)) (t' := .long) (by decide) (by decide)))
  replace F_matches := F_matches.other W6 (Or.inr (slot_ne (Or.inr (ow hw 38 rfl)) (Or.inr (ow hw 24 rfl)) (by decide) (t := (.array .long)) (t' := .long) (by decide) (by decide)))
  replace V_a2 := V_a2.other W6 (Ne.symm ne12)
  replace F_columns := Fq6
  clear Fq6
  have N6 := Fr.snoc X6 N5 g_a1
  refine own_of (fun tgt kon => XS.aloadN X6.here hx rfl (hb hby d2_35) rfl rfl kon) ?_
  refine own_of (fun tgt kon => XS.lconst X6.here hx rfl (hb hby d2_36) kon) ?_
  refine own_of (fun tgt kon => XS.iload X6.here hx rfl (hb hby d2_37) rfl kon) ?_
  refine own_of (fun tgt kon => XS.lshl X6.here hx rfl (hb hby d2_39) rfl kon) ?_
  show own_Wp _ _ _ _ (T6.setTop (mkF m 40 #[rv a1, rv a2, iv p3, iv p4, iv p5, iv p6, iv (0 : Int32), uu, uu, uu] [(.long ((1 : Int64) <<< ((0 : Int32) &&& 0x3f).toInt64)), (.ref a1)]))
  obtain ⟨T7, h7, X7, e7, W7, st7⟩ := putF X6 hx hZ hown (host := "") (Or.inl (ow hw 25 rfl)) Via.refl e6 F_lastColumn E_a1 (Or.inr ⟨(ow hw 26 rfl), rfl, hnm⟩) (ow hw 6 rfl) (ty := .long) (by decide) rfl rfl (g := (mkF m 40 #[rv a1, rv a2, iv p3, iv p4, iv p5, iv p6, iv (0 : Int32), uu, uu, uu] [(.long ((1 : Int64) <<< ((0 : Int32) &&& 0x3f).toInt64)), (.ref a1)])) rfl rfl (hb hby d2_40)
  refine own_of st7 ?_
  clear st7
  have Fq7 := Fld.same W7 F_lastColumn
  replace Zs := Nat.le_trans Zs (Keep.of_wr W7).1
  replace K0 := K0.wr W7 (Or.inl (List.mem_of_getElem? (i := 0) rfl))
  replace E_a1 := E_a1.wr W7
  replace F_bound := F_bound.other W7 (Or.inr (slot_ne (Or.inr (ow hw 15 rfl)) (Or.inr (ow hw 26 rfl)) (by decide) (t := .int) (t' := .long) (by decide) (by decide)))
  replace F_headBound := F_headBound.other W7 (Or.inr (slot_ne (Or.inr (ow hw 17 rfl)) (Or.inr (ow hw 26 rfl)) (by decide) (t := .int) (t' := .long) (by decide) (by decide)))
  replace F_levels := F_levels.other W7 (Or.inr (slot_ne (Or.inr (ow hw 19 rfl)) (Or.inr (ow hw 26 rfl)) (by decide) (t := .int) (t' := .long) (by decide) (by decide)))
  replace F_columns := F_columns.other W7 (Or.inr (slot_ne (Or.inr (ow hw 24 rfl)) (Or.inr (ow hw 26 rfl)) (by decide) (t := .long) (t' := .long) (by decide) (by decide)))
  replace F_outsideHead := F_outsideHead.other W7 (Or.inr (slot_ne (Or.inr (ow hw 29 rfl)) (Or.inr (ow hw 26 rfl)) (by decide) (t := .long) (t' := .long) (by decide) (by decide)))
  replace F_codePoints := F_codePoints.other W7 (Or.inr (slot_ne (Or.inr (ow hw 31 rfl)) (Or.inr (ow hw 26 rfl)) (by decide) (t := (.array .int)) (t' := .long) (by decide) (by decide)))
  replace F_columnsOf := F_columnsOf.other W7 (Or.inr (slot_ne (Or.inr (ow hw 34 rfl)) (Or.inr (ow hw 26 rfl)) (by decide) (t := (.array .long)) (t' := .long) (by decide) (by decide)))
  replace F_rows := F_rows.other W7 (Or.inr (slot_ne (Or.inr (ow hw 36 rfl)) (Or.inr (ow hw 26 rfl)) (by decide) (t := (.array .long)) (t' := .long) (by decide) (by decide)))
  replace F_matches := F_matches.other W7 (Or.inr (slot_ne (Or.inr (ow hw 38 rfl)) (Or.inr (ow hw 26 rfl)) (by decide) (t := (.array .long)) (t' := .long) (by decide) (by decide)))
  replace V_a2 := V_a2.other W7 (Ne.symm ne12)
  replace F_lastColumn := Fq7
  clear Fq7
  have N7 := Fr.snoc X7 N6 g_a1
  refine own_of (fun tgt kon => XS.aloadN X7.here hx rfl (hb hby d2_43) rfl rfl kon) ?_
  refine own_of (fun tgt kon => XS.iloadN X7.here hx rfl (hb hby d2_44) rfl kon) ?_
  show own_Wp _ _ _ _ (T7.setTop (mkF m 45 #[rv a1, rv a2, iv p3, iv p4, iv p5, iv p6, iv (0 : Int32), uu, uu, uu] [(.int p4), (.ref a1)]))
  have J62 : ∀ (T8 : State) (lc8 : List Loc) (out : Int64), (Stand p l e ({ frames := 1, cells := 4, slots := 516, locals := 15 } : Room) s m #[(.ref a1), (.ref a2), (.int p3), (.int p4), (.int p5), (.int p6)] below meth c T8 lc8 0 0) → (T8.heap = h7) → (Fr n0 lc8) → (out = if p4 < (0 : Int32) then (-1 : Int64) else (own_upTo p4 ^^^ (-1 : Int64))) → own_Wp p.tables e below (own_K ({ frames := 1, cells := 4, slots := 516, locals := 15 } : Room) s below (Q_rmct0 Z a1 a2 p3 p4 p5 p6 tx bd ph dp RL cp0 co0 h0 n0)) (T8.setTop (mkF m 62 #[rv a1, rv a2, iv p3, iv p4, iv p5, iv p6, iv (0 : Int32), uu, uu, uu] [(.long out), (.ref a1)])) := by
    intro T8 lc8 out X8 e8 N8 h_out
    obtain ⟨T9, h9, X9, e9, W9, st9⟩ := putF X8 hx hZ hown (host := "") (Or.inl (ow hw 28 rfl)) Via.refl e8 F_outsideHead E_a1 (Or.inr ⟨(ow hw 29 rfl), rfl, hnm⟩) (ow hw 6 rfl) (ty := .long) (by decide) rfl rfl (g := (mkF m 62 #[rv a1, rv a2, iv p3, iv p4, iv p5, iv p6, iv (0 : Int32), uu, uu, uu] [(.long out), (.ref a1)])) rfl rfl (hb hby d2_62)
    refine own_of st9 ?_
    clear st9
    have Fq9 := Fld.same W9 F_outsideHead
    replace Zs := Nat.le_trans Zs (Keep.of_wr W9).1
    replace K0 := K0.wr W9 (Or.inl (List.mem_of_getElem? (i := 0) rfl))
    replace E_a1 := E_a1.wr W9
    replace F_bound := F_bound.other W9 (Or.inr (slot_ne (Or.inr (ow hw 15 rfl)) (Or.inr (ow hw 29 rfl)) (by decide) (t := .int) (t' := .long) (by decide) (by decide)))
    replace F_headBound := F_headBound.other W9 (Or.inr (slot_ne (Or.inr (ow hw 17 rfl)) (Or.inr (ow hw 29 rfl)) (by decide) (t := .int) (t' := .long) (by decide) (by decide)))
    replace F_levels := F_levels.other W9 (Or.inr (slot_ne (Or.inr (ow hw 19 rfl)) (Or.inr (ow hw 29 rfl)) (by decide) (t := .int) (t' := .long) (by decide) (by decide)))
    replace F_columns := F_columns.other W9 (Or.inr (slot_ne (Or.inr (ow hw 24 rfl)) (Or.inr (ow hw 29 rfl)) (by decide) (t := .long) (t' := .long) (by decide) (by decide)))
    replace F_lastColumn := F_lastColumn.other W9 (Or.inr (slot_ne (Or.inr (ow hw 26 rfl)) (Or.inr (ow hw 29 rfl)) (by decide) (t := .long) (t' := .long) (by decide) (by decide)))
    replace F_codePoints := F_codePoints.other W9 (Or.inr (slot_ne (Or.inr (ow hw 31 rfl)) (Or.inr (ow hw 29 rfl)) (by decide) (t := (.array .int)) (t' := .long) (by decide) (by decide)))
    replace F_columnsOf := F_columnsOf.other W9 (Or.inr (slot_ne (Or.inr (ow hw 34 rfl)) (Or.inr (ow hw 29 rfl)) (by decide) (t := (.array .long)) (t' := .long) (by decide) (by decide)))
    replace F_rows := F_rows.other W9 (Or.inr (slot_ne (Or.inr (ow hw 36 rfl)) (Or.inr (ow hw 29 rfl)) (by decide) (t := (.array .long)) (t' := .long) (by decide) (by decide)))
    replace F_matches := F_matches.other W9 (Or.inr (slot_ne (Or.inr (ow hw 38 rfl)) (Or.inr (ow hw 29 rfl)) (by decide) (t := (.array .long)) (t' := .long) (by decide) (by decide)))
    replace V_a2 := V_a2.other W9 (Ne.symm ne12)
    replace F_outsideHead := Fq9
    clear Fq9
    have N9 := Fr.snoc X9 N8 g_a1
    refine own_of (fun tgt kon => XS.aloadN X9.here hx rfl (hb hby d2_65) rfl rfl kon) ?_
    refine own_of (fun tgt kon => XS.sipush X9.here hx rfl (hb hby d2_66) kon) ?_
    obtain ⟨T10, h10, k10, X10, e10, E10, A10, st10⟩ := newP X9 hx hZ (ow hw 4 rfl) e9 (g := (mkF m 69 #[rv a1, rv a2, iv p3, iv p4, iv p5, iv p6, iv (0 : Int32), uu, uu, uu] [(.int (128 : Int32)), (.ref a1)])) rfl (hb hby d2_69) rfl (by decide) (cap := 128) (by decide) (by decide) (by decide) (by decide)
    refine own_of st10 ?_
    clear st10
    obtain ⟨b10, gq10⟩ : ∃ z, z = h9.size := ⟨_, rfl⟩
    rw [← gq10] at A10 ⊢
    have ne_a1_b10 : a1 ≠ b10 := Nat.ne_of_lt (Nat.lt_of_lt_of_le E_a1.lt (Nat.le_of_eq gq10.symm))
    have ne_a2_b10 : a2 ≠ b10 := Nat.ne_of_lt (Nat.lt_of_lt_of_le V_a2.lt (Nat.le_of_eq gq10.symm))
    have g_b10 : n0 ≤ b10 := Nat.le_trans Zs (Nat.le_of_eq gq10.symm)
    have sz_b10 : h0.size ≤ b10 := Nat.le_trans K0.1 (Nat.le_of_eq gq10.symm)
    replace Zs := Nat.le_trans Zs E10.1
    replace K0 := K0.ext E10
    replace E_a1 := E_a1.ext E10
    replace F_bound := F_bound.ext E10
    replace F_headBound := F_headBound.ext E10
    replace F_levels := F_levels.ext E10
    replace F_columns := F_columns.ext E10
    replace F_lastColumn := F_lastColumn.ext E10
    replace F_outsideHead := F_outsideHead.ext E10
    replace F_codePoints := F_codePoints.ext E10
    replace F_columnsOf := F_columnsOf.ext E10
    replace F_rows := F_rows.ext E10
    replace F_matches := F_matches.ext E10
    replace V_a2 := V_a2.ext E10
    have V_b10 : own_Ar Z h10 b10 .int 128 (fun _ => (.int (0 : Int32))) := own_Ar.new A10 (by decide) rfl
    obtain ⟨T11, h11, X11, e11, W11, st11⟩ := putF X10 hx hZ hown (host := "") (Or.inl (ow hw 30 rfl)) Via.refl e10 F_codePoints E_a1 (Or.inr ⟨(ow hw 31 rfl), rfl, hnm⟩) (ow hw 6 rfl) (ty := (.array .int)) (by decide) rfl rfl (g := (mkF m 71 #[rv a1, rv a2, iv p3, iv p4, iv p5, iv p6, iv (0 : Int32), uu, uu, uu] [(.ref b10), (.ref a1)])) rfl rfl (hb hby d2_71)
    refine own_of st11 ?_
    clear st11
    have Fq11 := Fld.same W11 F_codePoints
    replace Zs := Nat.le_trans Zs (Keep.of_wr W11).1
    replace K0 := K0.wr W11 (Or.inl (List.mem_of_getElem? (i := 0) rfl))
    replace E_a1 := E_a1.wr W11
    replace F_bound := F_bound.other W11 (Or.inr (slot_ne (Or.inr (ow hw 15 rfl)) (Or.inr (ow hw 31 rfl)) (by decide) (t := .int) (t' := (.array .int)) (by decide) (by decide)))
    replace F_headBound := F_headBound.other W11 (Or.inr (slot_ne (Or.inr (ow hw 17 rfl)) (Or.inr (ow hw 31 rfl)) (by decide) (t := .int) (t' := (.array .int)) (by decide) (by decide)))
    replace F_levels := F_levels.other W11 (Or.inr (slot_ne (Or.inr (ow hw 19 rfl)) (Or.inr (ow hw 31 rfl)) (by decide) (t := .int) (t' := (.array .int)) (by decide) (by decide)))
    replace F_columns := F_columns.other W11 (Or.inr (slot_ne (Or.inr (ow hw 24 rfl)) (Or.inr (ow hw 31 rfl)) (by decide) (t := .long) (t' := (.array .int)) (by decide) (by decide)))
    replace F_lastColumn := F_lastColumn.other W11 (Or.inr (slot_ne (Or.inr (ow hw 26 rfl)) (Or.inr (ow hw 31 rfl)) (by decide) (t := .long) (t' := (.array .int)) (by decide) (by decide)))
    replace F_outsideHead := F_outsideHead.other W11 (Or.inr (slot_ne (Or.inr (ow hw 29 rfl)) (Or.inr (ow hw 31 rfl)) (by decide) (t := .long) (t' := (.array .int)) (by decide) (by decide)))
    replace F_columnsOf := F_columnsOf.other W11 (Or.inr (slot_ne (Or.inr (ow hw 34 rfl)) (Or.inr (ow hw 31 rfl)) (by decide) (t := (.array .long)) (t' := (.array .int)) (by decide) (by decide)))
    replace F_rows := F_rows.other W11 (Or.inr (slot_ne (Or.inr (ow hw 36 rfl)) (Or.inr (ow hw 31 rfl)) (by decide) (t := (.array .long)) (t' := (.array .int)) (by decide) (by decide)))
    replace F_matches := F_matches.other W11 (Or.inr (slot_ne (Or.inr (ow hw 38 rfl)) (Or.inr (ow hw 31 rfl)) (by decide) (t := (.array .long)) (t' := (.array .int)) (by decide) (by decide)))
    replace V_a2 := V_a2.other W11 (Ne.symm ne12)
    replace V_b10 := V_b10.other W11 (Ne.symm ne_a1_b10)
    replace F_codePoints := Fq11
    clear Fq11
    have N11 := Fr.snoc X11 N9 g_a1
    show own_Wp _ _ _ _ (T11.setTop (mkF m 74 #[rv a1, rv a2, iv p3, iv p4, iv p5, iv p6, iv (0 : Int32), uu, uu, uu] []))
    refine own_of (fun tgt kon => XS.aloadN X11.here hx rfl (hb hby d2_74) rfl rfl kon) ?_
    refine own_of (fun tgt kon => XS.sipush X11.here hx rfl (hb hby d2_75) kon) ?_
    obtain ⟨T12, h12, k12, X12, e12, E12, A12, st12⟩ := newP X11 hx hZ (ow hw 32 rfl) e11 (g := (mkF m 78 #[rv a1, rv a2, iv p3, iv p4, iv p5, iv p6, iv (0 : Int32), uu, uu, uu] [(.int (128 : Int32)), (.ref a1)])) rfl (hb hby d2_78) rfl (by decide) (cap := 128) (by decide) (by decide) (by decide) (by decide)
    refine own_of st12 ?_
    clear st12
    obtain ⟨b12, gq12⟩ : ∃ z, z = h11.size := ⟨_, rfl⟩
    rw [← gq12] at A12 ⊢
    have ne_a1_b12 : a1 ≠ b12 := Nat.ne_of_lt (Nat.lt_of_lt_of_le E_a1.lt (Nat.le_of_eq gq12.symm))
    have ne_a2_b12 : a2 ≠ b12 := Nat.ne_of_lt (Nat.lt_of_lt_of_le V_a2.lt (Nat.le_of_eq gq12.symm))
    have ne_b10_b12 : b10 ≠ b12 := Nat.ne_of_lt (Nat.lt_of_lt_of_le V_b10.lt (Nat.le_of_eq gq12.symm))
    have g_b12 : n0 ≤ b12 := Nat.le_trans Zs (Nat.le_of_eq gq12.symm)
    have sz_b12 : h0.size ≤ b12 := Nat.le_trans K0.1 (Nat.le_of_eq gq12.symm)
    replace Zs := Nat.le_trans Zs E12.1
    replace K0 := K0.ext E12
    replace E_a1 := E_a1.ext E12
    replace F_bound := F_bound.ext E12
    replace F_headBound := F_headBound.ext E12
    replace F_levels := F_levels.ext E12
    replace F_columns := F_columns.ext E12
    replace F_lastColumn := F_lastColumn.ext E12
    replace F_outsideHead := F_outsideHead.ext E12
    replace F_codePoints := F_codePoints.ext E12
    replace F_columnsOf := F_columnsOf.ext E12
    replace F_rows := F_rows.ext E12
    replace F_matches := F_matches.ext E12
    replace V_a2 := V_a2.ext E12
    replace V_b10 := V_b10.ext E12
    have V_b12 : own_Ar Z h12 b12 .long 128 (fun _ => (.long (0 : Int64))) := own_Ar.new A12 (by decide) rfl
    obtain ⟨T13, h13, X13, e13, W13, st13⟩ := putF X12 hx hZ hown (host := "") (Or.inl (ow hw 33 rfl)) Via.refl e12 F_columnsOf E_a1 (Or.inr ⟨(ow hw 34 rfl), rfl, hnm⟩) (ow hw 6 rfl) (ty := (.array .long)) (by decide) rfl rfl (g := (mkF m 80 #[rv a1, rv a2, iv p3, iv p4, iv p5, iv p6, iv (0 : Int32), uu, uu, uu] [(.ref b12), (.ref a1)])) rfl rfl (hb hby d2_80)
    refine own_of st13 ?_
    clear st13
    have Fq13 := Fld.same W13 F_columnsOf
    replace Zs := Nat.le_trans Zs (Keep.of_wr W13).1
    replace K0 := K0.wr W13 (Or.inl (List.mem_of_getElem? (i := 0) rfl))
    replace E_a1 := E_a1.wr W13
    replace F_bound := F_bound.other W13 (Or.inr (slot_ne (Or.inr (ow hw 15 rfl)) (Or.inr (ow hw 34 rfl)) (by decide) (t := .int) (t' := (.array .long)) (by decide) (by decide)))
    replace F_headBound := F_headBound.other W13 (Or.inr (slot_ne (Or.inr (ow hw 17 rfl)) (Or.inr (ow hw 34 rfl)) (by decide) (t := .int) (t' := (.array .long)) (by decide) (by decide)))
    replace F_levels := F_levels.other W13 (Or.inr (slot_ne (Or.inr (ow hw 19 rfl)) (Or.inr (ow hw 34 rfl)) (by decide) (t := .int) (t' := (.array .long)) (by decide) (by decide)))
    replace F_columns := F_columns.other W13 (Or.inr (slot_ne (Or.inr (ow hw 24 rfl)) (Or.inr (ow hw 34 rfl)) (by decide) (t := .long) (t' := (.array .long)) (by decide) (by decide)))
    replace F_lastColumn := F_lastColumn.other W13 (Or.inr (slot_ne (Or.inr (ow hw 26 rfl)) (Or.inr (ow hw 34 rfl)) (by decide) (t := .long) (t' := (.array .long)) (by decide) (by decide)))
    replace F_outsideHead := F_outsideHead.other W13 (Or.inr (slot_ne (Or.inr (ow hw 29 rfl)) (Or.inr (ow hw 34 rfl)) (by decide) (t := .long) (t' := (.array .long)) (by decide) (by decide)))
    replace F_codePoints := F_codePoints.other W13 (Or.inr (slot_ne (Or.inr (ow hw 31 rfl)) (Or.inr (ow hw 34 rfl)) (by decide) (t := (.array .int)) (t' := (.array .long)) (by decide) (by decide)))
    replace F_rows := F_rows.other W13 (Or.inr (slot_ne (Or.inr (ow hw 36 rfl)) (Or.inr (ow hw 34 rfl)) (by decide) (t := (.array .long)) (t' := (.array .long)) (by decide) (by decide)))
    replace F_matches := F_matches.other W13 (Or.inr (slot_ne (Or.inr (ow hw 38 rfl)) (Or.inr (ow hw 34 rfl)) (by decide) (t := (.array .long)) (t' := (.array .long)) (by decide) (by decide)))
    replace V_a2 := V_a2.other W13 (Ne.symm ne12)
    replace V_b10 := V_b10.other W13 (Ne.symm ne_a1_b10)
    replace V_b12 := V_b12.other W13 (Ne.symm ne_a1_b12)
    replace F_columnsOf := Fq13
    clear Fq13
    have N13 := Fr.snoc X13 N11 g_a1
    refine own_of (fun tgt kon => XS.aloadN X13.here hx rfl (hb hby d2_83) rfl rfl kon) ?_
    show own_Wp _ _ _ _ (T13.setTop (mkF m 84 #[rv a1, rv a2, iv p3, iv p4, iv p5, iv p6, iv (0 : Int32), uu, uu, uu] [(.ref a1)]))
    refine own_of (fun tgt kon => XS.iload X13.here hx rfl (hb hby d2_84) rfl kon) ?_
    refine own_of (fun tgt kon => XS.iconst X13.here hx rfl (hb hby d2_86) kon) ?_
    refine own_of (fun tgt kon => XS.iadd X13.here hx rfl (hb hby d2_87) rfl kon) ?_
    refine own_of (fun tgt kon => XS.aloadN X13.here hx rfl (hb hby d2_88) rfl rfl kon) ?_
    obtain ⟨T14, X14, e14, st14⟩ := getF X13 hx hZ hown (host := "") (Or.inl (ow hw 18 rfl)) Via.refl e13 F_levels (g := (mkF m 89 #[rv a1, rv a2, iv p3, iv p4, iv p5, iv p6, iv (0 : Int32), uu, uu, uu] [(.ref a1), (.int (p6 + (1 : Int32))), (.ref a1)])) rfl rfl (hb hby d2_89)
    refine own_of st14 ?_
    clear st14
    show own_Wp _ _ _ _ (T14.setTop (mkF m 92 #[rv a1, rv a2, iv p3, iv p4, iv p5, iv p6, iv (0 : Int32), uu, uu, uu] [(.int (p3 + (1 : Int32))), (.int (p6 + (1 : Int32))), (.ref a1)]))
    refine own_of (fun tgt kon => XS.imul X14.here hx rfl (hb hby d2_92) rfl kon) ?_
    obtain ⟨T15, h15, k15, X15, e15, E15, A15, st15⟩ := newP X14 hx hZ (ow hw 32 rfl) e14 (g := (mkF m 93 #[rv a1, rv a2, iv p3, iv p4, iv p5, iv p6, iv (0 : Int32), uu, uu, uu] [(.int ((p6 + (1 : Int32)) * (p3 + (1 : Int32)))), (.ref a1)])) rfl (hb hby d2_93) rfl (own_nneg hRT) (cap := 256) (by rw [own_nat hRT]; omega) (by decide) (by decide) (by decide)
    refine own_of st15 ?_
    clear st15
    obtain ⟨b15, gq15⟩ : ∃ z, z = h13.size := ⟨_, rfl⟩
    rw [← gq15] at A15 ⊢
    have ne_a1_b15 : a1 ≠ b15 := Nat.ne_of_lt (Nat.lt_of_lt_of_le E_a1.lt (Nat.le_of_eq gq15.symm))
    have ne_a2_b15 : a2 ≠ b15 := Nat.ne_of_lt (Nat.lt_of_lt_of_le V_a2.lt (Nat.le_of_eq gq15.symm))
    have ne_b10_b15 : b10 ≠ b15 := Nat.ne_of_lt (Nat.lt_of_lt_of_le V_b10.lt (Nat.le_of_eq gq15.symm))
    have ne_b12_b15 : b12 ≠ b15 := Nat.ne_of_lt (Nat.lt_of_lt_of_le V_b12.lt (Nat.le_of_eq gq15.symm))
    have g_b15 : n0 ≤ b15 := Nat.le_trans Zs (Nat.le_of_eq gq15.symm)
    have sz_b15 : h0.size ≤ b15 := Nat.le_trans K0.1 (Nat.le_of_eq gq15.symm)
    replace Zs := Nat.le_trans Zs E15.1
    replace K0 := K0.ext E15
    replace E_a1 := E_a1.ext E15
    replace F_bound := F_bound.ext E15
    replace F_headBound := F_headBound.ext E15
    replace F_levels := F_levels.ext E15
    replace F_columns := F_columns.ext E15
    replace F_lastColumn := F_lastColumn.ext E15
    replace F_outsideHead := F_outsideHead.ext E15
    replace F_codePoints := F_codePoints.ext E15
    replace F_columnsOf := F_columnsOf.ext E15
    replace F_rows := F_rows.ext E15
    replace F_matches := F_matches.ext E15
    replace V_a2 := V_a2.ext E15
    replace V_b10 := V_b10.ext E15
    replace V_b12 := V_b12.ext E15
    have V_b15 : own_Ar Z h15 b15 .long RL (fun _ => (.long (0 : Int64))) := own_Ar.new A15 (own_nneg hRT) (own_nat hRT)
    obtain ⟨T16, h16, X16, e16, W16, st16⟩ := putF X15 hx hZ hown (host := "") (Or.inl (ow hw 35 rfl)) Via.refl e15 F_rows E_a1 (Or.inr ⟨(ow hw 36 rfl), rfl, hnm⟩) (ow hw 6 rfl) (ty := (.array .long)) (by decide) rfl rfl (g := (mkF m 95 #[rv a1, rv a2, iv p3, iv p4, iv p5, iv p6, iv (0 : Int32), uu, uu, uu] [(.ref b15), (.ref a1)])) rfl rfl (hb hby d2_95)
    refine own_of st16 ?_
    clear st16
    have Fq16 := Fld.same W16 F_rows
    replace Zs := Nat.le_trans Zs (Keep.of_wr W16).1
    replace K0 := K0.wr W16 (Or.inl (List.mem_of_getElem? (i := 0) rfl))
    replace E_a1 := E_a1.wr W16
    replace F_bound := F_bound.other W16 (Or.inr (slot_ne (Or.inr (ow hw 15 rfl)) (Or.inr (ow hw 36 rfl)) (by decide) (t := .int) (t' := (.array .long)) (by decide) (by decide)))
    replace F_headBound := F_headBound.other W16 (Or.inr (slot_ne (Or.inr (ow hw 17 rfl)) (Or.inr (ow hw 36 rfl)) (by decide) (t := .int) (t' := (.array .long)) (by decide) (by decide)))
    replace F_levels := F_levels.other W16 (Or.inr (slot_ne (Or.inr (ow hw 19 rfl)) (Or.inr (ow hw 36 rfl)) (by decide) (t := .int) (t' := (.array .long)) (by decide) (by decide)))
    replace F_columns := F_columns.other W16 (Or.inr (slot_ne (Or.inr (ow hw 24 rfl)) (Or.inr (ow hw 36 rfl)) (by decide) (t := .long) (t' := (.array .long)) (by decide) (by decide)))
    replace F_lastColumn := F_lastColumn.other W16 (Or.inr (slot_ne (Or.inr (ow hw 26 rfl)) (Or.inr (ow hw 36 rfl)) (by decide) (t := .long) (t' := (.array .long)) (by decide) (by decide)))
    replace F_outsideHead := F_outsideHead.other W16 (Or.inr (slot_ne (Or.inr (ow hw 29 rfl)) (Or.inr (ow hw 36 rfl)) (by decide) (t := .long) (t' := (.array .long)) (by decide) (by decide)))
    replace F_codePoints := F_codePoints.other W16 (Or.inr (slot_ne (Or.inr (ow hw 31 rfl)) (Or.inr (ow hw 36 rfl)) (by decide) (t := (.array .int)) (t' := (.array .long)) (by decide) (by decide)))
    replace F_columnsOf := F_columnsOf.other W16 (Or.inr (slot_ne (Or.inr (ow hw 34 rfl)) (Or.inr (ow hw 36 rfl)) (by decide) (t := (.array .long)) (t' := (.array .long)) (by decide) (by decide)))
    replace F_matches := F_matches.other W16 (Or.inr (slot_ne (Or.inr (ow hw 38 rfl)) (Or.inr (ow hw 36 rfl)) (by decide) (t := (.array .long)) (t' := (.array .long)) (by decide) (by decide)))
    replace V_a2 := V_a2.other W16 (Ne.symm ne12)
    replace V_b10 := V_b10.other W16 (Ne.symm ne_a1_b10)
    replace V_b12 := V_b12.other W16 (Ne.symm ne_a1_b12)
    replace V_b15 := V_b15.other W16 (Ne.symm ne_a1_b15)
    replace F_rows := Fq16
    clear Fq16
    have N16 := Fr.snoc X16 N13 g_a1
    refine own_of (fun tgt kon => XS.aloadN X16.here hx rfl (hb hby d2_98) rfl rfl kon) ?_
    refine own_of (fun tgt kon => XS.iload X16.here hx rfl (hb hby d2_99) rfl kon) ?_
    show own_Wp _ _ _ _ (T16.setTop (mkF m 101 #[rv a1, rv a2, iv p3, iv p4, iv p5, iv p6, iv (0 : Int32), uu, uu, uu] [(.int p6), (.ref a1)]))
    refine own_of (fun tgt kon => XS.iconst X16.here hx rfl (hb hby d2_101) kon) ?_
    refine own_of (fun tgt kon => XS.iadd X16.here hx rfl (hb hby d2_102) rfl kon) ?_
    obtain ⟨T17, h17, k17, X17, e17, E17, A17, st17⟩ := newP X16 hx hZ (ow hw 32 rfl) e16 (g := (mkF m 103 #[rv a1, rv a2, iv p3, iv p4, iv p5, iv p6, iv (0 : Int32), uu, uu, uu] [(.int (p6 + (1 : Int32))), (.ref a1)])) rfl (hb hby d2_103) rfl (own_nneg hLV) (cap := 4) (by rw [own_nat hLV]; omega) (by decide) (by decide) (by decide)
    refine own_of st17 ?_
    clear st17
    obtain ⟨b17, gq17⟩ : ∃ z, z = h16.size := ⟨_, rfl⟩
    rw [← gq17] at A17 ⊢
    have ne_a1_b17 : a1 ≠ b17 := Nat.ne_of_lt (Nat.lt_of_lt_of_le E_a1.lt (Nat.le_of_eq gq17.symm))
    have ne_a2_b17 : a2 ≠ b17 := Nat.ne_of_lt (Nat.lt_of_lt_of_le V_a2.lt (Nat.le_of_eq gq17.symm))
    have ne_b10_b17 : b10 ≠ b17 := Nat.ne_of_lt (Nat.lt_of_lt_of_le V_b10.lt (Nat.le_of_eq gq17.symm))
    have ne_b12_b17 : b12 ≠ b17 := Nat.ne_of_lt (Nat.lt_of_lt_of_le V_b12.lt (Nat.le_of_eq gq17.symm))
    have ne_b15_b17 : b15 ≠ b17 := Nat.ne_of_lt (Nat.lt_of_lt_of_le V_b15.lt (Nat.le_of_eq gq17.symm))
    have g_b17 : n0 ≤ b17 := Nat.le_trans Zs (Nat.le_of_eq gq17.symm)
    have sz_b17 : h0.size ≤ b17 := Nat.le_trans K0.1 (Nat.le_of_eq gq17.symm)
    replace Zs := Nat.le_trans Zs E17.1
    replace K0 := K0.ext E17
    replace E_a1 := E_a1.ext E17
    replace F_bound := F_bound.ext E17
    replace F_headBound := F_headBound.ext E17
    replace F_levels := F_levels.ext E17
    replace F_columns := F_columns.ext E17
    replace F_lastColumn := F_lastColumn.ext E17
    replace F_outsideHead := F_outsideHead.ext E17
    replace F_codePoints := F_codePoints.ext E17
    replace F_columnsOf := F_columnsOf.ext E17
    replace F_rows := F_rows.ext E17
    replace F_matches := F_matches.ext E17
    replace V_a2 := V_a2.ext E17
    replace V_b10 := V_b10.ext E17
    replace V_b12 := V_b12.ext E17
    replace V_b15 := V_b15.ext E17
    have V_b17 : own_Ar Z h17 b17 .long (dp + 1) (fun _ => (.long (0 : Int64))) := own_Ar.new A17 (own_nneg hLV) (own_nat hLV)
    obtain ⟨T18, h18, X18, e18, W18, st18⟩ := putF X17 hx hZ hown (host := "") (Or.inl (ow hw 37 rfl)) Via.refl e17 F_matches E_a1 (Or.inr ⟨(ow hw 38 rfl), rfl, hnm⟩) (ow hw 6 rfl) (ty := (.array .long)) (by decide) rfl rfl (g := (mkF m 105 #[rv a1, rv a2, iv p3, iv p4, iv p5, iv p6, iv (0 : Int32), uu, uu, uu] [(.ref b17), (.ref a1)])) rfl rfl (hb hby d2_105)
    refine own_of st18 ?_
    clear st18
    have Fq18 := Fld.same W18 F_matches
    replace Zs := Nat.le_trans Zs (Keep.of_wr W18).1
    replace K0 := K0.wr W18 (Or.inl (List.mem_of_getElem? (i := 0) rfl))
    replace E_a1 := E_a1.wr W18
    replace F_bound := F_bound.other W18 (Or.inr (slot_ne (Or.inr (ow hw 15 rfl)) (Or.inr (ow hw 38 rfl)) (by decide) (t := .int) (t' := (.array .long)) (by decide) (by decide)))
    replace F_headBound := F_headBound.other W18 (Or.inr (slot_ne (Or.inr (ow hw 17 rfl)) (Or.inr (ow hw 38 rfl)) (by decide) (t := .int) (t' := (.array .long)) (by decide) (by decide)))
    replace F_levels := F_levels.other W18 (Or.inr (slot_ne (Or.inr (ow hw 19 rfl)) (Or.inr (ow hw 38 rfl)) (by decide) (t := .int) (t' := (.array .long)) (by decide) (by decide)))
    replace F_columns := F_columns.other W18 (Or.inr (slot_ne (Or.inr (ow hw 24 rfl)) (Or.inr (ow hw 38 rfl)) (by decide) (t := .long) (t' := (.array .long)) (by decide) (by decide)))
    replace F_lastColumn := F_lastColumn.other W18 (Or.inr (slot_ne (Or.inr (ow hw 26 rfl)) (Or.inr (ow hw 38 rfl)) (by decide) (t := .long) (t' := (.array .long)) (by decide) (by decide)))
    replace F_outsideHead := F_outsideHead.other W18 (Or.inr (slot_ne (Or.inr (ow hw 29 rfl)) (Or.inr (ow hw 38 rfl)) (by decide) (t := .long) (t' := (.array .long)) (by decide) (by decide)))
    replace F_codePoints := F_codePoints.other W18 (Or.inr (slot_ne (Or.inr (ow hw 31 rfl)) (Or.inr (ow hw 38 rfl)) (by decide) (t := (.array .int)) (t' := (.array .long)) (by decide) (by decide)))
    replace F_columnsOf := F_columnsOf.other W18 (Or.inr (slot_ne (Or.inr (ow hw 34 rfl)) (Or.inr (ow hw 38 rfl)) (by decide) (t := (.array .long)) (t' := (.array .long)) (by decide) (by decide)))
    replace F_rows := F_rows.other W18 (Or.inr (slot_ne (Or.inr (ow hw 36 rfl)) (Or.inr (ow hw 38 rfl)) (by decide) (t := (.array .long)) (t' := (.array .long)) (by decide) (by decide)))
    replace V_a2 := V_a2.other W18 (Ne.symm ne12)
    replace V_b10 := V_b10.other W18 (Ne.symm ne_a1_b10)
    replace V_b12 := V_b12.other W18 (Ne.symm ne_a1_b12)
    replace V_b15 := V_b15.other W18 (Ne.symm ne_a1_b15)
    replace V_b17 := V_b17.other W18 (Ne.symm ne_a1_b17)
    replace F_matches := Fq18
    clear Fq18
    have N18 := Fr.snoc X18 N16 g_a1
    refine own_of (fun tgt kon => XS.aloadN X18.here hx rfl (hb hby d2_108) rfl rfl kon) ?_
    show own_Wp _ _ _ _ (T18.setTop (mkF m 109 #[rv a1, rv a2, iv p3, iv p4, iv p5, iv p6, iv (0 : Int32), uu, uu, uu] [(.ref a1)]))
    obtain ⟨T19, X19, e19, st19⟩ := getF X18 hx hZ hown (host := "") (Or.inl (ow hw 30 rfl)) Via.refl e18 F_codePoints (g := (mkF m 109 #[rv a1, rv a2, iv p3, iv p4, iv p5, iv p6, iv (0 : Int32), uu, uu, uu] [(.ref a1)])) rfl rfl (hb hby d2_109)
    refine own_of st19 ?_
    clear st19
    refine own_of (fun tgt kon => XS.iconst X19.here hx rfl (hb hby d2_112) kon) ?_
    refine own_callS X19 hx hZ (y := (⟨"java/util/Arrays", "fill", "([II)V"⟩ : MethodName)) (argsL := [(.ref b10), (.int (-1 : Int32))]) (rest := []) (W := 0) hown (ow hw 39 rfl) (ow hw 40 rfl) (ow hw 41 rfl) (ow hw 42 rfl) (by decide) e19 (rmaf l Z a0 hw [] b10 (-1 : Int32) (fun _ => (.int (0 : Int32))) h18 n0 Zs V_b10 g_b10) (by decide) (by decide) (by decide) (by decide) rfl (by rw [hml]; rfl) (lenOf own_pd1 rfl) rfl (by show 2 * 0 + _ ≤ _; exact Nat.le_of_eq rfl) (hb hby d2_113) ?_
    rintro T20 L20 _ X20 ⟨rfl, N20q, Kq20, Vq20⟩
    have N20 := Fr.app N18 N20q
    show own_Wp _ _ _ _ (T20.setTop (mkF m 116 #[rv a1, rv a2, iv p3, iv p4, iv p5, iv p6, iv (0 : Int32), uu, uu, uu] []))
    replace Zs := Nat.le_trans Zs Kq20.1
    replace K0 := K0.trans Kq20 (allS (P := fun z => z ∈ _ ∨ _ ≤ z) (Or.inr sz_b10) all0)
    replace E_a1 := E_a1.keep Kq20
    replace F_bound := F_bound.keep Kq20 (ninS ne_a1_b10 nin0)
    replace F_headBound := F_headBound.keep Kq20 (ninS ne_a1_b10 nin0)
    replace F_levels := F_levels.keep Kq20 (ninS ne_a1_b10 nin0)
    replace F_columns := F_columns.keep Kq20 (ninS ne_a1_b10 nin0)
    replace F_lastColumn := F_lastColumn.keep Kq20 (ninS ne_a1_b10 nin0)
    replace F_outsideHead := F_outsideHead.keep Kq20 (ninS ne_a1_b10 nin0)
    replace F_codePoints := F_codePoints.keep Kq20 (ninS ne_a1_b10 nin0)
    replace F_columnsOf := F_columnsOf.keep Kq20 (ninS ne_a1_b10 nin0)
    replace F_rows := F_rows.keep Kq20 (ninS ne_a1_b10 nin0)
    replace F_matches := F_matches.keep Kq20 (ninS ne_a1_b10 nin0)
    replace V_a2 := V_a2.keep Kq20 (ninS ne_a2_b10 nin0)
    replace V_b12 := V_b12.keep Kq20 (ninS (Ne.symm ne_b10_b12) nin0)
    replace V_b15 := V_b15.keep Kq20 (ninS (Ne.symm ne_b10_b15) nin0)
    replace V_b17 := V_b17.keep Kq20 (ninS (Ne.symm ne_b10_b17) nin0)
    have V_b10 := Vq20.fn (f' := fun k => .int (cp0 k)) (fun k hk => congrArg Value.int (hcp0 k).symm)
    replace V_b12 := V_b12.fn (f' := fun k => .long (co0 k)) (fun k hk => congrArg Value.long (hco0 k).symm)
    refine own_of (fun tgt kon => XS.iconst X20.here hx rfl (hb hby d2_116) kon) ?_
    refine own_of (fun tgt kon => XS.istore X20.here hx rfl (hb hby d2_117) rfl (l' := #[rv a1, rv a2, iv p3, iv p4, iv p5, iv p6, iv (0 : Int32), iv (1 : Int32), uu, uu]) rfl kon) ?_
    refine own_of (fun tgt kon => XS.iload X20.here hx rfl (hb hby d2_119) rfl kon) ?_
    refine own_of (fun tgt kon => XS.iload X20.here hx rfl (hb hby d2_121) rfl kon) ?_
    have hc123 : (0 : Int32) < (1 : Int32) := by decide
    refine own_of (fun tgt kon => XS.icmpYes X20.here hx rfl (pc0 := 123) (pc' := 171) rfl (hb hby d2_123) rfl (tlt hc123).2.2.1 (by decide) (by decide) kon) ?_
    refine own_of (fun tgt kon => XS.iconst X20.here hx rfl (hb hby d2_171) kon) ?_
    show own_Wp _ _ _ _ (T20.setTop (mkF m 172 #[rv a1, rv a2, iv p3, iv p4, iv p5, iv p6, iv (0 : Int32), iv (1 : Int32), uu, uu] [(.int (0 : Int32))]))
    refine own_of (fun tgt kon => XS.istore X20.here hx rfl (hb hby d2_172) rfl (l' := #[rv a1, rv a2, iv p3, iv p4, iv p5, iv p6, iv (0 : Int32), iv (0 : Int32), uu, uu]) rfl kon) ?_
    show own_Wp _ _ _ _ (T20.setTop (mkF m 174 #[rv a1, rv a2, iv p3, iv p4, iv p5, iv p6, iv (0 : Int32), iv (0 : Int32), uu, uu] []))
    refine own_of (fun tgt kon => XS.iload X20.here hx rfl (hb hby d2_174) rfl kon) ?_
    refine own_of (fun tgt kon => XS.iloadN X20.here hx rfl (hb hby d2_176) rfl kon) ?_
    have hc177 : ¬ (p3 < (0 : Int32)) := by rw [Int32.lt_iff_toInt_lt, hbd]; have l : (0 : Int32).toInt = 0 := (by decide); omega
    refine own_of (fun tgt kon => XS.icmpNo X20.here hx rfl (hb hby d2_177) rfl (flt hc177).2.2.1 kon) ?_
    show own_Wp _ _ _ _ (T20.setTop (mkF m 180 #[rv a1, rv a2, iv p3, iv p4, iv p5, iv p6, iv (0 : Int32), iv (0 : Int32), uu, uu] []))
    refine own_of (fun tgt kon => XS.iload X20.here hx rfl (hb hby d2_180) rfl kon) ?_
    refine own_of (fun tgt kon => XS.iload X20.here hx rfl (hb hby d2_182) rfl kon) ?_
    refine own_callS X20 hx hZ (y := (⟨"java/lang/Math", "min", "(II)I"⟩ : MethodName)) (argsL := [(.int (0 : Int32)), (.int (0 : Int32))]) (rest := []) (W := 0) hown (ow hw 43 rfl) (ow hw 44 rfl) (ow hw 45 rfl) (ow hw 46 rfl) (by decide) rfl (rmmin l Z a0 hw [] (0 : Int32) (0 : Int32) T20.heap n0 Zs) (by decide) (by decide) (by decide) (by decide) rfl (by rw [hml]; rfl) (lenOf own_pd2 rfl) rfl (by show 2 * 0 + _ ≤ _; exact Nat.le_of_eq rfl) (hb hby d2_184) ?_
    rintro T21 L21 _ X21 ⟨rfl, N21q, e21⟩
    have N21 := Fr.app N20 N21q
    show own_Wp _ _ _ _ (T21.setTop (mkF m 187 #[rv a1, rv a2, iv p3, iv p4, iv p5, iv p6, iv (0 : Int32), iv (0 : Int32), uu, uu] [(.int (own_mni (0 : Int32) (0 : Int32)))]))
    refine own_callS X21 hx hZ (y := (⟨"com/example/close_words/closewords/BitRows", "upTo", "(I)J"⟩ : MethodName)) (argsL := [(.int (own_mni (0 : Int32) (0 : Int32)))]) (rest := []) (W := 0) hown (ow hw 20 rfl) (ow hw 21 rfl) (ow hw 7 rfl) (ow hw 22 rfl) (by decide) e21 (rmup l Z a0 hw [] (own_mni (0 : Int32) (0 : Int32)) T20.heap n0 Zs) (by decide) (by decide) (by decide) (by decide) rfl (by rw [hml]; rfl) (lenOf own_pd0 rfl) rfl (by show 2 * 0 + _ ≤ _; exact Nat.le_of_eq rfl) (hb hby d2_187) ?_
    rintro T22 L22 _ X22 ⟨rfl, N22q, e22⟩
    have N22 := Fr.app N21 N22q
    show own_Wp _ _ _ _ (T22.setTop (mkF m 190 #[rv a1, rv a2, iv p3, iv p4, iv p5, iv p6, iv (0 : Int32), iv (0 : Int32), uu, uu] [(.long (own_upTo (own_mni (0 : Int32) (0 : Int32))))]))
    refine own_of (fun tgt kon => XS.lstore X22.here hx rfl (hb hby d2_190) rfl (l' := #[rv a1, rv a2, iv p3, iv p4, iv p5, iv p6, iv (0 : Int32), iv (0 : Int32), jv (own_upTo (own_mni (0 : Int32) (0 : Int32))), ss]) rfl kon) ?_
    show own_Wp _ _ _ _ (T22.setTop (mkF m 192 #[rv a1, rv a2, iv p3, iv p4, iv p5, iv p6, iv (0 : Int32), iv (0 : Int32), jv (own_upTo (own_mni (0 : Int32) (0 : Int32))), ss] []))
    show own_Wp _ _ _ _ (T22.setTop (mkF m 192 #[rv a1, rv a2, iv p3, iv p4, iv p5, iv p6, iv (0 : Int32), iv (0 : Int32), jv (own_rc 0 0), ss] []))
    refine own_of (fun tgt kon => XS.aloadN X22.here hx rfl (hb hby d2_192) rfl rfl kon) ?_
    obtain ⟨T23, X23, e23, st23⟩ := getF X22 hx hZ hown (host := "") (Or.inl (ow hw 35 rfl)) Via.refl e22 F_rows (g := (mkF m 193 #[rv a1, rv a2, iv p3, iv p4, iv p5, iv p6, iv (0 : Int32), iv (0 : Int32), jv (own_rc 0 0), ss] [(.ref a1)])) rfl rfl (hb hby d2_193)
    refine own_of st23 ?_
    clear st23
    refine own_of (fun tgt kon => XS.iload X23.here hx rfl (hb hby d2_196) rfl kon) ?_
    refine own_of (fun tgt kon => XS.iload X23.here hx rfl (hb hby d2_198) rfl kon) ?_
    refine own_of (fun tgt kon => XS.iload X23.here hx rfl (hb hby d2_200) rfl kon) ?_
    show own_Wp _ _ _ _ (T23.setTop (mkF m 202 #[rv a1, rv a2, iv p3, iv p4, iv p5, iv p6, iv (0 : Int32), iv (0 : Int32), jv (own_rc 0 0), ss] [(.int p5), (.int (0 : Int32)), (.int (0 : Int32)), (.ref b15)]))
    have hc202 : ¬ (p5 < (0 : Int32)) := by rw [Int32.lt_iff_toInt_lt, hhb]; have l : (0 : Int32).toInt = 0 := (by decide); omega
    refine own_of (fun tgt kon => XS.icmpYes X23.here hx rfl (pc0 := 202) (pc' := 223) rfl (hb hby d2_202) rfl (flt hc202).2.2.2 (by decide) (by decide) kon) ?_
    refine own_of (fun tgt kon => XS.lload X23.here hx rfl (hb hby d2_223) rfl kon) ?_
    obtain ⟨T24, h24, X24, e24, W24, Aq24, st24⟩ := own_stJ X23 hx hZ e23 V_b15 (j := (0 : Int32)) (i := 0) (x := (own_rc 0 0)) (by decide) (by omega) (g := (mkF m 225 #[rv a1, rv a2, iv p3, iv p4, iv p5, iv p6, iv (0 : Int32), iv (0 : Int32), jv (own_rc 0 0), ss] [(.long (own_rc 0 0)), (.int (0 : Int32)), (.ref b15)])) rfl rfl (hb hby d2_225)
    refine own_of st24 ?_
    clear st24
    replace Zs := Nat.le_trans Zs (Keep.of_wr W24).1
    replace K0 := K0.wr W24 (Or.inr sz_b15)
    replace E_a1 := E_a1.wr W24
    replace F_bound := F_bound.other W24 (Or.inl ne_a1_b15)
    replace F_headBound := F_headBound.other W24 (Or.inl ne_a1_b15)
    replace F_levels := F_levels.other W24 (Or.inl ne_a1_b15)
    replace F_columns := F_columns.other W24 (Or.inl ne_a1_b15)
    replace F_lastColumn := F_lastColumn.other W24 (Or.inl ne_a1_b15)
    replace F_outsideHead := F_outsideHead.other W24 (Or.inl ne_a1_b15)
    replace F_codePoints := F_codePoints.other W24 (Or.inl ne_a1_b15)
    replace F_columnsOf := F_columnsOf.other W24 (Or.inl ne_a1_b15)
    replace F_rows := F_rows.other W24 (Or.inl ne_a1_b15)
    replace F_matches := F_matches.other W24 (Or.inl ne_a1_b15)
    replace V_a2 := V_a2.other W24 ne_a2_b15
    replace V_b12 := V_b12.other W24 ne_b12_b15
    replace V_b17 := V_b17.other W24 (Ne.symm ne_b15_b17)
    replace V_b10 := V_b10.other W24 ne_b10_b15
    replace V_b15 := Aq24
    clear Aq24
    have V_b15 := V_b15.fn (f' := fun y => .long (own_r0k 0 ph out 1 y)) (fun y hy => by
        have q := own_setR0 0 ph out 0 y
        rw [show own_R0 0 ph out 0 = own_rc 0 0 from if_neg (by omega)] at q
        rw [← q]
        unfold own_set own_upd own_r0k
        split
        · rfl
        · rw [if_neg (by omega)])
    have N24 := Fr.snoc X24 N22 g_b15
    refine own_of (fun tgt kon => XS.iinc X24.here hx rfl (hb hby d2_226) rfl (l' := #[rv a1, rv a2, iv p3, iv p4, iv p5, iv p6, iv (0 : Int32), iv ((0 : Int32) + (1 : Int32)), jv (own_rc 0 0), ss]) rfl kon) ?_
    refine own_of (fun tgt kon => XS.goto X24.here hx rfl (pc0 := 229) (pc' := 174) rfl (hb hby d2_229) (by decide) (by decide) kon) ?_
    show own_Wp _ _ _ _ (T24.setTop (mkF m 174 #[rv a1, rv a2, iv p3, iv p4, iv p5, iv p6, iv (0 : Int32), iv ((0 : Int32) + (1 : Int32)), jv (own_rc 0 0), ss] []))
    rw [show ((0 : Int32) + (1 : Int32)) = Int32.ofNat 1 from rfl]
    have J174 : ∀ (nn : Nat) (T25 : State) (lc25 : List Loc) (h25 : Heap) (k : Nat) (z8 : Int64), (Stand p l e ({ frames := 1, cells := 4, slots := 516, locals := 15 } : Room) s m #[(.ref a1), (.ref a2), (.int p3), (.int p4), (.int p5), (.int p6)] below meth c T25 lc25 4 516) → (T25.heap = h25) → (Fr n0 lc25) → (n0 ≤ h25.size) → (Keep h0 h25 [a1]) → (Exa Z h25 a1 "com/example/close_words/closewords/BitRows") → (Fld Z h25 a1 "com/example/close_words/closewords/BitRows" "bound" "I" (.int p3)) → (Fld Z h25 a1 "com/example/close_words/closewords/BitRows" "headBound" "I" (.int p5)) → (Fld Z h25 a1 "com/example/close_words/closewords/BitRows" "levels" "I" (.int (p3 + (1 : Int32)))) → (Fld Z h25 a1 "com/example/close_words/closewords/BitRows" "columns" "J" (.long (own_upTo (0 : Int32)))) → (Fld Z h25 a1 "com/example/close_words/closewords/BitRows" "lastColumn" "J" (.long ((1 : Int64) <<< ((0 : Int32) &&& 0x3f).toInt64))) → (Fld Z h25 a1 "com/example/close_words/closewords/BitRows" "outsideHead" "J" (.long out)) → (Fld Z h25 a1 "com/example/close_words/closewords/BitRows" "codePoints" "[I" (.ref b10)) → (Fld Z h25 a1 "com/example/close_words/closewords/BitRows" "columnsOf" "[J" (.ref b12)) → (Fld Z h25 a1 "com/example/close_words/closewords/BitRows" "rows" "[J" (.ref b15)) → (Fld Z h25 a1 "com/example/close_words/closewords/BitRows" "matches" "[J" (.ref b17)) → (own_Ar Z h25 a2 .int 0 (fun k => .int (tx k))) → (own_Ar Z h25 b12 .long 128 (fun k => .long (co0 k))) → (own_Ar Z h25 b15 .long RL (fun y => .long (own_r0k 0 ph out k y))) → (own_Ar Z h25 b17 .long (dp + 1) (fun _ => (.long (0 : Int64)))) → (own_Ar Z h25 b10 .int 128 (fun k => .int (cp0 k))) → (1 ≤ k) → (k ≤ bd + 1) → (bd + 1 - k < nn) → own_Wp p.tables e below (own_K ({ frames := 1, cells := 4, slots := 516, locals := 15 } : Room) s below (Q_rmct0 Z a1 a2 p3 p4 p5 p6 tx bd ph dp RL cp0 co0 h0 n0)) (T25.setTop (mkF m 174 #[rv a1, rv a2, iv p3, iv p4, iv p5, iv p6, iv (0 : Int32), iv (Int32.ofNat k), jv z8, ss] [])) := by
      clear K0 E_a1 F_bound F_headBound F_levels F_columns F_lastColumn F_outsideHead F_codePoints F_columnsOf F_rows F_matches V_a2 V_b12 V_b15 V_b17 V_b10 Zs
      intro nn
      induction nn with
      | zero => intro T25 lc25 h25 k z8 X25 e25 N25 Zs K0 E_a1 F_bound F_headBound F_levels F_columns F_lastColumn F_outsideHead F_codePoints F_columnsOf F_rows F_matches V_a2 V_b12 V_b15 V_b17 V_b10 hk1 hk hmu; exact absurd hmu (Nat.not_lt_zero _)
      | succ nn ih =>
        skip
        intro T25 lc25 h25 k z8 X25 e25 N25 Zs K0 E_a1 F_bound F_headBound F_levels F_columns F_lastColumn F_outsideHead F_codePoints F_columnsOf F_rows F_matches V_a2 V_b12 V_b15 V_b17 V_b10 hk1 hk hmu
        refine own_of (fun tgt kon => XS.iload X25.here hx rfl (hb hby d2_174) rfl kon) ?_
        refine own_of (fun tgt kon => XS.iloadN X25.here hx rfl (hb hby d2_176) rfl kon) ?_
        by_cases hc177_2 : p3 < (Int32.ofNat k)
        · skip
          refine own_of (fun tgt kon => XS.icmpYes X25.here hx rfl (pc0 := 177) (pc' := 232) rfl (hb hby d2_177) rfl (tlt hc177_2).2.2.1 (by decide) (by decide) kon) ?_
          show own_Wp _ _ _ _ (T25.setTop (mkF m 232 #[rv a1, rv a2, iv p3, iv p4, iv p5, iv p6, iv (0 : Int32), iv (Int32.ofNat k), jv z8, ss] []))
          refine own_ret X25 hlk none (fun _ => rfl) (fun fs hr => X25.returnOut hx hrt (hb hby d2_232) hr) ?_ (by decide) (by decide)
          rw [e25]
          have hge : ¬ k < bd + 1 := by
            intro q
            have q2 := hc177_2
            rw [Int32.lt_iff_toInt_lt, hbd, own_ofN (by omega)] at q2
            omega
          obtain rfl : k = bd + 1 := by omega
          exact ⟨rfl, N25, K0, E_a1, b10, b12, b15, b17, g_b10, g_b12, g_b15, g_b17, ne_a1_b15, ne_a1_b17, ne_b10_b15, ne_b10_b17, ne_b12_b15, ne_b12_b17, (Ne.symm ne_b15_b17), F_bound, F_headBound, F_levels, F_columns, F_lastColumn, h_out ▸ F_outsideHead, F_codePoints, F_columnsOf, F_rows, F_matches, V_b10, V_b12, h_out ▸ V_b15, V_b17⟩
        · skip
          refine own_of (fun tgt kon => XS.icmpNo X25.here hx rfl (hb hby d2_177) rfl (flt hc177_2).2.2.1 kon) ?_
          show own_Wp _ _ _ _ (T25.setTop (mkF m 180 #[rv a1, rv a2, iv p3, iv p4, iv p5, iv p6, iv (0 : Int32), iv (Int32.ofNat k), jv z8, ss] []))
          have hlt : k < bd + 1 := by
            have q := hc177_2
            rw [Int32.lt_iff_toInt_lt, hbd, own_ofN (by omega)] at q
            omega
          refine own_of (fun tgt kon => XS.iload X25.here hx rfl (hb hby d2_180) rfl kon) ?_
          refine own_of (fun tgt kon => XS.iload X25.here hx rfl (hb hby d2_182) rfl kon) ?_
          refine own_callS X25 hx hZ (y := (⟨"java/lang/Math", "min", "(II)I"⟩ : MethodName)) (argsL := [(.int (Int32.ofNat k)), (.int (0 : Int32))]) (rest := []) (W := 0) hown (ow hw 43 rfl) (ow hw 44 rfl) (ow hw 45 rfl) (ow hw 46 rfl) (by decide) e25 (rmmin l Z a0 hw [] (Int32.ofNat k) (0 : Int32) h25 n0 Zs) (by decide) (by decide) (by decide) (by decide) rfl (by rw [hml]; rfl) (lenOf own_pd2 rfl) rfl (by show 2 * 0 + _ ≤ _; exact Nat.le_of_eq rfl) (hb hby d2_184) ?_
          rintro T26 L26 _ X26 ⟨rfl, N26q, e26⟩
          have N26 := Fr.app N25 N26q
          show own_Wp _ _ _ _ (T26.setTop (mkF m 187 #[rv a1, rv a2, iv p3, iv p4, iv p5, iv p6, iv (0 : Int32), iv (Int32.ofNat k), jv z8, ss] [(.int (own_mni (Int32.ofNat k) (0 : Int32)))]))
          refine own_callS X26 hx hZ (y := (⟨"com/example/close_words/closewords/BitRows", "upTo", "(I)J"⟩ : MethodName)) (argsL := [(.int (own_mni (Int32.ofNat k) (0 : Int32)))]) (rest := []) (W := 0) hown (ow hw 20 rfl) (ow hw 21 rfl) (ow hw 7 rfl) (ow hw 22 rfl) (by decide) e26 (rmup l Z a0 hw [] (own_mni (Int32.ofNat k) (0 : Int32)) h25 n0 Zs) (by decide) (by decide) (by decide) (by decide) rfl (by rw [hml]; rfl) (lenOf own_pd0 rfl) rfl (by show 2 * 0 + _ ≤ _; exact Nat.le_of_eq rfl) (hb hby d2_187) ?_
          rintro T27 L27 _ X27 ⟨rfl, N27q, e27⟩
          have N27 := Fr.app N26 N27q
          show own_Wp _ _ _ _ (T27.setTop (mkF m 190 #[rv a1, rv a2, iv p3, iv p4, iv p5, iv p6, iv (0 : Int32), iv (Int32.ofNat k), jv z8, ss] [(.long (own_upTo (own_mni (Int32.ofNat k) (0 : Int32))))]))
          refine own_of (fun tgt kon => XS.lstore X27.here hx rfl (hb hby d2_190) rfl (l' := #[rv a1, rv a2, iv p3, iv p4, iv p5, iv p6, iv (0 : Int32), iv (Int32.ofNat k), jv (own_upTo (own_mni (Int32.ofNat k) (0 : Int32))), ss]) rfl kon) ?_
          show own_Wp _ _ _ _ (T27.setTop (mkF m 192 #[rv a1, rv a2, iv p3, iv p4, iv p5, iv p6, iv (0 : Int32), iv (Int32.ofNat k), jv (own_upTo (own_mni (Int32.ofNat k) (0 : Int32))), ss] []))
          show own_Wp _ _ _ _ (T27.setTop (mkF m 192 #[rv a1, rv a2, iv p3, iv p4, iv p5, iv p6, iv (0 : Int32), iv (Int32.ofNat k), jv (own_rc 0 k), ss] []))
          refine own_of (fun tgt kon => XS.aloadN X27.here hx rfl (hb hby d2_192) rfl rfl kon) ?_
          obtain ⟨T28, X28, e28, st28⟩ := getF X27 hx hZ hown (host := "") (Or.inl (ow hw 35 rfl)) Via.refl e27 F_rows (g := (mkF m 193 #[rv a1, rv a2, iv p3, iv p4, iv p5, iv p6, iv (0 : Int32), iv (Int32.ofNat k), jv (own_rc 0 k), ss] [(.ref a1)])) rfl rfl (hb hby d2_193)
          refine own_of st28 ?_
          clear st28
          refine own_of (fun tgt kon => XS.iload X28.here hx rfl (hb hby d2_196) rfl kon) ?_
          refine own_of (fun tgt kon => XS.iload X28.here hx rfl (hb hby d2_198) rfl kon) ?_
          refine own_of (fun tgt kon => XS.iload X28.here hx rfl (hb hby d2_200) rfl kon) ?_
          show own_Wp _ _ _ _ (T28.setTop (mkF m 202 #[rv a1, rv a2, iv p3, iv p4, iv p5, iv p6, iv (0 : Int32), iv (Int32.ofNat k), jv (own_rc 0 k), ss] [(.int p5), (.int (Int32.ofNat k)), (.int (Int32.ofNat k)), (.ref b15)]))
          by_cases hc202_2 : p5 < (Int32.ofNat k)
          · skip
            refine own_of (fun tgt kon => XS.icmpNo X28.here hx rfl (hb hby d2_202) rfl (tlt hc202_2).2.2.2 kon) ?_
            show own_Wp _ _ _ _ (T28.setTop (mkF m 205 #[rv a1, rv a2, iv p3, iv p4, iv p5, iv p6, iv (0 : Int32), iv (Int32.ofNat k), jv (own_rc 0 k), ss] [(.int (Int32.ofNat k)), (.ref b15)]))
            have hlb : ph < k := by
              have q := hc202_2
              rw [Int32.lt_iff_toInt_lt, hhb, own_ofN (by omega)] at q
              omega
            refine own_of (fun tgt kon => XS.lload X28.here hx rfl (hb hby d2_205) rfl kon) ?_
            refine own_of (fun tgt kon => XS.aloadN X28.here hx rfl (hb hby d2_207) rfl rfl kon) ?_
            obtain ⟨T29, X29, e29, st29⟩ := getF X28 hx hZ hown (host := "") (Or.inl (ow hw 35 rfl)) Via.refl e28 F_rows (g := (mkF m 208 #[rv a1, rv a2, iv p3, iv p4, iv p5, iv p6, iv (0 : Int32), iv (Int32.ofNat k), jv (own_rc 0 k), ss] [(.ref a1), (.long (own_rc 0 k)), (.int (Int32.ofNat k)), (.ref b15)])) rfl rfl (hb hby d2_208)
            refine own_of st29 ?_
            clear st29
            refine own_of (fun tgt kon => XS.iload X29.here hx rfl (hb hby d2_211) rfl kon) ?_
            refine own_laload X29 hx hZ e29 V_b15 (j := p5) (i := ph) (v := (own_R0 0 ph out ph)) hhb (by omega) (by show Value.long (own_r0k _ _ _ _ _) = _; unfold own_r0k; rw [if_pos hlb]) rfl rfl (hb hby d2_213) ?_
            show own_Wp _ _ _ _ (T29.setTop (mkF m 214 #[rv a1, rv a2, iv p3, iv p4, iv p5, iv p6, iv (0 : Int32), iv (Int32.ofNat k), jv (own_rc 0 k), ss] [(.long (own_R0 0 ph out ph)), (.long (own_rc 0 k)), (.int (Int32.ofNat k)), (.ref b15)]))
            refine own_of (fun tgt kon => XS.aloadN X29.here hx rfl (hb hby d2_214) rfl rfl kon) ?_
            obtain ⟨T30, X30, e30, st30⟩ := getF X29 hx hZ hown (host := "") (Or.inl (ow hw 28 rfl)) Via.refl e29 F_outsideHead (g := (mkF m 215 #[rv a1, rv a2, iv p3, iv p4, iv p5, iv p6, iv (0 : Int32), iv (Int32.ofNat k), jv (own_rc 0 k), ss] [(.ref a1), (.long (own_R0 0 ph out ph)), (.long (own_rc 0 k)), (.int (Int32.ofNat k)), (.ref b15)])) rfl rfl (hb hby d2_215)
            refine own_of st30 ?_
            clear st30
            refine own_of (fun tgt kon => XS.lor X30.here hx rfl (hb hby d2_218) rfl kon) ?_
            refine own_of (fun tgt kon => XS.land X30.here hx rfl (hb hby d2_219) rfl kon) ?_
            refine own_of (fun tgt kon => XS.goto X30.here hx rfl (pc0 := 220) (pc' := 225) rfl (hb hby d2_220) (by decide) (by decide) kon) ?_
            show own_Wp _ _ _ _ (T30.setTop (mkF m 225 #[rv a1, rv a2, iv p3, iv p4, iv p5, iv p6, iv (0 : Int32), iv (Int32.ofNat k), jv (own_rc 0 k), ss] [(.long ((own_rc 0 k) &&& ((own_R0 0 ph out ph) ||| out))), (.int (Int32.ofNat k)), (.ref b15)]))
            obtain ⟨T31, h31, X31, e31, W31, Aq31, st31⟩ := own_stJ X30 hx hZ e30 V_b15 (j := (Int32.ofNat k)) (i := k) (x := ((own_rc 0 k) &&& ((own_R0 0 ph out ph) ||| out))) (own_ofN (by omega)) (by omega) (g := (mkF m 225 #[rv a1, rv a2, iv p3, iv p4, iv p5, iv p6, iv (0 : Int32), iv (Int32.ofNat k), jv (own_rc 0 k), ss] [(.long ((own_rc 0 k) &&& ((own_R0 0 ph out ph) ||| out))), (.int (Int32.ofNat k)), (.ref b15)])) rfl rfl (hb hby d2_225)
            refine own_of st31 ?_
            clear st31
            replace Zs := Nat.le_trans Zs (Keep.of_wr W31).1
            replace K0 := K0.wr W31 (Or.inr sz_b15)
            replace E_a1 := E_a1.wr W31
            replace F_bound := F_bound.other W31 (Or.inl ne_a1_b15)
            replace F_headBound := F_headBound.other W31 (Or.inl ne_a1_b15)
            replace F_levels := F_levels.other W31 (Or.inl ne_a1_b15)
            replace F_columns := F_columns.other W31 (Or.inl ne_a1_b15)
            replace F_lastColumn := F_lastColumn.other W31 (Or.inl ne_a1_b15)
            replace F_outsideHead := F_outsideHead.other W31 (Or.inl ne_a1_b15)
            replace F_codePoints := F_codePoints.other W31 (Or.inl ne_a1_b15)
            replace F_columnsOf := F_columnsOf.other W31 (Or.inl ne_a1_b15)
            replace F_rows := F_rows.other W31 (Or.inl ne_a1_b15)
            replace F_matches := F_matches.other W31 (Or.inl ne_a1_b15)
            replace V_a2 := V_a2.other W31 ne_a2_b15
            replace V_b12 := V_b12.other W31 ne_b12_b15
            replace V_b17 := V_b17.other W31 (Ne.symm ne_b15_b17)
            replace V_b10 := V_b10.other W31 ne_b10_b15
            replace V_b15 := Aq31
            clear Aq31
            have hst : ((own_rc 0 k) &&& ((own_R0 0 ph out ph) ||| out)) = own_R0 0 ph out k := by
              rw [show own_R0 0 ph out ph = own_rc 0 ph from if_neg (by omega)]
              exact (if_pos hlb).symm
            rw [hst] at V_b15
            have V_b15 := V_b15.fn (f' := fun y => .long (own_r0k 0 ph out (k + 1) y)) (fun y hy => (own_setJ _ _ _ y).trans (congrArg Value.long (own_setR0 0 ph out k y)))
            have N31 := Fr.snoc X31 N27 g_b15
            refine own_of (fun tgt kon => XS.iinc X31.here hx rfl (hb hby d2_226) rfl (l' := #[rv a1, rv a2, iv p3, iv p4, iv p5, iv p6, iv (0 : Int32), iv ((Int32.ofNat k) + (1 : Int32)), jv (own_rc 0 k), ss]) rfl kon) ?_
            refine own_of (fun tgt kon => XS.goto X31.here hx rfl (pc0 := 229) (pc' := 174) rfl (hb hby d2_229) (by decide) (by decide) kon) ?_
            show own_Wp _ _ _ _ (T31.setTop (mkF m 174 #[rv a1, rv a2, iv p3, iv p4, iv p5, iv p6, iv (0 : Int32), iv ((Int32.ofNat k) + (1 : Int32)), jv (own_rc 0 k), ss] []))
            rw [own_succ]
            exact ih T31 _ _ (k + 1) ((own_rc 0 k)) X31 e31 N31 Zs K0 E_a1 F_bound F_headBound F_levels F_columns F_lastColumn F_outsideHead F_codePoints F_columnsOf F_rows F_matches V_a2 V_b12 V_b15 V_b17 V_b10 (by omega) (by omega) (by omega)
          · skip
            refine own_of (fun tgt kon => XS.icmpYes X28.here hx rfl (pc0 := 202) (pc' := 223) rfl (hb hby d2_202) rfl (flt hc202_2).2.2.2 (by decide) (by decide) kon) ?_
            refine own_of (fun tgt kon => XS.lload X28.here hx rfl (hb hby d2_223) rfl kon) ?_
            obtain ⟨T32, h32, X32, e32, W32, Aq32, st32⟩ := own_stJ X28 hx hZ e28 V_b15 (j := (Int32.ofNat k)) (i := k) (x := (own_rc 0 k)) (own_ofN (by omega)) (by omega) (g := (mkF m 225 #[rv a1, rv a2, iv p3, iv p4, iv p5, iv p6, iv (0 : Int32), iv (Int32.ofNat k), jv (own_rc 0 k), ss] [(.long (own_rc 0 k)), (.int (Int32.ofNat k)), (.ref b15)])) rfl rfl (hb hby d2_225)
            refine own_of st32 ?_
            clear st32
            replace Zs := Nat.le_trans Zs (Keep.of_wr W32).1
            replace K0 := K0.wr W32 (Or.inr sz_b15)
            replace E_a1 := E_a1.wr W32
            replace F_bound := F_bound.other W32 (Or.inl ne_a1_b15)
            replace F_headBound := F_headBound.other W32 (Or.inl ne_a1_b15)
            replace F_levels := F_levels.other W32 (Or.inl ne_a1_b15)
            replace F_columns := F_columns.other W32 (Or.inl ne_a1_b15)
            replace F_lastColumn := F_lastColumn.other W32 (Or.inl ne_a1_b15)
            replace F_outsideHead := F_outsideHead.other W32 (Or.inl ne_a1_b15)
            replace F_codePoints := F_codePoints.other W32 (Or.inl ne_a1_b15)
            replace F_columnsOf := F_columnsOf.other W32 (Or.inl ne_a1_b15)
            replace F_rows := F_rows.other W32 (Or.inl ne_a1_b15)
            replace F_matches := F_matches.other W32 (Or.inl ne_a1_b15)
            replace V_a2 := V_a2.other W32 ne_a2_b15
            replace V_b12 := V_b12.other W32 ne_b12_b15
            replace V_b17 := V_b17.other W32 (Ne.symm ne_b15_b17)
            replace V_b10 := V_b10.other W32 ne_b10_b15
            replace V_b15 := Aq32
            clear Aq32
            have hst : (own_rc 0 k) = own_R0 0 ph out k := (if_neg (by
              intro q
              apply hc202_2
              rw [Int32.lt_iff_toInt_lt, hhb, own_ofN (by omega)]
              omega)).symm
            rw [hst] at V_b15
            have V_b15 := V_b15.fn (f' := fun y => .long (own_r0k 0 ph out (k + 1) y)) (fun y hy => (own_setJ _ _ _ y).trans (congrArg Value.long (own_setR0 0 ph out k y)))
            have N32 := Fr.snoc X32 N27 g_b15
            refine own_of (fun tgt kon => XS.iinc X32.here hx rfl (hb hby d2_226) rfl (l' := #[rv a1, rv a2, iv p3, iv p4, iv p5, iv p6, iv (0 : Int32), iv ((Int32.ofNat k) + (1 : Int32)), jv (own_rc 0 k), ss]) rfl kon) ?_
            refine own_of (fun tgt kon => XS.goto X32.here hx rfl (pc0 := 229) (pc' := 174) rfl (hb hby d2_229) (by decide) (by decide) kon) ?_
            show own_Wp _ _ _ _ (T32.setTop (mkF m 174 #[rv a1, rv a2, iv p3, iv p4, iv p5, iv p6, iv (0 : Int32), iv ((Int32.ofNat k) + (1 : Int32)), jv (own_rc 0 k), ss] []))
            rw [own_succ]
            exact ih T32 _ _ (k + 1) ((own_rc 0 k)) X32 e32 N32 Zs K0 E_a1 F_bound F_headBound F_levels F_columns F_lastColumn F_outsideHead F_codePoints F_columnsOf F_rows F_matches V_a2 V_b12 V_b15 V_b17 V_b10 (by omega) (by omega) (by omega)
    show own_Wp _ _ _ _ (T24.setTop (mkF m 174 #[rv a1, rv a2, iv p3, iv p4, iv p5, iv p6, iv (0 : Int32), iv (Int32.ofNat 1), jv (own_rc 0 0), ss] []))
    exact J174 _ T24 _ _ (1) ((own_rc 0 0)) X24 e24 N24 Zs K0 E_a1 F_bound F_headBound F_levels F_columns F_lastColumn F_outsideHead F_codePoints F_columnsOf F_rows F_matches V_a2 V_b12 V_b15 V_b17 V_b10 (by omega) (by omega) (Nat.lt_succ_self _)
  show own_Wp _ _ _ _ (T7.setTop (mkF m 45 #[rv a1, rv a2, iv p3, iv p4, iv p5, iv p6, iv (0 : Int32), uu, uu, uu] [(.int p4), (.ref a1)]))
  by_cases hc45 : p4 < (0 : Int32)
  · skip
    refine own_of (fun tgt kon => XS.ifNo X7.here hx rfl (hb hby d2_45) rfl ((if0 _ _).trans (tlt hc45).2.1) kon) ?_
    refine own_of (X7.ldc2Long hx hown (mvT hZ (ow hw 27 rfl)) (g := (mkF m 48 #[rv a1, rv a2, iv p3, iv p4, iv p5, iv p6, iv (0 : Int32), uu, uu, uu] [(.ref a1)])) rfl (hb hby d2_48)) ?_
    refine own_of (fun tgt kon => XS.goto X7.here hx rfl (pc0 := 51) (pc' := 62) rfl (hb hby d2_51) (by decide) (by decide) kon) ?_
    show own_Wp _ _ _ _ (T7.setTop (mkF m 62 #[rv a1, rv a2, iv p3, iv p4, iv p5, iv p6, iv (0 : Int32), uu, uu, uu] [(.long (-1 : Int64)), (.ref a1)]))
    exact J62 T7 _ ((-1 : Int64)) X7 e7 N7 (by exact (if_pos hc45).symm)
  · skip
    refine own_of (fun tgt kon => XS.ifYes X7.here hx rfl (pc0 := 45) (pc' := 54) rfl (hb hby d2_45) rfl ((if0 _ _).trans (flt hc45).2.1) (by decide) (by decide) kon) ?_
    refine own_of (fun tgt kon => XS.iloadN X7.here hx rfl (hb hby d2_54) rfl kon) ?_
    refine own_callS X7 hx hZ (y := (⟨"com/example/close_words/closewords/BitRows", "upTo", "(I)J"⟩ : MethodName)) (argsL := [(.int p4)]) (rest := [(.ref a1)]) (W := 1) hown (ow hw 20 rfl) (ow hw 21 rfl) (ow hw 7 rfl) (ow hw 22 rfl) (by decide) e7 (rmup l Z a0 hw [] p4 h7 n0 Zs) (by decide) (by decide) (by decide) (by decide) rfl (by rw [hml]; rfl) (lenOf own_pd0 rfl) rfl (by show 2 * 0 + _ ≤ _; exact Nat.le_of_eq rfl) (hb hby d2_55) ?_
    rintro T33 L33 _ X33 ⟨rfl, N33q, e33⟩
    have N33 := Fr.app N7 N33q
    show own_Wp _ _ _ _ (T33.setTop (mkF m 58 #[rv a1, rv a2, iv p3, iv p4, iv p5, iv p6, iv (0 : Int32), uu, uu, uu] [(.long (own_upTo p4)), (.ref a1)]))
    refine own_of (X33.ldc2Long hx hown (mvT hZ (ow hw 27 rfl)) (g := (mkF m 58 #[rv a1, rv a2, iv p3, iv p4, iv p5, iv p6, iv (0 : Int32), uu, uu, uu] [(.long (own_upTo p4)), (.ref a1)])) rfl (hb hby d2_58)) ?_
    refine own_of (fun tgt kon => XS.lxor X33.here hx rfl (hb hby d2_61) rfl kon) ?_
    show own_Wp _ _ _ _ (T33.setTop (mkF m 62 #[rv a1, rv a2, iv p3, iv p4, iv p5, iv p6, iv (0 : Int32), uu, uu, uu] [(.long ((own_upTo p4) ^^^ (-1 : Int64))), (.ref a1)]))
    exact J62 T33 _ (((own_upTo p4) ^^^ (-1 : Int64))) X33 e33 N33 (by exact (if_neg hc45).symm)
theorem d2_126 : decode prog_6_method_1_code 126 = .ok (.aload_n 0, 1) := by decide +kernel
theorem d2_127 : decode prog_6_method_1_code 127 = .ok (.aload_n 1, 1) := by decide +kernel
theorem d2_128 : decode prog_6_method_1_code 128 = .ok (.iload 7, 2) := by decide +kernel
theorem d2_130 : decode prog_6_method_1_code 130 = .ok (.iconst 1, 1) := by decide +kernel
theorem d2_131 : decode prog_6_method_1_code 131 = .ok (.isub, 1) := by decide +kernel
theorem d2_132 : decode prog_6_method_1_code 132 = .ok (.iaload, 1) := by decide +kernel
theorem d2_133 : decode prog_6_method_1_code 133 = .ok (.invokevirtual 57, 3) := by decide +kernel
theorem own_pd3 : parseMethodDescriptor "(I)I" = some ⟨[.int], some .int⟩ := by decide +kernel
theorem d2_136 : decode prog_6_method_1_code 136 = .ok (.istore 8, 2) := by decide +kernel
theorem d2_138 : decode prog_6_method_1_code 138 = .ok (.aload_n 0, 1) := by decide +kernel
theorem d2_139 : decode prog_6_method_1_code 139 = .ok (.getfield 37, 3) := by decide +kernel
theorem d2_142 : decode prog_6_method_1_code 142 = .ok (.iload 8, 2) := by decide +kernel
theorem d2_144 : decode prog_6_method_1_code 144 = .ok (.aload_n 1, 1) := by decide +kernel
theorem d2_145 : decode prog_6_method_1_code 145 = .ok (.iload 7, 2) := by decide +kernel
theorem d2_147 : decode prog_6_method_1_code 147 = .ok (.iconst 1, 1) := by decide +kernel
theorem d2_148 : decode prog_6_method_1_code 148 = .ok (.isub, 1) := by decide +kernel
theorem d2_149 : decode prog_6_method_1_code 149 = .ok (.iaload, 1) := by decide +kernel
theorem d2_150 : decode prog_6_method_1_code 150 = .ok (.iastore, 1) := by decide +kernel
theorem d2_151 : decode prog_6_method_1_code 151 = .ok (.aload_n 0, 1) := by decide +kernel
theorem d2_152 : decode prog_6_method_1_code 152 = .ok (.getfield 41, 3) := by decide +kernel
theorem d2_155 : decode prog_6_method_1_code 155 = .ok (.iload 8, 2) := by decide +kernel
theorem d2_157 : decode prog_6_method_1_code 157 = .ok (.dup2, 1) := by decide +kernel
theorem d2_158 : decode prog_6_method_1_code 158 = .ok (.laload, 1) := by decide +kernel
theorem d2_159 : decode prog_6_method_1_code 159 = .ok (.lconst 1, 1) := by decide +kernel
theorem d2_160 : decode prog_6_method_1_code 160 = .ok (.iload 7, 2) := by decide +kernel
theorem d2_162 : decode prog_6_method_1_code 162 = .ok (.lshl, 1) := by decide +kernel
theorem d2_163 : decode prog_6_method_1_code 163 = .ok (.lor, 1) := by decide +kernel
theorem d2_164 : decode prog_6_method_1_code 164 = .ok (.lastore, 1) := by decide +kernel
theorem d2_165 : decode prog_6_method_1_code 165 = .ok (.iinc 7 1, 3) := by decide +kernel
theorem d2_168 : decode prog_6_method_1_code 168 = .ok (.goto (-49), 3) := by decide +kernel
def Q_rmct1 (Z : State) (a1 : Addr) (a2 : Addr) (p3 : Int32) (p4 : Int32) (p5 : Int32) (p6 : Int32) (tx : Nat → Int32) (bd : Nat) (ph : Nat) (dp : Nat) (RL : Nat) (cp0 : Nat → Int32) (cp1 : Nat → Int32) (co0 : Nat → Int64) (co1 : Nat → Int64) (RR1 : Nat) (h0 : Heap) (n0 : Nat) (v : Option Value) (h : Heap) (L : List Loc) : Prop := v = none ∧ Fr n0 L ∧ Keep h0 h [a1] ∧ Exa Z h a1 "com/example/close_words/closewords/BitRows" ∧ ∃ ac ao ar am : Addr, n0 ≤ ac ∧ n0 ≤ ao ∧ n0 ≤ ar ∧ n0 ≤ am ∧ a1 ≠ ar ∧ a1 ≠ am ∧ ac ≠ ar ∧ ac ≠ am ∧ ao ≠ ar ∧ ao ≠ am ∧ am ≠ ar ∧ Fld Z h a1 "com/example/close_words/closewords/BitRows" "bound" "I" (.int p3) ∧ Fld Z h a1 "com/example/close_words/closewords/BitRows" "headBound" "I" (.int p5) ∧ Fld Z h a1 "com/example/close_words/closewords/BitRows" "levels" "I" (.int (p3 + (1 : Int32))) ∧ Fld Z h a1 "com/example/close_words/closewords/BitRows" "columns" "J" (.long (own_upTo (1 : Int32))) ∧ Fld Z h a1 "com/example/close_words/closewords/BitRows" "lastColumn" "J" (.long ((1 : Int64) <<< ((1 : Int32) &&& 0x3f).toInt64)) ∧ Fld Z h a1 "com/example/close_words/closewords/BitRows" "outsideHead" "J" (.long (if p4 < (0 : Int32) then (-1 : Int64) else (own_upTo p4 ^^^ (-1 : Int64)))) ∧ Fld Z h a1 "com/example/close_words/closewords/BitRows" "codePoints" "[I" (.ref ac) ∧ Fld Z h a1 "com/example/close_words/closewords/BitRows" "columnsOf" "[J" (.ref ao) ∧ Fld Z h a1 "com/example/close_words/closewords/BitRows" "rows" "[J" (.ref ar) ∧ Fld Z h a1 "com/example/close_words/closewords/BitRows" "matches" "[J" (.ref am) ∧ own_Ar Z h ac .int 128 (fun k => .int (cp1 k)) ∧ own_Ar Z h ao .long 128 (fun k => .long (co1 k)) ∧ own_Ar Z h ar .long RL (fun y => .long (own_r0k 1 ph (if p4 < (0 : Int32) then (-1 : Int64) else (own_upTo p4 ^^^ (-1 : Int64))) (bd + 1) y)) ∧ own_Ar Z h am .long (dp + 1) (fun _ => .long (0 : Int64))
set_option maxRecDepth 65536 in
set_option maxHeartbeats 40000000 in
theorem rmct1 (l : Launch) (Z : State) (a0 : Array Value) (hw : ∀ d ∈ tables_1, d.before a0 Z = true) (ws : List Jvm.Cond) (a1 : Addr) (a2 : Addr) (p3 : Int32) (p4 : Int32) (p5 : Int32) (p6 : Int32) (tx : Nat → Int32) (bd : Nat) (ph : Nat) (dp : Nat) (RL : Nat) (cp0 : Nat → Int32) (cp1 : Nat → Int32) (co0 : Nat → Int64) (co1 : Nat → Int64) (RR1 : Nat) (h0 : Heap) (n0 : Nat) (Z0 : n0 ≤ h0.size) (E_a1 : Exa Z h0 a1 "com/example/close_words/closewords/BitRows") (u_bound : Value) (u_headBound : Value) (u_levels : Value) (u_columns : Value) (u_lastColumn : Value) (u_outsideHead : Value) (u_codePoints : Value) (u_columnsOf : Value) (u_rows : Value) (u_matches : Value) (F_bound : Fld Z h0 a1 "com/example/close_words/closewords/BitRows" "bound" "I" u_bound) (F_headBound : Fld Z h0 a1 "com/example/close_words/closewords/BitRows" "headBound" "I" u_headBound) (F_levels : Fld Z h0 a1 "com/example/close_words/closewords/BitRows" "levels" "I" u_levels) (F_columns : Fld Z h0 a1 "com/example/close_words/closewords/BitRows" "columns" "J" u_columns) (F_lastColumn : Fld Z h0 a1 "com/example/close_words/closewords/BitRows" "lastColumn" "J" u_lastColumn) (F_outsideHead : Fld Z h0 a1 "com/example/close_words/closewords/BitRows" "outsideHead" "J" u_outsideHead) (F_codePoints : Fld Z h0 a1 "com/example/close_words/closewords/BitRows" "codePoints" "[I" u_codePoints) (F_columnsOf : Fld Z h0 a1 "com/example/close_words/closewords/BitRows" "columnsOf" "[J" u_columnsOf) (F_rows : Fld Z h0 a1 "com/example/close_words/closewords/BitRows" "rows" "[J" u_rows) (F_matches : Fld Z h0 a1 "com/example/close_words/closewords/BitRows" "matches" "[J" u_matches) (V_a2 : own_Ar Z h0 a2 .int 1 (fun k => .int (tx k))) (ne12 : a1 ≠ a2) (g_a1 : n0 ≤ a1) (hbd : p3.toInt = (bd : Int)) (hbd63 : bd ≤ 63) (hhb : p5.toInt = (ph : Int)) (hhb63 : ph ≤ 63) (hdp : p6.toInt = (dp : Int)) (hdp3 : dp ≤ 3) (hRL : RL = (dp + 1) * (bd + 1)) (hcp0 : ∀ k, cp0 k = -1) (hco0 : ∀ k, co0 k = 0) (hR1 : own_find cp0 (tx 0) 8 ((tx 0) &&& 127).toNatClampNeg = RR1) (hok1 : (cp0 RR1 = (tx 0) ∨ cp0 RR1 = -1) ∧ RR1 < 128) (hcp1 : cp1 = own_upd cp0 RR1 (tx 0)) (hco1 : co1 = own_upd co0 RR1 (co0 RR1 ||| ((1 : Int64) <<< ((1 : Int32) &&& 0x3f).toInt64))) :
    own_Ctr l Z (⟨"com/example/close_words/closewords/BitRows", "<init>", "([IIIII)V"⟩ : MethodName) prog_6_method_1_code 10 none ws ({ frames := 1, cells := 4, slots := 516, locals := 15 } : Room) #[(.ref a1), (.ref a2), (.int p3), (.int p4), (.int p5), (.int p6)] h0 (Q_rmct1 Z a1 a2 p3 p4 p5 p6 tx bd ph dp RL cp0 cp1 co0 co1 RR1 h0 n0) := by
  refine own_enter (plainFor_of_name own_pn0) ?_
  intro p e s m below meth c s₁ X0 hx hby hml hrt hlk hZ hown hnm e0
  have N0 := Fr.nil n0
  have Zs := Z0
  have K0 := Keep.refl h0 [a1]
  have hLV : (p6 + (1 : Int32)).toInt = ((dp + 1 : Nat) : Int) := by have q := own_addI hdp (show (1 : Int32).toInt = 1 from by decide) (by omega) (by omega); omega
  have hLW : (p3 + (1 : Int32)).toInt = ((bd + 1 : Nat) : Int) := by have q := own_addI hbd (show (1 : Int32).toInt = 1 from by decide) (by omega) (by omega); omega
  have hmul : (dp + 1) * (bd + 1) ≤ 4 * 64 := Nat.mul_le_mul (by omega) (by omega)
  have hRB : bd + 1 ≤ RL := by rw [hRL]; exact Nat.le_mul_of_pos_left _ (by omega)
  have hRT : ((p6 + (1 : Int32)) * (p3 + (1 : Int32))).toInt = (RL : Int) := by
    rw [Jvm.Kit.i32_mul (by rw [hLV, hLW, ← Int.natCast_mul]; omega) (by rw [hLV, hLW, ← Int.natCast_mul]; omega), hLV, hLW, ← Int.natCast_mul, hRL]
  rw [show entryFrame m #[(.ref a1), (.ref a2), (.int p3), (.int p4), (.int p5), (.int p6)] 10 = mkF m 0 #[rv a1, rv a2, iv p3, iv p4, iv p5, iv p6, uu, uu, uu, uu] [] from by first | (simp [entryFrame, mkF, argsToLocals, Value.category]; done) | rfl]
  show own_Wp _ _ _ _ (s₁.setTop (mkF m 0 #[rv a1, rv a2, iv p3, iv p4, iv p5, iv p6, uu, uu, uu, uu] []))
  refine own_of (fun tgt kon => XS.aloadN X0.here hx rfl (hb hby d2_0) rfl rfl kon) ?_
  obtain ⟨T1, X1, e1, st1⟩ := initO X0 hx hZ hown (ow hw 11 rfl) (ow hw 12 rfl) (ow hw 13 rfl) e0 (g := (mkF m 1 #[rv a1, rv a2, iv p3, iv p4, iv p5, iv p6, uu, uu, uu, uu] [(.ref a1)])) rfl (by rw [hml]; rfl) rfl (hb hby d2_1) (by decide) (W := 0) (by show 2 * 0 + _ ≤ _; exact Nat.le_of_eq rfl) (by decide)
  refine own_of st1 ?_
  clear st1
  show own_Wp _ _ _ _ (T1.setTop (mkF m 4 #[rv a1, rv a2, iv p3, iv p4, iv p5, iv p6, uu, uu, uu, uu] []))
  refine own_of (fun tgt kon => XS.aloadN X1.here hx rfl (hb hby d2_4) rfl rfl kon) ?_
  refine own_len X1 hx hZ e1 V_a2 (z := (1 : Int32)) (by decide) rfl rfl (hb hby d2_5) ?_
  refine own_of (fun tgt kon => XS.istore X1.here hx rfl (hb hby d2_6) rfl (l' := #[rv a1, rv a2, iv p3, iv p4, iv p5, iv p6, iv (1 : Int32), uu, uu, uu]) rfl kon) ?_
  refine own_of (fun tgt kon => XS.aloadN X1.here hx rfl (hb hby d2_8) rfl rfl kon) ?_
  refine own_of (fun tgt kon => XS.iloadN X1.here hx rfl (hb hby d2_9) rfl kon) ?_
  show own_Wp _ _ _ _ (T1.setTop (mkF m 10 #[rv a1, rv a2, iv p3, iv p4, iv p5, iv p6, iv (1 : Int32), uu, uu, uu] [(.int p3), (.ref a1)]))
  obtain ⟨T2, h2, X2, e2, W2, st2⟩ := putF X1 hx hZ hown (host := "") (Or.inl (ow hw 14 rfl)) Via.refl e1 F_bound E_a1 (Or.inr ⟨(ow hw 15 rfl), rfl, hnm⟩) (ow hw 6 rfl) (ty := .int) (by decide) rfl rfl (g := (mkF m 10 #[rv a1, rv a2, iv p3, iv p4, iv p5, iv p6, iv (1 : Int32), uu, uu, uu] [(.int p3), (.ref a1)])) rfl rfl (hb hby d2_10)
  refine own_of st2 ?_
  clear st2
  have Fq2 := Fld.same W2 F_bound
  replace Zs := Nat.le_trans Zs (Keep.of_wr W2).1
  replace K0 := K0.wr W2 (Or.inl (List.mem_of_getElem? (i := 0) rfl))
  replace E_a1 := E_a1.wr W2
  replace F_headBound := F_headBound.other W2 (Or.inr (slot_ne (Or.inr (ow hw 17 rfl)) (Or.inr (ow hw 15 rfl)) (by decide) (t := .int) (t' := .int) (by decide) (by decide)))
  replace F_levels := F_levels.other W2 (Or.inr (slot_ne (Or.inr (ow hw 19 rfl)) (Or.inr (ow hw 15 rfl)) (by decide) (t := .int) (t' := .int) (by decide) (by decide)))
  replace F_columns := F_columns.other W2 (Or.inr (slot_ne (Or.inr (ow hw 24 rfl)) (Or.inr (ow hw 15 rfl)) (by decide) (t := .long) (t' := .int) (by decide) (by decide)))
  replace F_lastColumn := F_lastColumn.other W2 (Or.inr (slot_ne (Or.inr (ow hw 26 rfl)) (Or.inr (ow hw 15 rfl)) (by decide) (t := .long) (t' := .int) (by decide) (by decide)))
  replace F_outsideHead := F_outsideHead.other W2 (Or.inr (slot_ne (Or.inr (ow hw 29 rfl)) (Or.inr (ow hw 15 rfl)) (by decide) (t := .long) (t' := .int) (by decide) (by decide)))
  replace F_codePoints := F_codePoints.other W2 (Or.inr (slot_ne (Or.inr (ow hw 31 rfl)) (Or.inr (ow hw 15 rfl)) (by decide) (t := (.array .int)) (t' := .int) (by decide) (by decide)))
  replace F_columnsOf := F_columnsOf.other W2 (Or.inr (slot_ne (Or.inr (ow hw 34 rfl)) (Or.inr (ow hw 15 rfl)) (by decide) (t := (.array .long)) (t' := .int) (by decide) (by decide)))
  replace F_rows := F_rows.other W2 (Or.inr (slot_ne (Or.inr (ow hw 36 rfl)) (Or.inr (ow hw 15 rfl)) (by decide) (t := (.array .long)) (t' := .int) (by decide) (by decide)))
  replace F_matches := F_matches.other W2 (Or.inr (slot_ne (Or.inr (ow hw 38 rfl)) (Or.inr (ow hw 15 rfl)) (by decide) (t := (.array .long)) (t' := .int) (by decide) (by decide)))
  replace V_a2 := V_a2.other W2 (Ne.symm ne12)
  replace F_bound := Fq2
  clear Fq2
  have N2 := Fr.snoc X2 N0 g_a1
  refine own_of (fun tgt kon => XS.aloadN X2.here hx rfl (hb hby d2_13) rfl rfl kon) ?_
  refine own_of (fun tgt kon => XS.iload X2.here hx rfl (hb hby d2_14) rfl kon) ?_
  obtain ⟨T3, h3, X3, e3, W3, st3⟩ := putF X2 hx hZ hown (host := "") (Or.inl (ow hw 16 rfl)) Via.refl e2 F_headBound E_a1 (Or.inr ⟨(ow hw 17 rfl), rfl, hnm⟩) (ow hw 6 rfl) (ty := .int) (by decide) rfl rfl (g := (mkF m 16 #[rv a1, rv a2, iv p3, iv p4, iv p5, iv p6, iv (1 : Int32), uu, uu, uu] [(.int p5), (.ref a1)])) rfl rfl (hb hby d2_16)
  refine own_of st3 ?_
  clear st3
  have Fq3 := Fld.same W3 F_headBound
  replace Zs := Nat.le_trans Zs (Keep.of_wr W3).1
  replace K0 := K0.wr W3 (Or.inl (List.mem_of_getElem? (i := 0) rfl))
  replace E_a1 := E_a1.wr W3
  replace F_bound := F_bound.other W3 (Or.inr (slot_ne (Or.inr (ow hw 15 rfl)) (Or.inr (ow hw 17 rfl)) (by decide) (t := .int) (t' := .int) (by decide) (by decide)))
  replace F_levels := F_levels.other W3 (Or.inr (slot_ne (Or.inr (ow hw 19 rfl)) (Or.inr (ow hw 17 rfl)) (by decide) (t := .int) (t' := .int) (by decide) (by decide)))
  replace F_columns := F_columns.other W3 (Or.inr (slot_ne (Or.inr (ow hw 24 rfl)) (Or.inr (ow hw 17 rfl)) (by decide) (t := .long) (t' := .int) (by decide) (by decide)))
  replace F_lastColumn := F_lastColumn.other W3 (Or.inr (slot_ne (Or.inr (ow hw 26 rfl)) (Or.inr (ow hw 17 rfl)) (by decide) (t := .long) (t' := .int) (by decide) (by decide)))
  replace F_outsideHead := F_outsideHead.other W3 (Or.inr (slot_ne (Or.inr (ow hw 29 rfl)) (Or.inr (ow hw 17 rfl)) (by decide) (t := .long) (t' := .int) (by decide) (by decide)))
  replace F_codePoints := F_codePoints.other W3 (Or.inr (slot_ne (Or.inr (ow hw 31 rfl)) (Or.inr (ow hw 17 rfl)) (by decide) (t := (.array .int)) (t' := .int) (by decide) (by decide)))
  replace F_columnsOf := F_columnsOf.other W3 (Or.inr (slot_ne (Or.inr (ow hw 34 rfl)) (Or.inr (ow hw 17 rfl)) (by decide) (t := (.array .long)) (t' := .int) (by decide) (by decide)))
  replace F_rows := F_rows.other W3 (Or.inr (slot_ne (Or.inr (ow hw 36 rfl)) (Or.inr (ow hw 17 rfl)) (by decide) (t := (.array .long)) (t' := .int) (by decide) (by decide)))
  replace F_matches := F_matches.other W3 (Or.inr (slot_ne (Or.inr (ow hw 38 rfl)) (Or.inr (ow hw 17 rfl)) (by decide) (t := (.array .long)) (t' := .int) (by decide) (by decide)))
  replace V_a2 := V_a2.other W3 (Ne.symm ne12)
  replace F_headBound := Fq3
  clear Fq3
  have N3 := Fr.snoc X3 N2 g_a1
  refine own_of (fun tgt kon => XS.aloadN X3.here hx rfl (hb hby d2_19) rfl rfl kon) ?_
  show own_Wp _ _ _ _ (T3.setTop (mkF m 20 #[rv a1, rv a2, iv p3, iv p4, iv p5, iv p6, iv (1 : Int32), uu, uu, uu] [(.ref a1)]))
  refine own_of (fun tgt kon => XS.iloadN X3.here hx rfl (hb hby d2_20) rfl kon) ?_
  refine own_of (fun tgt kon => XS.iconst X3.here hx rfl (hb hby d2_21) kon) ?_
  refine own_of (fun tgt kon => XS.iadd X3.here hx rfl (hb hby d2_22) rfl kon) ?_
  obtain ⟨T4, h4, X4, e4, W4, st4⟩ := putF X3 hx hZ hown (host := "") (Or.inl (ow hw 18 rfl)) Via.refl e3 F_levels E_a1 (Or.inr ⟨(ow hw 19 rfl), rfl, hnm⟩) (ow hw 6 rfl) (ty := .int) (by decide) rfl rfl (g := (mkF m 23 #[rv a1, rv a2, iv p3, iv p4, iv p5, iv p6, iv (1 : Int32), uu, uu, uu] [(.int (p3 + (1 : Int32))), (.ref a1)])) rfl rfl (hb hby d2_23)
  refine own_of st4 ?_
  clear st4
  have Fq4 := Fld.same W4 F_levels
  replace Zs := Nat.le_trans Zs (Keep.of_wr W4).1
  replace K0 := K0.wr W4 (Or.inl (List.mem_of_getElem? (i := 0) rfl))
  replace E_a1 := E_a1.wr W4
  replace F_bound := F_bound.other W4 (Or.inr (slot_ne (Or.inr (ow hw 15 rfl)) (Or.inr (ow hw 19 rfl)) (by decide) (t := .int) (t' := .int) (by decide) (by decide)))
  replace F_headBound := F_headBound.other W4 (Or.inr (slot_ne (Or.inr (ow hw 17 rfl)) (Or.inr (ow hw 19 rfl)) (by decide) (t := .int) (t' := .int) (by decide) (by decide)))
  replace F_columns := F_columns.other W4 (Or.inr (slot_ne (Or.inr (ow hw 24 rfl)) (Or.inr (ow hw 19 rfl)) (by decide) (t := .long) (t' := .int) (by decide) (by decide)))
  replace F_lastColumn := F_lastColumn.other W4 (Or.inr (slot_ne (Or.inr (ow hw 26 rfl)) (Or.inr (ow hw 19 rfl)) (by decide) (t := .long) (t' := .int) (by decide) (by decide)))
  replace F_outsideHead := F_outsideHead.other W4 (Or.inr (slot_ne (Or.inr (ow hw 29 rfl)) (Or.inr (ow hw 19 rfl)) (by decide) (t := .long) (t' := .int) (by decide) (by decide)))
  replace F_codePoints := F_codePoints.other W4 (Or.inr (slot_ne (Or.inr (ow hw 31 rfl)) (Or.inr (ow hw 19 rfl)) (by decide) (t := (.array .int)) (t' := .int) (by decide) (by decide)))
  replace F_columnsOf := F_columnsOf.other W4 (Or.inr (slot_ne (Or.inr (ow hw 34 rfl)) (Or.inr (ow hw 19 rfl)) (by decide) (t := (.array .long)) (t' := .int) (by decide) (by decide)))
  replace F_rows := F_rows.other W4 (Or.inr (slot_ne (Or.inr (ow hw 36 rfl)) (Or.inr (ow hw 19 rfl)) (by decide) (t := (.array .long)) (t' := .int) (by decide) (by decide)))
  replace F_matches := F_matches.other W4 (Or.inr (slot_ne (Or.inr (ow hw 38 rfl)) (Or.inr (ow hw 19 rfl)) (by decide) (t := (.array .long)) (t' := .int) (by decide) (by decide)))
  replace V_a2 := V_a2.other W4 (Ne.symm ne12)
  replace F_levels := Fq4
  clear Fq4
  have N4 := Fr.snoc X4 N3 g_a1
  refine own_of (fun tgt kon => XS.aloadN X4.here hx rfl (hb hby d2_26) rfl rfl kon) ?_
  show own_Wp _ _ _ _ (T4.setTop (mkF m 27 #[rv a1, rv a2, iv p3, iv p4, iv p5, iv p6, iv (1 : Int32), uu, uu, uu] [(.ref a1)]))
  refine own_of (fun tgt kon => XS.iload X4.here hx rfl (hb hby d2_27) rfl kon) ?_
  refine own_callS X4 hx hZ (y := (⟨"com/example/close_words/closewords/BitRows", "upTo", "(I)J"⟩ : MethodName)) (argsL := [(.int (1 : Int32))]) (rest := [(.ref a1)]) (W := 1) hown (ow hw 20 rfl) (ow hw 21 rfl) (ow hw 7 rfl) (ow hw 22 rfl) (by decide) e4 (rmup l Z a0 hw [] (1 : Int32) h4 n0 Zs) (by decide) (by decide) (by decide) (by decide) rfl (by rw [hml]; rfl) (lenOf own_pd0 rfl) rfl (by show 2 * 0 + _ ≤ _; exact Nat.le_of_eq rfl) (hb hby d2_29) ?_
  rintro T5 L5 _ X5 ⟨rfl, N5q, e5⟩
  have N5 := Fr.app N4 N5q
  show own_Wp _ _ _ _ (T5.setTop (mkF m 32 #[rv a1, rv a2, iv p3, iv p4, iv p5, iv p6, iv (1 : Int32), uu, uu, uu] [(.long (own_upTo (1 : Int32))), (.ref a1)]))
  obtain ⟨T6, h6, X6, e6, W6, st6⟩ := putF X5 hx hZ hown (host := "") (Or.inl (ow hw 23 rfl)) Via.refl e5 F_columns E_a1 (Or.inr ⟨(ow hw 24 rfl), rfl, hnm⟩) (ow hw 6 rfl) (ty := .long) (by decide) rfl rfl (g := (mkF m 32 #[rv a1, rv a2, iv p3, iv p4, iv p5, iv p6, iv (1 : Int32), uu, uu, uu] [(.long (own_upTo (1 : Int32))), (.ref a1)])) rfl rfl (hb hby d2_32)
  refine own_of st6 ?_
  clear st6
  have Fq6 := Fld.same W6 F_columns
  replace Zs := Nat.le_trans Zs (Keep.of_wr W6).1
  replace K0 := K0.wr W6 (Or.inl (List.mem_of_getElem? (i := 0) rfl))
  replace E_a1 := E_a1.wr W6
  replace F_bound := F_bound.other W6 (Or.inr (slot_ne (Or.inr (ow hw 15 rfl)) (Or.inr (ow hw 24 rfl)) (by decide) (t := .int) (t' := .long) (by decide) (by decide)))
  replace F_headBound := F_headBound.other W6 (Or.inr (slot_ne (Or.inr (ow hw 17 rfl)) (Or.inr (ow hw 24 rfl)) (by decide) (t := .int) (t' := .long) (by decide) (by decide)))
  replace F_levels := F_levels.other W6 (Or.inr (slot_ne (Or.inr (ow hw 19 rfl)) (Or.inr (ow hw 24 rfl)) (by decide) (t := .int) (t' := .long) (by decide) (by decide)))
  replace F_lastColumn := F_lastColumn.other W6 (Or.inr (slot_ne (Or.inr (ow hw 26 rfl)) (Or.inr (ow hw 24 rfl)) (by decide) (t := .long) (t' := .long) (by decide) (by decide)))
  replace F_outsideHead := F_outsideHead.other W6 (Or.inr (slot_ne (Or.inr (ow hw 29 rfl)) (Or.inr (ow hw 24 rfl)) (by decide) (t := .long) (t' := .long) (by decide) (by decide)))
  replace F_codePoints := F_codePoints.other W6 (Or.inr (slot_ne (Or.inr (ow hw 31 rfl)) (Or.inr (ow hw 24 rfl)) (by decide) (t := (.array .int)) (t' := .long) (by decide) (by decide)))
  replace F_columnsOf := F_columnsOf.other W6 (Or.inr (slot_ne (Or.inr (ow hw 34 rfl)) (Or.inr (ow hw 24 rfl)) (by decide) (t := (.array .long)) (t' := .long) (by decide) (by decide)))
  replace F_rows := F_rows.other W6 (Or.inr (slot_ne (Or.inr (ow hw 36 rfl)) (Or.inr (ow hw 24 rfl)) (by decide) (t := (.array .long)) (t' := .long) (by decide) (by decide)))
  replace F_matches := F_matches.other W6 (Or.inr (slot_ne (Or.inr (ow hw 38 rfl)) (Or.inr (ow hw 24 rfl)) (by decide) (t := (.array .long)) (t' := .long) (by decide) (by decide)))
  replace V_a2 := V_a2.other W6 (Ne.symm ne12)
  replace F_columns := Fq6
  clear Fq6
  have N6 := Fr.snoc X6 N5 g_a1
  refine own_of (fun tgt kon => XS.aloadN X6.here hx rfl (hb hby d2_35) rfl rfl kon) ?_
  refine own_of (fun tgt kon => XS.lconst X6.here hx rfl (hb hby d2_36) kon) ?_
  refine own_of (fun tgt kon => XS.iload X6.here hx rfl (hb hby d2_37) rfl kon) ?_
  refine own_of (fun tgt kon => XS.lshl X6.here hx rfl (hb hby d2_39) rfl kon) ?_
  show own_Wp _ _ _ _ (T6.setTop (mkF m 40 #[rv a1, rv a2, iv p3, iv p4, iv p5, iv p6, iv (1 : Int32), uu, uu, uu] [(.long ((1 : Int64) <<< ((1 : Int32) &&& 0x3f).toInt64)), (.ref a1)]))
  obtain ⟨T7, h7, X7, e7, W7, st7⟩ := putF X6 hx hZ hown (host := "") (Or.inl (ow hw 25 rfl)) Via.refl e6 F_lastColumn E_a1 (Or.inr ⟨(ow hw 26 rfl), rfl, hnm⟩) (ow hw 6 rfl) (ty := .long) (by decide) rfl rfl (g := (mkF m 40 #[rv a1, rv a2, iv p3, iv p4, iv p5, iv p6, iv (1 : Int32), uu, uu, uu] [(.long ((1 : Int64) <<< ((1 : Int32) &&& 0x3f).toInt64)), (.ref a1)])) rfl rfl (hb hby d2_40)
  refine own_of st7 ?_
  clear st7
  have Fq7 := Fld.same W7 F_lastColumn
  replace Zs := Nat.le_trans Zs (Keep.of_wr W7).1
  replace K0 := K0.wr W7 (Or.inl (List.mem_of_getElem? (i := 0) rfl))
  replace E_a1 := E_a1.wr W7
  replace F_bound := F_bound.other W7 (Or.inr (slot_ne (Or.inr (ow hw 15 rfl)) (Or.inr (ow hw 26 rfl)) (by decide) (t := .int) (t' := .long) (by decide) (by decide)))
  replace F_headBound := F_headBound.other W7 (Or.inr (slot_ne (Or.inr (ow hw 17 rfl)) (Or.inr (ow hw 26 rfl)) (by decide) (t := .int) (t' := .long) (by decide) (by decide)))
  replace F_levels := F_levels.other W7 (Or.inr (slot_ne (Or.inr (ow hw 19 rfl)) (Or.inr (ow hw 26 rfl)) (by decide) (t := .int) (t' := .long) (by decide) (by decide)))
  replace F_columns := F_columns.other W7 (Or.inr (slot_ne (Or.inr (ow hw 24 rfl)) (Or.inr (ow hw 26 rfl)) (by decide) (t := .long) (t' := .long) (by decide) (by decide)))
  replace F_outsideHead := F_outsideHead.other W7 (Or.inr (slot_ne (Or.inr (ow hw 29 rfl)) (Or.inr (ow hw 26 rfl)) (by decide) (t := .long) (t' := .long) (by decide) (by decide)))
  replace F_codePoints := F_codePoints.other W7 (Or.inr (slot_ne (Or.inr (ow hw 31 rfl)) (Or.inr (ow hw 26 rfl)) (by decide) (t := (.array .int)) (t' := .long) (by decide) (by decide)))
  replace F_columnsOf := F_columnsOf.other W7 (Or.inr (slot_ne (Or.inr (ow hw 34 rfl)) (Or.inr (ow hw 26 rfl)) (by decide) (t := (.array .long)) (t' := .long) (by decide) (by decide)))
  replace F_rows := F_rows.other W7 (Or.inr (slot_ne (Or.inr (ow hw 36 rfl)) (Or.inr (ow hw 26 rfl)) (by decide) (t := (.array .long)) (t' := .long) (by decide) (by decide)))
  replace F_matches := F_matches.other W7 (Or.inr (slot_ne (Or.inr (ow hw 38 rfl)) (Or.inr (ow hw 26 rfl)) (by decide) (t := (.array .long)) (t' := .long) (by decide) (by decide)))
  replace V_a2 := V_a2.other W7 (Ne.symm ne12)
  replace F_lastColumn := Fq7
  clear Fq7
  have N7 := Fr.snoc X7 N6 g_a1
  refine own_of (fun tgt kon => XS.aloadN X7.here hx rfl (hb hby d2_43) rfl rfl kon) ?_
  refine own_of (fun tgt kon => XS.iloadN X7.here hx rfl (hb hby d2_44) rfl kon) ?_
  show own_Wp _ _ _ _ (T7.setTop (mkF m 45 #[rv a1, rv a2, iv p3, iv p4, iv p5, iv p6, iv (1 : Int32), uu, uu, uu] [(.int p4), (.ref a1)]))
  have J62 : ∀ (T8 : State) (lc8 : List Loc) (out : Int64), (Stand p l e ({ frames := 1, cells := 4, slots := 516, locals := 15 } : Room) s m #[(.ref a1), (.ref a2), (.int p3), (.int p4), (.int p5), (.int p6)] below meth c T8 lc8 0 0) → (T8.heap = h7) → (Fr n0 lc8) → (out = if p4 < (0 : Int32) then (-1 : Int64) else (own_upTo p4 ^^^ (-1 : Int64))) → own_Wp p.tables e below (own_K ({ frames := 1, cells := 4, slots := 516, locals := 15 } : Room) s below (Q_rmct1 Z a1 a2 p3 p4 p5 p6 tx bd ph dp RL cp0 cp1 co0 co1 RR1 h0 n0)) (T8.setTop (mkF m 62 #[rv a1, rv a2, iv p3, iv p4, iv p5, iv p6, iv (1 : Int32), uu, uu, uu] [(.long out), (.ref a1)])) := by
    intro T8 lc8 out X8 e8 N8 h_out
    obtain ⟨T9, h9, X9, e9, W9, st9⟩ := putF X8 hx hZ hown (host := "") (Or.inl (ow hw 28 rfl)) Via.refl e8 F_outsideHead E_a1 (Or.inr ⟨(ow hw 29 rfl), rfl, hnm⟩) (ow hw 6 rfl) (ty := .long) (by decide) rfl rfl (g := (mkF m 62 #[rv a1, rv a2, iv p3, iv p4, iv p5, iv p6, iv (1 : Int32), uu, uu, uu] [(.long out), (.ref a1)])) rfl rfl (hb hby d2_62)
    refine own_of st9 ?_
    clear st9
    have Fq9 := Fld.same W9 F_outsideHead
    replace Zs := Nat.le_trans Zs (Keep.of_wr W9).1
    replace K0 := K0.wr W9 (Or.inl (List.mem_of_getElem? (i := 0) rfl))
    replace E_a1 := E_a1.wr W9
    replace F_bound := F_bound.other W9 (Or.inr (slot_ne (Or.inr (ow hw 15 rfl)) (Or.inr (ow hw 29 rfl)) (by decide) (t := .int) (t' := .long) (by decide) (by decide)))
    replace F_headBound := F_headBound.other W9 (Or.inr (slot_ne (Or.inr (ow hw 17 rfl)) (Or.inr (ow hw 29 rfl)) (by decide) (t := .int) (t' := .long) (by decide) (by decide)))
    replace F_levels := F_levels.other W9 (Or.inr (slot_ne (Or.inr (ow hw 19 rfl)) (Or.inr (ow hw 29 rfl)) (by decide) (t := .int) (t' := .long) (by decide) (by decide)))
    replace F_columns := F_columns.other W9 (Or.inr (slot_ne (Or.inr (ow hw 24 rfl)) (Or.inr (ow hw 29 rfl)) (by decide) (t := .long) (t' := .long) (by decide) (by decide)))
    replace F_lastColumn := F_lastColumn.other W9 (Or.inr (slot_ne (Or.inr (ow hw 26 rfl)) (Or.inr (ow hw 29 rfl)) (by decide) (t := .long) (t' := .long) (by decide) (by decide)))
    replace F_codePoints := F_codePoints.other W9 (Or.inr (slot_ne (Or.inr (ow hw 31 rfl)) (Or.inr (ow hw 29 rfl)) (by decide) (t := (.array .int)) (t' := .long) (by decide) (by decide)))
    replace F_columnsOf := F_columnsOf.other W9 (Or.inr (slot_ne (Or.inr (ow hw 34 rfl)) (Or.inr (ow hw 29 rfl)) (by decide) (t := (.array .long)) (t' := .long) (by decide) (by decide)))
    replace F_rows := F_rows.other W9 (Or.inr (slot_ne (Or.inr (ow hw 36 rfl)) (Or.inr (ow hw 29 rfl)) (by decide) (t := (.array .long)) (t' := .long) (by decide) (by decide)))
    replace F_matches := F_matches.other W9 (Or.inr (slot_ne (Or.inr (ow hw 38 rfl)) (Or.inr (ow hw 29 rfl)) (by decide) (t := (.array .long)) (t' := .long) (by decide) (by decide)))
    replace V_a2 := V_a2.other W9 (Ne.symm ne12)
    replace F_outsideHead := Fq9
    clear Fq9
    have N9 := Fr.snoc X9 N8 g_a1
    refine own_of (fun tgt kon => XS.aloadN X9.here hx rfl (hb hby d2_65) rfl rfl kon) ?_
    refine own_of (fun tgt kon => XS.sipush X9.here hx rfl (hb hby d2_66) kon) ?_
    obtain ⟨T10, h10, k10, X10, e10, E10, A10, st10⟩ := newP X9 hx hZ (ow hw 4 rfl) e9 (g := (mkF m 69 #[rv a1, rv a2, iv p3, iv p4, iv p5, iv p6, iv (1 : Int32), uu, uu, uu] [(.int (128 : Int32)), (.ref a1)])) rfl (hb hby d2_69) rfl (by decide) (cap := 128) (by decide) (by decide) (by decide) (by decide)
    refine own_of st10 ?_
    clear st10
    obtain ⟨b10, gq10⟩ : ∃ z, z = h9.size := ⟨_, rfl⟩
    rw [← gq10] at A10 ⊢
    have ne_a1_b10 : a1 ≠ b10 := Nat.ne_of_lt (Nat.lt_of_lt_of_le E_a1.lt (Nat.le_of_eq gq10.symm))
    have ne_a2_b10 : a2 ≠ b10 := Nat.ne_of_lt (Nat.lt_of_lt_of_le V_a2.lt (Nat.le_of_eq gq10.symm))
    have g_b10 : n0 ≤ b10 := Nat.le_trans Zs (Nat.le_of_eq gq10.symm)
    have sz_b10 : h0.size ≤ b10 := Nat.le_trans K0.1 (Nat.le_of_eq gq10.symm)
    replace Zs := Nat.le_trans Zs E10.1
    replace K0 := K0.ext E10
    replace E_a1 := E_a1.ext E10
    replace F_bound := F_bound.ext E10
    replace F_headBound := F_headBound.ext E10
    replace F_levels := F_levels.ext E10
    replace F_columns := F_columns.ext E10
    replace F_lastColumn := F_lastColumn.ext E10
    replace F_outsideHead := F_outsideHead.ext E10
    replace F_codePoints := F_codePoints.ext E10
    replace F_columnsOf := F_columnsOf.ext E10
    replace F_rows := F_rows.ext E10
    replace F_matches := F_matches.ext E10
    replace V_a2 := V_a2.ext E10
    have V_b10 : own_Ar Z h10 b10 .int 128 (fun _ => (.int (0 : Int32))) := own_Ar.new A10 (by decide) rfl
    obtain ⟨T11, h11, X11, e11, W11, st11⟩ := putF X10 hx hZ hown (host := "") (Or.inl (ow hw 30 rfl)) Via.refl e10 F_codePoints E_a1 (Or.inr ⟨(ow hw 31 rfl), rfl, hnm⟩) (ow hw 6 rfl) (ty := (.array .int)) (by decide) rfl rfl (g := (mkF m 71 #[rv a1, rv a2, iv p3, iv p4, iv p5, iv p6, iv (1 : Int32), uu, uu, uu] [(.ref b10), (.ref a1)])) rfl rfl (hb hby d2_71)
    refine own_of st11 ?_
    clear st11
    have Fq11 := Fld.same W11 F_codePoints
    replace Zs := Nat.le_trans Zs (Keep.of_wr W11).1
    replace K0 := K0.wr W11 (Or.inl (List.mem_of_getElem? (i := 0) rfl))
    replace E_a1 := E_a1.wr W11
    replace F_bound := F_bound.other W11 (Or.inr (slot_ne (Or.inr (ow hw 15 rfl)) (Or.inr (ow hw 31 rfl)) (by decide) (t := .int) (t' := (.array .int)) (by decide) (by decide)))
    replace F_headBound := F_headBound.other W11 (Or.inr (slot_ne (Or.inr (ow hw 17 rfl)) (Or.inr (ow hw 31 rfl)) (by decide) (t := .int) (t' := (.array .int)) (by decide) (by decide)))
    replace F_levels := F_levels.other W11 (Or.inr (slot_ne (Or.inr (ow hw 19 rfl)) (Or.inr (ow hw 31 rfl)) (by decide) (t := .int) (t' := (.array .int)) (by decide) (by decide)))
    replace F_columns := F_columns.other W11 (Or.inr (slot_ne (Or.inr (ow hw 24 rfl)) (Or.inr (ow hw 31 rfl)) (by decide) (t := .long) (t' := (.array .int)) (by decide) (by decide)))
    replace F_lastColumn := F_lastColumn.other W11 (Or.inr (slot_ne (Or.inr (ow hw 26 rfl)) (Or.inr (ow hw 31 rfl)) (by decide) (t := .long) (t' := (.array .int)) (by decide) (by decide)))
    replace F_outsideHead := F_outsideHead.other W11 (Or.inr (slot_ne (Or.inr (ow hw 29 rfl)) (Or.inr (ow hw 31 rfl)) (by decide) (t := .long) (t' := (.array .int)) (by decide) (by decide)))
    replace F_columnsOf := F_columnsOf.other W11 (Or.inr (slot_ne (Or.inr (ow hw 34 rfl)) (Or.inr (ow hw 31 rfl)) (by decide) (t := (.array .long)) (t' := (.array .int)) (by decide) (by decide)))
    replace F_rows := F_rows.other W11 (Or.inr (slot_ne (Or.inr (ow hw 36 rfl)) (Or.inr (ow hw 31 rfl)) (by decide) (t := (.array .long)) (t' := (.array .int)) (by decide) (by decide)))
    replace F_matches := F_matches.other W11 (Or.inr (slot_ne (Or.inr (ow hw 38 rfl)) (Or.inr (ow hw 31 rfl)) (by decide) (t := (.array .long)) (t' := (.array .int)) (by decide) (by decide)))
    replace V_a2 := V_a2.other W11 (Ne.symm ne12)
    replace V_b10 := V_b10.other W11 (Ne.symm ne_a1_b10)
    replace F_codePoints := Fq11
    clear Fq11
    have N11 := Fr.snoc X11 N9 g_a1
    show own_Wp _ _ _ _ (T11.setTop (mkF m 74 #[rv a1, rv a2, iv p3, iv p4, iv p5, iv p6, iv (1 : Int32), uu, uu, uu] []))
    refine own_of (fun tgt kon => XS.aloadN X11.here hx rfl (hb hby d2_74) rfl rfl kon) ?_
    refine own_of (fun tgt kon => XS.sipush X11.here hx rfl (hb hby d2_75) kon) ?_
    obtain ⟨T12, h12, k12, X12, e12, E12, A12, st12⟩ := newP X11 hx hZ (ow hw 32 rfl) e11 (g := (mkF m 78 #[rv a1, rv a2, iv p3, iv p4, iv p5, iv p6, iv (1 : Int32), uu, uu, uu] [(.int (128 : Int32)), (.ref a1)])) rfl (hb hby d2_78) rfl (by decide) (cap := 128) (by decide) (by decide) (by decide) (by decide)
    refine own_of st12 ?_
    clear st12
    obtain ⟨b12, gq12⟩ : ∃ z, z = h11.size := ⟨_, rfl⟩
    rw [← gq12] at A12 ⊢
    have ne_a1_b12 : a1 ≠ b12 := Nat.ne_of_lt (Nat.lt_of_lt_of_le E_a1.lt (Nat.le_of_eq gq12.symm))
    have ne_a2_b12 : a2 ≠ b12 := Nat.ne_of_lt (Nat.lt_of_lt_of_le V_a2.lt (Nat.le_of_eq gq12.symm))
    have ne_b10_b12 : b10 ≠ b12 := Nat.ne_of_lt (Nat.lt_of_lt_of_le V_b10.lt (Nat.le_of_eq gq12.symm))
    have g_b12 : n0 ≤ b12 := Nat.le_trans Zs (Nat.le_of_eq gq12.symm)
    have sz_b12 : h0.size ≤ b12 := Nat.le_trans K0.1 (Nat.le_of_eq gq12.symm)
    replace Zs := Nat.le_trans Zs E12.1
    replace K0 := K0.ext E12
    replace E_a1 := E_a1.ext E12
    replace F_bound := F_bound.ext E12
    replace F_headBound := F_headBound.ext E12
    replace F_levels := F_levels.ext E12
    replace F_columns := F_columns.ext E12
    replace F_lastColumn := F_lastColumn.ext E12
    replace F_outsideHead := F_outsideHead.ext E12
    replace F_codePoints := F_codePoints.ext E12
    replace F_columnsOf := F_columnsOf.ext E12
    replace F_rows := F_rows.ext E12
    replace F_matches := F_matches.ext E12
    replace V_a2 := V_a2.ext E12
    replace V_b10 := V_b10.ext E12
    have V_b12 : own_Ar Z h12 b12 .long 128 (fun _ => (.long (0 : Int64))) := own_Ar.new A12 (by decide) rfl
    obtain ⟨T13, h13, X13, e13, W13, st13⟩ := putF X12 hx hZ hown (host := "") (Or.inl (ow hw 33 rfl)) Via.refl e12 F_columnsOf E_a1 (Or.inr ⟨(ow hw 34 rfl), rfl, hnm⟩) (ow hw 6 rfl) (ty := (.array .long)) (by decide) rfl rfl (g := (mkF m 80 #[rv a1, rv a2, iv p3, iv p4, iv p5, iv p6, iv (1 : Int32), uu, uu, uu] [(.ref b12), (.ref a1)])) rfl rfl (hb hby d2_80)
    refine own_of st13 ?_
    clear st13
    have Fq13 := Fld.same W13 F_columnsOf
    replace Zs := Nat.le_trans Zs (Keep.of_wr W13).1
    replace K0 := K0.wr W13 (Or.inl (List.mem_of_getElem? (i := 0) rfl))
    replace E_a1 := E_a1.wr W13
    replace F_bound := F_bound.other W13 (Or.inr (slot_ne (Or.inr (ow hw 15 rfl)) (Or.inr (ow hw 34 rfl)) (by decide) (t := .int) (t' := (.array .long)) (by decide) (by decide)))
    replace F_headBound := F_headBound.other W13 (Or.inr (slot_ne (Or.inr (ow hw 17 rfl)) (Or.inr (ow hw 34 rfl)) (by decide) (t := .int) (t' := (.array .long)) (by decide) (by decide)))
    replace F_levels := F_levels.other W13 (Or.inr (slot_ne (Or.inr (ow hw 19 rfl)) (Or.inr (ow hw 34 rfl)) (by decide) (t := .int) (t' := (.array .long)) (by decide) (by decide)))
    replace F_columns := F_columns.other W13 (Or.inr (slot_ne (Or.inr (ow hw 24 rfl)) (Or.inr (ow hw 34 rfl)) (by decide) (t := .long) (t' := (.array .long)) (by decide) (by decide)))
    replace F_lastColumn := F_lastColumn.other W13 (Or.inr (slot_ne (Or.inr (ow hw 26 rfl)) (Or.inr (ow hw 34 rfl)) (by decide) (t := .long) (t' := (.array .long)) (by decide) (by decide)))
    replace F_outsideHead := F_outsideHead.other W13 (Or.inr (slot_ne (Or.inr (ow hw 29 rfl)) (Or.inr (ow hw 34 rfl)) (by decide) (t := .long) (t' := (.array .long)) (by decide) (by decide)))
    replace F_codePoints := F_codePoints.other W13 (Or.inr (slot_ne (Or.inr (ow hw 31 rfl)) (Or.inr (ow hw 34 rfl)) (by decide) (t := (.array .int)) (t' := (.array .long)) (by decide) (by decide)))
    replace F_rows := F_rows.other W13 (Or.inr (slot_ne (Or.inr (ow hw 36 rfl)) (Or.inr (ow hw 34 rfl)) (by decide) (t := (.array .long)) (t' := (.array .long)) (by decide) (by decide)))
    replace F_matches := F_matches.other W13 (Or.inr (slot_ne (Or.inr (ow hw 38 rfl)) (Or.inr (ow hw 34 rfl)) (by decide) (t := (.array .long)) (t' := (.array .long)) (by decide) (by decide)))
    replace V_a2 := V_a2.other W13 (Ne.symm ne12)
    replace V_b10 := V_b10.other W13 (Ne.symm ne_a1_b10)
    replace V_b12 := V_b12.other W13 (Ne.symm ne_a1_b12)
    replace F_columnsOf := Fq13
    clear Fq13
    have N13 := Fr.snoc X13 N11 g_a1
    refine own_of (fun tgt kon => XS.aloadN X13.here hx rfl (hb hby d2_83) rfl rfl kon) ?_
    show own_Wp _ _ _ _ (T13.setTop (mkF m 84 #[rv a1, rv a2, iv p3, iv p4, iv p5, iv p6, iv (1 : Int32), uu, uu, uu] [(.ref a1)]))
    refine own_of (fun tgt kon => XS.iload X13.here hx rfl (hb hby d2_84) rfl kon) ?_
    refine own_of (fun tgt kon => XS.iconst X13.here hx rfl (hb hby d2_86) kon) ?_
    refine own_of (fun tgt kon => XS.iadd X13.here hx rfl (hb hby d2_87) rfl kon) ?_
    refine own_of (fun tgt kon => XS.aloadN X13.here hx rfl (hb hby d2_88) rfl rfl kon) ?_
    obtain ⟨T14, X14, e14, st14⟩ := getF X13 hx hZ hown (host := "") (Or.inl (ow hw 18 rfl)) Via.refl e13 F_levels (g := (mkF m 89 #[rv a1, rv a2, iv p3, iv p4, iv p5, iv p6, iv (1 : Int32), uu, uu, uu] [(.ref a1), (.int (p6 + (1 : Int32))), (.ref a1)])) rfl rfl (hb hby d2_89)
    refine own_of st14 ?_
    clear st14
    show own_Wp _ _ _ _ (T14.setTop (mkF m 92 #[rv a1, rv a2, iv p3, iv p4, iv p5, iv p6, iv (1 : Int32), uu, uu, uu] [(.int (p3 + (1 : Int32))), (.int (p6 + (1 : Int32))), (.ref a1)]))
    refine own_of (fun tgt kon => XS.imul X14.here hx rfl (hb hby d2_92) rfl kon) ?_
    obtain ⟨T15, h15, k15, X15, e15, E15, A15, st15⟩ := newP X14 hx hZ (ow hw 32 rfl) e14 (g := (mkF m 93 #[rv a1, rv a2, iv p3, iv p4, iv p5, iv p6, iv (1 : Int32), uu, uu, uu] [(.int ((p6 + (1 : Int32)) * (p3 + (1 : Int32)))), (.ref a1)])) rfl (hb hby d2_93) rfl (own_nneg hRT) (cap := 256) (by rw [own_nat hRT]; omega) (by decide) (by decide) (by decide)
    refine own_of st15 ?_
    clear st15
    obtain ⟨b15, gq15⟩ : ∃ z, z = h13.size := ⟨_, rfl⟩
    rw [← gq15] at A15 ⊢
    have ne_a1_b15 : a1 ≠ b15 := Nat.ne_of_lt (Nat.lt_of_lt_of_le E_a1.lt (Nat.le_of_eq gq15.symm))
    have ne_a2_b15 : a2 ≠ b15 := Nat.ne_of_lt (Nat.lt_of_lt_of_le V_a2.lt (Nat.le_of_eq gq15.symm))
    have ne_b10_b15 : b10 ≠ b15 := Nat.ne_of_lt (Nat.lt_of_lt_of_le V_b10.lt (Nat.le_of_eq gq15.symm))
    have ne_b12_b15 : b12 ≠ b15 := Nat.ne_of_lt (Nat.lt_of_lt_of_le V_b12.lt (Nat.le_of_eq gq15.symm))
    have g_b15 : n0 ≤ b15 := Nat.le_trans Zs (Nat.le_of_eq gq15.symm)
    have sz_b15 : h0.size ≤ b15 := Nat.le_trans K0.1 (Nat.le_of_eq gq15.symm)
    replace Zs := Nat.le_trans Zs E15.1
    replace K0 := K0.ext E15
    replace E_a1 := E_a1.ext E15
    replace F_bound := F_bound.ext E15
    replace F_headBound := F_headBound.ext E15
    replace F_levels := F_levels.ext E15
    replace F_columns := F_columns.ext E15
    replace F_lastColumn := F_lastColumn.ext E15
    replace F_outsideHead := F_outsideHead.ext E15
    replace F_codePoints := F_codePoints.ext E15
    replace F_columnsOf := F_columnsOf.ext E15
    replace F_rows := F_rows.ext E15
    replace F_matches := F_matches.ext E15
    replace V_a2 := V_a2.ext E15
    replace V_b10 := V_b10.ext E15
    replace V_b12 := V_b12.ext E15
    have V_b15 : own_Ar Z h15 b15 .long RL (fun _ => (.long (0 : Int64))) := own_Ar.new A15 (own_nneg hRT) (own_nat hRT)
    obtain ⟨T16, h16, X16, e16, W16, st16⟩ := putF X15 hx hZ hown (host := "") (Or.inl (ow hw 35 rfl)) Via.refl e15 F_rows E_a1 (Or.inr ⟨(ow hw 36 rfl), rfl, hnm⟩) (ow hw 6 rfl) (ty := (.array .long)) (by decide) rfl rfl (g := (mkF m 95 #[rv a1, rv a2, iv p3, iv p4, iv p5, iv p6, iv (1 : Int32), uu, uu, uu] [(.ref b15), (.ref a1)])) rfl rfl (hb hby d2_95)
    refine own_of st16 ?_
    clear st16
    have Fq16 := Fld.same W16 F_rows
    replace Zs := Nat.le_trans Zs (Keep.of_wr W16).1
    replace K0 := K0.wr W16 (Or.inl (List.mem_of_getElem? (i := 0) rfl))
    replace E_a1 := E_a1.wr W16
    replace F_bound := F_bound.other W16 (Or.inr (slot_ne (Or.inr (ow hw 15 rfl)) (Or.inr (ow hw 36 rfl)) (by decide) (t := .int) (t' := (.array .long)) (by decide) (by decide)))
    replace F_headBound := F_headBound.other W16 (Or.inr (slot_ne (Or.inr (ow hw 17 rfl)) (Or.inr (ow hw 36 rfl)) (by decide) (t := .int) (t' := (.array .long)) (by decide) (by decide)))
    replace F_levels := F_levels.other W16 (Or.inr (slot_ne (Or.inr (ow hw 19 rfl)) (Or.inr (ow hw 36 rfl)) (by decide) (t := .int) (t' := (.array .long)) (by decide) (by decide)))
    replace F_columns := F_columns.other W16 (Or.inr (slot_ne (Or.inr (ow hw 24 rfl)) (Or.inr (ow hw 36 rfl)) (by decide) (t := .long) (t' := (.array .long)) (by decide) (by decide)))
    replace F_lastColumn := F_lastColumn.other W16 (Or.inr (slot_ne (Or.inr (ow hw 26 rfl)) (Or.inr (ow hw 36 rfl)) (by decide) (t := .long) (t' := (.array .long)) (by decide) (by decide)))
    replace F_outsideHead := F_outsideHead.other W16 (Or.inr (slot_ne (Or.inr (ow hw 29 rfl)) (Or.inr (ow hw 36 rfl)) (by decide) (t := .long) (t' := (.array .long)) (by decide) (by decide)))
    replace F_codePoints := F_codePoints.other W16 (Or.inr (slot_ne (Or.inr (ow hw 31 rfl)) (Or.inr (ow hw 36 rfl)) (by decide) (t := (.array .int)) (t' := (.array .long)) (by decide) (by decide)))
    replace F_columnsOf := F_columnsOf.other W16 (Or.inr (slot_ne (Or.inr (ow hw 34 rfl)) (Or.inr (ow hw 36 rfl)) (by decide) (t := (.array .long)) (t' := (.array .long)) (by decide) (by decide)))
    replace F_matches := F_matches.other W16 (Or.inr (slot_ne (Or.inr (ow hw 38 rfl)) (Or.inr (ow hw 36 rfl)) (by decide) (t := (.array .long)) (t' := (.array .long)) (by decide) (by decide)))
    replace V_a2 := V_a2.other W16 (Ne.symm ne12)
    replace V_b10 := V_b10.other W16 (Ne.symm ne_a1_b10)
    replace V_b12 := V_b12.other W16 (Ne.symm ne_a1_b12)
    replace V_b15 := V_b15.other W16 (Ne.symm ne_a1_b15)
    replace F_rows := Fq16
    clear Fq16
    have N16 := Fr.snoc X16 N13 g_a1
    refine own_of (fun tgt kon => XS.aloadN X16.here hx rfl (hb hby d2_98) rfl rfl kon) ?_
    refine own_of (fun tgt kon => XS.iload X16.here hx rfl (hb hby d2_99) rfl kon) ?_
    show own_Wp _ _ _ _ (T16.setTop (mkF m 101 #[rv a1, rv a2, iv p3, iv p4, iv p5, iv p6, iv (1 : Int32), uu, uu, uu] [(.int p6), (.ref a1)]))
    refine own_of (fun tgt kon => XS.iconst X16.here hx rfl (hb hby d2_101) kon) ?_
    refine own_of (fun tgt kon => XS.iadd X16.here hx rfl (hb hby d2_102) rfl kon) ?_
    obtain ⟨T17, h17, k17, X17, e17, E17, A17, st17⟩ := newP X16 hx hZ (ow hw 32 rfl) e16 (g := (mkF m 103 #[rv a1, rv a2, iv p3, iv p4, iv p5, iv p6, iv (1 : Int32), uu, uu, uu] [(.int (p6 + (1 : Int32))), (.ref a1)])) rfl (hb hby d2_103) rfl (own_nneg hLV) (cap := 4) (by rw [own_nat hLV]; omega) (by decide) (by decide) (by decide)
    refine own_of st17 ?_
    clear st17
    obtain ⟨b17, gq17⟩ : ∃ z, z = h16.size := ⟨_, rfl⟩
    rw [← gq17] at A17 ⊢
    have ne_a1_b17 : a1 ≠ b17 := Nat.ne_of_lt (Nat.lt_of_lt_of_le E_a1.lt (Nat.le_of_eq gq17.symm))
    have ne_a2_b17 : a2 ≠ b17 := Nat.ne_of_lt (Nat.lt_of_lt_of_le V_a2.lt (Nat.le_of_eq gq17.symm))
    have ne_b10_b17 : b10 ≠ b17 := Nat.ne_of_lt (Nat.lt_of_lt_of_le V_b10.lt (Nat.le_of_eq gq17.symm))
    have ne_b12_b17 : b12 ≠ b17 := Nat.ne_of_lt (Nat.lt_of_lt_of_le V_b12.lt (Nat.le_of_eq gq17.symm))
    have ne_b15_b17 : b15 ≠ b17 := Nat.ne_of_lt (Nat.lt_of_lt_of_le V_b15.lt (Nat.le_of_eq gq17.symm))
    have g_b17 : n0 ≤ b17 := Nat.le_trans Zs (Nat.le_of_eq gq17.symm)
    have sz_b17 : h0.size ≤ b17 := Nat.le_trans K0.1 (Nat.le_of_eq gq17.symm)
    replace Zs := Nat.le_trans Zs E17.1
    replace K0 := K0.ext E17
    replace E_a1 := E_a1.ext E17
    replace F_bound := F_bound.ext E17
    replace F_headBound := F_headBound.ext E17
    replace F_levels := F_levels.ext E17
    replace F_columns := F_columns.ext E17
    replace F_lastColumn := F_lastColumn.ext E17
    replace F_outsideHead := F_outsideHead.ext E17
    replace F_codePoints := F_codePoints.ext E17
    replace F_columnsOf := F_columnsOf.ext E17
    replace F_rows := F_rows.ext E17
    replace F_matches := F_matches.ext E17
    replace V_a2 := V_a2.ext E17
    replace V_b10 := V_b10.ext E17
    replace V_b12 := V_b12.ext E17
    replace V_b15 := V_b15.ext E17
    have V_b17 : own_Ar Z h17 b17 .long (dp + 1) (fun _ => (.long (0 : Int64))) := own_Ar.new A17 (own_nneg hLV) (own_nat hLV)
    obtain ⟨T18, h18, X18, e18, W18, st18⟩ := putF X17 hx hZ hown (host := "") (Or.inl (ow hw 37 rfl)) Via.refl e17 F_matches E_a1 (Or.inr ⟨(ow hw 38 rfl), rfl, hnm⟩) (ow hw 6 rfl) (ty := (.array .long)) (by decide) rfl rfl (g := (mkF m 105 #[rv a1, rv a2, iv p3, iv p4, iv p5, iv p6, iv (1 : Int32), uu, uu, uu] [(.ref b17), (.ref a1)])) rfl rfl (hb hby d2_105)
    refine own_of st18 ?_
    clear st18
    have Fq18 := Fld.same W18 F_matches
    replace Zs := Nat.le_trans Zs (Keep.of_wr W18).1
    replace K0 := K0.wr W18 (Or.inl (List.mem_of_getElem? (i := 0) rfl))
    replace E_a1 := E_a1.wr W18
    replace F_bound := F_bound.other W18 (Or.inr (slot_ne (Or.inr (ow hw 15 rfl)) (Or.inr (ow hw 38 rfl)) (by decide) (t := .int) (t' := (.array .long)) (by decide) (by decide)))
    replace F_headBound := F_headBound.other W18 (Or.inr (slot_ne (Or.inr (ow hw 17 rfl)) (Or.inr (ow hw 38 rfl)) (by decide) (t := .int) (t' := (.array .long)) (by decide) (by decide)))
    replace F_levels := F_levels.other W18 (Or.inr (slot_ne (Or.inr (ow hw 19 rfl)) (Or.inr (ow hw 38 rfl)) (by decide) (t := .int) (t' := (.array .long)) (by decide) (by decide)))
    replace F_columns := F_columns.other W18 (Or.inr (slot_ne (Or.inr (ow hw 24 rfl)) (Or.inr (ow hw 38 rfl)) (by decide) (t := .long) (t' := (.array .long)) (by decide) (by decide)))
    replace F_lastColumn := F_lastColumn.other W18 (Or.inr (slot_ne (Or.inr (ow hw 26 rfl)) (Or.inr (ow hw 38 rfl)) (by decide) (t := .long) (t' := (.array .long)) (by decide) (by decide)))
    replace F_outsideHead := F_outsideHead.other W18 (Or.inr (slot_ne (Or.inr (ow hw 29 rfl)) (Or.inr (ow hw 38 rfl)) (by decide) (t := .long) (t' := (.array .long)) (by decide) (by decide)))
    replace F_codePoints := F_codePoints.other W18 (Or.inr (slot_ne (Or.inr (ow hw 31 rfl)) (Or.inr (ow hw 38 rfl)) (by decide) (t := (.array .int)) (t' := (.array .long)) (by decide) (by decide)))
    replace F_columnsOf := F_columnsOf.other W18 (Or.inr (slot_ne (Or.inr (ow hw 34 rfl)) (Or.inr (ow hw 38 rfl)) (by decide) (t := (.array .long)) (t' := (.array .long)) (by decide) (by decide)))
    replace F_rows := F_rows.other W18 (Or.inr (slot_ne (Or.inr (ow hw 36 rfl)) (Or.inr (ow hw 38 rfl)) (by decide) (t := (.array .long)) (t' := (.array .long)) (by decide) (by decide)))
    replace V_a2 := V_a2.other W18 (Ne.symm ne12)
    replace V_b10 := V_b10.other W18 (Ne.symm ne_a1_b10)
    replace V_b12 := V_b12.other W18 (Ne.symm ne_a1_b12)
    replace V_b15 := V_b15.other W18 (Ne.symm ne_a1_b15)
    replace V_b17 := V_b17.other W18 (Ne.symm ne_a1_b17)
    replace F_matches := Fq18
    clear Fq18
    have N18 := Fr.snoc X18 N16 g_a1
    refine own_of (fun tgt kon => XS.aloadN X18.here hx rfl (hb hby d2_108) rfl rfl kon) ?_
    show own_Wp _ _ _ _ (T18.setTop (mkF m 109 #[rv a1, rv a2, iv p3, iv p4, iv p5, iv p6, iv (1 : Int32), uu, uu, uu] [(.ref a1)]))
    obtain ⟨T19, X19, e19, st19⟩ := getF X18 hx hZ hown (host := "") (Or.inl (ow hw 30 rfl)) Via.refl e18 F_codePoints (g := (mkF m 109 #[rv a1, rv a2, iv p3, iv p4, iv p5, iv p6, iv (1 : Int32), uu, uu, uu] [(.ref a1)])) rfl rfl (hb hby d2_109)
    refine own_of st19 ?_
    clear st19
    refine own_of (fun tgt kon => XS.iconst X19.here hx rfl (hb hby d2_112) kon) ?_
    refine own_callS X19 hx hZ (y := (⟨"java/util/Arrays", "fill", "([II)V"⟩ : MethodName)) (argsL := [(.ref b10), (.int (-1 : Int32))]) (rest := []) (W := 0) hown (ow hw 39 rfl) (ow hw 40 rfl) (ow hw 41 rfl) (ow hw 42 rfl) (by decide) e19 (rmaf l Z a0 hw [] b10 (-1 : Int32) (fun _ => (.int (0 : Int32))) h18 n0 Zs V_b10 g_b10) (by decide) (by decide) (by decide) (by decide) rfl (by rw [hml]; rfl) (lenOf own_pd1 rfl) rfl (by show 2 * 0 + _ ≤ _; exact Nat.le_of_eq rfl) (hb hby d2_113) ?_
    rintro T20 L20 _ X20 ⟨rfl, N20q, Kq20, Vq20⟩
    have N20 := Fr.app N18 N20q
    show own_Wp _ _ _ _ (T20.setTop (mkF m 116 #[rv a1, rv a2, iv p3, iv p4, iv p5, iv p6, iv (1 : Int32), uu, uu, uu] []))
    replace Zs := Nat.le_trans Zs Kq20.1
    replace K0 := K0.trans Kq20 (allS (P := fun z => z ∈ _ ∨ _ ≤ z) (Or.inr sz_b10) all0)
    replace E_a1 := E_a1.keep Kq20
    replace F_bound := F_bound.keep Kq20 (ninS ne_a1_b10 nin0)
    replace F_headBound := F_headBound.keep Kq20 (ninS ne_a1_b10 nin0)
    replace F_levels := F_levels.keep Kq20 (ninS ne_a1_b10 nin0)
    replace F_columns := F_columns.keep Kq20 (ninS ne_a1_b10 nin0)
    replace F_lastColumn := F_lastColumn.keep Kq20 (ninS ne_a1_b10 nin0)
    replace F_outsideHead := F_outsideHead.keep Kq20 (ninS ne_a1_b10 nin0)
    replace F_codePoints := F_codePoints.keep Kq20 (ninS ne_a1_b10 nin0)
    replace F_columnsOf := F_columnsOf.keep Kq20 (ninS ne_a1_b10 nin0)
    replace F_rows := F_rows.keep Kq20 (ninS ne_a1_b10 nin0)
    replace F_matches := F_matches.keep Kq20 (ninS ne_a1_b10 nin0)
    replace V_a2 := V_a2.keep Kq20 (ninS ne_a2_b10 nin0)
    replace V_b12 := V_b12.keep Kq20 (ninS (Ne.symm ne_b10_b12) nin0)
    replace V_b15 := V_b15.keep Kq20 (ninS (Ne.symm ne_b10_b15) nin0)
    replace V_b17 := V_b17.keep Kq20 (ninS (Ne.symm ne_b10_b17) nin0)
    have V_b10 := Vq20.fn (f' := fun k => .int (cp0 k)) (fun k hk => congrArg Value.int (hcp0 k).symm)
    replace V_b12 := V_b12.fn (f' := fun k => .long (co0 k)) (fun k hk => congrArg Value.long (hco0 k).symm)
    refine own_of (fun tgt kon => XS.iconst X20.here hx rfl (hb hby d2_116) kon) ?_
    refine own_of (fun tgt kon => XS.istore X20.here hx rfl (hb hby d2_117) rfl (l' := #[rv a1, rv a2, iv p3, iv p4, iv p5, iv p6, iv (1 : Int32), iv (1 : Int32), uu, uu]) rfl kon) ?_
    refine own_of (fun tgt kon => XS.iload X20.here hx rfl (hb hby d2_119) rfl kon) ?_
    refine own_of (fun tgt kon => XS.iload X20.here hx rfl (hb hby d2_121) rfl kon) ?_
    have hc123 : ¬ ((1 : Int32) < (1 : Int32)) := by decide
    refine own_of (fun tgt kon => XS.icmpNo X20.here hx rfl (hb hby d2_123) rfl (flt hc123).2.2.1 kon) ?_
    refine own_of (fun tgt kon => XS.aloadN X20.here hx rfl (hb hby d2_126) rfl rfl kon) ?_
    show own_Wp _ _ _ _ (T20.setTop (mkF m 127 #[rv a1, rv a2, iv p3, iv p4, iv p5, iv p6, iv (1 : Int32), iv (1 : Int32), uu, uu] [(.ref a1)]))
    refine own_of (fun tgt kon => XS.aloadN X20.here hx rfl (hb hby d2_127) rfl rfl kon) ?_
    refine own_of (fun tgt kon => XS.iload X20.here hx rfl (hb hby d2_128) rfl kon) ?_
    refine own_of (fun tgt kon => XS.iconst X20.here hx rfl (hb hby d2_130) kon) ?_
    refine own_of (fun tgt kon => XS.isub X20.here hx rfl (hb hby d2_131) rfl kon) ?_
    refine own_iaload X20 hx hZ rfl V_a2 (j := ((1 : Int32) - (1 : Int32))) (i := 0) (v := (tx 0)) (by decide) (by decide) rfl rfl rfl (hb hby d2_132) ?_
    show own_Wp _ _ _ _ (T20.setTop (mkF m 133 #[rv a1, rv a2, iv p3, iv p4, iv p5, iv p6, iv (1 : Int32), iv (1 : Int32), uu, uu] [(.int (tx 0)), (.ref a1)]))
    refine own_callP X20 hx hZ (y := (⟨"com/example/close_words/closewords/BitRows", "slot", "(I)I"⟩ : MethodName)) (a := a1) (argsL := [(.int (tx 0))]) (rest := []) (W := 0) hown (ow hw 52 rfl) (ow hw 53 rfl) (ow hw 6 rfl) (ow hw 54 rfl) (ow hw 7 rfl) (ow hw 55 rfl) (by decide) rfl E_a1 (rmslot l Z a0 hw [] a1 (tx 0) b10 cp0 RR1 (Int32.ofNat RR1) T20.heap n0 Zs E_a1 F_codePoints V_b10 hR1 hok1.1 (own_ofN (by have := hok1.2; omega))) (by decide) (by decide) (by decide) (by decide) rfl (by rw [hml]; rfl) (lenOf own_pd3 rfl) rfl (by show 2 * 0 + _ ≤ _; exact Nat.le_of_eq rfl) (hb hby d2_133) ?_
    rintro T21 L21 _ X21 ⟨rfl, N21q, e21⟩
    have N21 := Fr.app N20 N21q
    show own_Wp _ _ _ _ (T21.setTop (mkF m 136 #[rv a1, rv a2, iv p3, iv p4, iv p5, iv p6, iv (1 : Int32), iv (1 : Int32), uu, uu] [(.int (Int32.ofNat RR1))]))
    refine own_of (fun tgt kon => XS.istore X21.here hx rfl (hb hby d2_136) rfl (l' := #[rv a1, rv a2, iv p3, iv p4, iv p5, iv p6, iv (1 : Int32), iv (1 : Int32), iv (Int32.ofNat RR1), uu]) rfl kon) ?_
    refine own_of (fun tgt kon => XS.aloadN X21.here hx rfl (hb hby d2_138) rfl rfl kon) ?_
    obtain ⟨T22, X22, e22, st22⟩ := getF X21 hx hZ hown (host := "") (Or.inl (ow hw 30 rfl)) Via.refl e21 F_codePoints (g := (mkF m 139 #[rv a1, rv a2, iv p3, iv p4, iv p5, iv p6, iv (1 : Int32), iv (1 : Int32), iv (Int32.ofNat RR1), uu] [(.ref a1)])) rfl rfl (hb hby d2_139)
    refine own_of st22 ?_
    clear st22
    refine own_of (fun tgt kon => XS.iload X22.here hx rfl (hb hby d2_142) rfl kon) ?_
    refine own_of (fun tgt kon => XS.aloadN X22.here hx rfl (hb hby d2_144) rfl rfl kon) ?_
    show own_Wp _ _ _ _ (T22.setTop (mkF m 145 #[rv a1, rv a2, iv p3, iv p4, iv p5, iv p6, iv (1 : Int32), iv (1 : Int32), iv (Int32.ofNat RR1), uu] [(.ref a2), (.int (Int32.ofNat RR1)), (.ref b10)]))
    refine own_of (fun tgt kon => XS.iload X22.here hx rfl (hb hby d2_145) rfl kon) ?_
    refine own_of (fun tgt kon => XS.iconst X22.here hx rfl (hb hby d2_147) kon) ?_
    refine own_of (fun tgt kon => XS.isub X22.here hx rfl (hb hby d2_148) rfl kon) ?_
    refine own_iaload X22 hx hZ e22 V_a2 (j := ((1 : Int32) - (1 : Int32))) (i := 0) (v := (tx 0)) (by decide) (by decide) rfl rfl rfl (hb hby d2_149) ?_
    obtain ⟨T23, h23, X23, e23, W23, Aq23, st23⟩ := own_stI X22 hx hZ e22 V_b10 (j := (Int32.ofNat RR1)) (i := RR1) (x := (tx 0)) (own_ofN (by have := hok1.2; omega)) hok1.2 (g := (mkF m 150 #[rv a1, rv a2, iv p3, iv p4, iv p5, iv p6, iv (1 : Int32), iv (1 : Int32), iv (Int32.ofNat RR1), uu] [(.int (tx 0)), (.int (Int32.ofNat RR1)), (.ref b10)])) rfl rfl (hb hby d2_150)
    refine own_of st23 ?_
    clear st23
    replace Zs := Nat.le_trans Zs (Keep.of_wr W23).1
    replace K0 := K0.wr W23 (Or.inr sz_b10)
    replace E_a1 := E_a1.wr W23
    replace F_bound := F_bound.other W23 (Or.inl ne_a1_b10)
    replace F_headBound := F_headBound.other W23 (Or.inl ne_a1_b10)
    replace F_levels := F_levels.other W23 (Or.inl ne_a1_b10)
    replace F_columns := F_columns.other W23 (Or.inl ne_a1_b10)
    replace F_lastColumn := F_lastColumn.other W23 (Or.inl ne_a1_b10)
    replace F_outsideHead := F_outsideHead.other W23 (Or.inl ne_a1_b10)
    replace F_codePoints := F_codePoints.other W23 (Or.inl ne_a1_b10)
    replace F_columnsOf := F_columnsOf.other W23 (Or.inl ne_a1_b10)
    replace F_rows := F_rows.other W23 (Or.inl ne_a1_b10)
    replace F_matches := F_matches.other W23 (Or.inl ne_a1_b10)
    replace V_a2 := V_a2.other W23 ne_a2_b10
    replace V_b12 := V_b12.other W23 (Ne.symm ne_b10_b12)
    replace V_b15 := V_b15.other W23 (Ne.symm ne_b10_b15)
    replace V_b17 := V_b17.other W23 (Ne.symm ne_b10_b17)
    replace V_b10 := Aq23
    clear Aq23
    replace V_b10 := V_b10.fn (f' := fun k => .int (cp1 k)) (fun k hk => by rw [hcp1]; exact own_setI _ _ _ k)
    have N23 := Fr.snoc X23 N21 g_b10
    show own_Wp _ _ _ _ (T23.setTop (mkF m 151 #[rv a1, rv a2, iv p3, iv p4, iv p5, iv p6, iv (1 : Int32), iv (1 : Int32), iv (Int32.ofNat RR1), uu] []))
    refine own_of (fun tgt kon => XS.aloadN X23.here hx rfl (hb hby d2_151) rfl rfl kon) ?_
    obtain ⟨T24, X24, e24, st24⟩ := getF X23 hx hZ hown (host := "") (Or.inl (ow hw 33 rfl)) Via.refl e23 F_columnsOf (g := (mkF m 152 #[rv a1, rv a2, iv p3, iv p4, iv p5, iv p6, iv (1 : Int32), iv (1 : Int32), iv (Int32.ofNat RR1), uu] [(.ref a1)])) rfl rfl (hb hby d2_152)
    refine own_of st24 ?_
    clear st24
    refine own_of (fun tgt kon => XS.iload X24.here hx rfl (hb hby d2_155) rfl kon) ?_
    refine own_of (fun tgt kon => Jvm.Free.XT.dup2 X24.here hx rfl (hb hby d2_157) rfl rfl rfl kon) ?_
    refine own_laload X24 hx hZ e24 V_b12 (j := (Int32.ofNat RR1)) (i := RR1) (v := (co0 RR1)) (own_ofN (by have := hok1.2; omega)) hok1.2 rfl rfl rfl (hb hby d2_158) ?_
    show own_Wp _ _ _ _ (T24.setTop (mkF m 159 #[rv a1, rv a2, iv p3, iv p4, iv p5, iv p6, iv (1 : Int32), iv (1 : Int32), iv (Int32.ofNat RR1), uu] [(.long (co0 RR1)), (.int (Int32.ofNat RR1)), (.ref b12)]))
    refine own_of (fun tgt kon => XS.lconst X24.here hx rfl (hb hby d2_159) kon) ?_
    refine own_of (fun tgt kon => XS.iload X24.here hx rfl (hb hby d2_160) rfl kon) ?_
    refine own_of (fun tgt kon => XS.lshl X24.here hx rfl (hb hby d2_162) rfl kon) ?_
    refine own_of (fun tgt kon => XS.lor X24.here hx rfl (hb hby d2_163) rfl kon) ?_
    obtain ⟨T25, h25, X25, e25, W25, Aq25, st25⟩ := own_stJ X24 hx hZ e24 V_b12 (j := (Int32.ofNat RR1)) (i := RR1) (x := ((co0 RR1) ||| ((1 : Int64) <<< ((1 : Int32) &&& 0x3f).toInt64))) (own_ofN (by have := hok1.2; omega)) hok1.2 (g := (mkF m 164 #[rv a1, rv a2, iv p3, iv p4, iv p5, iv p6, iv (1 : Int32), iv (1 : Int32), iv (Int32.ofNat RR1), uu] [(.long ((co0 RR1) ||| ((1 : Int64) <<< ((1 : Int32) &&& 0x3f).toInt64))), (.int (Int32.ofNat RR1)), (.ref b12)])) rfl rfl (hb hby d2_164)
    refine own_of st25 ?_
    clear st25
    replace Zs := Nat.le_trans Zs (Keep.of_wr W25).1
    replace K0 := K0.wr W25 (Or.inr sz_b12)
    replace E_a1 := E_a1.wr W25
    replace F_bound := F_bound.other W25 (Or.inl ne_a1_b12)
    replace F_headBound := F_headBound.other W25 (Or.inl ne_a1_b12)
    replace F_levels := F_levels.other W25 (Or.inl ne_a1_b12)
    replace F_columns := F_columns.other W25 (Or.inl ne_a1_b12)
    replace F_lastColumn := F_lastColumn.other W25 (Or.inl ne_a1_b12)
    replace F_outsideHead := F_outsideHead.other W25 (Or.inl ne_a1_b12)
    replace F_codePoints := F_codePoints.other W25 (Or.inl ne_a1_b12)
    replace F_columnsOf := F_columnsOf.other W25 (Or.inl ne_a1_b12)
    replace F_rows := F_rows.other W25 (Or.inl ne_a1_b12)
    replace F_matches := F_matches.other W25 (Or.inl ne_a1_b12)
    replace V_a2 := V_a2.other W25 ne_a2_b12
    replace V_b15 := V_b15.other W25 (Ne.symm ne_b12_b15)
    replace V_b17 := V_b17.other W25 (Ne.symm ne_b12_b17)
    replace V_b10 := V_b10.other W25 ne_b10_b12
    replace V_b12 := Aq25
    clear Aq25
    replace V_b12 := V_b12.fn (f' := fun k => .long (co1 k)) (fun k hk => by rw [hco1]; exact own_setJ _ _ _ k)
    have N25 := Fr.snoc X25 N23 g_b12
    show own_Wp _ _ _ _ (T25.setTop (mkF m 165 #[rv a1, rv a2, iv p3, iv p4, iv p5, iv p6, iv (1 : Int32), iv (1 : Int32), iv (Int32.ofNat RR1), uu] []))
    refine own_of (fun tgt kon => XS.iinc X25.here hx rfl (hb hby d2_165) rfl (l' := #[rv a1, rv a2, iv p3, iv p4, iv p5, iv p6, iv (1 : Int32), iv ((1 : Int32) + (1 : Int32)), iv (Int32.ofNat RR1), uu]) rfl kon) ?_
    refine own_of (fun tgt kon => XS.goto X25.here hx rfl (pc0 := 168) (pc' := 119) rfl (hb hby d2_168) (by decide) (by decide) kon) ?_
    refine own_of (fun tgt kon => XS.iload X25.here hx rfl (hb hby d2_119) rfl kon) ?_
    refine own_of (fun tgt kon => XS.iload X25.here hx rfl (hb hby d2_121) rfl kon) ?_
    have hc123_2 : (1 : Int32) < ((1 : Int32) + (1 : Int32)) := by decide
    refine own_of (fun tgt kon => XS.icmpYes X25.here hx rfl (pc0 := 123) (pc' := 171) rfl (hb hby d2_123) rfl (tlt hc123_2).2.2.1 (by decide) (by decide) kon) ?_
    refine own_of (fun tgt kon => XS.iconst X25.here hx rfl (hb hby d2_171) kon) ?_
    show own_Wp _ _ _ _ (T25.setTop (mkF m 172 #[rv a1, rv a2, iv p3, iv p4, iv p5, iv p6, iv (1 : Int32), iv ((1 : Int32) + (1 : Int32)), iv (Int32.ofNat RR1), uu] [(.int (0 : Int32))]))
    refine own_of (fun tgt kon => XS.istore X25.here hx rfl (hb hby d2_172) rfl (l' := #[rv a1, rv a2, iv p3, iv p4, iv p5, iv p6, iv (1 : Int32), iv (0 : Int32), iv (Int32.ofNat RR1), uu]) rfl kon) ?_
    show own_Wp _ _ _ _ (T25.setTop (mkF m 174 #[rv a1, rv a2, iv p3, iv p4, iv p5, iv p6, iv (1 : Int32), iv (0 : Int32), iv (Int32.ofNat RR1), uu] []))
    refine own_of (fun tgt kon => XS.iload X25.here hx rfl (hb hby d2_174) rfl kon) ?_
    refine own_of (fun tgt kon => XS.iloadN X25.here hx rfl (hb hby d2_176) rfl kon) ?_
    have hc177 : ¬ (p3 < (0 : Int32)) := by rw [Int32.lt_iff_toInt_lt, hbd]; have l : (0 : Int32).toInt = 0 := (by decide); omega
    refine own_of (fun tgt kon => XS.icmpNo X25.here hx rfl (hb hby d2_177) rfl (flt hc177).2.2.1 kon) ?_
    show own_Wp _ _ _ _ (T25.setTop (mkF m 180 #[rv a1, rv a2, iv p3, iv p4, iv p5, iv p6, iv (1 : Int32), iv (0 : Int32), iv (Int32.ofNat RR1), uu] []))
    refine own_of (fun tgt kon => XS.iload X25.here hx rfl (hb hby d2_180) rfl kon) ?_
    refine own_of (fun tgt kon => XS.iload X25.here hx rfl (hb hby d2_182) rfl kon) ?_
    refine own_callS X25 hx hZ (y := (⟨"java/lang/Math", "min", "(II)I"⟩ : MethodName)) (argsL := [(.int (0 : Int32)), (.int (1 : Int32))]) (rest := []) (W := 0) hown (ow hw 43 rfl) (ow hw 44 rfl) (ow hw 45 rfl) (ow hw 46 rfl) (by decide) e25 (rmmin l Z a0 hw [] (0 : Int32) (1 : Int32) h25 n0 Zs) (by decide) (by decide) (by decide) (by decide) rfl (by rw [hml]; rfl) (lenOf own_pd2 rfl) rfl (by show 2 * 0 + _ ≤ _; exact Nat.le_of_eq rfl) (hb hby d2_184) ?_
    rintro T26 L26 _ X26 ⟨rfl, N26q, e26⟩
    have N26 := Fr.app N25 N26q
    show own_Wp _ _ _ _ (T26.setTop (mkF m 187 #[rv a1, rv a2, iv p3, iv p4, iv p5, iv p6, iv (1 : Int32), iv (0 : Int32), iv (Int32.ofNat RR1), uu] [(.int (own_mni (0 : Int32) (1 : Int32)))]))
    refine own_callS X26 hx hZ (y := (⟨"com/example/close_words/closewords/BitRows", "upTo", "(I)J"⟩ : MethodName)) (argsL := [(.int (own_mni (0 : Int32) (1 : Int32)))]) (rest := []) (W := 0) hown (ow hw 20 rfl) (ow hw 21 rfl) (ow hw 7 rfl) (ow hw 22 rfl) (by decide) e26 (rmup l Z a0 hw [] (own_mni (0 : Int32) (1 : Int32)) h25 n0 Zs) (by decide) (by decide) (by decide) (by decide) rfl (by rw [hml]; rfl) (lenOf own_pd0 rfl) rfl (by show 2 * 0 + _ ≤ _; exact Nat.le_of_eq rfl) (hb hby d2_187) ?_
    rintro T27 L27 _ X27 ⟨rfl, N27q, e27⟩
    have N27 := Fr.app N26 N27q
    show own_Wp _ _ _ _ (T27.setTop (mkF m 190 #[rv a1, rv a2, iv p3, iv p4, iv p5, iv p6, iv (1 : Int32), iv (0 : Int32), iv (Int32.ofNat RR1), uu] [(.long (own_upTo (own_mni (0 : Int32) (1 : Int32))))]))
    refine own_of (fun tgt kon => XS.lstore X27.here hx rfl (hb hby d2_190) rfl (l' := #[rv a1, rv a2, iv p3, iv p4, iv p5, iv p6, iv (1 : Int32), iv (0 : Int32), jv (own_upTo (own_mni (0 : Int32) (1 : Int32))), ss]) rfl kon) ?_
    show own_Wp _ _ _ _ (T27.setTop (mkF m 192 #[rv a1, rv a2, iv p3, iv p4, iv p5, iv p6, iv (1 : Int32), iv (0 : Int32), jv (own_upTo (own_mni (0 : Int32) (1 : Int32))), ss] []))
    show own_Wp _ _ _ _ (T27.setTop (mkF m 192 #[rv a1, rv a2, iv p3, iv p4, iv p5, iv p6, iv (1 : Int32), iv (0 : Int32), jv (own_rc 1 0), ss] []))
    refine own_of (fun tgt kon => XS.aloadN X27.here hx rfl (hb hby d2_192) rfl rfl kon) ?_
    obtain ⟨T28, X28, e28, st28⟩ := getF X27 hx hZ hown (host := "") (Or.inl (ow hw 35 rfl)) Via.refl e27 F_rows (g := (mkF m 193 #[rv a1, rv a2, iv p3, iv p4, iv p5, iv p6, iv (1 : Int32), iv (0 : Int32), jv (own_rc 1 0), ss] [(.ref a1)])) rfl rfl (hb hby d2_193)
    refine own_of st28 ?_
    clear st28
    refine own_of (fun tgt kon => XS.iload X28.here hx rfl (hb hby d2_196) rfl kon) ?_
    refine own_of (fun tgt kon => XS.iload X28.here hx rfl (hb hby d2_198) rfl kon) ?_
    refine own_of (fun tgt kon => XS.iload X28.here hx rfl (hb hby d2_200) rfl kon) ?_
    show own_Wp _ _ _ _ (T28.setTop (mkF m 202 #[rv a1, rv a2, iv p3, iv p4, iv p5, iv p6, iv (1 : Int32), iv (0 : Int32), jv (own_rc 1 0), ss] [(.int p5), (.int (0 : Int32)), (.int (0 : Int32)), (.ref b15)]))
    have hc202 : ¬ (p5 < (0 : Int32)) := by rw [Int32.lt_iff_toInt_lt, hhb]; have l : (0 : Int32).toInt = 0 := (by decide); omega
    refine own_of (fun tgt kon => XS.icmpYes X28.here hx rfl (pc0 := 202) (pc' := 223) rfl (hb hby d2_202) rfl (flt hc202).2.2.2 (by decide) (by decide) kon) ?_
    refine own_of (fun tgt kon => XS.lload X28.here hx rfl (hb hby d2_223) rfl kon) ?_
    obtain ⟨T29, h29, X29, e29, W29, Aq29, st29⟩ := own_stJ X28 hx hZ e28 V_b15 (j := (0 : Int32)) (i := 0) (x := (own_rc 1 0)) (by decide) (by omega) (g := (mkF m 225 #[rv a1, rv a2, iv p3, iv p4, iv p5, iv p6, iv (1 : Int32), iv (0 : Int32), jv (own_rc 1 0), ss] [(.long (own_rc 1 0)), (.int (0 : Int32)), (.ref b15)])) rfl rfl (hb hby d2_225)
    refine own_of st29 ?_
    clear st29
    replace Zs := Nat.le_trans Zs (Keep.of_wr W29).1
    replace K0 := K0.wr W29 (Or.inr sz_b15)
    replace E_a1 := E_a1.wr W29
    replace F_bound := F_bound.other W29 (Or.inl ne_a1_b15)
    replace F_headBound := F_headBound.other W29 (Or.inl ne_a1_b15)
    replace F_levels := F_levels.other W29 (Or.inl ne_a1_b15)
    replace F_columns := F_columns.other W29 (Or.inl ne_a1_b15)
    replace F_lastColumn := F_lastColumn.other W29 (Or.inl ne_a1_b15)
    replace F_outsideHead := F_outsideHead.other W29 (Or.inl ne_a1_b15)
    replace F_codePoints := F_codePoints.other W29 (Or.inl ne_a1_b15)
    replace F_columnsOf := F_columnsOf.other W29 (Or.inl ne_a1_b15)
    replace F_rows := F_rows.other W29 (Or.inl ne_a1_b15)
    replace F_matches := F_matches.other W29 (Or.inl ne_a1_b15)
    replace V_a2 := V_a2.other W29 ne_a2_b15
    replace V_b12 := V_b12.other W29 ne_b12_b15
    replace V_b17 := V_b17.other W29 (Ne.symm ne_b15_b17)
    replace V_b10 := V_b10.other W29 ne_b10_b15
    replace V_b15 := Aq29
    clear Aq29
    have V_b15 := V_b15.fn (f' := fun y => .long (own_r0k 1 ph out 1 y)) (fun y hy => by
        have q := own_setR0 1 ph out 0 y
        rw [show own_R0 1 ph out 0 = own_rc 1 0 from if_neg (by omega)] at q
        rw [← q]
        unfold own_set own_upd own_r0k
        split
        · rfl
        · rw [if_neg (by omega)])
    have N29 := Fr.snoc X29 N27 g_b15
    refine own_of (fun tgt kon => XS.iinc X29.here hx rfl (hb hby d2_226) rfl (l' := #[rv a1, rv a2, iv p3, iv p4, iv p5, iv p6, iv (1 : Int32), iv ((0 : Int32) + (1 : Int32)), jv (own_rc 1 0), ss]) rfl kon) ?_
    refine own_of (fun tgt kon => XS.goto X29.here hx rfl (pc0 := 229) (pc' := 174) rfl (hb hby d2_229) (by decide) (by decide) kon) ?_
    show own_Wp _ _ _ _ (T29.setTop (mkF m 174 #[rv a1, rv a2, iv p3, iv p4, iv p5, iv p6, iv (1 : Int32), iv ((0 : Int32) + (1 : Int32)), jv (own_rc 1 0), ss] []))
    rw [show ((0 : Int32) + (1 : Int32)) = Int32.ofNat 1 from rfl]
    have J174 : ∀ (nn : Nat) (T30 : State) (lc30 : List Loc) (h30 : Heap) (k : Nat) (z8 : Int64), (Stand p l e ({ frames := 1, cells := 4, slots := 516, locals := 15 } : Room) s m #[(.ref a1), (.ref a2), (.int p3), (.int p4), (.int p5), (.int p6)] below meth c T30 lc30 4 516) → (T30.heap = h30) → (Fr n0 lc30) → (n0 ≤ h30.size) → (Keep h0 h30 [a1]) → (Exa Z h30 a1 "com/example/close_words/closewords/BitRows") → (Fld Z h30 a1 "com/example/close_words/closewords/BitRows" "bound" "I" (.int p3)) → (Fld Z h30 a1 "com/example/close_words/closewords/BitRows" "headBound" "I" (.int p5)) → (Fld Z h30 a1 "com/example/close_words/closewords/BitRows" "levels" "I" (.int (p3 + (1 : Int32)))) → (Fld Z h30 a1 "com/example/close_words/closewords/BitRows" "columns" "J" (.long (own_upTo (1 : Int32)))) → (Fld Z h30 a1 "com/example/close_words/closewords/BitRows" "lastColumn" "J" (.long ((1 : Int64) <<< ((1 : Int32) &&& 0x3f).toInt64))) → (Fld Z h30 a1 "com/example/close_words/closewords/BitRows" "outsideHead" "J" (.long out)) → (Fld Z h30 a1 "com/example/close_words/closewords/BitRows" "codePoints" "[I" (.ref b10)) → (Fld Z h30 a1 "com/example/close_words/closewords/BitRows" "columnsOf" "[J" (.ref b12)) → (Fld Z h30 a1 "com/example/close_words/closewords/BitRows" "rows" "[J" (.ref b15)) → (Fld Z h30 a1 "com/example/close_words/closewords/BitRows" "matches" "[J" (.ref b17)) → (own_Ar Z h30 a2 .int 1 (fun k => .int (tx k))) → (own_Ar Z h30 b12 .long 128 (fun k => .long (co1 k))) → (own_Ar Z h30 b15 .long RL (fun y => .long (own_r0k 1 ph out k y))) → (own_Ar Z h30 b17 .long (dp + 1) (fun _ => (.long (0 : Int64)))) → (own_Ar Z h30 b10 .int 128 (fun k => .int (cp1 k))) → (1 ≤ k) → (k ≤ bd + 1) → (bd + 1 - k < nn) → own_Wp p.tables e below (own_K ({ frames := 1, cells := 4, slots := 516, locals := 15 } : Room) s below (Q_rmct1 Z a1 a2 p3 p4 p5 p6 tx bd ph dp RL cp0 cp1 co0 co1 RR1 h0 n0)) (T30.setTop (mkF m 174 #[rv a1, rv a2, iv p3, iv p4, iv p5, iv p6, iv (1 : Int32), iv (Int32.ofNat k), jv z8, ss] [])) := by
      clear K0 E_a1 F_bound F_headBound F_levels F_columns F_lastColumn F_outsideHead F_codePoints F_columnsOf F_rows F_matches V_a2 V_b12 V_b15 V_b17 V_b10 Zs
      intro nn
      induction nn with
      | zero => intro T30 lc30 h30 k z8 X30 e30 N30 Zs K0 E_a1 F_bound F_headBound F_levels F_columns F_lastColumn F_outsideHead F_codePoints F_columnsOf F_rows F_matches V_a2 V_b12 V_b15 V_b17 V_b10 hk1 hk hmu; exact absurd hmu (Nat.not_lt_zero _)
      | succ nn ih =>
        skip
        intro T30 lc30 h30 k z8 X30 e30 N30 Zs K0 E_a1 F_bound F_headBound F_levels F_columns F_lastColumn F_outsideHead F_codePoints F_columnsOf F_rows F_matches V_a2 V_b12 V_b15 V_b17 V_b10 hk1 hk hmu
        refine own_of (fun tgt kon => XS.iload X30.here hx rfl (hb hby d2_174) rfl kon) ?_
        refine own_of (fun tgt kon => XS.iloadN X30.here hx rfl (hb hby d2_176) rfl kon) ?_
        by_cases hc177_2 : p3 < (Int32.ofNat k)
        · skip
          refine own_of (fun tgt kon => XS.icmpYes X30.here hx rfl (pc0 := 177) (pc' := 232) rfl (hb hby d2_177) rfl (tlt hc177_2).2.2.1 (by decide) (by decide) kon) ?_
          show own_Wp _ _ _ _ (T30.setTop (mkF m 232 #[rv a1, rv a2, iv p3, iv p4, iv p5, iv p6, iv (1 : Int32), iv (Int32.ofNat k), jv z8, ss] []))
          refine own_ret X30 hlk none (fun _ => rfl) (fun fs hr => X30.returnOut hx hrt (hb hby d2_232) hr) ?_ (by decide) (by decide)
          rw [e30]
          have hge : ¬ k < bd + 1 := by
            intro q
            have q2 := hc177_2
            rw [Int32.lt_iff_toInt_lt, hbd, own_ofN (by omega)] at q2
            omega
          obtain rfl : k = bd + 1 := by omega
          exact ⟨rfl, N30, K0, E_a1, b10, b12, b15, b17, g_b10, g_b12, g_b15, g_b17, ne_a1_b15, ne_a1_b17, ne_b10_b15, ne_b10_b17, ne_b12_b15, ne_b12_b17, (Ne.symm ne_b15_b17), F_bound, F_headBound, F_levels, F_columns, F_lastColumn, h_out ▸ F_outsideHead, F_codePoints, F_columnsOf, F_rows, F_matches, V_b10, V_b12, h_out ▸ V_b15, V_b17⟩
        · skip
          refine own_of (fun tgt kon => XS.icmpNo X30.here hx rfl (hb hby d2_177) rfl (flt hc177_2).2.2.1 kon) ?_
          show own_Wp _ _ _ _ (T30.setTop (mkF m 180 #[rv a1, rv a2, iv p3, iv p4, iv p5, iv p6, iv (1 : Int32), iv (Int32.ofNat k), jv z8, ss] []))
          have hlt : k < bd + 1 := by
            have q := hc177_2
            rw [Int32.lt_iff_toInt_lt, hbd, own_ofN (by omega)] at q
            omega
          refine own_of (fun tgt kon => XS.iload X30.here hx rfl (hb hby d2_180) rfl kon) ?_
          refine own_of (fun tgt kon => XS.iload X30.here hx rfl (hb hby d2_182) rfl kon) ?_
          refine own_callS X30 hx hZ (y := (⟨"java/lang/Math", "min", "(II)I"⟩ : MethodName)) (argsL := [(.int (Int32.ofNat k)), (.int (1 : Int32))]) (rest := []) (W := 0) hown (ow hw 43 rfl) (ow hw 44 rfl) (ow hw 45 rfl) (ow hw 46 rfl) (by decide) e30 (rmmin l Z a0 hw [] (Int32.ofNat k) (1 : Int32) h30 n0 Zs) (by decide) (by decide) (by decide) (by decide) rfl (by rw [hml]; rfl) (lenOf own_pd2 rfl) rfl (by show 2 * 0 + _ ≤ _; exact Nat.le_of_eq rfl) (hb hby d2_184) ?_
          rintro T31 L31 _ X31 ⟨rfl, N31q, e31⟩
          have N31 := Fr.app N30 N31q
          show own_Wp _ _ _ _ (T31.setTop (mkF m 187 #[rv a1, rv a2, iv p3, iv p4, iv p5, iv p6, iv (1 : Int32), iv (Int32.ofNat k), jv z8, ss] [(.int (own_mni (Int32.ofNat k) (1 : Int32)))]))
          refine own_callS X31 hx hZ (y := (⟨"com/example/close_words/closewords/BitRows", "upTo", "(I)J"⟩ : MethodName)) (argsL := [(.int (own_mni (Int32.ofNat k) (1 : Int32)))]) (rest := []) (W := 0) hown (ow hw 20 rfl) (ow hw 21 rfl) (ow hw 7 rfl) (ow hw 22 rfl) (by decide) e31 (rmup l Z a0 hw [] (own_mni (Int32.ofNat k) (1 : Int32)) h30 n0 Zs) (by decide) (by decide) (by decide) (by decide) rfl (by rw [hml]; rfl) (lenOf own_pd0 rfl) rfl (by show 2 * 0 + _ ≤ _; exact Nat.le_of_eq rfl) (hb hby d2_187) ?_
          rintro T32 L32 _ X32 ⟨rfl, N32q, e32⟩
          have N32 := Fr.app N31 N32q
          show own_Wp _ _ _ _ (T32.setTop (mkF m 190 #[rv a1, rv a2, iv p3, iv p4, iv p5, iv p6, iv (1 : Int32), iv (Int32.ofNat k), jv z8, ss] [(.long (own_upTo (own_mni (Int32.ofNat k) (1 : Int32))))]))
          refine own_of (fun tgt kon => XS.lstore X32.here hx rfl (hb hby d2_190) rfl (l' := #[rv a1, rv a2, iv p3, iv p4, iv p5, iv p6, iv (1 : Int32), iv (Int32.ofNat k), jv (own_upTo (own_mni (Int32.ofNat k) (1 : Int32))), ss]) rfl kon) ?_
          show own_Wp _ _ _ _ (T32.setTop (mkF m 192 #[rv a1, rv a2, iv p3, iv p4, iv p5, iv p6, iv (1 : Int32), iv (Int32.ofNat k), jv (own_upTo (own_mni (Int32.ofNat k) (1 : Int32))), ss] []))
          show own_Wp _ _ _ _ (T32.setTop (mkF m 192 #[rv a1, rv a2, iv p3, iv p4, iv p5, iv p6, iv (1 : Int32), iv (Int32.ofNat k), jv (own_rc 1 k), ss] []))
          refine own_of (fun tgt kon => XS.aloadN X32.here hx rfl (hb hby d2_192) rfl rfl kon) ?_
          obtain ⟨T33, X33, e33, st33⟩ := getF X32 hx hZ hown (host := "") (Or.inl (ow hw 35 rfl)) Via.refl e32 F_rows (g := (mkF m 193 #[rv a1, rv a2, iv p3, iv p4, iv p5, iv p6, iv (1 : Int32), iv (Int32.ofNat k), jv (own_rc 1 k), ss] [(.ref a1)])) rfl rfl (hb hby d2_193)
          refine own_of st33 ?_
          clear st33
          refine own_of (fun tgt kon => XS.iload X33.here hx rfl (hb hby d2_196) rfl kon) ?_
          refine own_of (fun tgt kon => XS.iload X33.here hx rfl (hb hby d2_198) rfl kon) ?_
          refine own_of (fun tgt kon => XS.iload X33.here hx rfl (hb hby d2_200) rfl kon) ?_
          show own_Wp _ _ _ _ (T33.setTop (mkF m 202 #[rv a1, rv a2, iv p3, iv p4, iv p5, iv p6, iv (1 : Int32), iv (Int32.ofNat k), jv (own_rc 1 k), ss] [(.int p5), (.int (Int32.ofNat k)), (.int (Int32.ofNat k)), (.ref b15)]))
          by_cases hc202_2 : p5 < (Int32.ofNat k)
          · skip
            refine own_of (fun tgt kon => XS.icmpNo X33.here hx rfl (hb hby d2_202) rfl (tlt hc202_2).2.2.2 kon) ?_
            show own_Wp _ _ _ _ (T33.setTop (mkF m 205 #[rv a1, rv a2, iv p3, iv p4, iv p5, iv p6, iv (1 : Int32), iv (Int32.ofNat k), jv (own_rc 1 k), ss] [(.int (Int32.ofNat k)), (.ref b15)]))
            have hlb : ph < k := by
              have q := hc202_2
              rw [Int32.lt_iff_toInt_lt, hhb, own_ofN (by omega)] at q
              omega
            refine own_of (fun tgt kon => XS.lload X33.here hx rfl (hb hby d2_205) rfl kon) ?_
            refine own_of (fun tgt kon => XS.aloadN X33.here hx rfl (hb hby d2_207) rfl rfl kon) ?_
            obtain ⟨T34, X34, e34, st34⟩ := getF X33 hx hZ hown (host := "") (Or.inl (ow hw 35 rfl)) Via.refl e33 F_rows (g := (mkF m 208 #[rv a1, rv a2, iv p3, iv p4, iv p5, iv p6, iv (1 : Int32), iv (Int32.ofNat k), jv (own_rc 1 k), ss] [(.ref a1), (.long (own_rc 1 k)), (.int (Int32.ofNat k)), (.ref b15)])) rfl rfl (hb hby d2_208)
            refine own_of st34 ?_
            clear st34
            refine own_of (fun tgt kon => XS.iload X34.here hx rfl (hb hby d2_211) rfl kon) ?_
            refine own_laload X34 hx hZ e34 V_b15 (j := p5) (i := ph) (v := (own_R0 1 ph out ph)) hhb (by omega) (by show Value.long (own_r0k _ _ _ _ _) = _; unfold own_r0k; rw [if_pos hlb]) rfl rfl (hb hby d2_213) ?_
            show own_Wp _ _ _ _ (T34.setTop (mkF m 214 #[rv a1, rv a2, iv p3, iv p4, iv p5, iv p6, iv (1 : Int32), iv (Int32.ofNat k), jv (own_rc 1 k), ss] [(.long (own_R0 1 ph out ph)), (.long (own_rc 1 k)), (.int (Int32.ofNat k)), (.ref b15)]))
            refine own_of (fun tgt kon => XS.aloadN X34.here hx rfl (hb hby d2_214) rfl rfl kon) ?_
            obtain ⟨T35, X35, e35, st35⟩ := getF X34 hx hZ hown (host := "") (Or.inl (ow hw 28 rfl)) Via.refl e34 F_outsideHead (g := (mkF m 215 #[rv a1, rv a2, iv p3, iv p4, iv p5, iv p6, iv (1 : Int32), iv (Int32.ofNat k), jv (own_rc 1 k), ss] [(.ref a1), (.long (own_R0 1 ph out ph)), (.long (own_rc 1 k)), (.int (Int32.ofNat k)), (.ref b15)])) rfl rfl (hb hby d2_215)
            refine own_of st35 ?_
            clear st35
            refine own_of (fun tgt kon => XS.lor X35.here hx rfl (hb hby d2_218) rfl kon) ?_
            refine own_of (fun tgt kon => XS.land X35.here hx rfl (hb hby d2_219) rfl kon) ?_
            refine own_of (fun tgt kon => XS.goto X35.here hx rfl (pc0 := 220) (pc' := 225) rfl (hb hby d2_220) (by decide) (by decide) kon) ?_
            show own_Wp _ _ _ _ (T35.setTop (mkF m 225 #[rv a1, rv a2, iv p3, iv p4, iv p5, iv p6, iv (1 : Int32), iv (Int32.ofNat k), jv (own_rc 1 k), ss] [(.long ((own_rc 1 k) &&& ((own_R0 1 ph out ph) ||| out))), (.int (Int32.ofNat k)), (.ref b15)]))
            obtain ⟨T36, h36, X36, e36, W36, Aq36, st36⟩ := own_stJ X35 hx hZ e35 V_b15 (j := (Int32.ofNat k)) (i := k) (x := ((own_rc 1 k) &&& ((own_R0 1 ph out ph) ||| out))) (own_ofN (by omega)) (by omega) (g := (mkF m 225 #[rv a1, rv a2, iv p3, iv p4, iv p5, iv p6, iv (1 : Int32), iv (Int32.ofNat k), jv (own_rc 1 k), ss] [(.long ((own_rc 1 k) &&& ((own_R0 1 ph out ph) ||| out))), (.int (Int32.ofNat k)), (.ref b15)])) rfl rfl (hb hby d2_225)
            refine own_of st36 ?_
            clear st36
            replace Zs := Nat.le_trans Zs (Keep.of_wr W36).1
            replace K0 := K0.wr W36 (Or.inr sz_b15)
            replace E_a1 := E_a1.wr W36
            replace F_bound := F_bound.other W36 (Or.inl ne_a1_b15)
            replace F_headBound := F_headBound.other W36 (Or.inl ne_a1_b15)
            replace F_levels := F_levels.other W36 (Or.inl ne_a1_b15)
            replace F_columns := F_columns.other W36 (Or.inl ne_a1_b15)
            replace F_lastColumn := F_lastColumn.other W36 (Or.inl ne_a1_b15)
            replace F_outsideHead := F_outsideHead.other W36 (Or.inl ne_a1_b15)
            replace F_codePoints := F_codePoints.other W36 (Or.inl ne_a1_b15)
            replace F_columnsOf := F_columnsOf.other W36 (Or.inl ne_a1_b15)
            replace F_rows := F_rows.other W36 (Or.inl ne_a1_b15)
            replace F_matches := F_matches.other W36 (Or.inl ne_a1_b15)
            replace V_a2 := V_a2.other W36 ne_a2_b15
            replace V_b12 := V_b12.other W36 ne_b12_b15
            replace V_b17 := V_b17.other W36 (Ne.symm ne_b15_b17)
            replace V_b10 := V_b10.other W36 ne_b10_b15
            replace V_b15 := Aq36
            clear Aq36
            have hst : ((own_rc 1 k) &&& ((own_R0 1 ph out ph) ||| out)) = own_R0 1 ph out k := by
              rw [show own_R0 1 ph out ph = own_rc 1 ph from if_neg (by omega)]
              exact (if_pos hlb).symm
            rw [hst] at V_b15
            have V_b15 := V_b15.fn (f' := fun y => .long (own_r0k 1 ph out (k + 1) y)) (fun y hy => (own_setJ _ _ _ y).trans (congrArg Value.long (own_setR0 1 ph out k y)))
            have N36 := Fr.snoc X36 N32 g_b15
            refine own_of (fun tgt kon => XS.iinc X36.here hx rfl (hb hby d2_226) rfl (l' := #[rv a1, rv a2, iv p3, iv p4, iv p5, iv p6, iv (1 : Int32), iv ((Int32.ofNat k) + (1 : Int32)), jv (own_rc 1 k), ss]) rfl kon) ?_
            refine own_of (fun tgt kon => XS.goto X36.here hx rfl (pc0 := 229) (pc' := 174) rfl (hb hby d2_229) (by decide) (by decide) kon) ?_
            show own_Wp _ _ _ _ (T36.setTop (mkF m 174 #[rv a1, rv a2, iv p3, iv p4, iv p5, iv p6, iv (1 : Int32), iv ((Int32.ofNat k) + (1 : Int32)), jv (own_rc 1 k), ss] []))
            rw [own_succ]
            exact ih T36 _ _ (k + 1) ((own_rc 1 k)) X36 e36 N36 Zs K0 E_a1 F_bound F_headBound F_levels F_columns F_lastColumn F_outsideHead F_codePoints F_columnsOf F_rows F_matches V_a2 V_b12 V_b15 V_b17 V_b10 (by omega) (by omega) (by omega)
          · skip
            refine own_of (fun tgt kon => XS.icmpYes X33.here hx rfl (pc0 := 202) (pc' := 223) rfl (hb hby d2_202) rfl (flt hc202_2).2.2.2 (by decide) (by decide) kon) ?_
            refine own_of (fun tgt kon => XS.lload X33.here hx rfl (hb hby d2_223) rfl kon) ?_
            obtain ⟨T37, h37, X37, e37, W37, Aq37, st37⟩ := own_stJ X33 hx hZ e33 V_b15 (j := (Int32.ofNat k)) (i := k) (x := (own_rc 1 k)) (own_ofN (by omega)) (by omega) (g := (mkF m 225 #[rv a1, rv a2, iv p3, iv p4, iv p5, iv p6, iv (1 : Int32), iv (Int32.ofNat k), jv (own_rc 1 k), ss] [(.long (own_rc 1 k)), (.int (Int32.ofNat k)), (.ref b15)])) rfl rfl (hb hby d2_225)
            refine own_of st37 ?_
            clear st37
            replace Zs := Nat.le_trans Zs (Keep.of_wr W37).1
            replace K0 := K0.wr W37 (Or.inr sz_b15)
            replace E_a1 := E_a1.wr W37
            replace F_bound := F_bound.other W37 (Or.inl ne_a1_b15)
            replace F_headBound := F_headBound.other W37 (Or.inl ne_a1_b15)
            replace F_levels := F_levels.other W37 (Or.inl ne_a1_b15)
            replace F_columns := F_columns.other W37 (Or.inl ne_a1_b15)
            replace F_lastColumn := F_lastColumn.other W37 (Or.inl ne_a1_b15)
            replace F_outsideHead := F_outsideHead.other W37 (Or.inl ne_a1_b15)
            replace F_codePoints := F_codePoints.other W37 (Or.inl ne_a1_b15)
            replace F_columnsOf := F_columnsOf.other W37 (Or.inl ne_a1_b15)
            replace F_rows := F_rows.other W37 (Or.inl ne_a1_b15)
            replace F_matches := F_matches.other W37 (Or.inl ne_a1_b15)
            replace V_a2 := V_a2.other W37 ne_a2_b15
            replace V_b12 := V_b12.other W37 ne_b12_b15
            replace V_b17 := V_b17.other W37 (Ne.symm ne_b15_b17)
            replace V_b10 := V_b10.other W37 ne_b10_b15
            replace V_b15 := Aq37
            clear Aq37
            have hst : (own_rc 1 k) = own_R0 1 ph out k := (if_neg (by
              intro q
              apply hc202_2
              rw [Int32.lt_iff_toInt_lt, hhb, own_ofN (by omega)]
              omega)).symm
            rw [hst] at V_b15
            have V_b15 := V_b15.fn (f' := fun y => .long (own_r0k 1 ph out (k + 1) y)) (fun y hy => (own_setJ _ _ _ y).trans (congrArg Value.long (own_setR0 1 ph out k y)))
            have N37 := Fr.snoc X37 N32 g_b15
            refine own_of (fun tgt kon => XS.iinc X37.here hx rfl (hb hby d2_226) rfl (l' := #[rv a1, rv a2, iv p3, iv p4, iv p5, iv p6, iv (1 : Int32), iv ((Int32.ofNat k) + (1 : Int32)), jv (own_rc 1 k), ss]) rfl kon) ?_
            refine own_of (fun tgt kon => XS.goto X37.here hx rfl (pc0 := 229) (pc' := 174) rfl (hb hby d2_229) (by decide) (by decide) kon) ?_
            show own_Wp _ _ _ _ (T37.setTop (mkF m 174 #[rv a1, rv a2, iv p3, iv p4, iv p5, iv p6, iv (1 : Int32), iv ((Int32.ofNat k) + (1 : Int32)), jv (own_rc 1 k), ss] []))
            rw [own_succ]
            exact ih T37 _ _ (k + 1) ((own_rc 1 k)) X37 e37 N37 Zs K0 E_a1 F_bound F_headBound F_levels F_columns F_lastColumn F_outsideHead F_codePoints F_columnsOf F_rows F_matches V_a2 V_b12 V_b15 V_b17 V_b10 (by omega) (by omega) (by omega)
    show own_Wp _ _ _ _ (T29.setTop (mkF m 174 #[rv a1, rv a2, iv p3, iv p4, iv p5, iv p6, iv (1 : Int32), iv (Int32.ofNat 1), jv (own_rc 1 0), ss] []))
    exact J174 _ T29 _ _ (1) ((own_rc 1 0)) X29 e29 N29 Zs K0 E_a1 F_bound F_headBound F_levels F_columns F_lastColumn F_outsideHead F_codePoints F_columnsOf F_rows F_matches V_a2 V_b12 V_b15 V_b17 V_b10 (by omega) (by omega) (Nat.lt_succ_self _)
  show own_Wp _ _ _ _ (T7.setTop (mkF m 45 #[rv a1, rv a2, iv p3, iv p4, iv p5, iv p6, iv (1 : Int32), uu, uu, uu] [(.int p4), (.ref a1)]))
  by_cases hc45 : p4 < (0 : Int32)
  · skip
    refine own_of (fun tgt kon => XS.ifNo X7.here hx rfl (hb hby d2_45) rfl ((if0 _ _).trans (tlt hc45).2.1) kon) ?_
    refine own_of (X7.ldc2Long hx hown (mvT hZ (ow hw 27 rfl)) (g := (mkF m 48 #[rv a1, rv a2, iv p3, iv p4, iv p5, iv p6, iv (1 : Int32), uu, uu, uu] [(.ref a1)])) rfl (hb hby d2_48)) ?_
    refine own_of (fun tgt kon => XS.goto X7.here hx rfl (pc0 := 51) (pc' := 62) rfl (hb hby d2_51) (by decide) (by decide) kon) ?_
    show own_Wp _ _ _ _ (T7.setTop (mkF m 62 #[rv a1, rv a2, iv p3, iv p4, iv p5, iv p6, iv (1 : Int32), uu, uu, uu] [(.long (-1 : Int64)), (.ref a1)]))
    exact J62 T7 _ ((-1 : Int64)) X7 e7 N7 (by exact (if_pos hc45).symm)
  · skip
    refine own_of (fun tgt kon => XS.ifYes X7.here hx rfl (pc0 := 45) (pc' := 54) rfl (hb hby d2_45) rfl ((if0 _ _).trans (flt hc45).2.1) (by decide) (by decide) kon) ?_
    refine own_of (fun tgt kon => XS.iloadN X7.here hx rfl (hb hby d2_54) rfl kon) ?_
    refine own_callS X7 hx hZ (y := (⟨"com/example/close_words/closewords/BitRows", "upTo", "(I)J"⟩ : MethodName)) (argsL := [(.int p4)]) (rest := [(.ref a1)]) (W := 1) hown (ow hw 20 rfl) (ow hw 21 rfl) (ow hw 7 rfl) (ow hw 22 rfl) (by decide) e7 (rmup l Z a0 hw [] p4 h7 n0 Zs) (by decide) (by decide) (by decide) (by decide) rfl (by rw [hml]; rfl) (lenOf own_pd0 rfl) rfl (by show 2 * 0 + _ ≤ _; exact Nat.le_of_eq rfl) (hb hby d2_55) ?_
    rintro T38 L38 _ X38 ⟨rfl, N38q, e38⟩
    have N38 := Fr.app N7 N38q
    show own_Wp _ _ _ _ (T38.setTop (mkF m 58 #[rv a1, rv a2, iv p3, iv p4, iv p5, iv p6, iv (1 : Int32), uu, uu, uu] [(.long (own_upTo p4)), (.ref a1)]))
    refine own_of (X38.ldc2Long hx hown (mvT hZ (ow hw 27 rfl)) (g := (mkF m 58 #[rv a1, rv a2, iv p3, iv p4, iv p5, iv p6, iv (1 : Int32), uu, uu, uu] [(.long (own_upTo p4)), (.ref a1)])) rfl (hb hby d2_58)) ?_
    refine own_of (fun tgt kon => XS.lxor X38.here hx rfl (hb hby d2_61) rfl kon) ?_
    show own_Wp _ _ _ _ (T38.setTop (mkF m 62 #[rv a1, rv a2, iv p3, iv p4, iv p5, iv p6, iv (1 : Int32), uu, uu, uu] [(.long ((own_upTo p4) ^^^ (-1 : Int64))), (.ref a1)]))
    exact J62 T38 _ (((own_upTo p4) ^^^ (-1 : Int64))) X38 e38 N38 (by exact (if_neg hc45).symm)
def Q_rmct2 (Z : State) (a1 : Addr) (a2 : Addr) (p3 : Int32) (p4 : Int32) (p5 : Int32) (p6 : Int32) (tx : Nat → Int32) (bd : Nat) (ph : Nat) (dp : Nat) (RL : Nat) (cp0 : Nat → Int32) (cp1 : Nat → Int32) (cp2 : Nat → Int32) (co0 : Nat → Int64) (co1 : Nat → Int64) (co2 : Nat → Int64) (RR1 : Nat) (RR2 : Nat) (h0 : Heap) (n0 : Nat) (v : Option Value) (h : Heap) (L : List Loc) : Prop := v = none ∧ Fr n0 L ∧ Keep h0 h [a1] ∧ Exa Z h a1 "com/example/close_words/closewords/BitRows" ∧ ∃ ac ao ar am : Addr, n0 ≤ ac ∧ n0 ≤ ao ∧ n0 ≤ ar ∧ n0 ≤ am ∧ a1 ≠ ar ∧ a1 ≠ am ∧ ac ≠ ar ∧ ac ≠ am ∧ ao ≠ ar ∧ ao ≠ am ∧ am ≠ ar ∧ Fld Z h a1 "com/example/close_words/closewords/BitRows" "bound" "I" (.int p3) ∧ Fld Z h a1 "com/example/close_words/closewords/BitRows" "headBound" "I" (.int p5) ∧ Fld Z h a1 "com/example/close_words/closewords/BitRows" "levels" "I" (.int (p3 + (1 : Int32))) ∧ Fld Z h a1 "com/example/close_words/closewords/BitRows" "columns" "J" (.long (own_upTo (2 : Int32))) ∧ Fld Z h a1 "com/example/close_words/closewords/BitRows" "lastColumn" "J" (.long ((1 : Int64) <<< ((2 : Int32) &&& 0x3f).toInt64)) ∧ Fld Z h a1 "com/example/close_words/closewords/BitRows" "outsideHead" "J" (.long (if p4 < (0 : Int32) then (-1 : Int64) else (own_upTo p4 ^^^ (-1 : Int64)))) ∧ Fld Z h a1 "com/example/close_words/closewords/BitRows" "codePoints" "[I" (.ref ac) ∧ Fld Z h a1 "com/example/close_words/closewords/BitRows" "columnsOf" "[J" (.ref ao) ∧ Fld Z h a1 "com/example/close_words/closewords/BitRows" "rows" "[J" (.ref ar) ∧ Fld Z h a1 "com/example/close_words/closewords/BitRows" "matches" "[J" (.ref am) ∧ own_Ar Z h ac .int 128 (fun k => .int (cp2 k)) ∧ own_Ar Z h ao .long 128 (fun k => .long (co2 k)) ∧ own_Ar Z h ar .long RL (fun y => .long (own_r0k 2 ph (if p4 < (0 : Int32) then (-1 : Int64) else (own_upTo p4 ^^^ (-1 : Int64))) (bd + 1) y)) ∧ own_Ar Z h am .long (dp + 1) (fun _ => .long (0 : Int64))
set_option maxRecDepth 65536 in
set_option maxHeartbeats 40000000 in
theorem rmct2 (l : Launch) (Z : State) (a0 : Array Value) (hw : ∀ d ∈ tables_1, d.before a0 Z = true) (ws : List Jvm.Cond) (a1 : Addr) (a2 : Addr) (p3 : Int32) (p4 : Int32) (p5 : Int32) (p6 : Int32) (tx : Nat → Int32) (bd : Nat) (ph : Nat) (dp : Nat) (RL : Nat) (cp0 : Nat → Int32) (cp1 : Nat → Int32) (cp2 : Nat → Int32) (co0 : Nat → Int64) (co1 : Nat → Int64) (co2 : Nat → Int64) (RR1 : Nat) (RR2 : Nat) (h0 : Heap) (n0 : Nat) (Z0 : n0 ≤ h0.size) (E_a1 : Exa Z h0 a1 "com/example/close_words/closewords/BitRows") (u_bound : Value) (u_headBound : Value) (u_levels : Value) (u_columns : Value) (u_lastColumn : Value) (u_outsideHead : Value) (u_codePoints : Value) (u_columnsOf : Value) (u_rows : Value) (u_matches : Value) (F_bound : Fld Z h0 a1 "com/example/close_words/closewords/BitRows" "bound" "I" u_bound) (F_headBound : Fld Z h0 a1 "com/example/close_words/closewords/BitRows" "headBound" "I" u_headBound) (F_levels : Fld Z h0 a1 "com/example/close_words/closewords/BitRows" "levels" "I" u_levels) (F_columns : Fld Z h0 a1 "com/example/close_words/closewords/BitRows" "columns" "J" u_columns) (F_lastColumn : Fld Z h0 a1 "com/example/close_words/closewords/BitRows" "lastColumn" "J" u_lastColumn) (F_outsideHead : Fld Z h0 a1 "com/example/close_words/closewords/BitRows" "outsideHead" "J" u_outsideHead) (F_codePoints : Fld Z h0 a1 "com/example/close_words/closewords/BitRows" "codePoints" "[I" u_codePoints) (F_columnsOf : Fld Z h0 a1 "com/example/close_words/closewords/BitRows" "columnsOf" "[J" u_columnsOf) (F_rows : Fld Z h0 a1 "com/example/close_words/closewords/BitRows" "rows" "[J" u_rows) (F_matches : Fld Z h0 a1 "com/example/close_words/closewords/BitRows" "matches" "[J" u_matches) (V_a2 : own_Ar Z h0 a2 .int 2 (fun k => .int (tx k))) (ne12 : a1 ≠ a2) (g_a1 : n0 ≤ a1) (hbd : p3.toInt = (bd : Int)) (hbd63 : bd ≤ 63) (hhb : p5.toInt = (ph : Int)) (hhb63 : ph ≤ 63) (hdp : p6.toInt = (dp : Int)) (hdp3 : dp ≤ 3) (hRL : RL = (dp + 1) * (bd + 1)) (hcp0 : ∀ k, cp0 k = -1) (hco0 : ∀ k, co0 k = 0) (hR1 : own_find cp0 (tx 0) 8 ((tx 0) &&& 127).toNatClampNeg = RR1) (hok1 : (cp0 RR1 = (tx 0) ∨ cp0 RR1 = -1) ∧ RR1 < 128) (hcp1 : cp1 = own_upd cp0 RR1 (tx 0)) (hco1 : co1 = own_upd co0 RR1 (co0 RR1 ||| ((1 : Int64) <<< ((1 : Int32) &&& 0x3f).toInt64))) (hR2 : own_find cp1 (tx 1) 8 ((tx 1) &&& 127).toNatClampNeg = RR2) (hok2 : (cp1 RR2 = (tx 1) ∨ cp1 RR2 = -1) ∧ RR2 < 128) (hcp2 : cp2 = own_upd cp1 RR2 (tx 1)) (hco2 : co2 = own_upd co1 RR2 (co1 RR2 ||| ((1 : Int64) <<< (((1 : Int32) + (1 : Int32)) &&& 0x3f).toInt64))) :
    own_Ctr l Z (⟨"com/example/close_words/closewords/BitRows", "<init>", "([IIIII)V"⟩ : MethodName) prog_6_method_1_code 10 none ws ({ frames := 1, cells := 4, slots := 516, locals := 15 } : Room) #[(.ref a1), (.ref a2), (.int p3), (.int p4), (.int p5), (.int p6)] h0 (Q_rmct2 Z a1 a2 p3 p4 p5 p6 tx bd ph dp RL cp0 cp1 cp2 co0 co1 co2 RR1 RR2 h0 n0) := by
  refine own_enter (plainFor_of_name own_pn0) ?_
  intro p e s m below meth c s₁ X0 hx hby hml hrt hlk hZ hown hnm e0
  have N0 := Fr.nil n0
  have Zs := Z0
  have K0 := Keep.refl h0 [a1]
  have hLV : (p6 + (1 : Int32)).toInt = ((dp + 1 : Nat) : Int) := by have q := own_addI hdp (show (1 : Int32).toInt = 1 from by decide) (by omega) (by omega); omega
  have hLW : (p3 + (1 : Int32)).toInt = ((bd + 1 : Nat) : Int) := by have q := own_addI hbd (show (1 : Int32).toInt = 1 from by decide) (by omega) (by omega); omega
  have hmul : (dp + 1) * (bd + 1) ≤ 4 * 64 := Nat.mul_le_mul (by omega) (by omega)
  have hRB : bd + 1 ≤ RL := by rw [hRL]; exact Nat.le_mul_of_pos_left _ (by omega)
  have hRT : ((p6 + (1 : Int32)) * (p3 + (1 : Int32))).toInt = (RL : Int) := by
    rw [Jvm.Kit.i32_mul (by rw [hLV, hLW, ← Int.natCast_mul]; omega) (by rw [hLV, hLW, ← Int.natCast_mul]; omega), hLV, hLW, ← Int.natCast_mul, hRL]
  rw [show entryFrame m #[(.ref a1), (.ref a2), (.int p3), (.int p4), (.int p5), (.int p6)] 10 = mkF m 0 #[rv a1, rv a2, iv p3, iv p4, iv p5, iv p6, uu, uu, uu, uu] [] from by first | (simp [entryFrame, mkF, argsToLocals, Value.category]; done) | rfl]
  show own_Wp _ _ _ _ (s₁.setTop (mkF m 0 #[rv a1, rv a2, iv p3, iv p4, iv p5, iv p6, uu, uu, uu, uu] []))
  refine own_of (fun tgt kon => XS.aloadN X0.here hx rfl (hb hby d2_0) rfl rfl kon) ?_
  obtain ⟨T1, X1, e1, st1⟩ := initO X0 hx hZ hown (ow hw 11 rfl) (ow hw 12 rfl) (ow hw 13 rfl) e0 (g := (mkF m 1 #[rv a1, rv a2, iv p3, iv p4, iv p5, iv p6, uu, uu, uu, uu] [(.ref a1)])) rfl (by rw [hml]; rfl) rfl (hb hby d2_1) (by decide) (W := 0) (by show 2 * 0 + _ ≤ _; exact Nat.le_of_eq rfl) (by decide)
  refine own_of st1 ?_
  clear st1
  show own_Wp _ _ _ _ (T1.setTop (mkF m 4 #[rv a1, rv a2, iv p3, iv p4, iv p5, iv p6, uu, uu, uu, uu] []))
  refine own_of (fun tgt kon => XS.aloadN X1.here hx rfl (hb hby d2_4) rfl rfl kon) ?_
  refine own_len X1 hx hZ e1 V_a2 (z := (2 : Int32)) (by decide) rfl rfl (hb hby d2_5) ?_
  refine own_of (fun tgt kon => XS.istore X1.here hx rfl (hb hby d2_6) rfl (l' := #[rv a1, rv a2, iv p3, iv p4, iv p5, iv p6, iv (2 : Int32), uu, uu, uu]) rfl kon) ?_
  refine own_of (fun tgt kon => XS.aloadN X1.here hx rfl (hb hby d2_8) rfl rfl kon) ?_
  refine own_of (fun tgt kon => XS.iloadN X1.here hx rfl (hb hby d2_9) rfl kon) ?_
  show own_Wp _ _ _ _ (T1.setTop (mkF m 10 #[rv a1, rv a2, iv p3, iv p4, iv p5, iv p6, iv (2 : Int32), uu, uu, uu] [(.int p3), (.ref a1)]))
  obtain ⟨T2, h2, X2, e2, W2, st2⟩ := putF X1 hx hZ hown (host := "") (Or.inl (ow hw 14 rfl)) Via.refl e1 F_bound E_a1 (Or.inr ⟨(ow hw 15 rfl), rfl, hnm⟩) (ow hw 6 rfl) (ty := .int) (by decide) rfl rfl (g := (mkF m 10 #[rv a1, rv a2, iv p3, iv p4, iv p5, iv p6, iv (2 : Int32), uu, uu, uu] [(.int p3), (.ref a1)])) rfl rfl (hb hby d2_10)
  refine own_of st2 ?_
  clear st2
  have Fq2 := Fld.same W2 F_bound
  replace Zs := Nat.le_trans Zs (Keep.of_wr W2).1
  replace K0 := K0.wr W2 (Or.inl (List.mem_of_getElem? (i := 0) rfl))
  replace E_a1 := E_a1.wr W2
  replace F_headBound := F_headBound.other W2 (Or.inr (slot_ne (Or.inr (ow hw 17 rfl)) (Or.inr (ow hw 15 rfl)) (by decide) (t := .int) (t' := .int) (by decide) (by decide)))
  replace F_levels := F_levels.other W2 (Or.inr (slot_ne (Or.inr (ow hw 19 rfl)) (Or.inr (ow hw 15 rfl)) (by decide) (t := .int) (t' := .int) (by decide) (by decide)))
  replace F_columns := F_columns.other W2 (Or.inr (slot_ne (Or.inr (ow hw 24 rfl)) (Or.inr (ow hw 15 rfl)) (by decide) (t := .long) (t' := .int) (by decide) (by decide)))
  replace F_lastColumn := F_lastColumn.other W2 (Or.inr (slot_ne (Or.inr (ow hw 26 rfl)) (Or.inr (ow hw 15 rfl)) (by decide) (t := .long) (t' := .int) (by decide) (by decide)))
  replace F_outsideHead := F_outsideHead.other W2 (Or.inr (slot_ne (Or.inr (ow hw 29 rfl)) (Or.inr (ow hw 15 rfl)) (by decide) (t := .long) (t' := .int) (by decide) (by decide)))
  replace F_codePoints := F_codePoints.other W2 (Or.inr (slot_ne (Or.inr (ow hw 31 rfl)) (Or.inr (ow hw 15 rfl)) (by decide) (t := (.array .int)) (t' := .int) (by decide) (by decide)))
  replace F_columnsOf := F_columnsOf.other W2 (Or.inr (slot_ne (Or.inr (ow hw 34 rfl)) (Or.inr (ow hw 15 rfl)) (by decide) (t := (.array .long)) (t' := .int) (by decide) (by decide)))
  replace F_rows := F_rows.other W2 (Or.inr (slot_ne (Or.inr (ow hw 36 rfl)) (Or.inr (ow hw 15 rfl)) (by decide) (t := (.array .long)) (t' := .int) (by decide) (by decide)))
  replace F_matches := F_matches.other W2 (Or.inr (slot_ne (Or.inr (ow hw 38 rfl)) (Or.inr (ow hw 15 rfl)) (by decide) (t := (.array .long)) (t' := .int) (by decide) (by decide)))
  replace V_a2 := V_a2.other W2 (Ne.symm ne12)
  replace F_bound := Fq2
  clear Fq2
  have N2 := Fr.snoc X2 N0 g_a1
  refine own_of (fun tgt kon => XS.aloadN X2.here hx rfl (hb hby d2_13) rfl rfl kon) ?_
  refine own_of (fun tgt kon => XS.iload X2.here hx rfl (hb hby d2_14) rfl kon) ?_
  obtain ⟨T3, h3, X3, e3, W3, st3⟩ := putF X2 hx hZ hown (host := "") (Or.inl (ow hw 16 rfl)) Via.refl e2 F_headBound E_a1 (Or.inr ⟨(ow hw 17 rfl), rfl, hnm⟩) (ow hw 6 rfl) (ty := .int) (by decide) rfl rfl (g := (mkF m 16 #[rv a1, rv a2, iv p3, iv p4, iv p5, iv p6, iv (2 : Int32), uu, uu, uu] [(.int p5), (.ref a1)])) rfl rfl (hb hby d2_16)
  refine own_of st3 ?_
  clear st3
  have Fq3 := Fld.same W3 F_headBound
  replace Zs := Nat.le_trans Zs (Keep.of_wr W3).1
  replace K0 := K0.wr W3 (Or.inl (List.mem_of_getElem? (i := 0) rfl))
  replace E_a1 := E_a1.wr W3
  replace F_bound := F_bound.other W3 (Or.inr (slot_ne (Or.inr (ow hw 15 rfl)) (Or.inr (ow hw 17 rfl)) (by decide) (t := .int) (t' := .int) (by decide) (by decide)))
  replace F_levels := F_levels.other W3 (Or.inr (slot_ne (Or.inr (ow hw 19 rfl)) (Or.inr (ow hw 17 rfl)) (by decide) (t := .int) (t' := .int) (by decide) (by decide)))
  replace F_columns := F_columns.other W3 (Or.inr (slot_ne (Or.inr (ow hw 24 rfl)) (Or.inr (ow hw 17 rfl)) (by decide) (t := .long) (t' := .int) (by decide) (by decide)))
  replace F_lastColumn := F_lastColumn.other W3 (Or.inr (slot_ne (Or.inr (ow hw 26 rfl)) (Or.inr (ow hw 17 rfl)) (by decide) (t := .long) (t' := .int) (by decide) (by decide)))
  replace F_outsideHead := F_outsideHead.other W3 (Or.inr (slot_ne (Or.inr (ow hw 29 rfl)) (Or.inr (ow hw 17 rfl)) (by decide) (t := .long) (t' := .int) (by decide) (by decide)))
  replace F_codePoints := F_codePoints.other W3 (Or.inr (slot_ne (Or.inr (ow hw 31 rfl)) (Or.inr (ow hw 17 rfl)) (by decide) (t := (.array .int)) (t' := .int) (by decide) (by decide)))
  replace F_columnsOf := F_columnsOf.other W3 (Or.inr (slot_ne (Or.inr (ow hw 34 rfl)) (Or.inr (ow hw 17 rfl)) (by decide) (t := (.array .long)) (t' := .int) (by decide) (by decide)))
  replace F_rows := F_rows.other W3 (Or.inr (slot_ne (Or.inr (ow hw 36 rfl)) (Or.inr (ow hw 17 rfl)) (by decide) (t := (.array .long)) (t' := .int) (by decide) (by decide)))
  replace F_matches := F_matches.other W3 (Or.inr (slot_ne (Or.inr (ow hw 38 rfl)) (Or.inr (ow hw 17 rfl)) (by decide) (t := (.array .long)) (t' := .int) (by decide) (by decide)))
  replace V_a2 := V_a2.other W3 (Ne.symm ne12)
  replace F_headBound := Fq3
  clear Fq3
  have N3 := Fr.snoc X3 N2 g_a1
  refine own_of (fun tgt kon => XS.aloadN X3.here hx rfl (hb hby d2_19) rfl rfl kon) ?_
  show own_Wp _ _ _ _ (T3.setTop (mkF m 20 #[rv a1, rv a2, iv p3, iv p4, iv p5, iv p6, iv (2 : Int32), uu, uu, uu] [(.ref a1)]))
  refine own_of (fun tgt kon => XS.iloadN X3.here hx rfl (hb hby d2_20) rfl kon) ?_
  refine own_of (fun tgt kon => XS.iconst X3.here hx rfl (hb hby d2_21) kon) ?_
  refine own_of (fun tgt kon => XS.iadd X3.here hx rfl (hb hby d2_22) rfl kon) ?_
  obtain ⟨T4, h4, X4, e4, W4, st4⟩ := putF X3 hx hZ hown (host := "") (Or.inl (ow hw 18 rfl)) Via.refl e3 F_levels E_a1 (Or.inr ⟨(ow hw 19 rfl), rfl, hnm⟩) (ow hw 6 rfl) (ty := .int) (by decide) rfl rfl (g := (mkF m 23 #[rv a1, rv a2, iv p3, iv p4, iv p5, iv p6, iv (2 : Int32), uu, uu, uu] [(.int (p3 + (1 : Int32))), (.ref a1)])) rfl rfl (hb hby d2_23)
  refine own_of st4 ?_
  clear st4
  have Fq4 := Fld.same W4 F_levels
  replace Zs := Nat.le_trans Zs (Keep.of_wr W4).1
  replace K0 := K0.wr W4 (Or.inl (List.mem_of_getElem? (i := 0) rfl))
  replace E_a1 := E_a1.wr W4
  replace F_bound := F_bound.other W4 (Or.inr (slot_ne (Or.inr (ow hw 15 rfl)) (Or.inr (ow hw 19 rfl)) (by decide) (t := .int) (t' := .int) (by decide) (by decide)))
  replace F_headBound := F_headBound.other W4 (Or.inr (slot_ne (Or.inr (ow hw 17 rfl)) (Or.inr (ow hw 19 rfl)) (by decide) (t := .int) (t' := .int) (by decide) (by decide)))
  replace F_columns := F_columns.other W4 (Or.inr (slot_ne (Or.inr (ow hw 24 rfl)) (Or.inr (ow hw 19 rfl)) (by decide) (t := .long) (t' := .int) (by decide) (by decide)))
  replace F_lastColumn := F_lastColumn.other W4 (Or.inr (slot_ne (Or.inr (ow hw 26 rfl)) (Or.inr (ow hw 19 rfl)) (by decide) (t := .long) (t' := .int) (by decide) (by decide)))
  replace F_outsideHead := F_outsideHead.other W4 (Or.inr (slot_ne (Or.inr (ow hw 29 rfl)) (Or.inr (ow hw 19 rfl)) (by decide) (t := .long) (t' := .int) (by decide) (by decide)))
  replace F_codePoints := F_codePoints.other W4 (Or.inr (slot_ne (Or.inr (ow hw 31 rfl)) (Or.inr (ow hw 19 rfl)) (by decide) (t := (.array .int)) (t' := .int) (by decide) (by decide)))
  replace F_columnsOf := F_columnsOf.other W4 (Or.inr (slot_ne (Or.inr (ow hw 34 rfl)) (Or.inr (ow hw 19 rfl)) (by decide) (t := (.array .long)) (t' := .int) (by decide) (by decide)))
  replace F_rows := F_rows.other W4 (Or.inr (slot_ne (Or.inr (ow hw 36 rfl)) (Or.inr (ow hw 19 rfl)) (by decide) (t := (.array .long)) (t' := .int) (by decide) (by decide)))
  replace F_matches := F_matches.other W4 (Or.inr (slot_ne (Or.inr (ow hw 38 rfl)) (Or.inr (ow hw 19 rfl)) (by decide) (t := (.array .long)) (t' := .int) (by decide) (by decide)))
  replace V_a2 := V_a2.other W4 (Ne.symm ne12)
  replace F_levels := Fq4
  clear Fq4
  have N4 := Fr.snoc X4 N3 g_a1
  refine own_of (fun tgt kon => XS.aloadN X4.here hx rfl (hb hby d2_26) rfl rfl kon) ?_
  show own_Wp _ _ _ _ (T4.setTop (mkF m 27 #[rv a1, rv a2, iv p3, iv p4, iv p5, iv p6, iv (2 : Int32), uu, uu, uu] [(.ref a1)]))
  refine own_of (fun tgt kon => XS.iload X4.here hx rfl (hb hby d2_27) rfl kon) ?_
  refine own_callS X4 hx hZ (y := (⟨"com/example/close_words/closewords/BitRows", "upTo", "(I)J"⟩ : MethodName)) (argsL := [(.int (2 : Int32))]) (rest := [(.ref a1)]) (W := 1) hown (ow hw 20 rfl) (ow hw 21 rfl) (ow hw 7 rfl) (ow hw 22 rfl) (by decide) e4 (rmup l Z a0 hw [] (2 : Int32) h4 n0 Zs) (by decide) (by decide) (by decide) (by decide) rfl (by rw [hml]; rfl) (lenOf own_pd0 rfl) rfl (by show 2 * 0 + _ ≤ _; exact Nat.le_of_eq rfl) (hb hby d2_29) ?_
  rintro T5 L5 _ X5 ⟨rfl, N5q, e5⟩
  have N5 := Fr.app N4 N5q
  show own_Wp _ _ _ _ (T5.setTop (mkF m 32 #[rv a1, rv a2, iv p3, iv p4, iv p5, iv p6, iv (2 : Int32), uu, uu, uu] [(.long (own_upTo (2 : Int32))), (.ref a1)]))
  obtain ⟨T6, h6, X6, e6, W6, st6⟩ := putF X5 hx hZ hown (host := "") (Or.inl (ow hw 23 rfl)) Via.refl e5 F_columns E_a1 (Or.inr ⟨(ow hw 24 rfl), rfl, hnm⟩) (ow hw 6 rfl) (ty := .long) (by decide) rfl rfl (g := (mkF m 32 #[rv a1, rv a2, iv p3, iv p4, iv p5, iv p6, iv (2 : Int32), uu, uu, uu] [(.long (own_upTo (2 : Int32))), (.ref a1)])) rfl rfl (hb hby d2_32)
  refine own_of st6 ?_
  clear st6
  have Fq6 := Fld.same W6 F_columns
  replace Zs := Nat.le_trans Zs (Keep.of_wr W6).1
  replace K0 := K0.wr W6 (Or.inl (List.mem_of_getElem? (i := 0) rfl))
  replace E_a1 := E_a1.wr W6
  replace F_bound := F_bound.other W6 (Or.inr (slot_ne (Or.inr (ow hw 15 rfl)) (Or.inr (ow hw 24 rfl)) (by decide) (t := .int) (t' := .long) (by decide) (by decide)))
  replace F_headBound := F_headBound.other W6 (Or.inr (slot_ne (Or.inr (ow hw 17 rfl)) (Or.inr (ow hw 24 rfl)) (by decide) (t := .int) (t' := .long) (by decide) (by decide)))
  replace F_levels := F_levels.other W6 (Or.inr (slot_ne (Or.inr (ow hw 19 rfl)) (Or.inr (ow hw 24 rfl)) (by decide) (t := .int) (t' := .long) (by decide) (by decide)))
  replace F_lastColumn := F_lastColumn.other W6 (Or.inr (slot_ne (Or.inr (ow hw 26 rfl)) (Or.inr (ow hw 24 rfl)) (by decide) (t := .long) (t' := .long) (by decide) (by decide)))
  replace F_outsideHead := F_outsideHead.other W6 (Or.inr (slot_ne (Or.inr (ow hw 29 rfl)) (Or.inr (ow hw 24 rfl)) (by decide) (t := .long) (t' := .long) (by decide) (by decide)))
  replace F_codePoints := F_codePoints.other W6 (Or.inr (slot_ne (Or.inr (ow hw 31 rfl)) (Or.inr (ow hw 24 rfl)) (by decide) (t := (.array .int)) (t' := .long) (by decide) (by decide)))
  replace F_columnsOf := F_columnsOf.other W6 (Or.inr (slot_ne (Or.inr (ow hw 34 rfl)) (Or.inr (ow hw 24 rfl)) (by decide) (t := (.array .long)) (t' := .long) (by decide) (by decide)))
  replace F_rows := F_rows.other W6 (Or.inr (slot_ne (Or.inr (ow hw 36 rfl)) (Or.inr (ow hw 24 rfl)) (by decide) (t := (.array .long)) (t' := .long) (by decide) (by decide)))
  replace F_matches := F_matches.other W6 (Or.inr (slot_ne (Or.inr (ow hw 38 rfl)) (Or.inr (ow hw 24 rfl)) (by decide) (t := (.array .long)) (t' := .long) (by decide) (by decide)))
  replace V_a2 := V_a2.other W6 (Ne.symm ne12)
  replace F_columns := Fq6
  clear Fq6
  have N6 := Fr.snoc X6 N5 g_a1
  refine own_of (fun tgt kon => XS.aloadN X6.here hx rfl (hb hby d2_35) rfl rfl kon) ?_
  refine own_of (fun tgt kon => XS.lconst X6.here hx rfl (hb hby d2_36) kon) ?_
  refine own_of (fun tgt kon => XS.iload X6.here hx rfl (hb hby d2_37) rfl kon) ?_
  refine own_of (fun tgt kon => XS.lshl X6.here hx rfl (hb hby d2_39) rfl kon) ?_
  show own_Wp _ _ _ _ (T6.setTop (mkF m 40 #[rv a1, rv a2, iv p3, iv p4, iv p5, iv p6, iv (2 : Int32), uu, uu, uu] [(.long ((1 : Int64) <<< ((2 : Int32) &&& 0x3f).toInt64)), (.ref a1)]))
  obtain ⟨T7, h7, X7, e7, W7, st7⟩ := putF X6 hx hZ hown (host := "") (Or.inl (ow hw 25 rfl)) Via.refl e6 F_lastColumn E_a1 (Or.inr ⟨(ow hw 26 rfl), rfl, hnm⟩) (ow hw 6 rfl) (ty := .long) (by decide) rfl rfl (g := (mkF m 40 #[rv a1, rv a2, iv p3, iv p4, iv p5, iv p6, iv (2 : Int32), uu, uu, uu] [(.long ((1 : Int64) <<< ((2 : Int32) &&& 0x3f).toInt64)), (.ref a1)])) rfl rfl (hb hby d2_40)
  refine own_of st7 ?_
  clear st7
  have Fq7 := Fld.same W7 F_lastColumn
  replace Zs := Nat.le_trans Zs (Keep.of_wr W7).1
  replace K0 := K0.wr W7 (Or.inl (List.mem_of_getElem? (i := 0) rfl))
  replace E_a1 := E_a1.wr W7
  replace F_bound := F_bound.other W7 (Or.inr (slot_ne (Or.inr (ow hw 15 rfl)) (Or.inr (ow hw 26 rfl)) (by decide) (t := .int) (t' := .long) (by decide) (by decide)))
  replace F_headBound := F_headBound.other W7 (Or.inr (slot_ne (Or.inr (ow hw 17 rfl)) (Or.inr (ow hw 26 rfl)) (by decide) (t := .int) (t' := .long) (by decide) (by decide)))
  replace F_levels := F_levels.other W7 (Or.inr (slot_ne (Or.inr (ow hw 19 rfl)) (Or.inr (ow hw 26 rfl)) (by decide) (t := .int) (t' := .long) (by decide) (by decide)))
  replace F_columns := F_columns.other W7 (Or.inr (slot_ne (Or.inr (ow hw 24 rfl)) (Or.inr (ow hw 26 rfl)) (by decide) (t := .long) (t' := .long) (by decide) (by decide)))
  replace F_outsideHead := F_outsideHead.other W7 (Or.inr (slot_ne (Or.inr (ow hw 29 rfl)) (Or.inr (ow hw 26 rfl)) (by decide) (t := .long) (t' := .long) (by decide) (by decide)))
  replace F_codePoints := F_codePoints.other W7 (Or.inr (slot_ne (Or.inr (ow hw 31 rfl)) (Or.inr (ow hw 26 rfl)) (by decide) (t := (.array .int)) (t' := .long) (by decide) (by decide)))
  replace F_columnsOf := F_columnsOf.other W7 (Or.inr (slot_ne (Or.inr (ow hw 34 rfl)) (Or.inr (ow hw 26 rfl)) (by decide) (t := (.array .long)) (t' := .long) (by decide) (by decide)))
  replace F_rows := F_rows.other W7 (Or.inr (slot_ne (Or.inr (ow hw 36 rfl)) (Or.inr (ow hw 26 rfl)) (by decide) (t := (.array .long)) (t' := .long) (by decide) (by decide)))
  replace F_matches := F_matches.other W7 (Or.inr (slot_ne (Or.inr (ow hw 38 rfl)) (Or.inr (ow hw 26 rfl)) (by decide) (t := (.array .long)) (t' := .long) (by decide) (by decide)))
  replace V_a2 := V_a2.other W7 (Ne.symm ne12)
  replace F_lastColumn := Fq7
  clear Fq7
  have N7 := Fr.snoc X7 N6 g_a1
  refine own_of (fun tgt kon => XS.aloadN X7.here hx rfl (hb hby d2_43) rfl rfl kon) ?_
  refine own_of (fun tgt kon => XS.iloadN X7.here hx rfl (hb hby d2_44) rfl kon) ?_
  show own_Wp _ _ _ _ (T7.setTop (mkF m 45 #[rv a1, rv a2, iv p3, iv p4, iv p5, iv p6, iv (2 : Int32), uu, uu, uu] [(.int p4), (.ref a1)]))
  have J62 : ∀ (T8 : State) (lc8 : List Loc) (out : Int64), (Stand p l e ({ frames := 1, cells := 4, slots := 516, locals := 15 } : Room) s m #[(.ref a1), (.ref a2), (.int p3), (.int p4), (.int p5), (.int p6)] below meth c T8 lc8 0 0) → (T8.heap = h7) → (Fr n0 lc8) → (out = if p4 < (0 : Int32) then (-1 : Int64) else (own_upTo p4 ^^^ (-1 : Int64))) → own_Wp p.tables e below (own_K ({ frames := 1, cells := 4, slots := 516, locals := 15 } : Room) s below (Q_rmct2 Z a1 a2 p3 p4 p5 p6 tx bd ph dp RL cp0 cp1 cp2 co0 co1 co2 RR1 RR2 h0 n0)) (T8.setTop (mkF m 62 #[rv a1, rv a2, iv p3, iv p4, iv p5, iv p6, iv (2 : Int32), uu, uu, uu] [(.long out), (.ref a1)])) := by
    intro T8 lc8 out X8 e8 N8 h_out
    obtain ⟨T9, h9, X9, e9, W9, st9⟩ := putF X8 hx hZ hown (host := "") (Or.inl (ow hw 28 rfl)) Via.refl e8 F_outsideHead E_a1 (Or.inr ⟨(ow hw 29 rfl), rfl, hnm⟩) (ow hw 6 rfl) (ty := .long) (by decide) rfl rfl (g := (mkF m 62 #[rv a1, rv a2, iv p3, iv p4, iv p5, iv p6, iv (2 : Int32), uu, uu, uu] [(.long out), (.ref a1)])) rfl rfl (hb hby d2_62)
    refine own_of st9 ?_
    clear st9
    have Fq9 := Fld.same W9 F_outsideHead
    replace Zs := Nat.le_trans Zs (Keep.of_wr W9).1
    replace K0 := K0.wr W9 (Or.inl (List.mem_of_getElem? (i := 0) rfl))
    replace E_a1 := E_a1.wr W9
    replace F_bound := F_bound.other W9 (Or.inr (slot_ne (Or.inr (ow hw 15 rfl)) (Or.inr (ow hw 29 rfl)) (by decide) (t := .int) (t' := .long) (by decide) (by decide)))
    replace F_headBound := F_headBound.other W9 (Or.inr (slot_ne (Or.inr (ow hw 17 rfl)) (Or.inr (ow hw 29 rfl)) (by decide) (t := .int) (t' := .long) (by decide) (by decide)))
    replace F_levels := F_levels.other W9 (Or.inr (slot_ne (Or.inr (ow hw 19 rfl)) (Or.inr (ow hw 29 rfl)) (by decide) (t := .int) (t' := .long) (by decide) (by decide)))
    replace F_columns := F_columns.other W9 (Or.inr (slot_ne (Or.inr (ow hw 24 rfl)) (Or.inr (ow hw 29 rfl)) (by decide) (t := .long) (t' := .long) (by decide) (by decide)))
    replace F_lastColumn := F_lastColumn.other W9 (Or.inr (slot_ne (Or.inr (ow hw 26 rfl)) (Or.inr (ow hw 29 rfl)) (by decide) (t := .long) (t' := .long) (by decide) (by decide)))
    replace F_codePoints := F_codePoints.other W9 (Or.inr (slot_ne (Or.inr (ow hw 31 rfl)) (Or.inr (ow hw 29 rfl)) (by decide) (t := (.array .int)) (t' := .long) (by decide) (by decide)))
    replace F_columnsOf := F_columnsOf.other W9 (Or.inr (slot_ne (Or.inr (ow hw 34 rfl)) (Or.inr (ow hw 29 rfl)) (by decide) (t := (.array .long)) (t' := .long) (by decide) (by decide)))
    replace F_rows := F_rows.other W9 (Or.inr (slot_ne (Or.inr (ow hw 36 rfl)) (Or.inr (ow hw 29 rfl)) (by decide) (t := (.array .long)) (t' := .long) (by decide) (by decide)))
    replace F_matches := F_matches.other W9 (Or.inr (slot_ne (Or.inr (ow hw 38 rfl)) (Or.inr (ow hw 29 rfl)) (by decide) (t := (.array .long)) (t' := .long) (by decide) (by decide)))
    replace V_a2 := V_a2.other W9 (Ne.symm ne12)
    replace F_outsideHead := Fq9
    clear Fq9
    have N9 := Fr.snoc X9 N8 g_a1
    refine own_of (fun tgt kon => XS.aloadN X9.here hx rfl (hb hby d2_65) rfl rfl kon) ?_
    refine own_of (fun tgt kon => XS.sipush X9.here hx rfl (hb hby d2_66) kon) ?_
    obtain ⟨T10, h10, k10, X10, e10, E10, A10, st10⟩ := newP X9 hx hZ (ow hw 4 rfl) e9 (g := (mkF m 69 #[rv a1, rv a2, iv p3, iv p4, iv p5, iv p6, iv (2 : Int32), uu, uu, uu] [(.int (128 : Int32)), (.ref a1)])) rfl (hb hby d2_69) rfl (by decide) (cap := 128) (by decide) (by decide) (by decide) (by decide)
    refine own_of st10 ?_
    clear st10
    obtain ⟨b10, gq10⟩ : ∃ z, z = h9.size := ⟨_, rfl⟩
    rw [← gq10] at A10 ⊢
    have ne_a1_b10 : a1 ≠ b10 := Nat.ne_of_lt (Nat.lt_of_lt_of_le E_a1.lt (Nat.le_of_eq gq10.symm))
    have ne_a2_b10 : a2 ≠ b10 := Nat.ne_of_lt (Nat.lt_of_lt_of_le V_a2.lt (Nat.le_of_eq gq10.symm))
    have g_b10 : n0 ≤ b10 := Nat.le_trans Zs (Nat.le_of_eq gq10.symm)
    have sz_b10 : h0.size ≤ b10 := Nat.le_trans K0.1 (Nat.le_of_eq gq10.symm)
    replace Zs := Nat.le_trans Zs E10.1
    replace K0 := K0.ext E10
    replace E_a1 := E_a1.ext E10
    replace F_bound := F_bound.ext E10
    replace F_headBound := F_headBound.ext E10
    replace F_levels := F_levels.ext E10
    replace F_columns := F_columns.ext E10
    replace F_lastColumn := F_lastColumn.ext E10
    replace F_outsideHead := F_outsideHead.ext E10
    replace F_codePoints := F_codePoints.ext E10
    replace F_columnsOf := F_columnsOf.ext E10
    replace F_rows := F_rows.ext E10
    replace F_matches := F_matches.ext E10
    replace V_a2 := V_a2.ext E10
    have V_b10 : own_Ar Z h10 b10 .int 128 (fun _ => (.int (0 : Int32))) := own_Ar.new A10 (by decide) rfl
    obtain ⟨T11, h11, X11, e11, W11, st11⟩ := putF X10 hx hZ hown (host := "") (Or.inl (ow hw 30 rfl)) Via.refl e10 F_codePoints E_a1 (Or.inr ⟨(ow hw 31 rfl), rfl, hnm⟩) (ow hw 6 rfl) (ty := (.array .int)) (by decide) rfl rfl (g := (mkF m 71 #[rv a1, rv a2, iv p3, iv p4, iv p5, iv p6, iv (2 : Int32), uu, uu, uu] [(.ref b10), (.ref a1)])) rfl rfl (hb hby d2_71)
    refine own_of st11 ?_
    clear st11
    have Fq11 := Fld.same W11 F_codePoints
    replace Zs := Nat.le_trans Zs (Keep.of_wr W11).1
    replace K0 := K0.wr W11 (Or.inl (List.mem_of_getElem? (i := 0) rfl))
    replace E_a1 := E_a1.wr W11
    replace F_bound := F_bound.other W11 (Or.inr (slot_ne (Or.inr (ow hw 15 rfl)) (Or.inr (ow hw 31 rfl)) (by decide) (t := .int) (t' := (.array .int)) (by decide) (by decide)))
    replace F_headBound := F_headBound.other W11 (Or.inr (slot_ne (Or.inr (ow hw 17 rfl)) (Or.inr (ow hw 31 rfl)) (by decide) (t := .int) (t' := (.array .int)) (by decide) (by decide)))
    replace F_levels := F_levels.other W11 (Or.inr (slot_ne (Or.inr (ow hw 19 rfl)) (Or.inr (ow hw 31 rfl)) (by decide) (t := .int) (t' := (.array .int)) (by decide) (by decide)))
    replace F_columns := F_columns.other W11 (Or.inr (slot_ne (Or.inr (ow hw 24 rfl)) (Or.inr (ow hw 31 rfl)) (by decide) (t := .long) (t' := (.array .int)) (by decide) (by decide)))
    replace F_lastColumn := F_lastColumn.other W11 (Or.inr (slot_ne (Or.inr (ow hw 26 rfl)) (Or.inr (ow hw 31 rfl)) (by decide) (t := .long) (t' := (.array .int)) (by decide) (by decide)))
    replace F_outsideHead := F_outsideHead.other W11 (Or.inr (slot_ne (Or.inr (ow hw 29 rfl)) (Or.inr (ow hw 31 rfl)) (by decide) (t := .long) (t' := (.array .int)) (by decide) (by decide)))
    replace F_columnsOf := F_columnsOf.other W11 (Or.inr (slot_ne (Or.inr (ow hw 34 rfl)) (Or.inr (ow hw 31 rfl)) (by decide) (t := (.array .long)) (t' := (.array .int)) (by decide) (by decide)))
    replace F_rows := F_rows.other W11 (Or.inr (slot_ne (Or.inr (ow hw 36 rfl)) (Or.inr (ow hw 31 rfl)) (by decide) (t := (.array .long)) (t' := (.array .int)) (by decide) (by decide)))
    replace F_matches := F_matches.other W11 (Or.inr (slot_ne (Or.inr (ow hw 38 rfl)) (Or.inr (ow hw 31 rfl)) (by decide) (t := (.array .long)) (t' := (.array .int)) (by decide) (by decide)))
    replace V_a2 := V_a2.other W11 (Ne.symm ne12)
    replace V_b10 := V_b10.other W11 (Ne.symm ne_a1_b10)
    replace F_codePoints := Fq11
    clear Fq11
    have N11 := Fr.snoc X11 N9 g_a1
    show own_Wp _ _ _ _ (T11.setTop (mkF m 74 #[rv a1, rv a2, iv p3, iv p4, iv p5, iv p6, iv (2 : Int32), uu, uu, uu] []))
    refine own_of (fun tgt kon => XS.aloadN X11.here hx rfl (hb hby d2_74) rfl rfl kon) ?_
    refine own_of (fun tgt kon => XS.sipush X11.here hx rfl (hb hby d2_75) kon) ?_
    obtain ⟨T12, h12, k12, X12, e12, E12, A12, st12⟩ := newP X11 hx hZ (ow hw 32 rfl) e11 (g := (mkF m 78 #[rv a1, rv a2, iv p3, iv p4, iv p5, iv p6, iv (2 : Int32), uu, uu, uu] [(.int (128 : Int32)), (.ref a1)])) rfl (hb hby d2_78) rfl (by decide) (cap := 128) (by decide) (by decide) (by decide) (by decide)
    refine own_of st12 ?_
    clear st12
    obtain ⟨b12, gq12⟩ : ∃ z, z = h11.size := ⟨_, rfl⟩
    rw [← gq12] at A12 ⊢
    have ne_a1_b12 : a1 ≠ b12 := Nat.ne_of_lt (Nat.lt_of_lt_of_le E_a1.lt (Nat.le_of_eq gq12.symm))
    have ne_a2_b12 : a2 ≠ b12 := Nat.ne_of_lt (Nat.lt_of_lt_of_le V_a2.lt (Nat.le_of_eq gq12.symm))
    have ne_b10_b12 : b10 ≠ b12 := Nat.ne_of_lt (Nat.lt_of_lt_of_le V_b10.lt (Nat.le_of_eq gq12.symm))
    have g_b12 : n0 ≤ b12 := Nat.le_trans Zs (Nat.le_of_eq gq12.symm)
    have sz_b12 : h0.size ≤ b12 := Nat.le_trans K0.1 (Nat.le_of_eq gq12.symm)
    replace Zs := Nat.le_trans Zs E12.1
    replace K0 := K0.ext E12
    replace E_a1 := E_a1.ext E12
    replace F_bound := F_bound.ext E12
    replace F_headBound := F_headBound.ext E12
    replace F_levels := F_levels.ext E12
    replace F_columns := F_columns.ext E12
    replace F_lastColumn := F_lastColumn.ext E12
    replace F_outsideHead := F_outsideHead.ext E12
    replace F_codePoints := F_codePoints.ext E12
    replace F_columnsOf := F_columnsOf.ext E12
    replace F_rows := F_rows.ext E12
    replace F_matches := F_matches.ext E12
    replace V_a2 := V_a2.ext E12
    replace V_b10 := V_b10.ext E12
    have V_b12 : own_Ar Z h12 b12 .long 128 (fun _ => (.long (0 : Int64))) := own_Ar.new A12 (by decide) rfl
    obtain ⟨T13, h13, X13, e13, W13, st13⟩ := putF X12 hx hZ hown (host := "") (Or.inl (ow hw 33 rfl)) Via.refl e12 F_columnsOf E_a1 (Or.inr ⟨(ow hw 34 rfl), rfl, hnm⟩) (ow hw 6 rfl) (ty := (.array .long)) (by decide) rfl rfl (g := (mkF m 80 #[rv a1, rv a2, iv p3, iv p4, iv p5, iv p6, iv (2 : Int32), uu, uu, uu] [(.ref b12), (.ref a1)])) rfl rfl (hb hby d2_80)
    refine own_of st13 ?_
    clear st13
    have Fq13 := Fld.same W13 F_columnsOf
    replace Zs := Nat.le_trans Zs (Keep.of_wr W13).1
    replace K0 := K0.wr W13 (Or.inl (List.mem_of_getElem? (i := 0) rfl))
    replace E_a1 := E_a1.wr W13
    replace F_bound := F_bound.other W13 (Or.inr (slot_ne (Or.inr (ow hw 15 rfl)) (Or.inr (ow hw 34 rfl)) (by decide) (t := .int) (t' := (.array .long)) (by decide) (by decide)))
    replace F_headBound := F_headBound.other W13 (Or.inr (slot_ne (Or.inr (ow hw 17 rfl)) (Or.inr (ow hw 34 rfl)) (by decide) (t := .int) (t' := (.array .long)) (by decide) (by decide)))
    replace F_levels := F_levels.other W13 (Or.inr (slot_ne (Or.inr (ow hw 19 rfl)) (Or.inr (ow hw 34 rfl)) (by decide) (t := .int) (t' := (.array .long)) (by decide) (by decide)))
    replace F_columns := F_columns.other W13 (Or.inr (slot_ne (Or.inr (ow hw 24 rfl)) (Or.inr (ow hw 34 rfl)) (by decide) (t := .long) (t' := (.array .long)) (by decide) (by decide)))
    replace F_lastColumn := F_lastColumn.other W13 (Or.inr (slot_ne (Or.inr (ow hw 26 rfl)) (Or.inr (ow hw 34 rfl)) (by decide) (t := .long) (t' := (.array .long)) (by decide) (by decide)))
    replace F_outsideHead := F_outsideHead.other W13 (Or.inr (slot_ne (Or.inr (ow hw 29 rfl)) (Or.inr (ow hw 34 rfl)) (by decide) (t := .long) (t' := (.array .long)) (by decide) (by decide)))
    replace F_codePoints := F_codePoints.other W13 (Or.inr (slot_ne (Or.inr (ow hw 31 rfl)) (Or.inr (ow hw 34 rfl)) (by decide) (t := (.array .int)) (t' := (.array .long)) (by decide) (by decide)))
    replace F_rows := F_rows.other W13 (Or.inr (slot_ne (Or.inr (ow hw 36 rfl)) (Or.inr (ow hw 34 rfl)) (by decide) (t := (.array .long)) (t' := (.array .long)) (by decide) (by decide)))
    replace F_matches := F_matches.other W13 (Or.inr (slot_ne (Or.inr (ow hw 38 rfl)) (Or.inr (ow hw 34 rfl)) (by decide) (t := (.array .long)) (t' := (.array .long)) (by decide) (by decide)))
    replace V_a2 := V_a2.other W13 (Ne.symm ne12)
    replace V_b10 := V_b10.other W13 (Ne.symm ne_a1_b10)
    replace V_b12 := V_b12.other W13 (Ne.symm ne_a1_b12)
    replace F_columnsOf := Fq13
    clear Fq13
    have N13 := Fr.snoc X13 N11 g_a1
    refine own_of (fun tgt kon => XS.aloadN X13.here hx rfl (hb hby d2_83) rfl rfl kon) ?_
    show own_Wp _ _ _ _ (T13.setTop (mkF m 84 #[rv a1, rv a2, iv p3, iv p4, iv p5, iv p6, iv (2 : Int32), uu, uu, uu] [(.ref a1)]))
    refine own_of (fun tgt kon => XS.iload X13.here hx rfl (hb hby d2_84) rfl kon) ?_
    refine own_of (fun tgt kon => XS.iconst X13.here hx rfl (hb hby d2_86) kon) ?_
    refine own_of (fun tgt kon => XS.iadd X13.here hx rfl (hb hby d2_87) rfl kon) ?_
    refine own_of (fun tgt kon => XS.aloadN X13.here hx rfl (hb hby d2_88) rfl rfl kon) ?_
    obtain ⟨T14, X14, e14, st14⟩ := getF X13 hx hZ hown (host := "") (Or.inl (ow hw 18 rfl)) Via.refl e13 F_levels (g := (mkF m 89 #[rv a1, rv a2, iv p3, iv p4, iv p5, iv p6, iv (2 : Int32), uu, uu, uu] [(.ref a1), (.int (p6 + (1 : Int32))), (.ref a1)])) rfl rfl (hb hby d2_89)
    refine own_of st14 ?_
    clear st14
    show own_Wp _ _ _ _ (T14.setTop (mkF m 92 #[rv a1, rv a2, iv p3, iv p4, iv p5, iv p6, iv (2 : Int32), uu, uu, uu] [(.int (p3 + (1 : Int32))), (.int (p6 + (1 : Int32))), (.ref a1)]))
    refine own_of (fun tgt kon => XS.imul X14.here hx rfl (hb hby d2_92) rfl kon) ?_
    obtain ⟨T15, h15, k15, X15, e15, E15, A15, st15⟩ := newP X14 hx hZ (ow hw 32 rfl) e14 (g := (mkF m 93 #[rv a1, rv a2, iv p3, iv p4, iv p5, iv p6, iv (2 : Int32), uu, uu, uu] [(.int ((p6 + (1 : Int32)) * (p3 + (1 : Int32)))), (.ref a1)])) rfl (hb hby d2_93) rfl (own_nneg hRT) (cap := 256) (by rw [own_nat hRT]; omega) (by decide) (by decide) (by decide)
    refine own_of st15 ?_
    clear st15
    obtain ⟨b15, gq15⟩ : ∃ z, z = h13.size := ⟨_, rfl⟩
    rw [← gq15] at A15 ⊢
    have ne_a1_b15 : a1 ≠ b15 := Nat.ne_of_lt (Nat.lt_of_lt_of_le E_a1.lt (Nat.le_of_eq gq15.symm))
    have ne_a2_b15 : a2 ≠ b15 := Nat.ne_of_lt (Nat.lt_of_lt_of_le V_a2.lt (Nat.le_of_eq gq15.symm))
    have ne_b10_b15 : b10 ≠ b15 := Nat.ne_of_lt (Nat.lt_of_lt_of_le V_b10.lt (Nat.le_of_eq gq15.symm))
    have ne_b12_b15 : b12 ≠ b15 := Nat.ne_of_lt (Nat.lt_of_lt_of_le V_b12.lt (Nat.le_of_eq gq15.symm))
    have g_b15 : n0 ≤ b15 := Nat.le_trans Zs (Nat.le_of_eq gq15.symm)
    have sz_b15 : h0.size ≤ b15 := Nat.le_trans K0.1 (Nat.le_of_eq gq15.symm)
    replace Zs := Nat.le_trans Zs E15.1
    replace K0 := K0.ext E15
    replace E_a1 := E_a1.ext E15
    replace F_bound := F_bound.ext E15
    replace F_headBound := F_headBound.ext E15
    replace F_levels := F_levels.ext E15
    replace F_columns := F_columns.ext E15
    replace F_lastColumn := F_lastColumn.ext E15
    replace F_outsideHead := F_outsideHead.ext E15
    replace F_codePoints := F_codePoints.ext E15
    replace F_columnsOf := F_columnsOf.ext E15
    replace F_rows := F_rows.ext E15
    replace F_matches := F_matches.ext E15
    replace V_a2 := V_a2.ext E15
    replace V_b10 := V_b10.ext E15
    replace V_b12 := V_b12.ext E15
    have V_b15 : own_Ar Z h15 b15 .long RL (fun _ => (.long (0 : Int64))) := own_Ar.new A15 (own_nneg hRT) (own_nat hRT)
    obtain ⟨T16, h16, X16, e16, W16, st16⟩ := putF X15 hx hZ hown (host := "") (Or.inl (ow hw 35 rfl)) Via.refl e15 F_rows E_a1 (Or.inr ⟨(ow hw 36 rfl), rfl, hnm⟩) (ow hw 6 rfl) (ty := (.array .long)) (by decide) rfl rfl (g := (mkF m 95 #[rv a1, rv a2, iv p3, iv p4, iv p5, iv p6, iv (2 : Int32), uu, uu, uu] [(.ref b15), (.ref a1)])) rfl rfl (hb hby d2_95)
    refine own_of st16 ?_
    clear st16
    have Fq16 := Fld.same W16 F_rows
    replace Zs := Nat.le_trans Zs (Keep.of_wr W16).1
    replace K0 := K0.wr W16 (Or.inl (List.mem_of_getElem? (i := 0) rfl))
    replace E_a1 := E_a1.wr W16
    replace F_bound := F_bound.other W16 (Or.inr (slot_ne (Or.inr (ow hw 15 rfl)) (Or.inr (ow hw 36 rfl)) (by decide) (t := .int) (t' := (.array .long)) (by decide) (by decide)))
    replace F_headBound := F_headBound.other W16 (Or.inr (slot_ne (Or.inr (ow hw 17 rfl)) (Or.inr (ow hw 36 rfl)) (by decide) (t := .int) (t' := (.array .long)) (by decide) (by decide)))
    replace F_levels := F_levels.other W16 (Or.inr (slot_ne (Or.inr (ow hw 19 rfl)) (Or.inr (ow hw 36 rfl)) (by decide) (t := .int) (t' := (.array .long)) (by decide) (by decide)))
    replace F_columns := F_columns.other W16 (Or.inr (slot_ne (Or.inr (ow hw 24 rfl)) (Or.inr (ow hw 36 rfl)) (by decide) (t := .long) (t' := (.array .long)) (by decide) (by decide)))
    replace F_lastColumn := F_lastColumn.other W16 (Or.inr (slot_ne (Or.inr (ow hw 26 rfl)) (Or.inr (ow hw 36 rfl)) (by decide) (t := .long) (t' := (.array .long)) (by decide) (by decide)))
    replace F_outsideHead := F_outsideHead.other W16 (Or.inr (slot_ne (Or.inr (ow hw 29 rfl)) (Or.inr (ow hw 36 rfl)) (by decide) (t := .long) (t' := (.array .long)) (by decide) (by decide)))
    replace F_codePoints := F_codePoints.other W16 (Or.inr (slot_ne (Or.inr (ow hw 31 rfl)) (Or.inr (ow hw 36 rfl)) (by decide) (t := (.array .int)) (t' := (.array .long)) (by decide) (by decide)))
    replace F_columnsOf := F_columnsOf.other W16 (Or.inr (slot_ne (Or.inr (ow hw 34 rfl)) (Or.inr (ow hw 36 rfl)) (by decide) (t := (.array .long)) (t' := (.array .long)) (by decide) (by decide)))
    replace F_matches := F_matches.other W16 (Or.inr (slot_ne (Or.inr (ow hw 38 rfl)) (Or.inr (ow hw 36 rfl)) (by decide) (t := (.array .long)) (t' := (.array .long)) (by decide) (by decide)))
    replace V_a2 := V_a2.other W16 (Ne.symm ne12)
    replace V_b10 := V_b10.other W16 (Ne.symm ne_a1_b10)
    replace V_b12 := V_b12.other W16 (Ne.symm ne_a1_b12)
    replace V_b15 := V_b15.other W16 (Ne.symm ne_a1_b15)
    replace F_rows := Fq16
    clear Fq16
    have N16 := Fr.snoc X16 N13 g_a1
    refine own_of (fun tgt kon => XS.aloadN X16.here hx rfl (hb hby d2_98) rfl rfl kon) ?_
    refine own_of (fun tgt kon => XS.iload X16.here hx rfl (hb hby d2_99) rfl kon) ?_
    show own_Wp _ _ _ _ (T16.setTop (mkF m 101 #[rv a1, rv a2, iv p3, iv p4, iv p5, iv p6, iv (2 : Int32), uu, uu, uu] [(.int p6), (.ref a1)]))
    refine own_of (fun tgt kon => XS.iconst X16.here hx rfl (hb hby d2_101) kon) ?_
    refine own_of (fun tgt kon => XS.iadd X16.here hx rfl (hb hby d2_102) rfl kon) ?_
    obtain ⟨T17, h17, k17, X17, e17, E17, A17, st17⟩ := newP X16 hx hZ (ow hw 32 rfl) e16 (g := (mkF m 103 #[rv a1, rv a2, iv p3, iv p4, iv p5, iv p6, iv (2 : Int32), uu, uu, uu] [(.int (p6 + (1 : Int32))), (.ref a1)])) rfl (hb hby d2_103) rfl (own_nneg hLV) (cap := 4) (by rw [own_nat hLV]; omega) (by decide) (by decide) (by decide)
    refine own_of st17 ?_
    clear st17
    obtain ⟨b17, gq17⟩ : ∃ z, z = h16.size := ⟨_, rfl⟩
    rw [← gq17] at A17 ⊢
    have ne_a1_b17 : a1 ≠ b17 := Nat.ne_of_lt (Nat.lt_of_lt_of_le E_a1.lt (Nat.le_of_eq gq17.symm))
    have ne_a2_b17 : a2 ≠ b17 := Nat.ne_of_lt (Nat.lt_of_lt_of_le V_a2.lt (Nat.le_of_eq gq17.symm))
    have ne_b10_b17 : b10 ≠ b17 := Nat.ne_of_lt (Nat.lt_of_lt_of_le V_b10.lt (Nat.le_of_eq gq17.symm))
    have ne_b12_b17 : b12 ≠ b17 := Nat.ne_of_lt (Nat.lt_of_lt_of_le V_b12.lt (Nat.le_of_eq gq17.symm))
    have ne_b15_b17 : b15 ≠ b17 := Nat.ne_of_lt (Nat.lt_of_lt_of_le V_b15.lt (Nat.le_of_eq gq17.symm))
    have g_b17 : n0 ≤ b17 := Nat.le_trans Zs (Nat.le_of_eq gq17.symm)
    have sz_b17 : h0.size ≤ b17 := Nat.le_trans K0.1 (Nat.le_of_eq gq17.symm)
    replace Zs := Nat.le_trans Zs E17.1
    replace K0 := K0.ext E17
    replace E_a1 := E_a1.ext E17
    replace F_bound := F_bound.ext E17
    replace F_headBound := F_headBound.ext E17
    replace F_levels := F_levels.ext E17
    replace F_columns := F_columns.ext E17
    replace F_lastColumn := F_lastColumn.ext E17
    replace F_outsideHead := F_outsideHead.ext E17
    replace F_codePoints := F_codePoints.ext E17
    replace F_columnsOf := F_columnsOf.ext E17
    replace F_rows := F_rows.ext E17
    replace F_matches := F_matches.ext E17
    replace V_a2 := V_a2.ext E17
    replace V_b10 := V_b10.ext E17
    replace V_b12 := V_b12.ext E17
    replace V_b15 := V_b15.ext E17
    have V_b17 : own_Ar Z h17 b17 .long (dp + 1) (fun _ => (.long (0 : Int64))) := own_Ar.new A17 (own_nneg hLV) (own_nat hLV)
    obtain ⟨T18, h18, X18, e18, W18, st18⟩ := putF X17 hx hZ hown (host := "") (Or.inl (ow hw 37 rfl)) Via.refl e17 F_matches E_a1 (Or.inr ⟨(ow hw 38 rfl), rfl, hnm⟩) (ow hw 6 rfl) (ty := (.array .long)) (by decide) rfl rfl (g := (mkF m 105 #[rv a1, rv a2, iv p3, iv p4, iv p5, iv p6, iv (2 : Int32), uu, uu, uu] [(.ref b17), (.ref a1)])) rfl rfl (hb hby d2_105)
    refine own_of st18 ?_
    clear st18
    have Fq18 := Fld.same W18 F_matches
    replace Zs := Nat.le_trans Zs (Keep.of_wr W18).1
    replace K0 := K0.wr W18 (Or.inl (List.mem_of_getElem? (i := 0) rfl))
    replace E_a1 := E_a1.wr W18
    replace F_bound := F_bound.other W18 (Or.inr (slot_ne (Or.inr (ow hw 15 rfl)) (Or.inr (ow hw 38 rfl)) (by decide) (t := .int) (t' := (.array .long)) (by decide) (by decide)))
    replace F_headBound := F_headBound.other W18 (Or.inr (slot_ne (Or.inr (ow hw 17 rfl)) (Or.inr (ow hw 38 rfl)) (by decide) (t := .int) (t' := (.array .long)) (by decide) (by decide)))
    replace F_levels := F_levels.other W18 (Or.inr (slot_ne (Or.inr (ow hw 19 rfl)) (Or.inr (ow hw 38 rfl)) (by decide) (t := .int) (t' := (.array .long)) (by decide) (by decide)))
    replace F_columns := F_columns.other W18 (Or.inr (slot_ne (Or.inr (ow hw 24 rfl)) (Or.inr (ow hw 38 rfl)) (by decide) (t := .long) (t' := (.array .long)) (by decide) (by decide)))
    replace F_lastColumn := F_lastColumn.other W18 (Or.inr (slot_ne (Or.inr (ow hw 26 rfl)) (Or.inr (ow hw 38 rfl)) (by decide) (t := .long) (t' := (.array .long)) (by decide) (by decide)))
    replace F_outsideHead := F_outsideHead.other W18 (Or.inr (slot_ne (Or.inr (ow hw 29 rfl)) (Or.inr (ow hw 38 rfl)) (by decide) (t := .long) (t' := (.array .long)) (by decide) (by decide)))
    replace F_codePoints := F_codePoints.other W18 (Or.inr (slot_ne (Or.inr (ow hw 31 rfl)) (Or.inr (ow hw 38 rfl)) (by decide) (t := (.array .int)) (t' := (.array .long)) (by decide) (by decide)))
    replace F_columnsOf := F_columnsOf.other W18 (Or.inr (slot_ne (Or.inr (ow hw 34 rfl)) (Or.inr (ow hw 38 rfl)) (by decide) (t := (.array .long)) (t' := (.array .long)) (by decide) (by decide)))
    replace F_rows := F_rows.other W18 (Or.inr (slot_ne (Or.inr (ow hw 36 rfl)) (Or.inr (ow hw 38 rfl)) (by decide) (t := (.array .long)) (t' := (.array .long)) (by decide) (by decide)))
    replace V_a2 := V_a2.other W18 (Ne.symm ne12)
    replace V_b10 := V_b10.other W18 (Ne.symm ne_a1_b10)
    replace V_b12 := V_b12.other W18 (Ne.symm ne_a1_b12)
    replace V_b15 := V_b15.other W18 (Ne.symm ne_a1_b15)
    replace V_b17 := V_b17.other W18 (Ne.symm ne_a1_b17)
    replace F_matches := Fq18
    clear Fq18
    have N18 := Fr.snoc X18 N16 g_a1
    refine own_of (fun tgt kon => XS.aloadN X18.here hx rfl (hb hby d2_108) rfl rfl kon) ?_
    show own_Wp _ _ _ _ (T18.setTop (mkF m 109 #[rv a1, rv a2, iv p3, iv p4, iv p5, iv p6, iv (2 : Int32), uu, uu, uu] [(.ref a1)]))
    obtain ⟨T19, X19, e19, st19⟩ := getF X18 hx hZ hown (host := "") (Or.inl (ow hw 30 rfl)) Via.refl e18 F_codePoints (g := (mkF m 109 #[rv a1, rv a2, iv p3, iv p4, iv p5, iv p6, iv (2 : Int32), uu, uu, uu] [(.ref a1)])) rfl rfl (hb hby d2_109)
    refine own_of st19 ?_
    clear st19
    refine own_of (fun tgt kon => XS.iconst X19.here hx rfl (hb hby d2_112) kon) ?_
    refine own_callS X19 hx hZ (y := (⟨"java/util/Arrays", "fill", "([II)V"⟩ : MethodName)) (argsL := [(.ref b10), (.int (-1 : Int32))]) (rest := []) (W := 0) hown (ow hw 39 rfl) (ow hw 40 rfl) (ow hw 41 rfl) (ow hw 42 rfl) (by decide) e19 (rmaf l Z a0 hw [] b10 (-1 : Int32) (fun _ => (.int (0 : Int32))) h18 n0 Zs V_b10 g_b10) (by decide) (by decide) (by decide) (by decide) rfl (by rw [hml]; rfl) (lenOf own_pd1 rfl) rfl (by show 2 * 0 + _ ≤ _; exact Nat.le_of_eq rfl) (hb hby d2_113) ?_
    rintro T20 L20 _ X20 ⟨rfl, N20q, Kq20, Vq20⟩
    have N20 := Fr.app N18 N20q
    show own_Wp _ _ _ _ (T20.setTop (mkF m 116 #[rv a1, rv a2, iv p3, iv p4, iv p5, iv p6, iv (2 : Int32), uu, uu, uu] []))
    replace Zs := Nat.le_trans Zs Kq20.1
    replace K0 := K0.trans Kq20 (allS (P := fun z => z ∈ _ ∨ _ ≤ z) (Or.inr sz_b10) all0)
    replace E_a1 := E_a1.keep Kq20
    replace F_bound := F_bound.keep Kq20 (ninS ne_a1_b10 nin0)
    replace F_headBound := F_headBound.keep Kq20 (ninS ne_a1_b10 nin0)
    replace F_levels := F_levels.keep Kq20 (ninS ne_a1_b10 nin0)
    replace F_columns := F_columns.keep Kq20 (ninS ne_a1_b10 nin0)
    replace F_lastColumn := F_lastColumn.keep Kq20 (ninS ne_a1_b10 nin0)
    replace F_outsideHead := F_outsideHead.keep Kq20 (ninS ne_a1_b10 nin0)
    replace F_codePoints := F_codePoints.keep Kq20 (ninS ne_a1_b10 nin0)
    replace F_columnsOf := F_columnsOf.keep Kq20 (ninS ne_a1_b10 nin0)
    replace F_rows := F_rows.keep Kq20 (ninS ne_a1_b10 nin0)
    replace F_matches := F_matches.keep Kq20 (ninS ne_a1_b10 nin0)
    replace V_a2 := V_a2.keep Kq20 (ninS ne_a2_b10 nin0)
    replace V_b12 := V_b12.keep Kq20 (ninS (Ne.symm ne_b10_b12) nin0)
    replace V_b15 := V_b15.keep Kq20 (ninS (Ne.symm ne_b10_b15) nin0)
    replace V_b17 := V_b17.keep Kq20 (ninS (Ne.symm ne_b10_b17) nin0)
    have V_b10 := Vq20.fn (f' := fun k => .int (cp0 k)) (fun k hk => congrArg Value.int (hcp0 k).symm)
    replace V_b12 := V_b12.fn (f' := fun k => .long (co0 k)) (fun k hk => congrArg Value.long (hco0 k).symm)
    refine own_of (fun tgt kon => XS.iconst X20.here hx rfl (hb hby d2_116) kon) ?_
    refine own_of (fun tgt kon => XS.istore X20.here hx rfl (hb hby d2_117) rfl (l' := #[rv a1, rv a2, iv p3, iv p4, iv p5, iv p6, iv (2 : Int32), iv (1 : Int32), uu, uu]) rfl kon) ?_
    refine own_of (fun tgt kon => XS.iload X20.here hx rfl (hb hby d2_119) rfl kon) ?_
    refine own_of (fun tgt kon => XS.iload X20.here hx rfl (hb hby d2_121) rfl kon) ?_
    have hc123 : ¬ ((2 : Int32) < (1 : Int32)) := by decide
    refine own_of (fun tgt kon => XS.icmpNo X20.here hx rfl (hb hby d2_123) rfl (flt hc123).2.2.1 kon) ?_
    refine own_of (fun tgt kon => XS.aloadN X20.here hx rfl (hb hby d2_126) rfl rfl kon) ?_
    show own_Wp _ _ _ _ (T20.setTop (mkF m 127 #[rv a1, rv a2, iv p3, iv p4, iv p5, iv p6, iv (2 : Int32), iv (1 : Int32), uu, uu] [(.ref a1)]))
    refine own_of (fun tgt kon => XS.aloadN X20.here hx rfl (hb hby d2_127) rfl rfl kon) ?_
    refine own_of (fun tgt kon => XS.iload X20.here hx rfl (hb hby d2_128) rfl kon) ?_
    refine own_of (fun tgt kon => XS.iconst X20.here hx rfl (hb hby d2_130) kon) ?_
    refine own_of (fun tgt kon => XS.isub X20.here hx rfl (hb hby d2_131) rfl kon) ?_
    refine own_iaload X20 hx hZ rfl V_a2 (j := ((1 : Int32) - (1 : Int32))) (i := 0) (v := (tx 0)) (by decide) (by decide) rfl rfl rfl (hb hby d2_132) ?_
    show own_Wp _ _ _ _ (T20.setTop (mkF m 133 #[rv a1, rv a2, iv p3, iv p4, iv p5, iv p6, iv (2 : Int32), iv (1 : Int32), uu, uu] [(.int (tx 0)), (.ref a1)]))
    refine own_callP X20 hx hZ (y := (⟨"com/example/close_words/closewords/BitRows", "slot", "(I)I"⟩ : MethodName)) (a := a1) (argsL := [(.int (tx 0))]) (rest := []) (W := 0) hown (ow hw 52 rfl) (ow hw 53 rfl) (ow hw 6 rfl) (ow hw 54 rfl) (ow hw 7 rfl) (ow hw 55 rfl) (by decide) rfl E_a1 (rmslot l Z a0 hw [] a1 (tx 0) b10 cp0 RR1 (Int32.ofNat RR1) T20.heap n0 Zs E_a1 F_codePoints V_b10 hR1 hok1.1 (own_ofN (by have := hok1.2; omega))) (by decide) (by decide) (by decide) (by decide) rfl (by rw [hml]; rfl) (lenOf own_pd3 rfl) rfl (by show 2 * 0 + _ ≤ _; exact Nat.le_of_eq rfl) (hb hby d2_133) ?_
    rintro T21 L21 _ X21 ⟨rfl, N21q, e21⟩
    have N21 := Fr.app N20 N21q
    show own_Wp _ _ _ _ (T21.setTop (mkF m 136 #[rv a1, rv a2, iv p3, iv p4, iv p5, iv p6, iv (2 : Int32), iv (1 : Int32), uu, uu] [(.int (Int32.ofNat RR1))]))
    refine own_of (fun tgt kon => XS.istore X21.here hx rfl (hb hby d2_136) rfl (l' := #[rv a1, rv a2, iv p3, iv p4, iv p5, iv p6, iv (2 : Int32), iv (1 : Int32), iv (Int32.ofNat RR1), uu]) rfl kon) ?_
    refine own_of (fun tgt kon => XS.aloadN X21.here hx rfl (hb hby d2_138) rfl rfl kon) ?_
    obtain ⟨T22, X22, e22, st22⟩ := getF X21 hx hZ hown (host := "") (Or.inl (ow hw 30 rfl)) Via.refl e21 F_codePoints (g := (mkF m 139 #[rv a1, rv a2, iv p3, iv p4, iv p5, iv p6, iv (2 : Int32), iv (1 : Int32), iv (Int32.ofNat RR1), uu] [(.ref a1)])) rfl rfl (hb hby d2_139)
    refine own_of st22 ?_
    clear st22
    refine own_of (fun tgt kon => XS.iload X22.here hx rfl (hb hby d2_142) rfl kon) ?_
    refine own_of (fun tgt kon => XS.aloadN X22.here hx rfl (hb hby d2_144) rfl rfl kon) ?_
    show own_Wp _ _ _ _ (T22.setTop (mkF m 145 #[rv a1, rv a2, iv p3, iv p4, iv p5, iv p6, iv (2 : Int32), iv (1 : Int32), iv (Int32.ofNat RR1), uu] [(.ref a2), (.int (Int32.ofNat RR1)), (.ref b10)]))
    refine own_of (fun tgt kon => XS.iload X22.here hx rfl (hb hby d2_145) rfl kon) ?_
    refine own_of (fun tgt kon => XS.iconst X22.here hx rfl (hb hby d2_147) kon) ?_
    refine own_of (fun tgt kon => XS.isub X22.here hx rfl (hb hby d2_148) rfl kon) ?_
    refine own_iaload X22 hx hZ e22 V_a2 (j := ((1 : Int32) - (1 : Int32))) (i := 0) (v := (tx 0)) (by decide) (by decide) rfl rfl rfl (hb hby d2_149) ?_
    obtain ⟨T23, h23, X23, e23, W23, Aq23, st23⟩ := own_stI X22 hx hZ e22 V_b10 (j := (Int32.ofNat RR1)) (i := RR1) (x := (tx 0)) (own_ofN (by have := hok1.2; omega)) hok1.2 (g := (mkF m 150 #[rv a1, rv a2, iv p3, iv p4, iv p5, iv p6, iv (2 : Int32), iv (1 : Int32), iv (Int32.ofNat RR1), uu] [(.int (tx 0)), (.int (Int32.ofNat RR1)), (.ref b10)])) rfl rfl (hb hby d2_150)
    refine own_of st23 ?_
    clear st23
    replace Zs := Nat.le_trans Zs (Keep.of_wr W23).1
    replace K0 := K0.wr W23 (Or.inr sz_b10)
    replace E_a1 := E_a1.wr W23
    replace F_bound := F_bound.other W23 (Or.inl ne_a1_b10)
    replace F_headBound := F_headBound.other W23 (Or.inl ne_a1_b10)
    replace F_levels := F_levels.other W23 (Or.inl ne_a1_b10)
    replace F_columns := F_columns.other W23 (Or.inl ne_a1_b10)
    replace F_lastColumn := F_lastColumn.other W23 (Or.inl ne_a1_b10)
    replace F_outsideHead := F_outsideHead.other W23 (Or.inl ne_a1_b10)
    replace F_codePoints := F_codePoints.other W23 (Or.inl ne_a1_b10)
    replace F_columnsOf := F_columnsOf.other W23 (Or.inl ne_a1_b10)
    replace F_rows := F_rows.other W23 (Or.inl ne_a1_b10)
    replace F_matches := F_matches.other W23 (Or.inl ne_a1_b10)
    replace V_a2 := V_a2.other W23 ne_a2_b10
    replace V_b12 := V_b12.other W23 (Ne.symm ne_b10_b12)
    replace V_b15 := V_b15.other W23 (Ne.symm ne_b10_b15)
    replace V_b17 := V_b17.other W23 (Ne.symm ne_b10_b17)
    replace V_b10 := Aq23
    clear Aq23
    replace V_b10 := V_b10.fn (f' := fun k => .int (cp1 k)) (fun k hk => by rw [hcp1]; exact own_setI _ _ _ k)
    have N23 := Fr.snoc X23 N21 g_b10
    show own_Wp _ _ _ _ (T23.setTop (mkF m 151 #[rv a1, rv a2, iv p3, iv p4, iv p5, iv p6, iv (2 : Int32), iv (1 : Int32), iv (Int32.ofNat RR1), uu] []))
    refine own_of (fun tgt kon => XS.aloadN X23.here hx rfl (hb hby d2_151) rfl rfl kon) ?_
    obtain ⟨T24, X24, e24, st24⟩ := getF X23 hx hZ hown (host := "") (Or.inl (ow hw 33 rfl)) Via.refl e23 F_columnsOf (g := (mkF m 152 #[rv a1, rv a2, iv p3, iv p4, iv p5, iv p6, iv (2 : Int32), iv (1 : Int32), iv (Int32.ofNat RR1), uu] [(.ref a1)])) rfl rfl (hb hby d2_152)
    refine own_of st24 ?_
    clear st24
    refine own_of (fun tgt kon => XS.iload X24.here hx rfl (hb hby d2_155) rfl kon) ?_
    refine own_of (fun tgt kon => Jvm.Free.XT.dup2 X24.here hx rfl (hb hby d2_157) rfl rfl rfl kon) ?_
    refine own_laload X24 hx hZ e24 V_b12 (j := (Int32.ofNat RR1)) (i := RR1) (v := (co0 RR1)) (own_ofN (by have := hok1.2; omega)) hok1.2 rfl rfl rfl (hb hby d2_158) ?_
    show own_Wp _ _ _ _ (T24.setTop (mkF m 159 #[rv a1, rv a2, iv p3, iv p4, iv p5, iv p6, iv (2 : Int32), iv (1 : Int32), iv (Int32.ofNat RR1), uu] [(.long (co0 RR1)), (.int (Int32.ofNat RR1)), (.ref b12)]))
    refine own_of (fun tgt kon => XS.lconst X24.here hx rfl (hb hby d2_159) kon) ?_
    refine own_of (fun tgt kon => XS.iload X24.here hx rfl (hb hby d2_160) rfl kon) ?_
    refine own_of (fun tgt kon => XS.lshl X24.here hx rfl (hb hby d2_162) rfl kon) ?_
    refine own_of (fun tgt kon => XS.lor X24.here hx rfl (hb hby d2_163) rfl kon) ?_
    obtain ⟨T25, h25, X25, e25, W25, Aq25, st25⟩ := own_stJ X24 hx hZ e24 V_b12 (j := (Int32.ofNat RR1)) (i := RR1) (x := ((co0 RR1) ||| ((1 : Int64) <<< ((1 : Int32) &&& 0x3f).toInt64))) (own_ofN (by have := hok1.2; omega)) hok1.2 (g := (mkF m 164 #[rv a1, rv a2, iv p3, iv p4, iv p5, iv p6, iv (2 : Int32), iv (1 : Int32), iv (Int32.ofNat RR1), uu] [(.long ((co0 RR1) ||| ((1 : Int64) <<< ((1 : Int32) &&& 0x3f).toInt64))), (.int (Int32.ofNat RR1)), (.ref b12)])) rfl rfl (hb hby d2_164)
    refine own_of st25 ?_
    clear st25
    replace Zs := Nat.le_trans Zs (Keep.of_wr W25).1
    replace K0 := K0.wr W25 (Or.inr sz_b12)
    replace E_a1 := E_a1.wr W25
    replace F_bound := F_bound.other W25 (Or.inl ne_a1_b12)
    replace F_headBound := F_headBound.other W25 (Or.inl ne_a1_b12)
    replace F_levels := F_levels.other W25 (Or.inl ne_a1_b12)
    replace F_columns := F_columns.other W25 (Or.inl ne_a1_b12)
    replace F_lastColumn := F_lastColumn.other W25 (Or.inl ne_a1_b12)
    replace F_outsideHead := F_outsideHead.other W25 (Or.inl ne_a1_b12)
    replace F_codePoints := F_codePoints.other W25 (Or.inl ne_a1_b12)
    replace F_columnsOf := F_columnsOf.other W25 (Or.inl ne_a1_b12)
    replace F_rows := F_rows.other W25 (Or.inl ne_a1_b12)
    replace F_matches := F_matches.other W25 (Or.inl ne_a1_b12)
    replace V_a2 := V_a2.other W25 ne_a2_b12
    replace V_b15 := V_b15.other W25 (Ne.symm ne_b12_b15)
    replace V_b17 := V_b17.other W25 (Ne.symm ne_b12_b17)
    replace V_b10 := V_b10.other W25 ne_b10_b12
    replace V_b12 := Aq25
    clear Aq25
    replace V_b12 := V_b12.fn (f' := fun k => .long (co1 k)) (fun k hk => by rw [hco1]; exact own_setJ _ _ _ k)
    have N25 := Fr.snoc X25 N23 g_b12
    show own_Wp _ _ _ _ (T25.setTop (mkF m 165 #[rv a1, rv a2, iv p3, iv p4, iv p5, iv p6, iv (2 : Int32), iv (1 : Int32), iv (Int32.ofNat RR1), uu] []))
    refine own_of (fun tgt kon => XS.iinc X25.here hx rfl (hb hby d2_165) rfl (l' := #[rv a1, rv a2, iv p3, iv p4, iv p5, iv p6, iv (2 : Int32), iv ((1 : Int32) + (1 : Int32)), iv (Int32.ofNat RR1), uu]) rfl kon) ?_
    refine own_of (fun tgt kon => XS.goto X25.here hx rfl (pc0 := 168) (pc' := 119) rfl (hb hby d2_168) (by decide) (by decide) kon) ?_
    refine own_of (fun tgt kon => XS.iload X25.here hx rfl (hb hby d2_119) rfl kon) ?_
    refine own_of (fun tgt kon => XS.iload X25.here hx rfl (hb hby d2_121) rfl kon) ?_
    have hc123_2 : ¬ ((2 : Int32) < ((1 : Int32) + (1 : Int32))) := by decide
    refine own_of (fun tgt kon => XS.icmpNo X25.here hx rfl (hb hby d2_123) rfl (flt hc123_2).2.2.1 kon) ?_
    refine own_of (fun tgt kon => XS.aloadN X25.here hx rfl (hb hby d2_126) rfl rfl kon) ?_
    show own_Wp _ _ _ _ (T25.setTop (mkF m 127 #[rv a1, rv a2, iv p3, iv p4, iv p5, iv p6, iv (2 : Int32), iv ((1 : Int32) + (1 : Int32)), iv (Int32.ofNat RR1), uu] [(.ref a1)]))
    refine own_of (fun tgt kon => XS.aloadN X25.here hx rfl (hb hby d2_127) rfl rfl kon) ?_
    refine own_of (fun tgt kon => XS.iload X25.here hx rfl (hb hby d2_128) rfl kon) ?_
    refine own_of (fun tgt kon => XS.iconst X25.here hx rfl (hb hby d2_130) kon) ?_
    refine own_of (fun tgt kon => XS.isub X25.here hx rfl (hb hby d2_131) rfl kon) ?_
    refine own_iaload X25 hx hZ e25 V_a2 (j := (((1 : Int32) + (1 : Int32)) - (1 : Int32))) (i := 1) (v := (tx 1)) (by decide) (by decide) rfl rfl rfl (hb hby d2_132) ?_
    show own_Wp _ _ _ _ (T25.setTop (mkF m 133 #[rv a1, rv a2, iv p3, iv p4, iv p5, iv p6, iv (2 : Int32), iv ((1 : Int32) + (1 : Int32)), iv (Int32.ofNat RR1), uu] [(.int (tx 1)), (.ref a1)]))
    refine own_callP X25 hx hZ (y := (⟨"com/example/close_words/closewords/BitRows", "slot", "(I)I"⟩ : MethodName)) (a := a1) (argsL := [(.int (tx 1))]) (rest := []) (W := 0) hown (ow hw 52 rfl) (ow hw 53 rfl) (ow hw 6 rfl) (ow hw 54 rfl) (ow hw 7 rfl) (ow hw 55 rfl) (by decide) e25 E_a1 (rmslot l Z a0 hw [] a1 (tx 1) b10 cp1 RR2 (Int32.ofNat RR2) h25 n0 Zs E_a1 F_codePoints V_b10 hR2 hok2.1 (own_ofN (by have := hok2.2; omega))) (by decide) (by decide) (by decide) (by decide) rfl (by rw [hml]; rfl) (lenOf own_pd3 rfl) rfl (by show 2 * 0 + _ ≤ _; exact Nat.le_of_eq rfl) (hb hby d2_133) ?_
    rintro T26 L26 _ X26 ⟨rfl, N26q, e26⟩
    have N26 := Fr.app N25 N26q
    show own_Wp _ _ _ _ (T26.setTop (mkF m 136 #[rv a1, rv a2, iv p3, iv p4, iv p5, iv p6, iv (2 : Int32), iv ((1 : Int32) + (1 : Int32)), iv (Int32.ofNat RR1), uu] [(.int (Int32.ofNat RR2))]))
    refine own_of (fun tgt kon => XS.istore X26.here hx rfl (hb hby d2_136) rfl (l' := #[rv a1, rv a2, iv p3, iv p4, iv p5, iv p6, iv (2 : Int32), iv ((1 : Int32) + (1 : Int32)), iv (Int32.ofNat RR2), uu]) rfl kon) ?_
    refine own_of (fun tgt kon => XS.aloadN X26.here hx rfl (hb hby d2_138) rfl rfl kon) ?_
    obtain ⟨T27, X27, e27, st27⟩ := getF X26 hx hZ hown (host := "") (Or.inl (ow hw 30 rfl)) Via.refl e26 F_codePoints (g := (mkF m 139 #[rv a1, rv a2, iv p3, iv p4, iv p5, iv p6, iv (2 : Int32), iv ((1 : Int32) + (1 : Int32)), iv (Int32.ofNat RR2), uu] [(.ref a1)])) rfl rfl (hb hby d2_139)
    refine own_of st27 ?_
    clear st27
    refine own_of (fun tgt kon => XS.iload X27.here hx rfl (hb hby d2_142) rfl kon) ?_
    refine own_of (fun tgt kon => XS.aloadN X27.here hx rfl (hb hby d2_144) rfl rfl kon) ?_
    show own_Wp _ _ _ _ (T27.setTop (mkF m 145 #[rv a1, rv a2, iv p3, iv p4, iv p5, iv p6, iv (2 : Int32), iv ((1 : Int32) + (1 : Int32)), iv (Int32.ofNat RR2), uu] [(.ref a2), (.int (Int32.ofNat RR2)), (.ref b10)]))
    refine own_of (fun tgt kon => XS.iload X27.here hx rfl (hb hby d2_145) rfl kon) ?_
    refine own_of (fun tgt kon => XS.iconst X27.here hx rfl (hb hby d2_147) kon) ?_
    refine own_of (fun tgt kon => XS.isub X27.here hx rfl (hb hby d2_148) rfl kon) ?_
    refine own_iaload X27 hx hZ e27 V_a2 (j := (((1 : Int32) + (1 : Int32)) - (1 : Int32))) (i := 1) (v := (tx 1)) (by decide) (by decide) rfl rfl rfl (hb hby d2_149) ?_
    obtain ⟨T28, h28, X28, e28, W28, Aq28, st28⟩ := own_stI X27 hx hZ e27 V_b10 (j := (Int32.ofNat RR2)) (i := RR2) (x := (tx 1)) (own_ofN (by have := hok2.2; omega)) hok2.2 (g := (mkF m 150 #[rv a1, rv a2, iv p3, iv p4, iv p5, iv p6, iv (2 : Int32), iv ((1 : Int32) + (1 : Int32)), iv (Int32.ofNat RR2), uu] [(.int (tx 1)), (.int (Int32.ofNat RR2)), (.ref b10)])) rfl rfl (hb hby d2_150)
    refine own_of st28 ?_
    clear st28
    replace Zs := Nat.le_trans Zs (Keep.of_wr W28).1
    replace K0 := K0.wr W28 (Or.inr sz_b10)
    replace E_a1 := E_a1.wr W28
    replace F_bound := F_bound.other W28 (Or.inl ne_a1_b10)
    replace F_headBound := F_headBound.other W28 (Or.inl ne_a1_b10)
    replace F_levels := F_levels.other W28 (Or.inl ne_a1_b10)
    replace F_columns := F_columns.other W28 (Or.inl ne_a1_b10)
    replace F_lastColumn := F_lastColumn.other W28 (Or.inl ne_a1_b10)
    replace F_outsideHead := F_outsideHead.other W28 (Or.inl ne_a1_b10)
    replace F_codePoints := F_codePoints.other W28 (Or.inl ne_a1_b10)
    replace F_columnsOf := F_columnsOf.other W28 (Or.inl ne_a1_b10)
    replace F_rows := F_rows.other W28 (Or.inl ne_a1_b10)
    replace F_matches := F_matches.other W28 (Or.inl ne_a1_b10)
    replace V_a2 := V_a2.other W28 ne_a2_b10
    replace V_b12 := V_b12.other W28 (Ne.symm ne_b10_b12)
    replace V_b15 := V_b15.other W28 (Ne.symm ne_b10_b15)
    replace V_b17 := V_b17.other W28 (Ne.symm ne_b10_b17)
    replace V_b10 := Aq28
    clear Aq28
    replace V_b10 := V_b10.fn (f' := fun k => .int (cp2 k)) (fun k hk => by rw [hcp2]; exact own_setI _ _ _ k)
    have N28 := Fr.snoc X28 N26 g_b10
    show own_Wp _ _ _ _ (T28.setTop (mkF m 151 #[rv a1, rv a2, iv p3, iv p4, iv p5, iv p6, iv (2 : Int32), iv ((1 : Int32) + (1 : Int32)), iv (Int32.ofNat RR2), uu] []))
    refine own_of (fun tgt kon => XS.aloadN X28.here hx rfl (hb hby d2_151) rfl rfl kon) ?_
    obtain ⟨T29, X29, e29, st29⟩ := getF X28 hx hZ hown (host := "") (Or.inl (ow hw 33 rfl)) Via.refl e28 F_columnsOf (g := (mkF m 152 #[rv a1, rv a2, iv p3, iv p4, iv p5, iv p6, iv (2 : Int32), iv ((1 : Int32) + (1 : Int32)), iv (Int32.ofNat RR2), uu] [(.ref a1)])) rfl rfl (hb hby d2_152)
    refine own_of st29 ?_
    clear st29
    refine own_of (fun tgt kon => XS.iload X29.here hx rfl (hb hby d2_155) rfl kon) ?_
    refine own_of (fun tgt kon => Jvm.Free.XT.dup2 X29.here hx rfl (hb hby d2_157) rfl rfl rfl kon) ?_
    refine own_laload X29 hx hZ e29 V_b12 (j := (Int32.ofNat RR2)) (i := RR2) (v := (co1 RR2)) (own_ofN (by have := hok2.2; omega)) hok2.2 rfl rfl rfl (hb hby d2_158) ?_
    show own_Wp _ _ _ _ (T29.setTop (mkF m 159 #[rv a1, rv a2, iv p3, iv p4, iv p5, iv p6, iv (2 : Int32), iv ((1 : Int32) + (1 : Int32)), iv (Int32.ofNat RR2), uu] [(.long (co1 RR2)), (.int (Int32.ofNat RR2)), (.ref b12)]))
    refine own_of (fun tgt kon => XS.lconst X29.here hx rfl (hb hby d2_159) kon) ?_
    refine own_of (fun tgt kon => XS.iload X29.here hx rfl (hb hby d2_160) rfl kon) ?_
    refine own_of (fun tgt kon => XS.lshl X29.here hx rfl (hb hby d2_162) rfl kon) ?_
    refine own_of (fun tgt kon => XS.lor X29.here hx rfl (hb hby d2_163) rfl kon) ?_
    obtain ⟨T30, h30, X30, e30, W30, Aq30, st30⟩ := own_stJ X29 hx hZ e29 V_b12 (j := (Int32.ofNat RR2)) (i := RR2) (x := ((co1 RR2) ||| ((1 : Int64) <<< (((1 : Int32) + (1 : Int32)) &&& 0x3f).toInt64))) (own_ofN (by have := hok2.2; omega)) hok2.2 (g := (mkF m 164 #[rv a1, rv a2, iv p3, iv p4, iv p5, iv p6, iv (2 : Int32), iv ((1 : Int32) + (1 : Int32)), iv (Int32.ofNat RR2), uu] [(.long ((co1 RR2) ||| ((1 : Int64) <<< (((1 : Int32) + (1 : Int32)) &&& 0x3f).toInt64))), (.int (Int32.ofNat RR2)), (.ref b12)])) rfl rfl (hb hby d2_164)
    refine own_of st30 ?_
    clear st30
    replace Zs := Nat.le_trans Zs (Keep.of_wr W30).1
    replace K0 := K0.wr W30 (Or.inr sz_b12)
    replace E_a1 := E_a1.wr W30
    replace F_bound := F_bound.other W30 (Or.inl ne_a1_b12)
    replace F_headBound := F_headBound.other W30 (Or.inl ne_a1_b12)
    replace F_levels := F_levels.other W30 (Or.inl ne_a1_b12)
    replace F_columns := F_columns.other W30 (Or.inl ne_a1_b12)
    replace F_lastColumn := F_lastColumn.other W30 (Or.inl ne_a1_b12)
    replace F_outsideHead := F_outsideHead.other W30 (Or.inl ne_a1_b12)
    replace F_codePoints := F_codePoints.other W30 (Or.inl ne_a1_b12)
    replace F_columnsOf := F_columnsOf.other W30 (Or.inl ne_a1_b12)
    replace F_rows := F_rows.other W30 (Or.inl ne_a1_b12)
    replace F_matches := F_matches.other W30 (Or.inl ne_a1_b12)
    replace V_a2 := V_a2.other W30 ne_a2_b12
    replace V_b15 := V_b15.other W30 (Ne.symm ne_b12_b15)
    replace V_b17 := V_b17.other W30 (Ne.symm ne_b12_b17)
    replace V_b10 := V_b10.other W30 ne_b10_b12
    replace V_b12 := Aq30
    clear Aq30
    replace V_b12 := V_b12.fn (f' := fun k => .long (co2 k)) (fun k hk => by rw [hco2]; exact own_setJ _ _ _ k)
    have N30 := Fr.snoc X30 N28 g_b12
    show own_Wp _ _ _ _ (T30.setTop (mkF m 165 #[rv a1, rv a2, iv p3, iv p4, iv p5, iv p6, iv (2 : Int32), iv ((1 : Int32) + (1 : Int32)), iv (Int32.ofNat RR2), uu] []))
    refine own_of (fun tgt kon => XS.iinc X30.here hx rfl (hb hby d2_165) rfl (l' := #[rv a1, rv a2, iv p3, iv p4, iv p5, iv p6, iv (2 : Int32), iv (((1 : Int32) + (1 : Int32)) + (1 : Int32)), iv (Int32.ofNat RR2), uu]) rfl kon) ?_
    refine own_of (fun tgt kon => XS.goto X30.here hx rfl (pc0 := 168) (pc' := 119) rfl (hb hby d2_168) (by decide) (by decide) kon) ?_
    refine own_of (fun tgt kon => XS.iload X30.here hx rfl (hb hby d2_119) rfl kon) ?_
    refine own_of (fun tgt kon => XS.iload X30.here hx rfl (hb hby d2_121) rfl kon) ?_
    have hc123_3 : (2 : Int32) < (((1 : Int32) + (1 : Int32)) + (1 : Int32)) := by decide
    refine own_of (fun tgt kon => XS.icmpYes X30.here hx rfl (pc0 := 123) (pc' := 171) rfl (hb hby d2_123) rfl (tlt hc123_3).2.2.1 (by decide) (by decide) kon) ?_
    refine own_of (fun tgt kon => XS.iconst X30.here hx rfl (hb hby d2_171) kon) ?_
    show own_Wp _ _ _ _ (T30.setTop (mkF m 172 #[rv a1, rv a2, iv p3, iv p4, iv p5, iv p6, iv (2 : Int32), iv (((1 : Int32) + (1 : Int32)) + (1 : Int32)), iv (Int32.ofNat RR2), uu] [(.int (0 : Int32))]))
    refine own_of (fun tgt kon => XS.istore X30.here hx rfl (hb hby d2_172) rfl (l' := #[rv a1, rv a2, iv p3, iv p4, iv p5, iv p6, iv (2 : Int32), iv (0 : Int32), iv (Int32.ofNat RR2), uu]) rfl kon) ?_
    show own_Wp _ _ _ _ (T30.setTop (mkF m 174 #[rv a1, rv a2, iv p3, iv p4, iv p5, iv p6, iv (2 : Int32), iv (0 : Int32), iv (Int32.ofNat RR2), uu] []))
    refine own_of (fun tgt kon => XS.iload X30.here hx rfl (hb hby d2_174) rfl kon) ?_
    refine own_of (fun tgt kon => XS.iloadN X30.here hx rfl (hb hby d2_176) rfl kon) ?_
    have hc177 : ¬ (p3 < (0 : Int32)) := by rw [Int32.lt_iff_toInt_lt, hbd]; have l : (0 : Int32).toInt = 0 := (by decide); omega
    refine own_of (fun tgt kon => XS.icmpNo X30.here hx rfl (hb hby d2_177) rfl (flt hc177).2.2.1 kon) ?_
    show own_Wp _ _ _ _ (T30.setTop (mkF m 180 #[rv a1, rv a2, iv p3, iv p4, iv p5, iv p6, iv (2 : Int32), iv (0 : Int32), iv (Int32.ofNat RR2), uu] []))
    refine own_of (fun tgt kon => XS.iload X30.here hx rfl (hb hby d2_180) rfl kon) ?_
    refine own_of (fun tgt kon => XS.iload X30.here hx rfl (hb hby d2_182) rfl kon) ?_
    refine own_callS X30 hx hZ (y := (⟨"java/lang/Math", "min", "(II)I"⟩ : MethodName)) (argsL := [(.int (0 : Int32)), (.int (2 : Int32))]) (rest := []) (W := 0) hown (ow hw 43 rfl) (ow hw 44 rfl) (ow hw 45 rfl) (ow hw 46 rfl) (by decide) e30 (rmmin l Z a0 hw [] (0 : Int32) (2 : Int32) h30 n0 Zs) (by decide) (by decide) (by decide) (by decide) rfl (by rw [hml]; rfl) (lenOf own_pd2 rfl) rfl (by show 2 * 0 + _ ≤ _; exact Nat.le_of_eq rfl) (hb hby d2_184) ?_
    rintro T31 L31 _ X31 ⟨rfl, N31q, e31⟩
    have N31 := Fr.app N30 N31q
    show own_Wp _ _ _ _ (T31.setTop (mkF m 187 #[rv a1, rv a2, iv p3, iv p4, iv p5, iv p6, iv (2 : Int32), iv (0 : Int32), iv (Int32.ofNat RR2), uu] [(.int (own_mni (0 : Int32) (2 : Int32)))]))
    refine own_callS X31 hx hZ (y := (⟨"com/example/close_words/closewords/BitRows", "upTo", "(I)J"⟩ : MethodName)) (argsL := [(.int (own_mni (0 : Int32) (2 : Int32)))]) (rest := []) (W := 0) hown (ow hw 20 rfl) (ow hw 21 rfl) (ow hw 7 rfl) (ow hw 22 rfl) (by decide) e31 (rmup l Z a0 hw [] (own_mni (0 : Int32) (2 : Int32)) h30 n0 Zs) (by decide) (by decide) (by decide) (by decide) rfl (by rw [hml]; rfl) (lenOf own_pd0 rfl) rfl (by show 2 * 0 + _ ≤ _; exact Nat.le_of_eq rfl) (hb hby d2_187) ?_
    rintro T32 L32 _ X32 ⟨rfl, N32q, e32⟩
    have N32 := Fr.app N31 N32q
    show own_Wp _ _ _ _ (T32.setTop (mkF m 190 #[rv a1, rv a2, iv p3, iv p4, iv p5, iv p6, iv (2 : Int32), iv (0 : Int32), iv (Int32.ofNat RR2), uu] [(.long (own_upTo (own_mni (0 : Int32) (2 : Int32))))]))
    refine own_of (fun tgt kon => XS.lstore X32.here hx rfl (hb hby d2_190) rfl (l' := #[rv a1, rv a2, iv p3, iv p4, iv p5, iv p6, iv (2 : Int32), iv (0 : Int32), jv (own_upTo (own_mni (0 : Int32) (2 : Int32))), ss]) rfl kon) ?_
    show own_Wp _ _ _ _ (T32.setTop (mkF m 192 #[rv a1, rv a2, iv p3, iv p4, iv p5, iv p6, iv (2 : Int32), iv (0 : Int32), jv (own_upTo (own_mni (0 : Int32) (2 : Int32))), ss] []))
    show own_Wp _ _ _ _ (T32.setTop (mkF m 192 #[rv a1, rv a2, iv p3, iv p4, iv p5, iv p6, iv (2 : Int32), iv (0 : Int32), jv (own_rc 2 0), ss] []))
    refine own_of (fun tgt kon => XS.aloadN X32.here hx rfl (hb hby d2_192) rfl rfl kon) ?_
    obtain ⟨T33, X33, e33, st33⟩ := getF X32 hx hZ hown (host := "") (Or.inl (ow hw 35 rfl)) Via.refl e32 F_rows (g := (mkF m 193 #[rv a1, rv a2, iv p3, iv p4, iv p5, iv p6, iv (2 : Int32), iv (0 : Int32), jv (own_rc 2 0), ss] [(.ref a1)])) rfl rfl (hb hby d2_193)
    refine own_of st33 ?_
    clear st33
    refine own_of (fun tgt kon => XS.iload X33.here hx rfl (hb hby d2_196) rfl kon) ?_
    refine own_of (fun tgt kon => XS.iload X33.here hx rfl (hb hby d2_198) rfl kon) ?_
    refine own_of (fun tgt kon => XS.iload X33.here hx rfl (hb hby d2_200) rfl kon) ?_
    show own_Wp _ _ _ _ (T33.setTop (mkF m 202 #[rv a1, rv a2, iv p3, iv p4, iv p5, iv p6, iv (2 : Int32), iv (0 : Int32), jv (own_rc 2 0), ss] [(.int p5), (.int (0 : Int32)), (.int (0 : Int32)), (.ref b15)]))
    have hc202 : ¬ (p5 < (0 : Int32)) := by rw [Int32.lt_iff_toInt_lt, hhb]; have l : (0 : Int32).toInt = 0 := (by decide); omega
    refine own_of (fun tgt kon => XS.icmpYes X33.here hx rfl (pc0 := 202) (pc' := 223) rfl (hb hby d2_202) rfl (flt hc202).2.2.2 (by decide) (by decide) kon) ?_
    refine own_of (fun tgt kon => XS.lload X33.here hx rfl (hb hby d2_223) rfl kon) ?_
    obtain ⟨T34, h34, X34, e34, W34, Aq34, st34⟩ := own_stJ X33 hx hZ e33 V_b15 (j := (0 : Int32)) (i := 0) (x := (own_rc 2 0)) (by decide) (by omega) (g := (mkF m 225 #[rv a1, rv a2, iv p3, iv p4, iv p5, iv p6, iv (2 : Int32), iv (0 : Int32), jv (own_rc 2 0), ss] [(.long (own_rc 2 0)), (.int (0 : Int32)), (.ref b15)])) rfl rfl (hb hby d2_225)
    refine own_of st34 ?_
    clear st34
    replace Zs := Nat.le_trans Zs (Keep.of_wr W34).1
    replace K0 := K0.wr W34 (Or.inr sz_b15)
    replace E_a1 := E_a1.wr W34
    replace F_bound := F_bound.other W34 (Or.inl ne_a1_b15)
    replace F_headBound := F_headBound.other W34 (Or.inl ne_a1_b15)
    replace F_levels := F_levels.other W34 (Or.inl ne_a1_b15)
    replace F_columns := F_columns.other W34 (Or.inl ne_a1_b15)
    replace F_lastColumn := F_lastColumn.other W34 (Or.inl ne_a1_b15)
    replace F_outsideHead := F_outsideHead.other W34 (Or.inl ne_a1_b15)
    replace F_codePoints := F_codePoints.other W34 (Or.inl ne_a1_b15)
    replace F_columnsOf := F_columnsOf.other W34 (Or.inl ne_a1_b15)
    replace F_rows := F_rows.other W34 (Or.inl ne_a1_b15)
    replace F_matches := F_matches.other W34 (Or.inl ne_a1_b15)
    replace V_a2 := V_a2.other W34 ne_a2_b15
    replace V_b12 := V_b12.other W34 ne_b12_b15
    replace V_b17 := V_b17.other W34 (Ne.symm ne_b15_b17)
    replace V_b10 := V_b10.other W34 ne_b10_b15
    replace V_b15 := Aq34
    clear Aq34
    have V_b15 := V_b15.fn (f' := fun y => .long (own_r0k 2 ph out 1 y)) (fun y hy => by
        have q := own_setR0 2 ph out 0 y
        rw [show own_R0 2 ph out 0 = own_rc 2 0 from if_neg (by omega)] at q
        rw [← q]
        unfold own_set own_upd own_r0k
        split
        · rfl
        · rw [if_neg (by omega)])
    have N34 := Fr.snoc X34 N32 g_b15
    refine own_of (fun tgt kon => XS.iinc X34.here hx rfl (hb hby d2_226) rfl (l' := #[rv a1, rv a2, iv p3, iv p4, iv p5, iv p6, iv (2 : Int32), iv ((0 : Int32) + (1 : Int32)), jv (own_rc 2 0), ss]) rfl kon) ?_
    refine own_of (fun tgt kon => XS.goto X34.here hx rfl (pc0 := 229) (pc' := 174) rfl (hb hby d2_229) (by decide) (by decide) kon) ?_
    show own_Wp _ _ _ _ (T34.setTop (mkF m 174 #[rv a1, rv a2, iv p3, iv p4, iv p5, iv p6, iv (2 : Int32), iv ((0 : Int32) + (1 : Int32)), jv (own_rc 2 0), ss] []))
    rw [show ((0 : Int32) + (1 : Int32)) = Int32.ofNat 1 from rfl]
    have J174 : ∀ (nn : Nat) (T35 : State) (lc35 : List Loc) (h35 : Heap) (k : Nat) (z8 : Int64), (Stand p l e ({ frames := 1, cells := 4, slots := 516, locals := 15 } : Room) s m #[(.ref a1), (.ref a2), (.int p3), (.int p4), (.int p5), (.int p6)] below meth c T35 lc35 4 516) → (T35.heap = h35) → (Fr n0 lc35) → (n0 ≤ h35.size) → (Keep h0 h35 [a1]) → (Exa Z h35 a1 "com/example/close_words/closewords/BitRows") → (Fld Z h35 a1 "com/example/close_words/closewords/BitRows" "bound" "I" (.int p3)) → (Fld Z h35 a1 "com/example/close_words/closewords/BitRows" "headBound" "I" (.int p5)) → (Fld Z h35 a1 "com/example/close_words/closewords/BitRows" "levels" "I" (.int (p3 + (1 : Int32)))) → (Fld Z h35 a1 "com/example/close_words/closewords/BitRows" "columns" "J" (.long (own_upTo (2 : Int32)))) → (Fld Z h35 a1 "com/example/close_words/closewords/BitRows" "lastColumn" "J" (.long ((1 : Int64) <<< ((2 : Int32) &&& 0x3f).toInt64))) → (Fld Z h35 a1 "com/example/close_words/closewords/BitRows" "outsideHead" "J" (.long out)) → (Fld Z h35 a1 "com/example/close_words/closewords/BitRows" "codePoints" "[I" (.ref b10)) → (Fld Z h35 a1 "com/example/close_words/closewords/BitRows" "columnsOf" "[J" (.ref b12)) → (Fld Z h35 a1 "com/example/close_words/closewords/BitRows" "rows" "[J" (.ref b15)) → (Fld Z h35 a1 "com/example/close_words/closewords/BitRows" "matches" "[J" (.ref b17)) → (own_Ar Z h35 a2 .int 2 (fun k => .int (tx k))) → (own_Ar Z h35 b12 .long 128 (fun k => .long (co2 k))) → (own_Ar Z h35 b15 .long RL (fun y => .long (own_r0k 2 ph out k y))) → (own_Ar Z h35 b17 .long (dp + 1) (fun _ => (.long (0 : Int64)))) → (own_Ar Z h35 b10 .int 128 (fun k => .int (cp2 k))) → (1 ≤ k) → (k ≤ bd + 1) → (bd + 1 - k < nn) → own_Wp p.tables e below (own_K ({ frames := 1, cells := 4, slots := 516, locals := 15 } : Room) s below (Q_rmct2 Z a1 a2 p3 p4 p5 p6 tx bd ph dp RL cp0 cp1 cp2 co0 co1 co2 RR1 RR2 h0 n0)) (T35.setTop (mkF m 174 #[rv a1, rv a2, iv p3, iv p4, iv p5, iv p6, iv (2 : Int32), iv (Int32.ofNat k), jv z8, ss] [])) := by
      clear K0 E_a1 F_bound F_headBound F_levels F_columns F_lastColumn F_outsideHead F_codePoints F_columnsOf F_rows F_matches V_a2 V_b12 V_b15 V_b17 V_b10 Zs
      intro nn
      induction nn with
      | zero => intro T35 lc35 h35 k z8 X35 e35 N35 Zs K0 E_a1 F_bound F_headBound F_levels F_columns F_lastColumn F_outsideHead F_codePoints F_columnsOf F_rows F_matches V_a2 V_b12 V_b15 V_b17 V_b10 hk1 hk hmu; exact absurd hmu (Nat.not_lt_zero _)
      | succ nn ih =>
        skip
        intro T35 lc35 h35 k z8 X35 e35 N35 Zs K0 E_a1 F_bound F_headBound F_levels F_columns F_lastColumn F_outsideHead F_codePoints F_columnsOf F_rows F_matches V_a2 V_b12 V_b15 V_b17 V_b10 hk1 hk hmu
        refine own_of (fun tgt kon => XS.iload X35.here hx rfl (hb hby d2_174) rfl kon) ?_
        refine own_of (fun tgt kon => XS.iloadN X35.here hx rfl (hb hby d2_176) rfl kon) ?_
        by_cases hc177_2 : p3 < (Int32.ofNat k)
        · skip
          refine own_of (fun tgt kon => XS.icmpYes X35.here hx rfl (pc0 := 177) (pc' := 232) rfl (hb hby d2_177) rfl (tlt hc177_2).2.2.1 (by decide) (by decide) kon) ?_
          show own_Wp _ _ _ _ (T35.setTop (mkF m 232 #[rv a1, rv a2, iv p3, iv p4, iv p5, iv p6, iv (2 : Int32), iv (Int32.ofNat k), jv z8, ss] []))
          refine own_ret X35 hlk none (fun _ => rfl) (fun fs hr => X35.returnOut hx hrt (hb hby d2_232) hr) ?_ (by decide) (by decide)
          rw [e35]
          have hge : ¬ k < bd + 1 := by
            intro q
            have q2 := hc177_2
            rw [Int32.lt_iff_toInt_lt, hbd, own_ofN (by omega)] at q2
            omega
          obtain rfl : k = bd + 1 := by omega
          exact ⟨rfl, N35, K0, E_a1, b10, b12, b15, b17, g_b10, g_b12, g_b15, g_b17, ne_a1_b15, ne_a1_b17, ne_b10_b15, ne_b10_b17, ne_b12_b15, ne_b12_b17, (Ne.symm ne_b15_b17), F_bound, F_headBound, F_levels, F_columns, F_lastColumn, h_out ▸ F_outsideHead, F_codePoints, F_columnsOf, F_rows, F_matches, V_b10, V_b12, h_out ▸ V_b15, V_b17⟩
        · skip
          refine own_of (fun tgt kon => XS.icmpNo X35.here hx rfl (hb hby d2_177) rfl (flt hc177_2).2.2.1 kon) ?_
          show own_Wp _ _ _ _ (T35.setTop (mkF m 180 #[rv a1, rv a2, iv p3, iv p4, iv p5, iv p6, iv (2 : Int32), iv (Int32.ofNat k), jv z8, ss] []))
          have hlt : k < bd + 1 := by
            have q := hc177_2
            rw [Int32.lt_iff_toInt_lt, hbd, own_ofN (by omega)] at q
            omega
          refine own_of (fun tgt kon => XS.iload X35.here hx rfl (hb hby d2_180) rfl kon) ?_
          refine own_of (fun tgt kon => XS.iload X35.here hx rfl (hb hby d2_182) rfl kon) ?_
          refine own_callS X35 hx hZ (y := (⟨"java/lang/Math", "min", "(II)I"⟩ : MethodName)) (argsL := [(.int (Int32.ofNat k)), (.int (2 : Int32))]) (rest := []) (W := 0) hown (ow hw 43 rfl) (ow hw 44 rfl) (ow hw 45 rfl) (ow hw 46 rfl) (by decide) e35 (rmmin l Z a0 hw [] (Int32.ofNat k) (2 : Int32) h35 n0 Zs) (by decide) (by decide) (by decide) (by decide) rfl (by rw [hml]; rfl) (lenOf own_pd2 rfl) rfl (by show 2 * 0 + _ ≤ _; exact Nat.le_of_eq rfl) (hb hby d2_184) ?_
          rintro T36 L36 _ X36 ⟨rfl, N36q, e36⟩
          have N36 := Fr.app N35 N36q
          show own_Wp _ _ _ _ (T36.setTop (mkF m 187 #[rv a1, rv a2, iv p3, iv p4, iv p5, iv p6, iv (2 : Int32), iv (Int32.ofNat k), jv z8, ss] [(.int (own_mni (Int32.ofNat k) (2 : Int32)))]))
          refine own_callS X36 hx hZ (y := (⟨"com/example/close_words/closewords/BitRows", "upTo", "(I)J"⟩ : MethodName)) (argsL := [(.int (own_mni (Int32.ofNat k) (2 : Int32)))]) (rest := []) (W := 0) hown (ow hw 20 rfl) (ow hw 21 rfl) (ow hw 7 rfl) (ow hw 22 rfl) (by decide) e36 (rmup l Z a0 hw [] (own_mni (Int32.ofNat k) (2 : Int32)) h35 n0 Zs) (by decide) (by decide) (by decide) (by decide) rfl (by rw [hml]; rfl) (lenOf own_pd0 rfl) rfl (by show 2 * 0 + _ ≤ _; exact Nat.le_of_eq rfl) (hb hby d2_187) ?_
          rintro T37 L37 _ X37 ⟨rfl, N37q, e37⟩
          have N37 := Fr.app N36 N37q
          show own_Wp _ _ _ _ (T37.setTop (mkF m 190 #[rv a1, rv a2, iv p3, iv p4, iv p5, iv p6, iv (2 : Int32), iv (Int32.ofNat k), jv z8, ss] [(.long (own_upTo (own_mni (Int32.ofNat k) (2 : Int32))))]))
          refine own_of (fun tgt kon => XS.lstore X37.here hx rfl (hb hby d2_190) rfl (l' := #[rv a1, rv a2, iv p3, iv p4, iv p5, iv p6, iv (2 : Int32), iv (Int32.ofNat k), jv (own_upTo (own_mni (Int32.ofNat k) (2 : Int32))), ss]) rfl kon) ?_
          show own_Wp _ _ _ _ (T37.setTop (mkF m 192 #[rv a1, rv a2, iv p3, iv p4, iv p5, iv p6, iv (2 : Int32), iv (Int32.ofNat k), jv (own_upTo (own_mni (Int32.ofNat k) (2 : Int32))), ss] []))
          show own_Wp _ _ _ _ (T37.setTop (mkF m 192 #[rv a1, rv a2, iv p3, iv p4, iv p5, iv p6, iv (2 : Int32), iv (Int32.ofNat k), jv (own_rc 2 k), ss] []))
          refine own_of (fun tgt kon => XS.aloadN X37.here hx rfl (hb hby d2_192) rfl rfl kon) ?_
          obtain ⟨T38, X38, e38, st38⟩ := getF X37 hx hZ hown (host := "") (Or.inl (ow hw 35 rfl)) Via.refl e37 F_rows (g := (mkF m 193 #[rv a1, rv a2, iv p3, iv p4, iv p5, iv p6, iv (2 : Int32), iv (Int32.ofNat k), jv (own_rc 2 k), ss] [(.ref a1)])) rfl rfl (hb hby d2_193)
          refine own_of st38 ?_
          clear st38
          refine own_of (fun tgt kon => XS.iload X38.here hx rfl (hb hby d2_196) rfl kon) ?_
          refine own_of (fun tgt kon => XS.iload X38.here hx rfl (hb hby d2_198) rfl kon) ?_
          refine own_of (fun tgt kon => XS.iload X38.here hx rfl (hb hby d2_200) rfl kon) ?_
          show own_Wp _ _ _ _ (T38.setTop (mkF m 202 #[rv a1, rv a2, iv p3, iv p4, iv p5, iv p6, iv (2 : Int32), iv (Int32.ofNat k), jv (own_rc 2 k), ss] [(.int p5), (.int (Int32.ofNat k)), (.int (Int32.ofNat k)), (.ref b15)]))
          by_cases hc202_2 : p5 < (Int32.ofNat k)
          · skip
            refine own_of (fun tgt kon => XS.icmpNo X38.here hx rfl (hb hby d2_202) rfl (tlt hc202_2).2.2.2 kon) ?_
            show own_Wp _ _ _ _ (T38.setTop (mkF m 205 #[rv a1, rv a2, iv p3, iv p4, iv p5, iv p6, iv (2 : Int32), iv (Int32.ofNat k), jv (own_rc 2 k), ss] [(.int (Int32.ofNat k)), (.ref b15)]))
            have hlb : ph < k := by
              have q := hc202_2
              rw [Int32.lt_iff_toInt_lt, hhb, own_ofN (by omega)] at q
              omega
            refine own_of (fun tgt kon => XS.lload X38.here hx rfl (hb hby d2_205) rfl kon) ?_
            refine own_of (fun tgt kon => XS.aloadN X38.here hx rfl (hb hby d2_207) rfl rfl kon) ?_
            obtain ⟨T39, X39, e39, st39⟩ := getF X38 hx hZ hown (host := "") (Or.inl (ow hw 35 rfl)) Via.refl e38 F_rows (g := (mkF m 208 #[rv a1, rv a2, iv p3, iv p4, iv p5, iv p6, iv (2 : Int32), iv (Int32.ofNat k), jv (own_rc 2 k), ss] [(.ref a1), (.long (own_rc 2 k)), (.int (Int32.ofNat k)), (.ref b15)])) rfl rfl (hb hby d2_208)
            refine own_of st39 ?_
            clear st39
            refine own_of (fun tgt kon => XS.iload X39.here hx rfl (hb hby d2_211) rfl kon) ?_
            refine own_laload X39 hx hZ e39 V_b15 (j := p5) (i := ph) (v := (own_R0 2 ph out ph)) hhb (by omega) (by show Value.long (own_r0k _ _ _ _ _) = _; unfold own_r0k; rw [if_pos hlb]) rfl rfl (hb hby d2_213) ?_
            show own_Wp _ _ _ _ (T39.setTop (mkF m 214 #[rv a1, rv a2, iv p3, iv p4, iv p5, iv p6, iv (2 : Int32), iv (Int32.ofNat k), jv (own_rc 2 k), ss] [(.long (own_R0 2 ph out ph)), (.long (own_rc 2 k)), (.int (Int32.ofNat k)), (.ref b15)]))
            refine own_of (fun tgt kon => XS.aloadN X39.here hx rfl (hb hby d2_214) rfl rfl kon) ?_
            obtain ⟨T40, X40, e40, st40⟩ := getF X39 hx hZ hown (host := "") (Or.inl (ow hw 28 rfl)) Via.refl e39 F_outsideHead (g := (mkF m 215 #[rv a1, rv a2, iv p3, iv p4, iv p5, iv p6, iv (2 : Int32), iv (Int32.ofNat k), jv (own_rc 2 k), ss] [(.ref a1), (.long (own_R0 2 ph out ph)), (.long (own_rc 2 k)), (.int (Int32.ofNat k)), (.ref b15)])) rfl rfl (hb hby d2_215)
            refine own_of st40 ?_
            clear st40
            refine own_of (fun tgt kon => XS.lor X40.here hx rfl (hb hby d2_218) rfl kon) ?_
            refine own_of (fun tgt kon => XS.land X40.here hx rfl (hb hby d2_219) rfl kon) ?_
            refine own_of (fun tgt kon => XS.goto X40.here hx rfl (pc0 := 220) (pc' := 225) rfl (hb hby d2_220) (by decide) (by decide) kon) ?_
            show own_Wp _ _ _ _ (T40.setTop (mkF m 225 #[rv a1, rv a2, iv p3, iv p4, iv p5, iv p6, iv (2 : Int32), iv (Int32.ofNat k), jv (own_rc 2 k), ss] [(.long ((own_rc 2 k) &&& ((own_R0 2 ph out ph) ||| out))), (.int (Int32.ofNat k)), (.ref b15)]))
            obtain ⟨T41, h41, X41, e41, W41, Aq41, st41⟩ := own_stJ X40 hx hZ e40 V_b15 (j := (Int32.ofNat k)) (i := k) (x := ((own_rc 2 k) &&& ((own_R0 2 ph out ph) ||| out))) (own_ofN (by omega)) (by omega) (g := (mkF m 225 #[rv a1, rv a2, iv p3, iv p4, iv p5, iv p6, iv (2 : Int32), iv (Int32.ofNat k), jv (own_rc 2 k), ss] [(.long ((own_rc 2 k) &&& ((own_R0 2 ph out ph) ||| out))), (.int (Int32.ofNat k)), (.ref b15)])) rfl rfl (hb hby d2_225)
            refine own_of st41 ?_
            clear st41
            replace Zs := Nat.le_trans Zs (Keep.of_wr W41).1
            replace K0 := K0.wr W41 (Or.inr sz_b15)
            replace E_a1 := E_a1.wr W41
            replace F_bound := F_bound.other W41 (Or.inl ne_a1_b15)
            replace F_headBound := F_headBound.other W41 (Or.inl ne_a1_b15)
            replace F_levels := F_levels.other W41 (Or.inl ne_a1_b15)
            replace F_columns := F_columns.other W41 (Or.inl ne_a1_b15)
            replace F_lastColumn := F_lastColumn.other W41 (Or.inl ne_a1_b15)
            replace F_outsideHead := F_outsideHead.other W41 (Or.inl ne_a1_b15)
            replace F_codePoints := F_codePoints.other W41 (Or.inl ne_a1_b15)
            replace F_columnsOf := F_columnsOf.other W41 (Or.inl ne_a1_b15)
            replace F_rows := F_rows.other W41 (Or.inl ne_a1_b15)
            replace F_matches := F_matches.other W41 (Or.inl ne_a1_b15)
            replace V_a2 := V_a2.other W41 ne_a2_b15
            replace V_b12 := V_b12.other W41 ne_b12_b15
            replace V_b17 := V_b17.other W41 (Ne.symm ne_b15_b17)
            replace V_b10 := V_b10.other W41 ne_b10_b15
            replace V_b15 := Aq41
            clear Aq41
            have hst : ((own_rc 2 k) &&& ((own_R0 2 ph out ph) ||| out)) = own_R0 2 ph out k := by
              rw [show own_R0 2 ph out ph = own_rc 2 ph from if_neg (by omega)]
              exact (if_pos hlb).symm
            rw [hst] at V_b15
            have V_b15 := V_b15.fn (f' := fun y => .long (own_r0k 2 ph out (k + 1) y)) (fun y hy => (own_setJ _ _ _ y).trans (congrArg Value.long (own_setR0 2 ph out k y)))
            have N41 := Fr.snoc X41 N37 g_b15
            refine own_of (fun tgt kon => XS.iinc X41.here hx rfl (hb hby d2_226) rfl (l' := #[rv a1, rv a2, iv p3, iv p4, iv p5, iv p6, iv (2 : Int32), iv ((Int32.ofNat k) + (1 : Int32)), jv (own_rc 2 k), ss]) rfl kon) ?_
            refine own_of (fun tgt kon => XS.goto X41.here hx rfl (pc0 := 229) (pc' := 174) rfl (hb hby d2_229) (by decide) (by decide) kon) ?_
            show own_Wp _ _ _ _ (T41.setTop (mkF m 174 #[rv a1, rv a2, iv p3, iv p4, iv p5, iv p6, iv (2 : Int32), iv ((Int32.ofNat k) + (1 : Int32)), jv (own_rc 2 k), ss] []))
            rw [own_succ]
            exact ih T41 _ _ (k + 1) ((own_rc 2 k)) X41 e41 N41 Zs K0 E_a1 F_bound F_headBound F_levels F_columns F_lastColumn F_outsideHead F_codePoints F_columnsOf F_rows F_matches V_a2 V_b12 V_b15 V_b17 V_b10 (by omega) (by omega) (by omega)
          · skip
            refine own_of (fun tgt kon => XS.icmpYes X38.here hx rfl (pc0 := 202) (pc' := 223) rfl (hb hby d2_202) rfl (flt hc202_2).2.2.2 (by decide) (by decide) kon) ?_
            refine own_of (fun tgt kon => XS.lload X38.here hx rfl (hb hby d2_223) rfl kon) ?_
            obtain ⟨T42, h42, X42, e42, W42, Aq42, st42⟩ := own_stJ X38 hx hZ e38 V_b15 (j := (Int32.ofNat k)) (i := k) (x := (own_rc 2 k)) (own_ofN (by omega)) (by omega) (g := (mkF m 225 #[rv a1, rv a2, iv p3, iv p4, iv p5, iv p6, iv (2 : Int32), iv (Int32.ofNat k), jv (own_rc 2 k), ss] [(.long (own_rc 2 k)), (.int (Int32.ofNat k)), (.ref b15)])) rfl rfl (hb hby d2_225)
            refine own_of st42 ?_
            clear st42
            replace Zs := Nat.le_trans Zs (Keep.of_wr W42).1
            replace K0 := K0.wr W42 (Or.inr sz_b15)
            replace E_a1 := E_a1.wr W42
            replace F_bound := F_bound.other W42 (Or.inl ne_a1_b15)
            replace F_headBound := F_headBound.other W42 (Or.inl ne_a1_b15)
            replace F_levels := F_levels.other W42 (Or.inl ne_a1_b15)
            replace F_columns := F_columns.other W42 (Or.inl ne_a1_b15)
            replace F_lastColumn := F_lastColumn.other W42 (Or.inl ne_a1_b15)
            replace F_outsideHead := F_outsideHead.other W42 (Or.inl ne_a1_b15)
            replace F_codePoints := F_codePoints.other W42 (Or.inl ne_a1_b15)
            replace F_columnsOf := F_columnsOf.other W42 (Or.inl ne_a1_b15)
            replace F_rows := F_rows.other W42 (Or.inl ne_a1_b15)
            replace F_matches := F_matches.other W42 (Or.inl ne_a1_b15)
            replace V_a2 := V_a2.other W42 ne_a2_b15
            replace V_b12 := V_b12.other W42 ne_b12_b15
            replace V_b17 := V_b17.other W42 (Ne.symm ne_b15_b17)
            replace V_b10 := V_b10.other W42 ne_b10_b15
            replace V_b15 := Aq42
            clear Aq42
            have hst : (own_rc 2 k) = own_R0 2 ph out k := (if_neg (by
              intro q
              apply hc202_2
              rw [Int32.lt_iff_toInt_lt, hhb, own_ofN (by omega)]
              omega)).symm
            rw [hst] at V_b15
            have V_b15 := V_b15.fn (f' := fun y => .long (own_r0k 2 ph out (k + 1) y)) (fun y hy => (own_setJ _ _ _ y).trans (congrArg Value.long (own_setR0 2 ph out k y)))
            have N42 := Fr.snoc X42 N37 g_b15
            refine own_of (fun tgt kon => XS.iinc X42.here hx rfl (hb hby d2_226) rfl (l' := #[rv a1, rv a2, iv p3, iv p4, iv p5, iv p6, iv (2 : Int32), iv ((Int32.ofNat k) + (1 : Int32)), jv (own_rc 2 k), ss]) rfl kon) ?_
            refine own_of (fun tgt kon => XS.goto X42.here hx rfl (pc0 := 229) (pc' := 174) rfl (hb hby d2_229) (by decide) (by decide) kon) ?_
            show own_Wp _ _ _ _ (T42.setTop (mkF m 174 #[rv a1, rv a2, iv p3, iv p4, iv p5, iv p6, iv (2 : Int32), iv ((Int32.ofNat k) + (1 : Int32)), jv (own_rc 2 k), ss] []))
            rw [own_succ]
            exact ih T42 _ _ (k + 1) ((own_rc 2 k)) X42 e42 N42 Zs K0 E_a1 F_bound F_headBound F_levels F_columns F_lastColumn F_outsideHead F_codePoints F_columnsOf F_rows F_matches V_a2 V_b12 V_b15 V_b17 V_b10 (by omega) (by omega) (by omega)
    show own_Wp _ _ _ _ (T34.setTop (mkF m 174 #[rv a1, rv a2, iv p3, iv p4, iv p5, iv p6, iv (2 : Int32), iv (Int32.ofNat 1), jv (own_rc 2 0), ss] []))
    exact J174 _ T34 _ _ (1) ((own_rc 2 0)) X34 e34 N34 Zs K0 E_a1 F_bound F_headBound F_levels F_columns F_lastColumn F_outsideHead F_codePoints F_columnsOf F_rows F_matches V_a2 V_b12 V_b15 V_b17 V_b10 (by omega) (by omega) (Nat.lt_succ_self _)
  show own_Wp _ _ _ _ (T7.setTop (mkF m 45 #[rv a1, rv a2, iv p3, iv p4, iv p5, iv p6, iv (2 : Int32), uu, uu, uu] [(.int p4), (.ref a1)]))
  by_cases hc45 : p4 < (0 : Int32)
  · skip
    refine own_of (fun tgt kon => XS.ifNo X7.here hx rfl (hb hby d2_45) rfl ((if0 _ _).trans (tlt hc45).2.1) kon) ?_
    refine own_of (X7.ldc2Long hx hown (mvT hZ (ow hw 27 rfl)) (g := (mkF m 48 #[rv a1, rv a2, iv p3, iv p4, iv p5, iv p6, iv (2 : Int32), uu, uu, uu] [(.ref a1)])) rfl (hb hby d2_48)) ?_
    refine own_of (fun tgt kon => XS.goto X7.here hx rfl (pc0 := 51) (pc' := 62) rfl (hb hby d2_51) (by decide) (by decide) kon) ?_
    show own_Wp _ _ _ _ (T7.setTop (mkF m 62 #[rv a1, rv a2, iv p3, iv p4, iv p5, iv p6, iv (2 : Int32), uu, uu, uu] [(.long (-1 : Int64)), (.ref a1)]))
    exact J62 T7 _ ((-1 : Int64)) X7 e7 N7 (by exact (if_pos hc45).symm)
  · skip
    refine own_of (fun tgt kon => XS.ifYes X7.here hx rfl (pc0 := 45) (pc' := 54) rfl (hb hby d2_45) rfl ((if0 _ _).trans (flt hc45).2.1) (by decide) (by decide) kon) ?_
    refine own_of (fun tgt kon => XS.iloadN X7.here hx rfl (hb hby d2_54) rfl kon) ?_
    refine own_callS X7 hx hZ (y := (⟨"com/example/close_words/closewords/BitRows", "upTo", "(I)J"⟩ : MethodName)) (argsL := [(.int p4)]) (rest := [(.ref a1)]) (W := 1) hown (ow hw 20 rfl) (ow hw 21 rfl) (ow hw 7 rfl) (ow hw 22 rfl) (by decide) e7 (rmup l Z a0 hw [] p4 h7 n0 Zs) (by decide) (by decide) (by decide) (by decide) rfl (by rw [hml]; rfl) (lenOf own_pd0 rfl) rfl (by show 2 * 0 + _ ≤ _; exact Nat.le_of_eq rfl) (hb hby d2_55) ?_
    rintro T43 L43 _ X43 ⟨rfl, N43q, e43⟩
    have N43 := Fr.app N7 N43q
    show own_Wp _ _ _ _ (T43.setTop (mkF m 58 #[rv a1, rv a2, iv p3, iv p4, iv p5, iv p6, iv (2 : Int32), uu, uu, uu] [(.long (own_upTo p4)), (.ref a1)]))
    refine own_of (X43.ldc2Long hx hown (mvT hZ (ow hw 27 rfl)) (g := (mkF m 58 #[rv a1, rv a2, iv p3, iv p4, iv p5, iv p6, iv (2 : Int32), uu, uu, uu] [(.long (own_upTo p4)), (.ref a1)])) rfl (hb hby d2_58)) ?_
    refine own_of (fun tgt kon => XS.lxor X43.here hx rfl (hb hby d2_61) rfl kon) ?_
    show own_Wp _ _ _ _ (T43.setTop (mkF m 62 #[rv a1, rv a2, iv p3, iv p4, iv p5, iv p6, iv (2 : Int32), uu, uu, uu] [(.long ((own_upTo p4) ^^^ (-1 : Int64))), (.ref a1)]))
    exact J62 T43 _ (((own_upTo p4) ^^^ (-1 : Int64))) X43 e43 N43 (by exact (if_neg hc45).symm)
theorem d7_0 : decode prog_6_method_2_code 0 = .ok (.aload_n 0, 1) := by decide +kernel
theorem d7_1 : decode prog_6_method_2_code 1 = .ok (.getfield 41, 3) := by decide +kernel
theorem d7_4 : decode prog_6_method_2_code 4 = .ok (.aload_n 0, 1) := by decide +kernel
theorem d7_5 : decode prog_6_method_2_code 5 = .ok (.iload_n 2, 1) := by decide +kernel
theorem d7_6 : decode prog_6_method_2_code 6 = .ok (.invokevirtual 57, 3) := by decide +kernel
theorem d7_9 : decode prog_6_method_2_code 9 = .ok (.laload, 1) := by decide +kernel
theorem d7_10 : decode prog_6_method_2_code 10 = .ok (.lstore 4, 2) := by decide +kernel
theorem d7_12 : decode prog_6_method_2_code 12 = .ok (.aload_n 0, 1) := by decide +kernel
theorem d7_13 : decode prog_6_method_2_code 13 = .ok (.getfield 48, 3) := by decide +kernel
theorem d7_16 : decode prog_6_method_2_code 16 = .ok (.iload_n 1, 1) := by decide +kernel
theorem d7_17 : decode prog_6_method_2_code 17 = .ok (.lload 4, 2) := by decide +kernel
theorem d7_19 : decode prog_6_method_2_code 19 = .ok (.lastore, 1) := by decide +kernel
theorem d7_20 : decode prog_6_method_2_code 20 = .ok (.iload_n 1, 1) := by decide +kernel
theorem d7_21 : decode prog_6_method_2_code 21 = .ok (.aload_n 0, 1) := by decide +kernel
theorem d7_22 : decode prog_6_method_2_code 22 = .ok (.getfield 18, 3) := by decide +kernel
theorem d7_25 : decode prog_6_method_2_code 25 = .ok (.imul, 1) := by decide +kernel
theorem d7_26 : decode prog_6_method_2_code 26 = .ok (.istore 6, 2) := by decide +kernel
theorem d7_28 : decode prog_6_method_2_code 28 = .ok (.iload 6, 2) := by decide +kernel
theorem d7_30 : decode prog_6_method_2_code 30 = .ok (.aload_n 0, 1) := by decide +kernel
theorem d7_31 : decode prog_6_method_2_code 31 = .ok (.getfield 18, 3) := by decide +kernel
theorem d7_34 : decode prog_6_method_2_code 34 = .ok (.isub, 1) := by decide +kernel
theorem d7_35 : decode prog_6_method_2_code 35 = .ok (.istore 7, 2) := by decide +kernel
theorem d7_37 : decode prog_6_method_2_code 37 = .ok (.iload 7, 2) := by decide +kernel
theorem d7_39 : decode prog_6_method_2_code 39 = .ok (.aload_n 0, 1) := by decide +kernel
theorem d7_40 : decode prog_6_method_2_code 40 = .ok (.getfield 18, 3) := by decide +kernel
theorem d7_43 : decode prog_6_method_2_code 43 = .ok (.isub, 1) := by decide +kernel
theorem d7_44 : decode prog_6_method_2_code 44 = .ok (.istore 8, 2) := by decide +kernel
theorem d7_46 : decode prog_6_method_2_code 46 = .ok (.iload_n 1, 1) := by decide +kernel
theorem d7_47 : decode prog_6_method_2_code 47 = .ok (.iconst 1, 1) := by decide +kernel
theorem d7_48 : decode prog_6_method_2_code 48 = .ok (.if_icmp .le 19, 3) := by decide +kernel
theorem d7_67 : decode prog_6_method_2_code 67 = .ok (.lconst 0, 1) := by decide +kernel
theorem d7_68 : decode prog_6_method_2_code 68 = .ok (.lstore 9, 2) := by decide +kernel
theorem d7_70 : decode prog_6_method_2_code 70 = .ok (.lload 4, 2) := by decide +kernel
theorem d7_72 : decode prog_6_method_2_code 72 = .ok (.aload_n 0, 1) := by decide +kernel
theorem d7_73 : decode prog_6_method_2_code 73 = .ok (.getfield 45, 3) := by decide +kernel
theorem d7_76 : decode prog_6_method_2_code 76 = .ok (.iload 7, 2) := by decide +kernel
theorem d7_78 : decode prog_6_method_2_code 78 = .ok (.laload, 1) := by decide +kernel
theorem d7_79 : decode prog_6_method_2_code 79 = .ok (.iconst 1, 1) := by decide +kernel
theorem d7_80 : decode prog_6_method_2_code 80 = .ok (.lshl, 1) := by decide +kernel
theorem d7_81 : decode prog_6_method_2_code 81 = .ok (.land, 1) := by decide +kernel
theorem d7_82 : decode prog_6_method_2_code 82 = .ok (.lstore 11, 2) := by decide +kernel
theorem d7_84 : decode prog_6_method_2_code 84 = .ok (.aload_n 0, 1) := by decide +kernel
theorem d7_85 : decode prog_6_method_2_code 85 = .ok (.getfield 45, 3) := by decide +kernel
theorem d7_88 : decode prog_6_method_2_code 88 = .ok (.iload 6, 2) := by decide +kernel
theorem d7_90 : decode prog_6_method_2_code 90 = .ok (.lload 11, 2) := by decide +kernel
theorem d7_92 : decode prog_6_method_2_code 92 = .ok (.lastore, 1) := by decide +kernel
theorem d7_93 : decode prog_6_method_2_code 93 = .ok (.iconst 1, 1) := by decide +kernel
theorem d7_94 : decode prog_6_method_2_code 94 = .ok (.istore 13, 2) := by decide +kernel
theorem d7_96 : decode prog_6_method_2_code 96 = .ok (.iload 13, 2) := by decide +kernel
theorem d7_98 : decode prog_6_method_2_code 98 = .ok (.aload_n 0, 1) := by decide +kernel
theorem d7_99 : decode prog_6_method_2_code 99 = .ok (.getfield 18, 3) := by decide +kernel
theorem d7_102 : decode prog_6_method_2_code 102 = .ok (.if_icmp .ge 138, 3) := by decide +kernel
theorem d7_105 : decode prog_6_method_2_code 105 = .ok (.aload_n 0, 1) := by decide +kernel
theorem d7_106 : decode prog_6_method_2_code 106 = .ok (.getfield 45, 3) := by decide +kernel
theorem d7_109 : decode prog_6_method_2_code 109 = .ok (.iload 7, 2) := by decide +kernel
theorem d7_111 : decode prog_6_method_2_code 111 = .ok (.iload 13, 2) := by decide +kernel
theorem d7_113 : decode prog_6_method_2_code 113 = .ok (.iadd, 1) := by decide +kernel
theorem d7_114 : decode prog_6_method_2_code 114 = .ok (.iconst 1, 1) := by decide +kernel
theorem d7_115 : decode prog_6_method_2_code 115 = .ok (.isub, 1) := by decide +kernel
theorem d7_116 : decode prog_6_method_2_code 116 = .ok (.laload, 1) := by decide +kernel
theorem d7_117 : decode prog_6_method_2_code 117 = .ok (.lstore 14, 2) := by decide +kernel
theorem d7_119 : decode prog_6_method_2_code 119 = .ok (.lload 4, 2) := by decide +kernel
theorem d7_121 : decode prog_6_method_2_code 121 = .ok (.aload_n 0, 1) := by decide +kernel
theorem d7_122 : decode prog_6_method_2_code 122 = .ok (.getfield 45, 3) := by decide +kernel
theorem d7_125 : decode prog_6_method_2_code 125 = .ok (.iload 7, 2) := by decide +kernel
theorem d7_127 : decode prog_6_method_2_code 127 = .ok (.iload 13, 2) := by decide +kernel
theorem d7_129 : decode prog_6_method_2_code 129 = .ok (.iadd, 1) := by decide +kernel
theorem d7_130 : decode prog_6_method_2_code 130 = .ok (.laload, 1) := by decide +kernel
theorem d7_131 : decode prog_6_method_2_code 131 = .ok (.iconst 1, 1) := by decide +kernel
theorem d7_132 : decode prog_6_method_2_code 132 = .ok (.lshl, 1) := by decide +kernel
theorem d7_133 : decode prog_6_method_2_code 133 = .ok (.land, 1) := by decide +kernel
theorem d7_134 : decode prog_6_method_2_code 134 = .ok (.lload 14, 2) := by decide +kernel
theorem d7_136 : decode prog_6_method_2_code 136 = .ok (.lor, 1) := by decide +kernel
theorem d7_137 : decode prog_6_method_2_code 137 = .ok (.lload 14, 2) := by decide +kernel
theorem d7_139 : decode prog_6_method_2_code 139 = .ok (.iconst 1, 1) := by decide +kernel
theorem d7_140 : decode prog_6_method_2_code 140 = .ok (.lshl, 1) := by decide +kernel
theorem d7_141 : decode prog_6_method_2_code 141 = .ok (.lor, 1) := by decide +kernel
theorem d7_142 : decode prog_6_method_2_code 142 = .ok (.lload 11, 2) := by decide +kernel
theorem d7_144 : decode prog_6_method_2_code 144 = .ok (.iconst 1, 1) := by decide +kernel
theorem d7_145 : decode prog_6_method_2_code 145 = .ok (.lshl, 1) := by decide +kernel
theorem d7_146 : decode prog_6_method_2_code 146 = .ok (.lor, 1) := by decide +kernel
theorem d7_147 : decode prog_6_method_2_code 147 = .ok (.lstore 16, 2) := by decide +kernel
theorem d7_149 : decode prog_6_method_2_code 149 = .ok (.lload 9, 2) := by decide +kernel
theorem d7_151 : decode prog_6_method_2_code 151 = .ok (.lconst 0, 1) := by decide +kernel
theorem d7_152 : decode prog_6_method_2_code 152 = .ok (.lcmp, 1) := by decide +kernel
theorem d7_153 : decode prog_6_method_2_code 153 = .ok (.ifCond .eq 25, 3) := by decide +kernel
theorem d7_178 : decode prog_6_method_2_code 178 = .ok (.lload 16, 2) := by decide +kernel
theorem d7_180 : decode prog_6_method_2_code 180 = .ok (.aload_n 0, 1) := by decide +kernel
theorem d7_181 : decode prog_6_method_2_code 181 = .ok (.getfield 25, 3) := by decide +kernel
theorem d7_184 : decode prog_6_method_2_code 184 = .ok (.land, 1) := by decide +kernel
theorem d7_185 : decode prog_6_method_2_code 185 = .ok (.lstore 16, 2) := by decide +kernel
theorem d7_187 : decode prog_6_method_2_code 187 = .ok (.iload 13, 2) := by decide +kernel
theorem d7_189 : decode prog_6_method_2_code 189 = .ok (.aload_n 0, 1) := by decide +kernel
theorem d7_190 : decode prog_6_method_2_code 190 = .ok (.getfield 15, 3) := by decide +kernel
theorem d7_218 : decode prog_6_method_2_code 218 = .ok (.aload_n 0, 1) := by decide +kernel
theorem d7_219 : decode prog_6_method_2_code 219 = .ok (.getfield 45, 3) := by decide +kernel
theorem d7_222 : decode prog_6_method_2_code 222 = .ok (.iload 6, 2) := by decide +kernel
theorem d7_224 : decode prog_6_method_2_code 224 = .ok (.iload 13, 2) := by decide +kernel
theorem d7_226 : decode prog_6_method_2_code 226 = .ok (.iadd, 1) := by decide +kernel
theorem d7_227 : decode prog_6_method_2_code 227 = .ok (.lload 16, 2) := by decide +kernel
theorem d7_229 : decode prog_6_method_2_code 229 = .ok (.lastore, 1) := by decide +kernel
theorem d7_230 : decode prog_6_method_2_code 230 = .ok (.lload 16, 2) := by decide +kernel
theorem d7_232 : decode prog_6_method_2_code 232 = .ok (.lstore 11, 2) := by decide +kernel
theorem d7_234 : decode prog_6_method_2_code 234 = .ok (.iinc 13 1, 3) := by decide +kernel
theorem d7_237 : decode prog_6_method_2_code 237 = .ok (.goto (-141), 3) := by decide +kernel
theorem d7_193 : decode prog_6_method_2_code 193 = .ok (.if_icmp .le 25, 3) := by decide +kernel
theorem d7_196 : decode prog_6_method_2_code 196 = .ok (.lload 16, 2) := by decide +kernel
theorem d7_198 : decode prog_6_method_2_code 198 = .ok (.aload_n 0, 1) := by decide +kernel
theorem d7_199 : decode prog_6_method_2_code 199 = .ok (.getfield 45, 3) := by decide +kernel
theorem d7_202 : decode prog_6_method_2_code 202 = .ok (.iload 6, 2) := by decide +kernel
theorem d7_204 : decode prog_6_method_2_code 204 = .ok (.aload_n 0, 1) := by decide +kernel
theorem d7_205 : decode prog_6_method_2_code 205 = .ok (.getfield 15, 3) := by decide +kernel
theorem d7_208 : decode prog_6_method_2_code 208 = .ok (.iadd, 1) := by decide +kernel
theorem d7_209 : decode prog_6_method_2_code 209 = .ok (.laload, 1) := by decide +kernel
theorem d7_210 : decode prog_6_method_2_code 210 = .ok (.aload_n 0, 1) := by decide +kernel
theorem d7_211 : decode prog_6_method_2_code 211 = .ok (.getfield 34, 3) := by decide +kernel
theorem d7_214 : decode prog_6_method_2_code 214 = .ok (.lor, 1) := by decide +kernel
theorem d7_215 : decode prog_6_method_2_code 215 = .ok (.land, 1) := by decide +kernel
theorem d7_216 : decode prog_6_method_2_code 216 = .ok (.lstore 16, 2) := by decide +kernel
theorem d7_240 : decode prog_6_method_2_code 240 = .ok (.lload 11, 2) := by decide +kernel
theorem d7_242 : decode prog_6_method_2_code 242 = .ok (.lconst 0, 1) := by decide +kernel
theorem d7_243 : decode prog_6_method_2_code 243 = .ok (.lcmp, 1) := by decide +kernel
theorem d7_244 : decode prog_6_method_2_code 244 = .ok (.ifCond .eq 7, 3) := by decide +kernel
theorem d7_251 : decode prog_6_method_2_code 251 = .ok (.iconst 0, 1) := by decide +kernel
theorem d7_252 : decode prog_6_method_2_code 252 = .ok (.ireturn, 1) := by decide +kernel
theorem d7_247 : decode prog_6_method_2_code 247 = .ok (.iconst 1, 1) := by decide +kernel
theorem d7_248 : decode prog_6_method_2_code 248 = .ok (.goto 4, 3) := by decide +kernel
def Q_rmro1 (Z : State) (a1 : Addr) (p3 : Int32) (p4 : Int32) (ac : Addr) (ao : Addr) (ar : Addr) (am : Addr) (cp : Nat → Int32) (co : Nat → Int64) (rf : Nat → Int64) (mf : Nat → Int64) (FF : Nat → Int64) (lv : Int32) (p5 : Int32) (cols : Int64) (out : Int64) (bd : Nat) (ph : Nat) (RL : Nat) (ML : Nat) (RR : Nat) (h0 : Heap) (n0 : Nat) (v : Option Value) (h : Heap) (L : List Loc) : Prop := v = some (.int (if FF bd = 0 then 0 else 1)) ∧ Fr n0 L ∧ Keep h0 h [ar, am] ∧ own_Ar Z h ar .long RL (fun y => .long (own_rk rf (1 * (bd + 1)) FF (bd + 1) y)) ∧ own_Ar Z h am .long ML (fun k => .long (own_upd mf 1 (co RR) k))
set_option maxRecDepth 65536 in
set_option maxHeartbeats 40000000 in
theorem rmro1 (l : Launch) (Z : State) (a0 : Array Value) (hw : ∀ d ∈ tables_1, d.before a0 Z = true) (ws : List Jvm.Cond) (a1 : Addr) (p3 : Int32) (p4 : Int32) (ac : Addr) (ao : Addr) (ar : Addr) (am : Addr) (cp : Nat → Int32) (co : Nat → Int64) (rf : Nat → Int64) (mf : Nat → Int64) (FF : Nat → Int64) (lv : Int32) (p5 : Int32) (cols : Int64) (out : Int64) (bd : Nat) (ph : Nat) (RL : Nat) (ML : Nat) (RR : Nat) (h0 : Heap) (n0 : Nat) (Z0 : n0 ≤ h0.size) (E_a1 : Exa Z h0 a1 "com/example/close_words/closewords/BitRows") (F_columnsOf : Fld Z h0 a1 "com/example/close_words/closewords/BitRows" "columnsOf" "[J" (.ref ao)) (F_codePoints : Fld Z h0 a1 "com/example/close_words/closewords/BitRows" "codePoints" "[I" (.ref ac)) (F_matches : Fld Z h0 a1 "com/example/close_words/closewords/BitRows" "matches" "[J" (.ref am)) (F_rows : Fld Z h0 a1 "com/example/close_words/closewords/BitRows" "rows" "[J" (.ref ar)) (F_levels : Fld Z h0 a1 "com/example/close_words/closewords/BitRows" "levels" "I" (.int lv)) (F_columns : Fld Z h0 a1 "com/example/close_words/closewords/BitRows" "columns" "J" (.long cols)) (F_headBound : Fld Z h0 a1 "com/example/close_words/closewords/BitRows" "headBound" "I" (.int p5)) (F_outsideHead : Fld Z h0 a1 "com/example/close_words/closewords/BitRows" "outsideHead" "J" (.long out)) (V_ac : own_Ar Z h0 ac .int 128 (fun k => .int (cp k))) (V_ao : own_Ar Z h0 ao .long 128 (fun k => .long (co k))) (V_ar : own_Ar Z h0 ar .long RL (fun k => .long (rf k))) (V_am : own_Ar Z h0 am .long ML (fun k => .long (mf k))) (ne_a1_ar : a1 ≠ ar) (ne_a1_am : a1 ≠ am) (ne_ac_ar : ac ≠ ar) (ne_ac_am : ac ≠ am) (ne_ao_ar : ao ≠ ar) (ne_ao_am : ao ≠ am) (ne_am_ar : am ≠ ar) (g_ar : n0 ≤ ar) (g_am : n0 ≤ am) (hlv : lv.toInt = ((bd + 1 : Nat) : Int)) (hbd63 : bd ≤ 63) (hhb : p5.toInt = (ph : Int)) (hhb63 : ph ≤ 63) (hRLi : 2 * (bd + 1) ≤ RL) (hMLi : 1 < ML) (hR0 : own_find cp p3 8 (p3 &&& 127).toNatClampNeg = RR) (hR : cp RR = p3 ∨ cp RR = -1) (hRl : RR < 128) (hF0 : FF 0 = ((co RR) &&& ((rf (0 * (bd + 1))) <<< ((1 : Int32) &&& 0x3f).toInt64))) (hFs : ∀ d, FF (d + 1) = (let r1 := ((((co RR) &&& ((rf ((0 * (bd + 1)) + (d + 1))) <<< ((1 : Int32) &&& 0x3f).toInt64)) ||| (rf ((0 * (bd + 1)) + d))) ||| ((rf ((0 * (bd + 1)) + d)) <<< ((1 : Int32) &&& 0x3f).toInt64)) ||| ((FF d) <<< ((1 : Int32) &&& 0x3f).toInt64); let r2 := if (0 : Int64) = 0 then r1 else r1 ||| ((0 : Int64) &&& ((rf ((0 * (bd + 1)) + d)) <<< ((2 : Int32) &&& 0x3f).toInt64)); let r3 := r2 &&& cols; if ph < d + 1 then r3 &&& ((FF ph) ||| out) else r3)) :
    own_Ctr l Z (⟨"com/example/close_words/closewords/BitRows", "fill", "(IIZ)Z"⟩ : MethodName) prog_6_method_2_code 18 (some .boolean) ws ({ frames := 1, cells := 0, slots := 0, locals := 15 } : Room) #[(.ref a1), (.int (1 : Int32)), (.int p3), (.int p4)] h0 (Q_rmro1 Z a1 p3 p4 ac ao ar am cp co rf mf FF lv p5 cols out bd ph RL ML RR h0 n0) := by
  refine own_enter (plainFor_of_name own_pn0) ?_
  intro p e s m below meth c s₁ X0 hx hby hml hrt hlk hZ hown hnm e0
  have N0 := Fr.nil n0
  have Zs := Z0
  have K0 := Keep.refl h0 [ar, am]
  rw [show entryFrame m #[(.ref a1), (.int (1 : Int32)), (.int p3), (.int p4)] 18 = mkF m 0 #[rv a1, iv (1 : Int32), iv p3, iv p4, uu, uu, uu, uu, uu, uu, uu, uu, uu, uu, uu, uu, uu, uu] [] from by first | (simp [entryFrame, mkF, argsToLocals, Value.category]; done) | rfl]
  show own_Wp _ _ _ _ (s₁.setTop (mkF m 0 #[rv a1, iv (1 : Int32), iv p3, iv p4, uu, uu, uu, uu, uu, uu, uu, uu, uu, uu, uu, uu, uu, uu] []))
  refine own_of (fun tgt kon => XS.aloadN X0.here hx rfl (hb hby d7_0) rfl rfl kon) ?_
  obtain ⟨T1, X1, e1, st1⟩ := getF X0 hx hZ hown (host := "") (Or.inl (ow hw 33 rfl)) Via.refl e0 F_columnsOf (g := (mkF m 1 #[rv a1, iv (1 : Int32), iv p3, iv p4, uu, uu, uu, uu, uu, uu, uu, uu, uu, uu, uu, uu, uu, uu] [(.ref a1)])) rfl rfl (hb hby d7_1)
  refine own_of st1 ?_
  clear st1
  refine own_of (fun tgt kon => XS.aloadN X1.here hx rfl (hb hby d7_4) rfl rfl kon) ?_
  refine own_of (fun tgt kon => XS.iloadN X1.here hx rfl (hb hby d7_5) rfl kon) ?_
  refine own_callP X1 hx hZ (y := (⟨"com/example/close_words/closewords/BitRows", "slot", "(I)I"⟩ : MethodName)) (a := a1) (argsL := [(.int p3)]) (rest := [(.ref ao)]) (W := 1) hown (ow hw 52 rfl) (ow hw 53 rfl) (ow hw 6 rfl) (ow hw 54 rfl) (ow hw 7 rfl) (ow hw 55 rfl) (by decide) e1 E_a1 (rmslot l Z a0 hw [] a1 p3 ac cp RR (Int32.ofNat RR) h0 n0 Zs E_a1 F_codePoints V_ac hR0 hR (own_ofN (by omega))) (by decide) (by decide) (by decide) (by decide) rfl (by rw [hml]; rfl) (lenOf own_pd3 rfl) rfl (by show 2 * 0 + _ ≤ _; exact Nat.le_of_eq rfl) (hb hby d7_6) ?_
  rintro T2 L2 _ X2 ⟨rfl, N2q, e2⟩
  have N2 := Fr.app N0 N2q
  show own_Wp _ _ _ _ (T2.setTop (mkF m 9 #[rv a1, iv (1 : Int32), iv p3, iv p4, uu, uu, uu, uu, uu, uu, uu, uu, uu, uu, uu, uu, uu, uu] [(.int (Int32.ofNat RR)), (.ref ao)]))
  refine own_laload X2 hx hZ e2 V_ao (j := (Int32.ofNat RR)) (i := RR) (v := (co RR)) (own_ofN (by omega)) hRl rfl rfl rfl (hb hby d7_9) ?_
  refine own_of (fun tgt kon => XS.lstore X2.here hx rfl (hb hby d7_10) rfl (l' := #[rv a1, iv (1 : Int32), iv p3, iv p4, jv (co RR), ss, uu, uu, uu, uu, uu, uu, uu, uu, uu, uu, uu, uu]) rfl kon) ?_
  refine own_of (fun tgt kon => XS.aloadN X2.here hx rfl (hb hby d7_12) rfl rfl kon) ?_
  obtain ⟨T3, X3, e3, st3⟩ := getF X2 hx hZ hown (host := "") (Or.inl (ow hw 37 rfl)) Via.refl e2 F_matches (g := (mkF m 13 #[rv a1, iv (1 : Int32), iv p3, iv p4, jv (co RR), ss, uu, uu, uu, uu, uu, uu, uu, uu, uu, uu, uu, uu] [(.ref a1)])) rfl rfl (hb hby d7_13)
  refine own_of st3 ?_
  clear st3
  refine own_of (fun tgt kon => XS.iloadN X3.here hx rfl (hb hby d7_16) rfl kon) ?_
  show own_Wp _ _ _ _ (T3.setTop (mkF m 17 #[rv a1, iv (1 : Int32), iv p3, iv p4, jv (co RR), ss, uu, uu, uu, uu, uu, uu, uu, uu, uu, uu, uu, uu] [(.int (1 : Int32)), (.ref am)]))
  refine own_of (fun tgt kon => XS.lload X3.here hx rfl (hb hby d7_17) rfl kon) ?_
  obtain ⟨T4, h4, X4, e4, W4, Aq4, st4⟩ := own_stJ X3 hx hZ e3 V_am (j := (1 : Int32)) (i := 1) (x := (co RR)) (by decide) (by omega) (g := (mkF m 19 #[rv a1, iv (1 : Int32), iv p3, iv p4, jv (co RR), ss, uu, uu, uu, uu, uu, uu, uu, uu, uu, uu, uu, uu] [(.long (co RR)), (.int (1 : Int32)), (.ref am)])) rfl rfl (hb hby d7_19)
  refine own_of st4 ?_
  clear st4
  replace Zs := Nat.le_trans Zs (Keep.of_wr W4).1
  replace K0 := K0.wr W4 (Or.inl (List.mem_of_getElem? (i := 1) rfl))
  replace E_a1 := E_a1.wr W4
  replace F_columnsOf := F_columnsOf.other W4 (Or.inl ne_a1_am)
  replace F_codePoints := F_codePoints.other W4 (Or.inl ne_a1_am)
  replace F_matches := F_matches.other W4 (Or.inl ne_a1_am)
  replace F_rows := F_rows.other W4 (Or.inl ne_a1_am)
  replace F_levels := F_levels.other W4 (Or.inl ne_a1_am)
  replace F_columns := F_columns.other W4 (Or.inl ne_a1_am)
  replace F_headBound := F_headBound.other W4 (Or.inl ne_a1_am)
  replace F_outsideHead := F_outsideHead.other W4 (Or.inl ne_a1_am)
  replace V_ac := V_ac.other W4 ne_ac_am
  replace V_ao := V_ao.other W4 ne_ao_am
  replace V_ar := V_ar.other W4 (Ne.symm ne_am_ar)
  replace V_am := Aq4
  clear Aq4
  replace V_am := V_am.fn (f' := fun k => .long (own_upd mf 1 (co RR) k)) (fun k hk => own_setJ _ _ _ k)
  have N4 := Fr.snoc X4 N2 g_am
  refine own_of (fun tgt kon => XS.iloadN X4.here hx rfl (hb hby d7_20) rfl kon) ?_
  refine own_of (fun tgt kon => XS.aloadN X4.here hx rfl (hb hby d7_21) rfl rfl kon) ?_
  obtain ⟨T5, X5, e5, st5⟩ := getF X4 hx hZ hown (host := "") (Or.inl (ow hw 18 rfl)) Via.refl e4 F_levels (g := (mkF m 22 #[rv a1, iv (1 : Int32), iv p3, iv p4, jv (co RR), ss, uu, uu, uu, uu, uu, uu, uu, uu, uu, uu, uu, uu] [(.ref a1), (.int (1 : Int32))])) rfl rfl (hb hby d7_22)
  refine own_of st5 ?_
  clear st5
  show own_Wp _ _ _ _ (T5.setTop (mkF m 25 #[rv a1, iv (1 : Int32), iv p3, iv p4, jv (co RR), ss, uu, uu, uu, uu, uu, uu, uu, uu, uu, uu, uu, uu] [(.int lv), (.int (1 : Int32))]))
  refine own_of (fun tgt kon => XS.imul X5.here hx rfl (hb hby d7_25) rfl kon) ?_
  show own_Wp _ _ _ _ (T5.setTop (mkF m 26 #[rv a1, iv (1 : Int32), iv p3, iv p4, jv (co RR), ss, uu, uu, uu, uu, uu, uu, uu, uu, uu, uu, uu, uu] [(.int ((1 : Int32) * lv))]))
  obtain ⟨row, h_row⟩ : ∃ q : Int32, q = ((1 : Int32) * lv) := ⟨_, rfl⟩
  rw [← h_row]
  refine own_of (fun tgt kon => XS.istore X5.here hx rfl (hb hby d7_26) rfl (l' := #[rv a1, iv (1 : Int32), iv p3, iv p4, jv (co RR), ss, iv row, uu, uu, uu, uu, uu, uu, uu, uu, uu, uu, uu]) rfl kon) ?_
  show own_Wp _ _ _ _ (T5.setTop (mkF m 28 #[rv a1, iv (1 : Int32), iv p3, iv p4, jv (co RR), ss, iv row, uu, uu, uu, uu, uu, uu, uu, uu, uu, uu, uu] []))
  have t_row : row.toInt = ((1 * (bd + 1) : Nat) : Int) := by
    rw [h_row, Jvm.Kit.i32_mul (by rw [show (1 : Int32).toInt = 1 from by decide, hlv]; omega) (by rw [show (1 : Int32).toInt = 1 from by decide, hlv]; omega), show (1 : Int32).toInt = 1 from by decide, hlv]
    omega
  refine own_of (fun tgt kon => XS.iload X5.here hx rfl (hb hby d7_28) rfl kon) ?_
  refine own_of (fun tgt kon => XS.aloadN X5.here hx rfl (hb hby d7_30) rfl rfl kon) ?_
  obtain ⟨T6, X6, e6, st6⟩ := getF X5 hx hZ hown (host := "") (Or.inl (ow hw 18 rfl)) Via.refl e5 F_levels (g := (mkF m 31 #[rv a1, iv (1 : Int32), iv p3, iv p4, jv (co RR), ss, iv row, uu, uu, uu, uu, uu, uu, uu, uu, uu, uu, uu] [(.ref a1), (.int row)])) rfl rfl (hb hby d7_31)
  refine own_of st6 ?_
  clear st6
  refine own_of (fun tgt kon => XS.isub X6.here hx rfl (hb hby d7_34) rfl kon) ?_
  show own_Wp _ _ _ _ (T6.setTop (mkF m 35 #[rv a1, iv (1 : Int32), iv p3, iv p4, jv (co RR), ss, iv row, uu, uu, uu, uu, uu, uu, uu, uu, uu, uu, uu] [(.int (row - lv))]))
  obtain ⟨abv, h_abv⟩ : ∃ q : Int32, q = (row - lv) := ⟨_, rfl⟩
  rw [← h_abv]
  refine own_of (fun tgt kon => XS.istore X6.here hx rfl (hb hby d7_35) rfl (l' := #[rv a1, iv (1 : Int32), iv p3, iv p4, jv (co RR), ss, iv row, iv abv, uu, uu, uu, uu, uu, uu, uu, uu, uu, uu]) rfl kon) ?_
  show own_Wp _ _ _ _ (T6.setTop (mkF m 37 #[rv a1, iv (1 : Int32), iv p3, iv p4, jv (co RR), ss, iv row, iv abv, uu, uu, uu, uu, uu, uu, uu, uu, uu, uu] []))
  have t_ab : abv.toInt = ((0 * (bd + 1) : Nat) : Int) := by
    rw [h_abv]
    have q := own_subI t_row hlv (by omega) (by omega)
    omega
  refine own_of (fun tgt kon => XS.iload X6.here hx rfl (hb hby d7_37) rfl kon) ?_
  refine own_of (fun tgt kon => XS.aloadN X6.here hx rfl (hb hby d7_39) rfl rfl kon) ?_
  obtain ⟨T7, X7, e7, st7⟩ := getF X6 hx hZ hown (host := "") (Or.inl (ow hw 18 rfl)) Via.refl e6 F_levels (g := (mkF m 40 #[rv a1, iv (1 : Int32), iv p3, iv p4, jv (co RR), ss, iv row, iv abv, uu, uu, uu, uu, uu, uu, uu, uu, uu, uu] [(.ref a1), (.int abv)])) rfl rfl (hb hby d7_40)
  refine own_of st7 ?_
  clear st7
  refine own_of (fun tgt kon => XS.isub X7.here hx rfl (hb hby d7_43) rfl kon) ?_
  show own_Wp _ _ _ _ (T7.setTop (mkF m 44 #[rv a1, iv (1 : Int32), iv p3, iv p4, jv (co RR), ss, iv row, iv abv, uu, uu, uu, uu, uu, uu, uu, uu, uu, uu] [(.int (abv - lv))]))
  obtain ⟨twv, h_twv⟩ : ∃ q : Int32, q = (abv - lv) := ⟨_, rfl⟩
  rw [← h_twv]
  refine own_of (fun tgt kon => XS.istore X7.here hx rfl (hb hby d7_44) rfl (l' := #[rv a1, iv (1 : Int32), iv p3, iv p4, jv (co RR), ss, iv row, iv abv, iv twv, uu, uu, uu, uu, uu, uu, uu, uu, uu]) rfl kon) ?_
  show own_Wp _ _ _ _ (T7.setTop (mkF m 46 #[rv a1, iv (1 : Int32), iv p3, iv p4, jv (co RR), ss, iv row, iv abv, iv twv, uu, uu, uu, uu, uu, uu, uu, uu, uu] []))
  refine own_of (fun tgt kon => XS.iloadN X7.here hx rfl (hb hby d7_46) rfl kon) ?_
  refine own_of (fun tgt kon => XS.iconst X7.here hx rfl (hb hby d7_47) kon) ?_
  have hc48 : ¬ ((1 : Int32) < (1 : Int32)) := by decide
  refine own_of (fun tgt kon => XS.icmpYes X7.here hx rfl (pc0 := 48) (pc' := 67) rfl (hb hby d7_48) rfl (flt hc48).2.2.2 (by decide) (by decide) kon) ?_
  refine own_of (fun tgt kon => XS.lconst X7.here hx rfl (hb hby d7_67) kon) ?_
  refine own_of (fun tgt kon => XS.lstore X7.here hx rfl (hb hby d7_68) rfl (l' := #[rv a1, iv (1 : Int32), iv p3, iv p4, jv (co RR), ss, iv row, iv abv, iv twv, jv (0 : Int64), ss, uu, uu, uu, uu, uu, uu, uu]) rfl kon) ?_
  show own_Wp _ _ _ _ (T7.setTop (mkF m 70 #[rv a1, iv (1 : Int32), iv p3, iv p4, jv (co RR), ss, iv row, iv abv, iv twv, jv (0 : Int64), ss, uu, uu, uu, uu, uu, uu, uu] []))
  refine own_of (fun tgt kon => XS.lload X7.here hx rfl (hb hby d7_70) rfl kon) ?_
  refine own_of (fun tgt kon => XS.aloadN X7.here hx rfl (hb hby d7_72) rfl rfl kon) ?_
  obtain ⟨T8, X8, e8, st8⟩ := getF X7 hx hZ hown (host := "") (Or.inl (ow hw 35 rfl)) Via.refl e7 F_rows (g := (mkF m 73 #[rv a1, iv (1 : Int32), iv p3, iv p4, jv (co RR), ss, iv row, iv abv, iv twv, jv (0 : Int64), ss, uu, uu, uu, uu, uu, uu, uu] [(.ref a1), (.long (co RR))])) rfl rfl (hb hby d7_73)
  refine own_of st8 ?_
  clear st8
  refine own_of (fun tgt kon => XS.iload X8.here hx rfl (hb hby d7_76) rfl kon) ?_
  refine own_laload X8 hx hZ e8 V_ar (j := abv) (i := (0 * (bd + 1))) (v := (rf (0 * (bd + 1)))) t_ab (by omega) rfl rfl rfl (hb hby d7_78) ?_
  show own_Wp _ _ _ _ (T8.setTop (mkF m 79 #[rv a1, iv (1 : Int32), iv p3, iv p4, jv (co RR), ss, iv row, iv abv, iv twv, jv (0 : Int64), ss, uu, uu, uu, uu, uu, uu, uu] [(.long (rf (0 * (bd + 1)))), (.long (co RR))]))
  refine own_of (fun tgt kon => XS.iconst X8.here hx rfl (hb hby d7_79) kon) ?_
  refine own_of (fun tgt kon => XS.lshl X8.here hx rfl (hb hby d7_80) rfl kon) ?_
  refine own_of (fun tgt kon => XS.land X8.here hx rfl (hb hby d7_81) rfl kon) ?_
  refine own_of (fun tgt kon => XS.lstore X8.here hx rfl (hb hby d7_82) rfl (l' := #[rv a1, iv (1 : Int32), iv p3, iv p4, jv (co RR), ss, iv row, iv abv, iv twv, jv (0 : Int64), ss, jv ((co RR) &&& ((rf (0 * (bd + 1))) <<< ((1 : Int32) &&& 0x3f).toInt64)), ss, uu, uu, uu, uu, uu]) rfl kon) ?_
  refine own_of (fun tgt kon => XS.aloadN X8.here hx rfl (hb hby d7_84) rfl rfl kon) ?_
  show own_Wp _ _ _ _ (T8.setTop (mkF m 85 #[rv a1, iv (1 : Int32), iv p3, iv p4, jv (co RR), ss, iv row, iv abv, iv twv, jv (0 : Int64), ss, jv ((co RR) &&& ((rf (0 * (bd + 1))) <<< ((1 : Int32) &&& 0x3f).toInt64)), ss, uu, uu, uu, uu, uu] [(.ref a1)]))
  obtain ⟨T9, X9, e9, st9⟩ := getF X8 hx hZ hown (host := "") (Or.inl (ow hw 35 rfl)) Via.refl e8 F_rows (g := (mkF m 85 #[rv a1, iv (1 : Int32), iv p3, iv p4, jv (co RR), ss, iv row, iv abv, iv twv, jv (0 : Int64), ss, jv ((co RR) &&& ((rf (0 * (bd + 1))) <<< ((1 : Int32) &&& 0x3f).toInt64)), ss, uu, uu, uu, uu, uu] [(.ref a1)])) rfl rfl (hb hby d7_85)
  refine own_of st9 ?_
  clear st9
  refine own_of (fun tgt kon => XS.iload X9.here hx rfl (hb hby d7_88) rfl kon) ?_
  refine own_of (fun tgt kon => XS.lload X9.here hx rfl (hb hby d7_90) rfl kon) ?_
  obtain ⟨T10, h10, X10, e10, W10, Aq10, st10⟩ := own_stJ X9 hx hZ e9 V_ar (j := row) (i := (1 * (bd + 1))) (x := ((co RR) &&& ((rf (0 * (bd + 1))) <<< ((1 : Int32) &&& 0x3f).toInt64))) t_row (by omega) (g := (mkF m 92 #[rv a1, iv (1 : Int32), iv p3, iv p4, jv (co RR), ss, iv row, iv abv, iv twv, jv (0 : Int64), ss, jv ((co RR) &&& ((rf (0 * (bd + 1))) <<< ((1 : Int32) &&& 0x3f).toInt64)), ss, uu, uu, uu, uu, uu] [(.long ((co RR) &&& ((rf (0 * (bd + 1))) <<< ((1 : Int32) &&& 0x3f).toInt64))), (.int row), (.ref ar)])) rfl rfl (hb hby d7_92)
  refine own_of st10 ?_
  clear st10
  replace Zs := Nat.le_trans Zs (Keep.of_wr W10).1
  replace K0 := K0.wr W10 (Or.inl (List.mem_of_getElem? (i := 0) rfl))
  replace E_a1 := E_a1.wr W10
  replace F_columnsOf := F_columnsOf.other W10 (Or.inl ne_a1_ar)
  replace F_codePoints := F_codePoints.other W10 (Or.inl ne_a1_ar)
  replace F_matches := F_matches.other W10 (Or.inl ne_a1_ar)
  replace F_rows := F_rows.other W10 (Or.inl ne_a1_ar)
  replace F_levels := F_levels.other W10 (Or.inl ne_a1_ar)
  replace F_columns := F_columns.other W10 (Or.inl ne_a1_ar)
  replace F_headBound := F_headBound.other W10 (Or.inl ne_a1_ar)
  replace F_outsideHead := F_outsideHead.other W10 (Or.inl ne_a1_ar)
  replace V_ac := V_ac.other W10 ne_ac_ar
  replace V_ao := V_ao.other W10 ne_ao_ar
  replace V_am := V_am.other W10 ne_am_ar
  replace V_ar := Aq10
  clear Aq10
  rw [show ((co RR) &&& ((rf (0 * (bd + 1))) <<< ((1 : Int32) &&& 0x3f).toInt64)) = FF 0 from hF0.symm] at V_ar ⊢
  replace V_ar := V_ar.fn (f' := fun y => .long (own_rk rf (1 * (bd + 1)) FF 1 y)) (fun y hy => (own_setJ _ _ _ y).trans (congrArg Value.long (own_rk0 _ _ _ y)))
  have N10 := Fr.snoc X10 N4 g_ar
  refine own_of (fun tgt kon => XS.iconst X10.here hx rfl (hb hby d7_93) kon) ?_
  show own_Wp _ _ _ _ (T10.setTop (mkF m 94 #[rv a1, iv (1 : Int32), iv p3, iv p4, jv (co RR), ss, iv row, iv abv, iv twv, jv (0 : Int64), ss, jv (FF 0), ss, uu, uu, uu, uu, uu] [(.int (1 : Int32))]))
  refine own_of (fun tgt kon => XS.istore X10.here hx rfl (hb hby d7_94) rfl (l' := #[rv a1, iv (1 : Int32), iv p3, iv p4, jv (co RR), ss, iv row, iv abv, iv twv, jv (0 : Int64), ss, jv (FF 0), ss, iv (1 : Int32), uu, uu, uu, uu]) rfl kon) ?_
  show own_Wp _ _ _ _ (T10.setTop (mkF m 96 #[rv a1, iv (1 : Int32), iv p3, iv p4, jv (co RR), ss, iv row, iv abv, iv twv, jv (0 : Int64), ss, jv (FF 0), ss, iv (1 : Int32), uu, uu, uu, uu] []))
  refine own_of (fun tgt kon => XS.iload X10.here hx rfl (hb hby d7_96) rfl kon) ?_
  refine own_of (fun tgt kon => XS.aloadN X10.here hx rfl (hb hby d7_98) rfl rfl kon) ?_
  obtain ⟨T11, X11, e11, st11⟩ := getF X10 hx hZ hown (host := "") (Or.inl (ow hw 18 rfl)) Via.refl e10 F_levels (g := (mkF m 99 #[rv a1, iv (1 : Int32), iv p3, iv p4, jv (co RR), ss, iv row, iv abv, iv twv, jv (0 : Int64), ss, jv (FF 0), ss, iv (1 : Int32), uu, uu, uu, uu] [(.ref a1), (.int (1 : Int32))])) rfl rfl (hb hby d7_99)
  refine own_of st11 ?_
  clear st11
  by_cases hc102 : (1 : Int32) < lv
  · skip
    refine own_of (fun tgt kon => XS.icmpNo X11.here hx rfl (hb hby d7_102) rfl (tlt hc102).2.1 kon) ?_
    show own_Wp _ _ _ _ (T11.setTop (mkF m 105 #[rv a1, iv (1 : Int32), iv p3, iv p4, jv (co RR), ss, iv row, iv abv, iv twv, jv (0 : Int64), ss, jv (FF 0), ss, iv (1 : Int32), uu, uu, uu, uu] []))
    have hlt : 0 + 1 < bd + 1 := by
      have q := hc102
      rw [Int32.lt_iff_toInt_lt, hlv] at q
      have q2 : (1 : Int32).toInt = ((0 + 1 : Nat) : Int) := by decide
      omega
    have t_d : (1 : Int32).toInt = ((0 + 1 : Nat) : Int) := by decide
    have l1 : (1 : Int32).toInt = 1 := by decide
    refine own_of (fun tgt kon => XS.aloadN X11.here hx rfl (hb hby d7_105) rfl rfl kon) ?_
    obtain ⟨T12, X12, e12, st12⟩ := getF X11 hx hZ hown (host := "") (Or.inl (ow hw 35 rfl)) Via.refl e11 F_rows (g := (mkF m 106 #[rv a1, iv (1 : Int32), iv p3, iv p4, jv (co RR), ss, iv row, iv abv, iv twv, jv (0 : Int64), ss, jv (FF 0), ss, iv (1 : Int32), uu, uu, uu, uu] [(.ref a1)])) rfl rfl (hb hby d7_106)
    refine own_of st12 ?_
    clear st12
    refine own_of (fun tgt kon => XS.iload X12.here hx rfl (hb hby d7_109) rfl kon) ?_
    refine own_of (fun tgt kon => XS.iload X12.here hx rfl (hb hby d7_111) rfl kon) ?_
    refine own_of (fun tgt kon => XS.iadd X12.here hx rfl (hb hby d7_113) rfl kon) ?_
    show own_Wp _ _ _ _ (T12.setTop (mkF m 114 #[rv a1, iv (1 : Int32), iv p3, iv p4, jv (co RR), ss, iv row, iv abv, iv twv, jv (0 : Int64), ss, jv (FF 0), ss, iv (1 : Int32), uu, uu, uu, uu] [(.int (abv + (1 : Int32))), (.ref ar)]))
    refine own_of (fun tgt kon => XS.iconst X12.here hx rfl (hb hby d7_114) kon) ?_
    refine own_of (fun tgt kon => XS.isub X12.here hx rfl (hb hby d7_115) rfl kon) ?_
    refine own_laload X12 hx hZ e12 V_ar (j := ((abv + (1 : Int32)) - (1 : Int32))) (i := ((0 * (bd + 1)) + 0)) (v := (rf ((0 * (bd + 1)) + 0))) (by have q1 := own_addI t_ab t_d (by omega) (by omega); have q2 := own_subI q1 l1 (by omega) (by omega); omega) (by omega) (by show Value.long (own_rk _ _ _ _ _) = _; rw [own_rk_lt (by omega)]) rfl rfl (hb hby d7_116) ?_
    refine own_of (fun tgt kon => XS.lstore X12.here hx rfl (hb hby d7_117) rfl (l' := #[rv a1, iv (1 : Int32), iv p3, iv p4, jv (co RR), ss, iv row, iv abv, iv twv, jv (0 : Int64), ss, jv (FF 0), ss, iv (1 : Int32), jv (rf ((0 * (bd + 1)) + 0)), ss, uu, uu]) rfl kon) ?_
    refine own_of (fun tgt kon => XS.lload X12.here hx rfl (hb hby d7_119) rfl kon) ?_
    show own_Wp _ _ _ _ (T12.setTop (mkF m 121 #[rv a1, iv (1 : Int32), iv p3, iv p4, jv (co RR), ss, iv row, iv abv, iv twv, jv (0 : Int64), ss, jv (FF 0), ss, iv (1 : Int32), jv (rf ((0 * (bd + 1)) + 0)), ss, uu, uu] [(.long (co RR))]))
    refine own_of (fun tgt kon => XS.aloadN X12.here hx rfl (hb hby d7_121) rfl rfl kon) ?_
    obtain ⟨T13, X13, e13, st13⟩ := getF X12 hx hZ hown (host := "") (Or.inl (ow hw 35 rfl)) Via.refl e12 F_rows (g := (mkF m 122 #[rv a1, iv (1 : Int32), iv p3, iv p4, jv (co RR), ss, iv row, iv abv, iv twv, jv (0 : Int64), ss, jv (FF 0), ss, iv (1 : Int32), jv (rf ((0 * (bd + 1)) + 0)), ss, uu, uu] [(.ref a1), (.long (co RR))])) rfl rfl (hb hby d7_122)
    refine own_of st13 ?_
    clear st13
    refine own_of (fun tgt kon => XS.iload X13.here hx rfl (hb hby d7_125) rfl kon) ?_
    refine own_of (fun tgt kon => XS.iload X13.here hx rfl (hb hby d7_127) rfl kon) ?_
    refine own_of (fun tgt kon => XS.iadd X13.here hx rfl (hb hby d7_129) rfl kon) ?_
    show own_Wp _ _ _ _ (T13.setTop (mkF m 130 #[rv a1, iv (1 : Int32), iv p3, iv p4, jv (co RR), ss, iv row, iv abv, iv twv, jv (0 : Int64), ss, jv (FF 0), ss, iv (1 : Int32), jv (rf ((0 * (bd + 1)) + 0)), ss, uu, uu] [(.int (abv + (1 : Int32))), (.ref ar), (.long (co RR))]))
    refine own_laload X13 hx hZ e13 V_ar (j := (abv + (1 : Int32))) (i := ((0 * (bd + 1)) + (0 + 1))) (v := (rf ((0 * (bd + 1)) + (0 + 1)))) (by have q1 := own_addI t_ab t_d (by omega) (by omega); omega) (by omega) (by show Value.long (own_rk _ _ _ _ _) = _; rw [own_rk_lt (by omega)]) rfl rfl (hb hby d7_130) ?_
    refine own_of (fun tgt kon => XS.iconst X13.here hx rfl (hb hby d7_131) kon) ?_
    refine own_of (fun tgt kon => XS.lshl X13.here hx rfl (hb hby d7_132) rfl kon) ?_
    refine own_of (fun tgt kon => XS.land X13.here hx rfl (hb hby d7_133) rfl kon) ?_
    refine own_of (fun tgt kon => XS.lload X13.here hx rfl (hb hby d7_134) rfl kon) ?_
    show own_Wp _ _ _ _ (T13.setTop (mkF m 136 #[rv a1, iv (1 : Int32), iv p3, iv p4, jv (co RR), ss, iv row, iv abv, iv twv, jv (0 : Int64), ss, jv (FF 0), ss, iv (1 : Int32), jv (rf ((0 * (bd + 1)) + 0)), ss, uu, uu] [(.long (rf ((0 * (bd + 1)) + 0))), (.long ((co RR) &&& ((rf ((0 * (bd + 1)) + (0 + 1))) <<< ((1 : Int32) &&& 0x3f).toInt64)))]))
    refine own_of (fun tgt kon => XS.lor X13.here hx rfl (hb hby d7_136) rfl kon) ?_
    refine own_of (fun tgt kon => XS.lload X13.here hx rfl (hb hby d7_137) rfl kon) ?_
    refine own_of (fun tgt kon => XS.iconst X13.here hx rfl (hb hby d7_139) kon) ?_
    refine own_of (fun tgt kon => XS.lshl X13.here hx rfl (hb hby d7_140) rfl kon) ?_
    refine own_of (fun tgt kon => XS.lor X13.here hx rfl (hb hby d7_141) rfl kon) ?_
    show own_Wp _ _ _ _ (T13.setTop (mkF m 142 #[rv a1, iv (1 : Int32), iv p3, iv p4, jv (co RR), ss, iv row, iv abv, iv twv, jv (0 : Int64), ss, jv (FF 0), ss, iv (1 : Int32), jv (rf ((0 * (bd + 1)) + 0)), ss, uu, uu] [(.long ((((co RR) &&& ((rf ((0 * (bd + 1)) + (0 + 1))) <<< ((1 : Int32) &&& 0x3f).toInt64)) ||| (rf ((0 * (bd + 1)) + 0))) ||| ((rf ((0 * (bd + 1)) + 0)) <<< ((1 : Int32) &&& 0x3f).toInt64)))]))
    refine own_of (fun tgt kon => XS.lload X13.here hx rfl (hb hby d7_142) rfl kon) ?_
    refine own_of (fun tgt kon => XS.iconst X13.here hx rfl (hb hby d7_144) kon) ?_
    refine own_of (fun tgt kon => XS.lshl X13.here hx rfl (hb hby d7_145) rfl kon) ?_
    refine own_of (fun tgt kon => XS.lor X13.here hx rfl (hb hby d7_146) rfl kon) ?_
    show own_Wp _ _ _ _ (T13.setTop (mkF m 147 #[rv a1, iv (1 : Int32), iv p3, iv p4, jv (co RR), ss, iv row, iv abv, iv twv, jv (0 : Int64), ss, jv (FF 0), ss, iv (1 : Int32), jv (rf ((0 * (bd + 1)) + 0)), ss, uu, uu] [(.long (((((co RR) &&& ((rf ((0 * (bd + 1)) + (0 + 1))) <<< ((1 : Int32) &&& 0x3f).toInt64)) ||| (rf ((0 * (bd + 1)) + 0))) ||| ((rf ((0 * (bd + 1)) + 0)) <<< ((1 : Int32) &&& 0x3f).toInt64)) ||| ((FF 0) <<< ((1 : Int32) &&& 0x3f).toInt64)))]))
    obtain ⟨r1, h_r1⟩ : ∃ q : Int64, q = (((((co RR) &&& ((rf ((0 * (bd + 1)) + (0 + 1))) <<< ((1 : Int32) &&& 0x3f).toInt64)) ||| (rf ((0 * (bd + 1)) + 0))) ||| ((rf ((0 * (bd + 1)) + 0)) <<< ((1 : Int32) &&& 0x3f).toInt64)) ||| ((FF 0) <<< ((1 : Int32) &&& 0x3f).toInt64)) := ⟨_, rfl⟩
    rw [← h_r1]
    refine own_of (fun tgt kon => XS.lstore X13.here hx rfl (hb hby d7_147) rfl (l' := #[rv a1, iv (1 : Int32), iv p3, iv p4, jv (co RR), ss, iv row, iv abv, iv twv, jv (0 : Int64), ss, jv (FF 0), ss, iv (1 : Int32), jv (rf ((0 * (bd + 1)) + 0)), ss, jv r1, ss]) rfl kon) ?_
    show own_Wp _ _ _ _ (T13.setTop (mkF m 149 #[rv a1, iv (1 : Int32), iv p3, iv p4, jv (co RR), ss, iv row, iv abv, iv twv, jv (0 : Int64), ss, jv (FF 0), ss, iv (1 : Int32), jv (rf ((0 * (bd + 1)) + 0)), ss, jv r1, ss] []))
    refine own_of (fun tgt kon => XS.lload X13.here hx rfl (hb hby d7_149) rfl kon) ?_
    refine own_of (fun tgt kon => XS.lconst X13.here hx rfl (hb hby d7_151) kon) ?_
    refine own_of (fun tgt kon => XS.lcmp X13.here hx rfl (hb hby d7_152) rfl kon) ?_
    show own_Wp _ _ _ _ (T13.setTop (mkF m 153 #[rv a1, iv (1 : Int32), iv p3, iv p4, jv (co RR), ss, iv row, iv abv, iv twv, jv (0 : Int64), ss, jv (FF 0), ss, iv (1 : Int32), jv (rf ((0 * (bd + 1)) + 0)), ss, jv r1, ss] [(.int (lcmpW (0 : Int64) (0 : Int64)))]))
    have hc153 : (lcmpW (0 : Int64) (0 : Int64)) = (0 : Int32) := by decide
    refine own_of (fun tgt kon => XS.ifYes X13.here hx rfl (pc0 := 153) (pc' := 178) rfl (hb hby d7_153) rfl ((if0 _ _).trans (teq hc153).1) (by decide) (by decide) kon) ?_
    refine own_of (fun tgt kon => XS.lload X13.here hx rfl (hb hby d7_178) rfl kon) ?_
    refine own_of (fun tgt kon => XS.aloadN X13.here hx rfl (hb hby d7_180) rfl rfl kon) ?_
    obtain ⟨T14, X14, e14, st14⟩ := getF X13 hx hZ hown (host := "") (Or.inl (ow hw 23 rfl)) Via.refl e13 F_columns (g := (mkF m 181 #[rv a1, iv (1 : Int32), iv p3, iv p4, jv (co RR), ss, iv row, iv abv, iv twv, jv (0 : Int64), ss, jv (FF 0), ss, iv (1 : Int32), jv (rf ((0 * (bd + 1)) + 0)), ss, jv r1, ss] [(.ref a1), (.long r1)])) rfl rfl (hb hby d7_181)
    refine own_of st14 ?_
    clear st14
    refine own_of (fun tgt kon => XS.land X14.here hx rfl (hb hby d7_184) rfl kon) ?_
    show own_Wp _ _ _ _ (T14.setTop (mkF m 185 #[rv a1, iv (1 : Int32), iv p3, iv p4, jv (co RR), ss, iv row, iv abv, iv twv, jv (0 : Int64), ss, jv (FF 0), ss, iv (1 : Int32), jv (rf ((0 * (bd + 1)) + 0)), ss, jv r1, ss] [(.long (r1 &&& cols))]))
    refine own_of (fun tgt kon => XS.lstore X14.here hx rfl (hb hby d7_185) rfl (l' := #[rv a1, iv (1 : Int32), iv p3, iv p4, jv (co RR), ss, iv row, iv abv, iv twv, jv (0 : Int64), ss, jv (FF 0), ss, iv (1 : Int32), jv (rf ((0 * (bd + 1)) + 0)), ss, jv (r1 &&& cols), ss]) rfl kon) ?_
    refine own_of (fun tgt kon => XS.iload X14.here hx rfl (hb hby d7_187) rfl kon) ?_
    refine own_of (fun tgt kon => XS.aloadN X14.here hx rfl (hb hby d7_189) rfl rfl kon) ?_
    obtain ⟨T15, X15, e15, st15⟩ := getF X14 hx hZ hown (host := "") (Or.inl (ow hw 16 rfl)) Via.refl e14 F_headBound (g := (mkF m 190 #[rv a1, iv (1 : Int32), iv p3, iv p4, jv (co RR), ss, iv row, iv abv, iv twv, jv (0 : Int64), ss, jv (FF 0), ss, iv (1 : Int32), jv (rf ((0 * (bd + 1)) + 0)), ss, jv (r1 &&& cols), ss] [(.ref a1), (.int (1 : Int32))])) rfl rfl (hb hby d7_190)
    refine own_of st15 ?_
    clear st15
    show own_Wp _ _ _ _ (T15.setTop (mkF m 193 #[rv a1, iv (1 : Int32), iv p3, iv p4, jv (co RR), ss, iv row, iv abv, iv twv, jv (0 : Int64), ss, jv (FF 0), ss, iv (1 : Int32), jv (rf ((0 * (bd + 1)) + 0)), ss, jv (r1 &&& cols), ss] [(.int p5), (.int (1 : Int32))]))
    have J218 : ∀ (T16 : State) (lc16 : List Loc) (q3 : Int64), (Stand p l e ({ frames := 1, cells := 0, slots := 0, locals := 15 } : Room) s m #[(.ref a1), (.int (1 : Int32)), (.int p3), (.int p4)] below meth c T16 lc16 0 0) → (T16.heap = h10) → (Fr n0 lc16) → (q3 = if ph < 0 + 1 then (r1 &&& cols) &&& ((FF ph) ||| out) else (r1 &&& cols)) → own_Wp p.tables e below (own_K ({ frames := 1, cells := 0, slots := 0, locals := 15 } : Room) s below (Q_rmro1 Z a1 p3 p4 ac ao ar am cp co rf mf FF lv p5 cols out bd ph RL ML RR h0 n0)) (T16.setTop (mkF m 218 #[rv a1, iv (1 : Int32), iv p3, iv p4, jv (co RR), ss, iv row, iv abv, iv twv, jv (0 : Int64), ss, jv (FF 0), ss, iv (1 : Int32), jv (rf ((0 * (bd + 1)) + 0)), ss, jv q3, ss] [])) := by
      intro T16 lc16 q3 X16 e16 N16 h_q3
      refine own_of (fun tgt kon => XS.aloadN X16.here hx rfl (hb hby d7_218) rfl rfl kon) ?_
      obtain ⟨T17, X17, e17, st17⟩ := getF X16 hx hZ hown (host := "") (Or.inl (ow hw 35 rfl)) Via.refl e16 F_rows (g := (mkF m 219 #[rv a1, iv (1 : Int32), iv p3, iv p4, jv (co RR), ss, iv row, iv abv, iv twv, jv (0 : Int64), ss, jv (FF 0), ss, iv (1 : Int32), jv (rf ((0 * (bd + 1)) + 0)), ss, jv q3, ss] [(.ref a1)])) rfl rfl (hb hby d7_219)
      refine own_of st17 ?_
      clear st17
      refine own_of (fun tgt kon => XS.iload X17.here hx rfl (hb hby d7_222) rfl kon) ?_
      refine own_of (fun tgt kon => XS.iload X17.here hx rfl (hb hby d7_224) rfl kon) ?_
      refine own_of (fun tgt kon => XS.iadd X17.here hx rfl (hb hby d7_226) rfl kon) ?_
      show own_Wp _ _ _ _ (T17.setTop (mkF m 227 #[rv a1, iv (1 : Int32), iv p3, iv p4, jv (co RR), ss, iv row, iv abv, iv twv, jv (0 : Int64), ss, jv (FF 0), ss, iv (1 : Int32), jv (rf ((0 * (bd + 1)) + 0)), ss, jv q3, ss] [(.int (row + (1 : Int32))), (.ref ar)]))
      refine own_of (fun tgt kon => XS.lload X17.here hx rfl (hb hby d7_227) rfl kon) ?_
      obtain ⟨T18, h18, X18, e18, W18, Aq18, st18⟩ := own_stJ X17 hx hZ e17 V_ar (j := (row + (1 : Int32))) (i := ((1 * (bd + 1)) + (0 + 1))) (x := q3) (by have q1 := own_addI t_row t_d (by omega) (by omega); omega) (by omega) (g := (mkF m 229 #[rv a1, iv (1 : Int32), iv p3, iv p4, jv (co RR), ss, iv row, iv abv, iv twv, jv (0 : Int64), ss, jv (FF 0), ss, iv (1 : Int32), jv (rf ((0 * (bd + 1)) + 0)), ss, jv q3, ss] [(.long q3), (.int (row + (1 : Int32))), (.ref ar)])) rfl rfl (hb hby d7_229)
      refine own_of st18 ?_
      clear st18
      replace Zs := Nat.le_trans Zs (Keep.of_wr W18).1
      replace K0 := K0.wr W18 (Or.inl (List.mem_of_getElem? (i := 0) rfl))
      replace E_a1 := E_a1.wr W18
      replace F_columnsOf := F_columnsOf.other W18 (Or.inl ne_a1_ar)
      replace F_codePoints := F_codePoints.other W18 (Or.inl ne_a1_ar)
      replace F_matches := F_matches.other W18 (Or.inl ne_a1_ar)
      replace F_rows := F_rows.other W18 (Or.inl ne_a1_ar)
      replace F_levels := F_levels.other W18 (Or.inl ne_a1_ar)
      replace F_columns := F_columns.other W18 (Or.inl ne_a1_ar)
      replace F_headBound := F_headBound.other W18 (Or.inl ne_a1_ar)
      replace F_outsideHead := F_outsideHead.other W18 (Or.inl ne_a1_ar)
      replace V_ac := V_ac.other W18 ne_ac_ar
      replace V_ao := V_ao.other W18 ne_ao_ar
      replace V_am := V_am.other W18 ne_am_ar
      replace V_ar := Aq18
      clear Aq18
      have hst : q3 = FF (0 + 1) := by
        rw [hFs 0]
        dsimp only
        rw [if_pos rfl, h_q3, h_r1]
      rw [hst] at V_ar ⊢
      replace V_ar := V_ar.fn (f' := fun y => .long (own_rk rf (1 * (bd + 1)) FF (0 + 1 + 1) y)) (fun y hy => (own_setJ _ _ _ y).trans (congrArg Value.long (own_setRk _ _ _ _ y)))
      have N18 := Fr.snoc X18 N16 g_ar
      refine own_of (fun tgt kon => XS.lload X18.here hx rfl (hb hby d7_230) rfl kon) ?_
      refine own_of (fun tgt kon => XS.lstore X18.here hx rfl (hb hby d7_232) rfl (l' := #[rv a1, iv (1 : Int32), iv p3, iv p4, jv (co RR), ss, iv row, iv abv, iv twv, jv (0 : Int64), ss, jv (FF (0 + 1)), ss, iv (1 : Int32), jv (rf ((0 * (bd + 1)) + 0)), ss, jv (FF (0 + 1)), ss]) rfl kon) ?_
      refine own_of (fun tgt kon => XS.iinc X18.here hx rfl (hb hby d7_234) rfl (l' := #[rv a1, iv (1 : Int32), iv p3, iv p4, jv (co RR), ss, iv row, iv abv, iv twv, jv (0 : Int64), ss, jv (FF (0 + 1)), ss, iv ((1 : Int32) + (1 : Int32)), jv (rf ((0 * (bd + 1)) + 0)), ss, jv (FF (0 + 1)), ss]) rfl kon) ?_
      show own_Wp _ _ _ _ (T18.setTop (mkF m 237 #[rv a1, iv (1 : Int32), iv p3, iv p4, jv (co RR), ss, iv row, iv abv, iv twv, jv (0 : Int64), ss, jv (FF (0 + 1)), ss, iv ((1 : Int32) + (1 : Int32)), jv (rf ((0 * (bd + 1)) + 0)), ss, jv (FF (0 + 1)), ss] []))
      refine own_of (fun tgt kon => XS.goto X18.here hx rfl (pc0 := 237) (pc' := 96) rfl (hb hby d7_237) (by decide) (by decide) kon) ?_
      show own_Wp _ _ _ _ (T18.setTop (mkF m 96 #[rv a1, iv (1 : Int32), iv p3, iv p4, jv (co RR), ss, iv row, iv abv, iv twv, jv (0 : Int64), ss, jv (FF (0 + 1)), ss, iv ((1 : Int32) + (1 : Int32)), jv (rf ((0 * (bd + 1)) + 0)), ss, jv (FF (0 + 1)), ss] []))
      rw [show ((1 : Int32) + (1 : Int32)) = Int32.ofNat (1 + 1) from rfl]
      have J96 : ∀ (nn : Nat) (T19 : State) (lc19 : List Loc) (h19 : Heap) (k : Nat) (z14 : Int64) (z16 : Int64), (Stand p l e ({ frames := 1, cells := 0, slots := 0, locals := 15 } : Room) s m #[(.ref a1), (.int (1 : Int32)), (.int p3), (.int p4)] below meth c T19 lc19 0 0) → (T19.heap = h19) → (Fr n0 lc19) → (n0 ≤ h19.size) → (Keep h0 h19 [ar, am]) → (Exa Z h19 a1 "com/example/close_words/closewords/BitRows") → (Fld Z h19 a1 "com/example/close_words/closewords/BitRows" "columnsOf" "[J" (.ref ao)) → (Fld Z h19 a1 "com/example/close_words/closewords/BitRows" "codePoints" "[I" (.ref ac)) → (Fld Z h19 a1 "com/example/close_words/closewords/BitRows" "matches" "[J" (.ref am)) → (Fld Z h19 a1 "com/example/close_words/closewords/BitRows" "rows" "[J" (.ref ar)) → (Fld Z h19 a1 "com/example/close_words/closewords/BitRows" "levels" "I" (.int lv)) → (Fld Z h19 a1 "com/example/close_words/closewords/BitRows" "columns" "J" (.long cols)) → (Fld Z h19 a1 "com/example/close_words/closewords/BitRows" "headBound" "I" (.int p5)) → (Fld Z h19 a1 "com/example/close_words/closewords/BitRows" "outsideHead" "J" (.long out)) → (own_Ar Z h19 ac .int 128 (fun k => .int (cp k))) → (own_Ar Z h19 ao .long 128 (fun k => .long (co k))) → (own_Ar Z h19 ar .long RL (fun y => .long (own_rk rf (1 * (bd + 1)) FF (k + 1) y))) → (own_Ar Z h19 am .long ML (fun k => .long (own_upd mf 1 (co RR) k))) → (k + 1 ≤ bd + 1) → (bd + 1 - k < nn) → own_Wp p.tables e below (own_K ({ frames := 1, cells := 0, slots := 0, locals := 15 } : Room) s below (Q_rmro1 Z a1 p3 p4 ac ao ar am cp co rf mf FF lv p5 cols out bd ph RL ML RR h0 n0)) (T19.setTop (mkF m 96 #[rv a1, iv (1 : Int32), iv p3, iv p4, jv (co RR), ss, iv row, iv abv, iv twv, jv (0 : Int64), ss, jv (FF k), ss, iv (Int32.ofNat (k + 1)), jv z14, ss, jv z16, ss] [])) := by
        clear K0 E_a1 F_columnsOf F_codePoints F_matches F_rows F_levels F_columns F_headBound F_outsideHead V_ac V_ao V_ar V_am Zs
        intro nn
        induction nn with
        | zero => intro T19 lc19 h19 k z14 z16 X19 e19 N19 Zs K0 E_a1 F_columnsOf F_codePoints F_matches F_rows F_levels F_columns F_headBound F_outsideHead V_ac V_ao V_ar V_am hk hmu; exact absurd hmu (Nat.not_lt_zero _)
        | succ nn ih =>
          skip
          intro T19 lc19 h19 k z14 z16 X19 e19 N19 Zs K0 E_a1 F_columnsOf F_codePoints F_matches F_rows F_levels F_columns F_headBound F_outsideHead V_ac V_ao V_ar V_am hk hmu
          refine own_of (fun tgt kon => XS.iload X19.here hx rfl (hb hby d7_96) rfl kon) ?_
          refine own_of (fun tgt kon => XS.aloadN X19.here hx rfl (hb hby d7_98) rfl rfl kon) ?_
          obtain ⟨T20, X20, e20, st20⟩ := getF X19 hx hZ hown (host := "") (Or.inl (ow hw 18 rfl)) Via.refl e19 F_levels (g := (mkF m 99 #[rv a1, iv (1 : Int32), iv p3, iv p4, jv (co RR), ss, iv row, iv abv, iv twv, jv (0 : Int64), ss, jv (FF k), ss, iv (Int32.ofNat (k + 1)), jv z14, ss, jv z16, ss] [(.ref a1), (.int (Int32.ofNat (k + 1)))])) rfl rfl (hb hby d7_99)
          refine own_of st20 ?_
          clear st20
          by_cases hc102_2 : (Int32.ofNat (k + 1)) < lv
          · skip
            refine own_of (fun tgt kon => XS.icmpNo X20.here hx rfl (hb hby d7_102) rfl (tlt hc102_2).2.1 kon) ?_
            show own_Wp _ _ _ _ (T20.setTop (mkF m 105 #[rv a1, iv (1 : Int32), iv p3, iv p4, jv (co RR), ss, iv row, iv abv, iv twv, jv (0 : Int64), ss, jv (FF k), ss, iv (Int32.ofNat (k + 1)), jv z14, ss, jv z16, ss] []))
            have hlt : k + 1 < bd + 1 := by
              have q := hc102_2
              rw [Int32.lt_iff_toInt_lt, hlv] at q
              have q2 : (Int32.ofNat (k + 1)).toInt = ((k + 1 : Nat) : Int) := own_ofN (by omega)
              omega
            have t_d : (Int32.ofNat (k + 1)).toInt = ((k + 1 : Nat) : Int) := own_ofN (by omega)
            have l1 : (1 : Int32).toInt = 1 := by decide
            refine own_of (fun tgt kon => XS.aloadN X20.here hx rfl (hb hby d7_105) rfl rfl kon) ?_
            obtain ⟨T21, X21, e21, st21⟩ := getF X20 hx hZ hown (host := "") (Or.inl (ow hw 35 rfl)) Via.refl e20 F_rows (g := (mkF m 106 #[rv a1, iv (1 : Int32), iv p3, iv p4, jv (co RR), ss, iv row, iv abv, iv twv, jv (0 : Int64), ss, jv (FF k), ss, iv (Int32.ofNat (k + 1)), jv z14, ss, jv z16, ss] [(.ref a1)])) rfl rfl (hb hby d7_106)
            refine own_of st21 ?_
            clear st21
            refine own_of (fun tgt kon => XS.iload X21.here hx rfl (hb hby d7_109) rfl kon) ?_
            refine own_of (fun tgt kon => XS.iload X21.here hx rfl (hb hby d7_111) rfl kon) ?_
            refine own_of (fun tgt kon => XS.iadd X21.here hx rfl (hb hby d7_113) rfl kon) ?_
            show own_Wp _ _ _ _ (T21.setTop (mkF m 114 #[rv a1, iv (1 : Int32), iv p3, iv p4, jv (co RR), ss, iv row, iv abv, iv twv, jv (0 : Int64), ss, jv (FF k), ss, iv (Int32.ofNat (k + 1)), jv z14, ss, jv z16, ss] [(.int (abv + (Int32.ofNat (k + 1)))), (.ref ar)]))
            refine own_of (fun tgt kon => XS.iconst X21.here hx rfl (hb hby d7_114) kon) ?_
            refine own_of (fun tgt kon => XS.isub X21.here hx rfl (hb hby d7_115) rfl kon) ?_
            refine own_laload X21 hx hZ e21 V_ar (j := ((abv + (Int32.ofNat (k + 1))) - (1 : Int32))) (i := ((0 * (bd + 1)) + k)) (v := (rf ((0 * (bd + 1)) + k))) (by have q1 := own_addI t_ab t_d (by omega) (by omega); have q2 := own_subI q1 l1 (by omega) (by omega); omega) (by omega) (by show Value.long (own_rk _ _ _ _ _) = _; rw [own_rk_lt (by omega)]) rfl rfl (hb hby d7_116) ?_
            refine own_of (fun tgt kon => XS.lstore X21.here hx rfl (hb hby d7_117) rfl (l' := #[rv a1, iv (1 : Int32), iv p3, iv p4, jv (co RR), ss, iv row, iv abv, iv twv, jv (0 : Int64), ss, jv (FF k), ss, iv (Int32.ofNat (k + 1)), jv (rf ((0 * (bd + 1)) + k)), ss, jv z16, ss]) rfl kon) ?_
            refine own_of (fun tgt kon => XS.lload X21.here hx rfl (hb hby d7_119) rfl kon) ?_
            show own_Wp _ _ _ _ (T21.setTop (mkF m 121 #[rv a1, iv (1 : Int32), iv p3, iv p4, jv (co RR), ss, iv row, iv abv, iv twv, jv (0 : Int64), ss, jv (FF k), ss, iv (Int32.ofNat (k + 1)), jv (rf ((0 * (bd + 1)) + k)), ss, jv z16, ss] [(.long (co RR))]))
            refine own_of (fun tgt kon => XS.aloadN X21.here hx rfl (hb hby d7_121) rfl rfl kon) ?_
            obtain ⟨T22, X22, e22, st22⟩ := getF X21 hx hZ hown (host := "") (Or.inl (ow hw 35 rfl)) Via.refl e21 F_rows (g := (mkF m 122 #[rv a1, iv (1 : Int32), iv p3, iv p4, jv (co RR), ss, iv row, iv abv, iv twv, jv (0 : Int64), ss, jv (FF k), ss, iv (Int32.ofNat (k + 1)), jv (rf ((0 * (bd + 1)) + k)), ss, jv z16, ss] [(.ref a1), (.long (co RR))])) rfl rfl (hb hby d7_122)
            refine own_of st22 ?_
            clear st22
            refine own_of (fun tgt kon => XS.iload X22.here hx rfl (hb hby d7_125) rfl kon) ?_
            refine own_of (fun tgt kon => XS.iload X22.here hx rfl (hb hby d7_127) rfl kon) ?_
            refine own_of (fun tgt kon => XS.iadd X22.here hx rfl (hb hby d7_129) rfl kon) ?_
            show own_Wp _ _ _ _ (T22.setTop (mkF m 130 #[rv a1, iv (1 : Int32), iv p3, iv p4, jv (co RR), ss, iv row, iv abv, iv twv, jv (0 : Int64), ss, jv (FF k), ss, iv (Int32.ofNat (k + 1)), jv (rf ((0 * (bd + 1)) + k)), ss, jv z16, ss] [(.int (abv + (Int32.ofNat (k + 1)))), (.ref ar), (.long (co RR))]))
            refine own_laload X22 hx hZ e22 V_ar (j := (abv + (Int32.ofNat (k + 1)))) (i := ((0 * (bd + 1)) + (k + 1))) (v := (rf ((0 * (bd + 1)) + (k + 1)))) (by have q1 := own_addI t_ab t_d (by omega) (by omega); omega) (by omega) (by show Value.long (own_rk _ _ _ _ _) = _; rw [own_rk_lt (by omega)]) rfl rfl (hb hby d7_130) ?_
            refine own_of (fun tgt kon => XS.iconst X22.here hx rfl (hb hby d7_131) kon) ?_
            refine own_of (fun tgt kon => XS.lshl X22.here hx rfl (hb hby d7_132) rfl kon) ?_
            refine own_of (fun tgt kon => XS.land X22.here hx rfl (hb hby d7_133) rfl kon) ?_
            refine own_of (fun tgt kon => XS.lload X22.here hx rfl (hb hby d7_134) rfl kon) ?_
            show own_Wp _ _ _ _ (T22.setTop (mkF m 136 #[rv a1, iv (1 : Int32), iv p3, iv p4, jv (co RR), ss, iv row, iv abv, iv twv, jv (0 : Int64), ss, jv (FF k), ss, iv (Int32.ofNat (k + 1)), jv (rf ((0 * (bd + 1)) + k)), ss, jv z16, ss] [(.long (rf ((0 * (bd + 1)) + k))), (.long ((co RR) &&& ((rf ((0 * (bd + 1)) + (k + 1))) <<< ((1 : Int32) &&& 0x3f).toInt64)))]))
            refine own_of (fun tgt kon => XS.lor X22.here hx rfl (hb hby d7_136) rfl kon) ?_
            refine own_of (fun tgt kon => XS.lload X22.here hx rfl (hb hby d7_137) rfl kon) ?_
            refine own_of (fun tgt kon => XS.iconst X22.here hx rfl (hb hby d7_139) kon) ?_
            refine own_of (fun tgt kon => XS.lshl X22.here hx rfl (hb hby d7_140) rfl kon) ?_
            refine own_of (fun tgt kon => XS.lor X22.here hx rfl (hb hby d7_141) rfl kon) ?_
            show own_Wp _ _ _ _ (T22.setTop (mkF m 142 #[rv a1, iv (1 : Int32), iv p3, iv p4, jv (co RR), ss, iv row, iv abv, iv twv, jv (0 : Int64), ss, jv (FF k), ss, iv (Int32.ofNat (k + 1)), jv (rf ((0 * (bd + 1)) + k)), ss, jv z16, ss] [(.long ((((co RR) &&& ((rf ((0 * (bd + 1)) + (k + 1))) <<< ((1 : Int32) &&& 0x3f).toInt64)) ||| (rf ((0 * (bd + 1)) + k))) ||| ((rf ((0 * (bd + 1)) + k)) <<< ((1 : Int32) &&& 0x3f).toInt64)))]))
            refine own_of (fun tgt kon => XS.lload X22.here hx rfl (hb hby d7_142) rfl kon) ?_
            refine own_of (fun tgt kon => XS.iconst X22.here hx rfl (hb hby d7_144) kon) ?_
            refine own_of (fun tgt kon => XS.lshl X22.here hx rfl (hb hby d7_145) rfl kon) ?_
            refine own_of (fun tgt kon => XS.lor X22.here hx rfl (hb hby d7_146) rfl kon) ?_
            show own_Wp _ _ _ _ (T22.setTop (mkF m 147 #[rv a1, iv (1 : Int32), iv p3, iv p4, jv (co RR), ss, iv row, iv abv, iv twv, jv (0 : Int64), ss, jv (FF k), ss, iv (Int32.ofNat (k + 1)), jv (rf ((0 * (bd + 1)) + k)), ss, jv z16, ss] [(.long (((((co RR) &&& ((rf ((0 * (bd + 1)) + (k + 1))) <<< ((1 : Int32) &&& 0x3f).toInt64)) ||| (rf ((0 * (bd + 1)) + k))) ||| ((rf ((0 * (bd + 1)) + k)) <<< ((1 : Int32) &&& 0x3f).toInt64)) ||| ((FF k) <<< ((1 : Int32) &&& 0x3f).toInt64)))]))
            obtain ⟨r1_2, h_r1_2⟩ : ∃ q : Int64, q = (((((co RR) &&& ((rf ((0 * (bd + 1)) + (k + 1))) <<< ((1 : Int32) &&& 0x3f).toInt64)) ||| (rf ((0 * (bd + 1)) + k))) ||| ((rf ((0 * (bd + 1)) + k)) <<< ((1 : Int32) &&& 0x3f).toInt64)) ||| ((FF k) <<< ((1 : Int32) &&& 0x3f).toInt64)) := ⟨_, rfl⟩
            rw [← h_r1_2]
            refine own_of (fun tgt kon => XS.lstore X22.here hx rfl (hb hby d7_147) rfl (l' := #[rv a1, iv (1 : Int32), iv p3, iv p4, jv (co RR), ss, iv row, iv abv, iv twv, jv (0 : Int64), ss, jv (FF k), ss, iv (Int32.ofNat (k + 1)), jv (rf ((0 * (bd + 1)) + k)), ss, jv r1_2, ss]) rfl kon) ?_
            show own_Wp _ _ _ _ (T22.setTop (mkF m 149 #[rv a1, iv (1 : Int32), iv p3, iv p4, jv (co RR), ss, iv row, iv abv, iv twv, jv (0 : Int64), ss, jv (FF k), ss, iv (Int32.ofNat (k + 1)), jv (rf ((0 * (bd + 1)) + k)), ss, jv r1_2, ss] []))
            refine own_of (fun tgt kon => XS.lload X22.here hx rfl (hb hby d7_149) rfl kon) ?_
            refine own_of (fun tgt kon => XS.lconst X22.here hx rfl (hb hby d7_151) kon) ?_
            refine own_of (fun tgt kon => XS.lcmp X22.here hx rfl (hb hby d7_152) rfl kon) ?_
            show own_Wp _ _ _ _ (T22.setTop (mkF m 153 #[rv a1, iv (1 : Int32), iv p3, iv p4, jv (co RR), ss, iv row, iv abv, iv twv, jv (0 : Int64), ss, jv (FF k), ss, iv (Int32.ofNat (k + 1)), jv (rf ((0 * (bd + 1)) + k)), ss, jv r1_2, ss] [(.int (lcmpW (0 : Int64) (0 : Int64)))]))
            have hc153_2 : (lcmpW (0 : Int64) (0 : Int64)) = (0 : Int32) := by decide
            refine own_of (fun tgt kon => XS.ifYes X22.here hx rfl (pc0 := 153) (pc' := 178) rfl (hb hby d7_153) rfl ((if0 _ _).trans (teq hc153_2).1) (by decide) (by decide) kon) ?_
            refine own_of (fun tgt kon => XS.lload X22.here hx rfl (hb hby d7_178) rfl kon) ?_
            refine own_of (fun tgt kon => XS.aloadN X22.here hx rfl (hb hby d7_180) rfl rfl kon) ?_
            obtain ⟨T23, X23, e23, st23⟩ := getF X22 hx hZ hown (host := "") (Or.inl (ow hw 23 rfl)) Via.refl e22 F_columns (g := (mkF m 181 #[rv a1, iv (1 : Int32), iv p3, iv p4, jv (co RR), ss, iv row, iv abv, iv twv, jv (0 : Int64), ss, jv (FF k), ss, iv (Int32.ofNat (k + 1)), jv (rf ((0 * (bd + 1)) + k)), ss, jv r1_2, ss] [(.ref a1), (.long r1_2)])) rfl rfl (hb hby d7_181)
            refine own_of st23 ?_
            clear st23
            refine own_of (fun tgt kon => XS.land X23.here hx rfl (hb hby d7_184) rfl kon) ?_
            show own_Wp _ _ _ _ (T23.setTop (mkF m 185 #[rv a1, iv (1 : Int32), iv p3, iv p4, jv (co RR), ss, iv row, iv abv, iv twv, jv (0 : Int64), ss, jv (FF k), ss, iv (Int32.ofNat (k + 1)), jv (rf ((0 * (bd + 1)) + k)), ss, jv r1_2, ss] [(.long (r1_2 &&& cols))]))
            refine own_of (fun tgt kon => XS.lstore X23.here hx rfl (hb hby d7_185) rfl (l' := #[rv a1, iv (1 : Int32), iv p3, iv p4, jv (co RR), ss, iv row, iv abv, iv twv, jv (0 : Int64), ss, jv (FF k), ss, iv (Int32.ofNat (k + 1)), jv (rf ((0 * (bd + 1)) + k)), ss, jv (r1_2 &&& cols), ss]) rfl kon) ?_
            refine own_of (fun tgt kon => XS.iload X23.here hx rfl (hb hby d7_187) rfl kon) ?_
            refine own_of (fun tgt kon => XS.aloadN X23.here hx rfl (hb hby d7_189) rfl rfl kon) ?_
            obtain ⟨T24, X24, e24, st24⟩ := getF X23 hx hZ hown (host := "") (Or.inl (ow hw 16 rfl)) Via.refl e23 F_headBound (g := (mkF m 190 #[rv a1, iv (1 : Int32), iv p3, iv p4, jv (co RR), ss, iv row, iv abv, iv twv, jv (0 : Int64), ss, jv (FF k), ss, iv (Int32.ofNat (k + 1)), jv (rf ((0 * (bd + 1)) + k)), ss, jv (r1_2 &&& cols), ss] [(.ref a1), (.int (Int32.ofNat (k + 1)))])) rfl rfl (hb hby d7_190)
            refine own_of st24 ?_
            clear st24
            show own_Wp _ _ _ _ (T24.setTop (mkF m 193 #[rv a1, iv (1 : Int32), iv p3, iv p4, jv (co RR), ss, iv row, iv abv, iv twv, jv (0 : Int64), ss, jv (FF k), ss, iv (Int32.ofNat (k + 1)), jv (rf ((0 * (bd + 1)) + k)), ss, jv (r1_2 &&& cols), ss] [(.int p5), (.int (Int32.ofNat (k + 1)))]))
            have J218 : ∀ (T25 : State) (lc25 : List Loc) (q3 : Int64), (Stand p l e ({ frames := 1, cells := 0, slots := 0, locals := 15 } : Room) s m #[(.ref a1), (.int (1 : Int32)), (.int p3), (.int p4)] below meth c T25 lc25 0 0) → (T25.heap = h19) → (Fr n0 lc25) → (q3 = if ph < k + 1 then (r1_2 &&& cols) &&& ((FF ph) ||| out) else (r1_2 &&& cols)) → own_Wp p.tables e below (own_K ({ frames := 1, cells := 0, slots := 0, locals := 15 } : Room) s below (Q_rmro1 Z a1 p3 p4 ac ao ar am cp co rf mf FF lv p5 cols out bd ph RL ML RR h0 n0)) (T25.setTop (mkF m 218 #[rv a1, iv (1 : Int32), iv p3, iv p4, jv (co RR), ss, iv row, iv abv, iv twv, jv (0 : Int64), ss, jv (FF k), ss, iv (Int32.ofNat (k + 1)), jv (rf ((0 * (bd + 1)) + k)), ss, jv q3, ss] [])) := by
              intro T25 lc25 q3 X25 e25 N25 h_q3
              refine own_of (fun tgt kon => XS.aloadN X25.here hx rfl (hb hby d7_218) rfl rfl kon) ?_
              obtain ⟨T26, X26, e26, st26⟩ := getF X25 hx hZ hown (host := "") (Or.inl (ow hw 35 rfl)) Via.refl e25 F_rows (g := (mkF m 219 #[rv a1, iv (1 : Int32), iv p3, iv p4, jv (co RR), ss, iv row, iv abv, iv twv, jv (0 : Int64), ss, jv (FF k), ss, iv (Int32.ofNat (k + 1)), jv (rf ((0 * (bd + 1)) + k)), ss, jv q3, ss] [(.ref a1)])) rfl rfl (hb hby d7_219)
              refine own_of st26 ?_
              clear st26
              refine own_of (fun tgt kon => XS.iload X26.here hx rfl (hb hby d7_222) rfl kon) ?_
              refine own_of (fun tgt kon => XS.iload X26.here hx rfl (hb hby d7_224) rfl kon) ?_
              refine own_of (fun tgt kon => XS.iadd X26.here hx rfl (hb hby d7_226) rfl kon) ?_
              show own_Wp _ _ _ _ (T26.setTop (mkF m 227 #[rv a1, iv (1 : Int32), iv p3, iv p4, jv (co RR), ss, iv row, iv abv, iv twv, jv (0 : Int64), ss, jv (FF k), ss, iv (Int32.ofNat (k + 1)), jv (rf ((0 * (bd + 1)) + k)), ss, jv q3, ss] [(.int (row + (Int32.ofNat (k + 1)))), (.ref ar)]))
              refine own_of (fun tgt kon => XS.lload X26.here hx rfl (hb hby d7_227) rfl kon) ?_
              obtain ⟨T27, h27, X27, e27, W27, Aq27, st27⟩ := own_stJ X26 hx hZ e26 V_ar (j := (row + (Int32.ofNat (k + 1)))) (i := ((1 * (bd + 1)) + (k + 1))) (x := q3) (by have q1 := own_addI t_row t_d (by omega) (by omega); omega) (by omega) (g := (mkF m 229 #[rv a1, iv (1 : Int32), iv p3, iv p4, jv (co RR), ss, iv row, iv abv, iv twv, jv (0 : Int64), ss, jv (FF k), ss, iv (Int32.ofNat (k + 1)), jv (rf ((0 * (bd + 1)) + k)), ss, jv q3, ss] [(.long q3), (.int (row + (Int32.ofNat (k + 1)))), (.ref ar)])) rfl rfl (hb hby d7_229)
              refine own_of st27 ?_
              clear st27
              replace Zs := Nat.le_trans Zs (Keep.of_wr W27).1
              replace K0 := K0.wr W27 (Or.inl (List.mem_of_getElem? (i := 0) rfl))
              replace E_a1 := E_a1.wr W27
              replace F_columnsOf := F_columnsOf.other W27 (Or.inl ne_a1_ar)
              replace F_codePoints := F_codePoints.other W27 (Or.inl ne_a1_ar)
              replace F_matches := F_matches.other W27 (Or.inl ne_a1_ar)
              replace F_rows := F_rows.other W27 (Or.inl ne_a1_ar)
              replace F_levels := F_levels.other W27 (Or.inl ne_a1_ar)
              replace F_columns := F_columns.other W27 (Or.inl ne_a1_ar)
              replace F_headBound := F_headBound.other W27 (Or.inl ne_a1_ar)
              replace F_outsideHead := F_outsideHead.other W27 (Or.inl ne_a1_ar)
              replace V_ac := V_ac.other W27 ne_ac_ar
              replace V_ao := V_ao.other W27 ne_ao_ar
              replace V_am := V_am.other W27 ne_am_ar
              replace V_ar := Aq27
              clear Aq27
              have hst : q3 = FF (k + 1) := by
                rw [hFs k]
                dsimp only
                rw [if_pos rfl, h_q3, h_r1_2]
              rw [hst] at V_ar ⊢
              replace V_ar := V_ar.fn (f' := fun y => .long (own_rk rf (1 * (bd + 1)) FF (k + 1 + 1) y)) (fun y hy => (own_setJ _ _ _ y).trans (congrArg Value.long (own_setRk _ _ _ _ y)))
              have N27 := Fr.snoc X27 N25 g_ar
              refine own_of (fun tgt kon => XS.lload X27.here hx rfl (hb hby d7_230) rfl kon) ?_
              refine own_of (fun tgt kon => XS.lstore X27.here hx rfl (hb hby d7_232) rfl (l' := #[rv a1, iv (1 : Int32), iv p3, iv p4, jv (co RR), ss, iv row, iv abv, iv twv, jv (0 : Int64), ss, jv (FF (k + 1)), ss, iv (Int32.ofNat (k + 1)), jv (rf ((0 * (bd + 1)) + k)), ss, jv (FF (k + 1)), ss]) rfl kon) ?_
              refine own_of (fun tgt kon => XS.iinc X27.here hx rfl (hb hby d7_234) rfl (l' := #[rv a1, iv (1 : Int32), iv p3, iv p4, jv (co RR), ss, iv row, iv abv, iv twv, jv (0 : Int64), ss, jv (FF (k + 1)), ss, iv ((Int32.ofNat (k + 1)) + (1 : Int32)), jv (rf ((0 * (bd + 1)) + k)), ss, jv (FF (k + 1)), ss]) rfl kon) ?_
              show own_Wp _ _ _ _ (T27.setTop (mkF m 237 #[rv a1, iv (1 : Int32), iv p3, iv p4, jv (co RR), ss, iv row, iv abv, iv twv, jv (0 : Int64), ss, jv (FF (k + 1)), ss, iv ((Int32.ofNat (k + 1)) + (1 : Int32)), jv (rf ((0 * (bd + 1)) + k)), ss, jv (FF (k + 1)), ss] []))
              refine own_of (fun tgt kon => XS.goto X27.here hx rfl (pc0 := 237) (pc' := 96) rfl (hb hby d7_237) (by decide) (by decide) kon) ?_
              show own_Wp _ _ _ _ (T27.setTop (mkF m 96 #[rv a1, iv (1 : Int32), iv p3, iv p4, jv (co RR), ss, iv row, iv abv, iv twv, jv (0 : Int64), ss, jv (FF (k + 1)), ss, iv ((Int32.ofNat (k + 1)) + (1 : Int32)), jv (rf ((0 * (bd + 1)) + k)), ss, jv (FF (k + 1)), ss] []))
              rw [own_succ]
              exact ih T27 _ _ (k + 1) ((rf ((0 * (bd + 1)) + k))) ((FF (k + 1))) X27 e27 N27 Zs K0 E_a1 F_columnsOf F_codePoints F_matches F_rows F_levels F_columns F_headBound F_outsideHead V_ac V_ao V_ar V_am (by omega) (by omega)
            show own_Wp _ _ _ _ (T24.setTop (mkF m 193 #[rv a1, iv (1 : Int32), iv p3, iv p4, jv (co RR), ss, iv row, iv abv, iv twv, jv (0 : Int64), ss, jv (FF k), ss, iv (Int32.ofNat (k + 1)), jv (rf ((0 * (bd + 1)) + k)), ss, jv (r1_2 &&& cols), ss] [(.int p5), (.int (Int32.ofNat (k + 1)))]))
            by_cases hc193 : p5 < (Int32.ofNat (k + 1))
            · skip
              refine own_of (fun tgt kon => XS.icmpNo X24.here hx rfl (hb hby d7_193) rfl (tlt hc193).2.2.2 kon) ?_
              show own_Wp _ _ _ _ (T24.setTop (mkF m 196 #[rv a1, iv (1 : Int32), iv p3, iv p4, jv (co RR), ss, iv row, iv abv, iv twv, jv (0 : Int64), ss, jv (FF k), ss, iv (Int32.ofNat (k + 1)), jv (rf ((0 * (bd + 1)) + k)), ss, jv (r1_2 &&& cols), ss] []))
              have hlb : ph < k + 1 := by
                have q := hc193
                rw [Int32.lt_iff_toInt_lt, hhb, t_d] at q
                omega
              refine own_of (fun tgt kon => XS.lload X24.here hx rfl (hb hby d7_196) rfl kon) ?_
              refine own_of (fun tgt kon => XS.aloadN X24.here hx rfl (hb hby d7_198) rfl rfl kon) ?_
              obtain ⟨T28, X28, e28, st28⟩ := getF X24 hx hZ hown (host := "") (Or.inl (ow hw 35 rfl)) Via.refl e24 F_rows (g := (mkF m 199 #[rv a1, iv (1 : Int32), iv p3, iv p4, jv (co RR), ss, iv row, iv abv, iv twv, jv (0 : Int64), ss, jv (FF k), ss, iv (Int32.ofNat (k + 1)), jv (rf ((0 * (bd + 1)) + k)), ss, jv (r1_2 &&& cols), ss] [(.ref a1), (.long (r1_2 &&& cols))])) rfl rfl (hb hby d7_199)
              refine own_of st28 ?_
              clear st28
              refine own_of (fun tgt kon => XS.iload X28.here hx rfl (hb hby d7_202) rfl kon) ?_
              refine own_of (fun tgt kon => XS.aloadN X28.here hx rfl (hb hby d7_204) rfl rfl kon) ?_
              show own_Wp _ _ _ _ (T28.setTop (mkF m 205 #[rv a1, iv (1 : Int32), iv p3, iv p4, jv (co RR), ss, iv row, iv abv, iv twv, jv (0 : Int64), ss, jv (FF k), ss, iv (Int32.ofNat (k + 1)), jv (rf ((0 * (bd + 1)) + k)), ss, jv (r1_2 &&& cols), ss] [(.ref a1), (.int row), (.ref ar), (.long (r1_2 &&& cols))]))
              obtain ⟨T29, X29, e29, st29⟩ := getF X28 hx hZ hown (host := "") (Or.inl (ow hw 16 rfl)) Via.refl e28 F_headBound (g := (mkF m 205 #[rv a1, iv (1 : Int32), iv p3, iv p4, jv (co RR), ss, iv row, iv abv, iv twv, jv (0 : Int64), ss, jv (FF k), ss, iv (Int32.ofNat (k + 1)), jv (rf ((0 * (bd + 1)) + k)), ss, jv (r1_2 &&& cols), ss] [(.ref a1), (.int row), (.ref ar), (.long (r1_2 &&& cols))])) rfl rfl (hb hby d7_205)
              refine own_of st29 ?_
              clear st29
              refine own_of (fun tgt kon => XS.iadd X29.here hx rfl (hb hby d7_208) rfl kon) ?_
              refine own_laload X29 hx hZ e29 V_ar (j := (row + p5)) (i := ((1 * (bd + 1)) + ph)) (v := (FF ph)) (by have q1 := own_addI t_row hhb (by omega) (by omega); omega) (by omega) (by show Value.long (own_rk _ _ _ _ _) = _; rw [own_rk_in (by omega)]) rfl rfl (hb hby d7_209) ?_
              refine own_of (fun tgt kon => XS.aloadN X29.here hx rfl (hb hby d7_210) rfl rfl kon) ?_
              obtain ⟨T30, X30, e30, st30⟩ := getF X29 hx hZ hown (host := "") (Or.inl (ow hw 28 rfl)) Via.refl e29 F_outsideHead (g := (mkF m 211 #[rv a1, iv (1 : Int32), iv p3, iv p4, jv (co RR), ss, iv row, iv abv, iv twv, jv (0 : Int64), ss, jv (FF k), ss, iv (Int32.ofNat (k + 1)), jv (rf ((0 * (bd + 1)) + k)), ss, jv (r1_2 &&& cols), ss] [(.ref a1), (.long (FF ph)), (.long (r1_2 &&& cols))])) rfl rfl (hb hby d7_211)
              refine own_of st30 ?_
              clear st30
              show own_Wp _ _ _ _ (T30.setTop (mkF m 214 #[rv a1, iv (1 : Int32), iv p3, iv p4, jv (co RR), ss, iv row, iv abv, iv twv, jv (0 : Int64), ss, jv (FF k), ss, iv (Int32.ofNat (k + 1)), jv (rf ((0 * (bd + 1)) + k)), ss, jv (r1_2 &&& cols), ss] [(.long out), (.long (FF ph)), (.long (r1_2 &&& cols))]))
              refine own_of (fun tgt kon => XS.lor X30.here hx rfl (hb hby d7_214) rfl kon) ?_
              refine own_of (fun tgt kon => XS.land X30.here hx rfl (hb hby d7_215) rfl kon) ?_
              refine own_of (fun tgt kon => XS.lstore X30.here hx rfl (hb hby d7_216) rfl (l' := #[rv a1, iv (1 : Int32), iv p3, iv p4, jv (co RR), ss, iv row, iv abv, iv twv, jv (0 : Int64), ss, jv (FF k), ss, iv (Int32.ofNat (k + 1)), jv (rf ((0 * (bd + 1)) + k)), ss, jv ((r1_2 &&& cols) &&& ((FF ph) ||| out)), ss]) rfl kon) ?_
              show own_Wp _ _ _ _ (T30.setTop (mkF m 218 #[rv a1, iv (1 : Int32), iv p3, iv p4, jv (co RR), ss, iv row, iv abv, iv twv, jv (0 : Int64), ss, jv (FF k), ss, iv (Int32.ofNat (k + 1)), jv (rf ((0 * (bd + 1)) + k)), ss, jv ((r1_2 &&& cols) &&& ((FF ph) ||| out)), ss] []))
              exact J218 T30 _ (((r1_2 &&& cols) &&& ((FF ph) ||| out))) X30 e30 N19 (by exact (if_pos hlb).symm)
            · skip
              refine own_of (fun tgt kon => XS.icmpYes X24.here hx rfl (pc0 := 193) (pc' := 218) rfl (hb hby d7_193) rfl (flt hc193).2.2.2 (by decide) (by decide) kon) ?_
              show own_Wp _ _ _ _ (T24.setTop (mkF m 218 #[rv a1, iv (1 : Int32), iv p3, iv p4, jv (co RR), ss, iv row, iv abv, iv twv, jv (0 : Int64), ss, jv (FF k), ss, iv (Int32.ofNat (k + 1)), jv (rf ((0 * (bd + 1)) + k)), ss, jv (r1_2 &&& cols), ss] []))
              exact J218 T24 _ ((r1_2 &&& cols)) X24 e24 N19 (by exact (if_neg (fun q => hc193 (by rw [Int32.lt_iff_toInt_lt, hhb, t_d]; omega))).symm)
          · skip
            refine own_of (fun tgt kon => XS.icmpYes X20.here hx rfl (pc0 := 102) (pc' := 240) rfl (hb hby d7_102) rfl (flt hc102_2).2.1 (by decide) (by decide) kon) ?_
            refine own_of (fun tgt kon => XS.lload X20.here hx rfl (hb hby d7_240) rfl kon) ?_
            show own_Wp _ _ _ _ (T20.setTop (mkF m 242 #[rv a1, iv (1 : Int32), iv p3, iv p4, jv (co RR), ss, iv row, iv abv, iv twv, jv (0 : Int64), ss, jv (FF k), ss, iv (Int32.ofNat (k + 1)), jv z14, ss, jv z16, ss] [(.long (FF k))]))
            refine own_of (fun tgt kon => XS.lconst X20.here hx rfl (hb hby d7_242) kon) ?_
            refine own_of (fun tgt kon => XS.lcmp X20.here hx rfl (hb hby d7_243) rfl kon) ?_
            by_cases hc244 : (lcmpW (FF k) (0 : Int64)) = (0 : Int32)
            · skip
              refine own_of (fun tgt kon => XS.ifYes X20.here hx rfl (pc0 := 244) (pc' := 251) rfl (hb hby d7_244) rfl ((if0 _ _).trans (teq hc244).1) (by decide) (by decide) kon) ?_
              refine own_of (fun tgt kon => XS.iconst X20.here hx rfl (hb hby d7_251) kon) ?_
              show own_Wp _ _ _ _ (T20.setTop (mkF m 252 #[rv a1, iv (1 : Int32), iv p3, iv p4, jv (co RR), ss, iv row, iv abv, iv twv, jv (0 : Int64), ss, jv (FF k), ss, iv (Int32.ofNat (k + 1)), jv z14, ss, jv z16, ss] [(.int (0 : Int32))]))
              refine own_ret X20 hlk (some (.int (0 : Int32))) (own_rtI hrt) (fun fs hr => retN X20 hx (t := .boolean) hrt (by simp) (hb hby d7_252) hr) ?_ (by decide) (by decide)
              rw [e20]
              have hge : k = bd := by
                have q := hc102_2
                rw [Int32.lt_iff_toInt_lt, hlv, own_ofN (by omega)] at q
                omega
              subst hge
              refine ⟨?_, N19, K0, V_ar, V_am⟩
              rw [if_pos ((own_lc0 _).mp hc244)]
            · skip
              refine own_of (fun tgt kon => XS.ifNo X20.here hx rfl (hb hby d7_244) rfl ((if0 _ _).trans (feq hc244).1) kon) ?_
              refine own_of (fun tgt kon => XS.iconst X20.here hx rfl (hb hby d7_247) kon) ?_
              refine own_of (fun tgt kon => XS.goto X20.here hx rfl (pc0 := 248) (pc' := 252) rfl (hb hby d7_248) (by decide) (by decide) kon) ?_
              show own_Wp _ _ _ _ (T20.setTop (mkF m 252 #[rv a1, iv (1 : Int32), iv p3, iv p4, jv (co RR), ss, iv row, iv abv, iv twv, jv (0 : Int64), ss, jv (FF k), ss, iv (Int32.ofNat (k + 1)), jv z14, ss, jv z16, ss] [(.int (1 : Int32))]))
              refine own_ret X20 hlk (some (.int (1 : Int32))) (own_rtI hrt) (fun fs hr => retN X20 hx (t := .boolean) hrt (by simp) (hb hby d7_252) hr) ?_ (by decide) (by decide)
              rw [e20]
              have hge : k = bd := by
                have q := hc102_2
                rw [Int32.lt_iff_toInt_lt, hlv, own_ofN (by omega)] at q
                omega
              subst hge
              refine ⟨?_, N19, K0, V_ar, V_am⟩
              rw [if_neg (fun q => hc244 ((own_lc0 _).mpr q))]
      show own_Wp _ _ _ _ (T18.setTop (mkF m 96 #[rv a1, iv (1 : Int32), iv p3, iv p4, jv (co RR), ss, iv row, iv abv, iv twv, jv (0 : Int64), ss, jv (FF (0 + 1)), ss, iv (Int32.ofNat (1 + 1)), jv (rf ((0 * (bd + 1)) + 0)), ss, jv (FF (0 + 1)), ss] []))
      exact J96 _ T18 _ _ (1) ((rf ((0 * (bd + 1)) + 0))) ((FF (0 + 1))) X18 e18 N18 Zs K0 E_a1 F_columnsOf F_codePoints F_matches F_rows F_levels F_columns F_headBound F_outsideHead V_ac V_ao V_ar V_am (by omega) (Nat.lt_succ_self _)
    show own_Wp _ _ _ _ (T15.setTop (mkF m 193 #[rv a1, iv (1 : Int32), iv p3, iv p4, jv (co RR), ss, iv row, iv abv, iv twv, jv (0 : Int64), ss, jv (FF 0), ss, iv (1 : Int32), jv (rf ((0 * (bd + 1)) + 0)), ss, jv (r1 &&& cols), ss] [(.int p5), (.int (1 : Int32))]))
    by_cases hc193 : p5 < (1 : Int32)
    · skip
      refine own_of (fun tgt kon => XS.icmpNo X15.here hx rfl (hb hby d7_193) rfl (tlt hc193).2.2.2 kon) ?_
      show own_Wp _ _ _ _ (T15.setTop (mkF m 196 #[rv a1, iv (1 : Int32), iv p3, iv p4, jv (co RR), ss, iv row, iv abv, iv twv, jv (0 : Int64), ss, jv (FF 0), ss, iv (1 : Int32), jv (rf ((0 * (bd + 1)) + 0)), ss, jv (r1 &&& cols), ss] []))
      have hlb : ph < 0 + 1 := by
        have q := hc193
        rw [Int32.lt_iff_toInt_lt, hhb, t_d] at q
        omega
      refine own_of (fun tgt kon => XS.lload X15.here hx rfl (hb hby d7_196) rfl kon) ?_
      refine own_of (fun tgt kon => XS.aloadN X15.here hx rfl (hb hby d7_198) rfl rfl kon) ?_
      obtain ⟨T31, X31, e31, st31⟩ := getF X15 hx hZ hown (host := "") (Or.inl (ow hw 35 rfl)) Via.refl e15 F_rows (g := (mkF m 199 #[rv a1, iv (1 : Int32), iv p3, iv p4, jv (co RR), ss, iv row, iv abv, iv twv, jv (0 : Int64), ss, jv (FF 0), ss, iv (1 : Int32), jv (rf ((0 * (bd + 1)) + 0)), ss, jv (r1 &&& cols), ss] [(.ref a1), (.long (r1 &&& cols))])) rfl rfl (hb hby d7_199)
      refine own_of st31 ?_
      clear st31
      refine own_of (fun tgt kon => XS.iload X31.here hx rfl (hb hby d7_202) rfl kon) ?_
      refine own_of (fun tgt kon => XS.aloadN X31.here hx rfl (hb hby d7_204) rfl rfl kon) ?_
      show own_Wp _ _ _ _ (T31.setTop (mkF m 205 #[rv a1, iv (1 : Int32), iv p3, iv p4, jv (co RR), ss, iv row, iv abv, iv twv, jv (0 : Int64), ss, jv (FF 0), ss, iv (1 : Int32), jv (rf ((0 * (bd + 1)) + 0)), ss, jv (r1 &&& cols), ss] [(.ref a1), (.int row), (.ref ar), (.long (r1 &&& cols))]))
      obtain ⟨T32, X32, e32, st32⟩ := getF X31 hx hZ hown (host := "") (Or.inl (ow hw 16 rfl)) Via.refl e31 F_headBound (g := (mkF m 205 #[rv a1, iv (1 : Int32), iv p3, iv p4, jv (co RR), ss, iv row, iv abv, iv twv, jv (0 : Int64), ss, jv (FF 0), ss, iv (1 : Int32), jv (rf ((0 * (bd + 1)) + 0)), ss, jv (r1 &&& cols), ss] [(.ref a1), (.int row), (.ref ar), (.long (r1 &&& cols))])) rfl rfl (hb hby d7_205)
      refine own_of st32 ?_
      clear st32
      refine own_of (fun tgt kon => XS.iadd X32.here hx rfl (hb hby d7_208) rfl kon) ?_
      refine own_laload X32 hx hZ e32 V_ar (j := (row + p5)) (i := ((1 * (bd + 1)) + ph)) (v := (FF ph)) (by have q1 := own_addI t_row hhb (by omega) (by omega); omega) (by omega) (by show Value.long (own_rk _ _ _ _ _) = _; rw [own_rk_in (by omega)]) rfl rfl (hb hby d7_209) ?_
      refine own_of (fun tgt kon => XS.aloadN X32.here hx rfl (hb hby d7_210) rfl rfl kon) ?_
      obtain ⟨T33, X33, e33, st33⟩ := getF X32 hx hZ hown (host := "") (Or.inl (ow hw 28 rfl)) Via.refl e32 F_outsideHead (g := (mkF m 211 #[rv a1, iv (1 : Int32), iv p3, iv p4, jv (co RR), ss, iv row, iv abv, iv twv, jv (0 : Int64), ss, jv (FF 0), ss, iv (1 : Int32), jv (rf ((0 * (bd + 1)) + 0)), ss, jv (r1 &&& cols), ss] [(.ref a1), (.long (FF ph)), (.long (r1 &&& cols))])) rfl rfl (hb hby d7_211)
      refine own_of st33 ?_
      clear st33
      show own_Wp _ _ _ _ (T33.setTop (mkF m 214 #[rv a1, iv (1 : Int32), iv p3, iv p4, jv (co RR), ss, iv row, iv abv, iv twv, jv (0 : Int64), ss, jv (FF 0), ss, iv (1 : Int32), jv (rf ((0 * (bd + 1)) + 0)), ss, jv (r1 &&& cols), ss] [(.long out), (.long (FF ph)), (.long (r1 &&& cols))]))
      refine own_of (fun tgt kon => XS.lor X33.here hx rfl (hb hby d7_214) rfl kon) ?_
      refine own_of (fun tgt kon => XS.land X33.here hx rfl (hb hby d7_215) rfl kon) ?_
      refine own_of (fun tgt kon => XS.lstore X33.here hx rfl (hb hby d7_216) rfl (l' := #[rv a1, iv (1 : Int32), iv p3, iv p4, jv (co RR), ss, iv row, iv abv, iv twv, jv (0 : Int64), ss, jv (FF 0), ss, iv (1 : Int32), jv (rf ((0 * (bd + 1)) + 0)), ss, jv ((r1 &&& cols) &&& ((FF ph) ||| out)), ss]) rfl kon) ?_
      show own_Wp _ _ _ _ (T33.setTop (mkF m 218 #[rv a1, iv (1 : Int32), iv p3, iv p4, jv (co RR), ss, iv row, iv abv, iv twv, jv (0 : Int64), ss, jv (FF 0), ss, iv (1 : Int32), jv (rf ((0 * (bd + 1)) + 0)), ss, jv ((r1 &&& cols) &&& ((FF ph) ||| out)), ss] []))
      exact J218 T33 _ (((r1 &&& cols) &&& ((FF ph) ||| out))) X33 e33 N10 (by exact (if_pos hlb).symm)
    · skip
      refine own_of (fun tgt kon => XS.icmpYes X15.here hx rfl (pc0 := 193) (pc' := 218) rfl (hb hby d7_193) rfl (flt hc193).2.2.2 (by decide) (by decide) kon) ?_
      show own_Wp _ _ _ _ (T15.setTop (mkF m 218 #[rv a1, iv (1 : Int32), iv p3, iv p4, jv (co RR), ss, iv row, iv abv, iv twv, jv (0 : Int64), ss, jv (FF 0), ss, iv (1 : Int32), jv (rf ((0 * (bd + 1)) + 0)), ss, jv (r1 &&& cols), ss] []))
      exact J218 T15 _ ((r1 &&& cols)) X15 e15 N10 (by exact (if_neg (fun q => hc193 (by rw [Int32.lt_iff_toInt_lt, hhb, t_d]; omega))).symm)
  · skip
    refine own_of (fun tgt kon => XS.icmpYes X11.here hx rfl (pc0 := 102) (pc' := 240) rfl (hb hby d7_102) rfl (flt hc102).2.1 (by decide) (by decide) kon) ?_
    refine own_of (fun tgt kon => XS.lload X11.here hx rfl (hb hby d7_240) rfl kon) ?_
    show own_Wp _ _ _ _ (T11.setTop (mkF m 242 #[rv a1, iv (1 : Int32), iv p3, iv p4, jv (co RR), ss, iv row, iv abv, iv twv, jv (0 : Int64), ss, jv (FF 0), ss, iv (1 : Int32), uu, uu, uu, uu] [(.long (FF 0))]))
    refine own_of (fun tgt kon => XS.lconst X11.here hx rfl (hb hby d7_242) kon) ?_
    refine own_of (fun tgt kon => XS.lcmp X11.here hx rfl (hb hby d7_243) rfl kon) ?_
    by_cases hc244 : (lcmpW (FF 0) (0 : Int64)) = (0 : Int32)
    · skip
      refine own_of (fun tgt kon => XS.ifYes X11.here hx rfl (pc0 := 244) (pc' := 251) rfl (hb hby d7_244) rfl ((if0 _ _).trans (teq hc244).1) (by decide) (by decide) kon) ?_
      refine own_of (fun tgt kon => XS.iconst X11.here hx rfl (hb hby d7_251) kon) ?_
      show own_Wp _ _ _ _ (T11.setTop (mkF m 252 #[rv a1, iv (1 : Int32), iv p3, iv p4, jv (co RR), ss, iv row, iv abv, iv twv, jv (0 : Int64), ss, jv (FF 0), ss, iv (1 : Int32), uu, uu, uu, uu] [(.int (0 : Int32))]))
      refine own_ret X11 hlk (some (.int (0 : Int32))) (own_rtI hrt) (fun fs hr => retN X11 hx (t := .boolean) hrt (by simp) (hb hby d7_252) hr) ?_ (by decide) (by decide)
      rw [e11]
      have hge : bd = 0 := by
        have q := hc102
        rw [Int32.lt_iff_toInt_lt, hlv, show (1 : Int32).toInt = 1 from by decide] at q
        omega
      subst hge
      refine ⟨?_, N10, K0, V_ar, V_am⟩
      rw [if_pos ((own_lc0 _).mp hc244)]
    · skip
      refine own_of (fun tgt kon => XS.ifNo X11.here hx rfl (hb hby d7_244) rfl ((if0 _ _).trans (feq hc244).1) kon) ?_
      refine own_of (fun tgt kon => XS.iconst X11.here hx rfl (hb hby d7_247) kon) ?_
      refine own_of (fun tgt kon => XS.goto X11.here hx rfl (pc0 := 248) (pc' := 252) rfl (hb hby d7_248) (by decide) (by decide) kon) ?_
      show own_Wp _ _ _ _ (T11.setTop (mkF m 252 #[rv a1, iv (1 : Int32), iv p3, iv p4, jv (co RR), ss, iv row, iv abv, iv twv, jv (0 : Int64), ss, jv (FF 0), ss, iv (1 : Int32), uu, uu, uu, uu] [(.int (1 : Int32))]))
      refine own_ret X11 hlk (some (.int (1 : Int32))) (own_rtI hrt) (fun fs hr => retN X11 hx (t := .boolean) hrt (by simp) (hb hby d7_252) hr) ?_ (by decide) (by decide)
      rw [e11]
      have hge : bd = 0 := by
        have q := hc102
        rw [Int32.lt_iff_toInt_lt, hlv, show (1 : Int32).toInt = 1 from by decide] at q
        omega
      subst hge
      refine ⟨?_, N10, K0, V_ar, V_am⟩
      rw [if_neg (fun q => hc244 ((own_lc0 _).mpr q))]
theorem d7_51 : decode prog_6_method_2_code 51 = .ok (.lload 4, 2) := by decide +kernel
theorem d7_53 : decode prog_6_method_2_code 53 = .ok (.iconst 1, 1) := by decide +kernel
theorem d7_54 : decode prog_6_method_2_code 54 = .ok (.lshl, 1) := by decide +kernel
theorem d7_55 : decode prog_6_method_2_code 55 = .ok (.aload_n 0, 1) := by decide +kernel
theorem d7_56 : decode prog_6_method_2_code 56 = .ok (.getfield 48, 3) := by decide +kernel
theorem d7_59 : decode prog_6_method_2_code 59 = .ok (.iload_n 1, 1) := by decide +kernel
theorem d7_60 : decode prog_6_method_2_code 60 = .ok (.iconst 1, 1) := by decide +kernel
theorem d7_61 : decode prog_6_method_2_code 61 = .ok (.isub, 1) := by decide +kernel
theorem d7_62 : decode prog_6_method_2_code 62 = .ok (.laload, 1) := by decide +kernel
theorem d7_63 : decode prog_6_method_2_code 63 = .ok (.land, 1) := by decide +kernel
theorem d7_64 : decode prog_6_method_2_code 64 = .ok (.goto 4, 3) := by decide +kernel
theorem d7_156 : decode prog_6_method_2_code 156 = .ok (.lload 16, 2) := by decide +kernel
theorem d7_158 : decode prog_6_method_2_code 158 = .ok (.lload 9, 2) := by decide +kernel
theorem d7_160 : decode prog_6_method_2_code 160 = .ok (.aload_n 0, 1) := by decide +kernel
theorem d7_161 : decode prog_6_method_2_code 161 = .ok (.getfield 45, 3) := by decide +kernel
theorem d7_164 : decode prog_6_method_2_code 164 = .ok (.iload 8, 2) := by decide +kernel
theorem d7_166 : decode prog_6_method_2_code 166 = .ok (.iload 13, 2) := by decide +kernel
theorem d7_168 : decode prog_6_method_2_code 168 = .ok (.iadd, 1) := by decide +kernel
theorem d7_169 : decode prog_6_method_2_code 169 = .ok (.iconst 1, 1) := by decide +kernel
theorem d7_170 : decode prog_6_method_2_code 170 = .ok (.isub, 1) := by decide +kernel
theorem d7_171 : decode prog_6_method_2_code 171 = .ok (.laload, 1) := by decide +kernel
theorem d7_172 : decode prog_6_method_2_code 172 = .ok (.iconst 2, 1) := by decide +kernel
theorem d7_173 : decode prog_6_method_2_code 173 = .ok (.lshl, 1) := by decide +kernel
theorem d7_174 : decode prog_6_method_2_code 174 = .ok (.land, 1) := by decide +kernel
theorem d7_175 : decode prog_6_method_2_code 175 = .ok (.lor, 1) := by decide +kernel
theorem d7_176 : decode prog_6_method_2_code 176 = .ok (.lstore 16, 2) := by decide +kernel
def Q_rmro2 (Z : State) (a1 : Addr) (p3 : Int32) (p4 : Int32) (ac : Addr) (ao : Addr) (ar : Addr) (am : Addr) (cp : Nat → Int32) (co : Nat → Int64) (rf : Nat → Int64) (mf : Nat → Int64) (FF : Nat → Int64) (lv : Int32) (p5 : Int32) (cols : Int64) (out : Int64) (bd : Nat) (ph : Nat) (RL : Nat) (ML : Nat) (RR : Nat) (h0 : Heap) (n0 : Nat) (v : Option Value) (h : Heap) (L : List Loc) : Prop := v = some (.int (if FF bd = 0 then 0 else 1)) ∧ Fr n0 L ∧ Keep h0 h [ar, am] ∧ own_Ar Z h ar .long RL (fun y => .long (own_rk rf (2 * (bd + 1)) FF (bd + 1) y)) ∧ own_Ar Z h am .long ML (fun k => .long (own_upd mf 2 (co RR) k))
set_option maxRecDepth 65536 in
set_option maxHeartbeats 40000000 in
theorem rmro2 (l : Launch) (Z : State) (a0 : Array Value) (hw : ∀ d ∈ tables_1, d.before a0 Z = true) (ws : List Jvm.Cond) (a1 : Addr) (p3 : Int32) (p4 : Int32) (ac : Addr) (ao : Addr) (ar : Addr) (am : Addr) (cp : Nat → Int32) (co : Nat → Int64) (rf : Nat → Int64) (mf : Nat → Int64) (FF : Nat → Int64) (lv : Int32) (p5 : Int32) (cols : Int64) (out : Int64) (bd : Nat) (ph : Nat) (RL : Nat) (ML : Nat) (RR : Nat) (h0 : Heap) (n0 : Nat) (Z0 : n0 ≤ h0.size) (E_a1 : Exa Z h0 a1 "com/example/close_words/closewords/BitRows") (F_columnsOf : Fld Z h0 a1 "com/example/close_words/closewords/BitRows" "columnsOf" "[J" (.ref ao)) (F_codePoints : Fld Z h0 a1 "com/example/close_words/closewords/BitRows" "codePoints" "[I" (.ref ac)) (F_matches : Fld Z h0 a1 "com/example/close_words/closewords/BitRows" "matches" "[J" (.ref am)) (F_rows : Fld Z h0 a1 "com/example/close_words/closewords/BitRows" "rows" "[J" (.ref ar)) (F_levels : Fld Z h0 a1 "com/example/close_words/closewords/BitRows" "levels" "I" (.int lv)) (F_columns : Fld Z h0 a1 "com/example/close_words/closewords/BitRows" "columns" "J" (.long cols)) (F_headBound : Fld Z h0 a1 "com/example/close_words/closewords/BitRows" "headBound" "I" (.int p5)) (F_outsideHead : Fld Z h0 a1 "com/example/close_words/closewords/BitRows" "outsideHead" "J" (.long out)) (V_ac : own_Ar Z h0 ac .int 128 (fun k => .int (cp k))) (V_ao : own_Ar Z h0 ao .long 128 (fun k => .long (co k))) (V_ar : own_Ar Z h0 ar .long RL (fun k => .long (rf k))) (V_am : own_Ar Z h0 am .long ML (fun k => .long (mf k))) (ne_a1_ar : a1 ≠ ar) (ne_a1_am : a1 ≠ am) (ne_ac_ar : ac ≠ ar) (ne_ac_am : ac ≠ am) (ne_ao_ar : ao ≠ ar) (ne_ao_am : ao ≠ am) (ne_am_ar : am ≠ ar) (g_ar : n0 ≤ ar) (g_am : n0 ≤ am) (hlv : lv.toInt = ((bd + 1 : Nat) : Int)) (hbd63 : bd ≤ 63) (hhb : p5.toInt = (ph : Int)) (hhb63 : ph ≤ 63) (hRLi : 3 * (bd + 1) ≤ RL) (hMLi : 2 < ML) (hR0 : own_find cp p3 8 (p3 &&& 127).toNatClampNeg = RR) (hR : cp RR = p3 ∨ cp RR = -1) (hRl : RR < 128) (hF0 : FF 0 = ((co RR) &&& ((rf (1 * (bd + 1))) <<< ((1 : Int32) &&& 0x3f).toInt64))) (hFs : ∀ d, FF (d + 1) = (let r1 := ((((co RR) &&& ((rf ((1 * (bd + 1)) + (d + 1))) <<< ((1 : Int32) &&& 0x3f).toInt64)) ||| (rf ((1 * (bd + 1)) + d))) ||| ((rf ((1 * (bd + 1)) + d)) <<< ((1 : Int32) &&& 0x3f).toInt64)) ||| ((FF d) <<< ((1 : Int32) &&& 0x3f).toInt64); let r2 := if (((co RR) <<< ((1 : Int32) &&& 0x3f).toInt64) &&& (mf 1)) = 0 then r1 else r1 ||| ((((co RR) <<< ((1 : Int32) &&& 0x3f).toInt64) &&& (mf 1)) &&& ((rf ((0 * (bd + 1)) + d)) <<< ((2 : Int32) &&& 0x3f).toInt64)); let r3 := r2 &&& cols; if ph < d + 1 then r3 &&& ((FF ph) ||| out) else r3)) :
    own_Ctr l Z (⟨"com/example/close_words/closewords/BitRows", "fill", "(IIZ)Z"⟩ : MethodName) prog_6_method_2_code 18 (some .boolean) ws ({ frames := 1, cells := 0, slots := 0, locals := 15 } : Room) #[(.ref a1), (.int (2 : Int32)), (.int p3), (.int p4)] h0 (Q_rmro2 Z a1 p3 p4 ac ao ar am cp co rf mf FF lv p5 cols out bd ph RL ML RR h0 n0) := by
  refine own_enter (plainFor_of_name own_pn0) ?_
  intro p e s m below meth c s₁ X0 hx hby hml hrt hlk hZ hown hnm e0
  have N0 := Fr.nil n0
  have Zs := Z0
  have K0 := Keep.refl h0 [ar, am]
  rw [show entryFrame m #[(.ref a1), (.int (2 : Int32)), (.int p3), (.int p4)] 18 = mkF m 0 #[rv a1, iv (2 : Int32), iv p3, iv p4, uu, uu, uu, uu, uu, uu, uu, uu, uu, uu, uu, uu, uu, uu] [] from by first | (simp [entryFrame, mkF, argsToLocals, Value.category]; done) | rfl]
  show own_Wp _ _ _ _ (s₁.setTop (mkF m 0 #[rv a1, iv (2 : Int32), iv p3, iv p4, uu, uu, uu, uu, uu, uu, uu, uu, uu, uu, uu, uu, uu, uu] []))
  refine own_of (fun tgt kon => XS.aloadN X0.here hx rfl (hb hby d7_0) rfl rfl kon) ?_
  obtain ⟨T1, X1, e1, st1⟩ := getF X0 hx hZ hown (host := "") (Or.inl (ow hw 33 rfl)) Via.refl e0 F_columnsOf (g := (mkF m 1 #[rv a1, iv (2 : Int32), iv p3, iv p4, uu, uu, uu, uu, uu, uu, uu, uu, uu, uu, uu, uu, uu, uu] [(.ref a1)])) rfl rfl (hb hby d7_1)
  refine own_of st1 ?_
  clear st1
  refine own_of (fun tgt kon => XS.aloadN X1.here hx rfl (hb hby d7_4) rfl rfl kon) ?_
  refine own_of (fun tgt kon => XS.iloadN X1.here hx rfl (hb hby d7_5) rfl kon) ?_
  refine own_callP X1 hx hZ (y := (⟨"com/example/close_words/closewords/BitRows", "slot", "(I)I"⟩ : MethodName)) (a := a1) (argsL := [(.int p3)]) (rest := [(.ref ao)]) (W := 1) hown (ow hw 52 rfl) (ow hw 53 rfl) (ow hw 6 rfl) (ow hw 54 rfl) (ow hw 7 rfl) (ow hw 55 rfl) (by decide) e1 E_a1 (rmslot l Z a0 hw [] a1 p3 ac cp RR (Int32.ofNat RR) h0 n0 Zs E_a1 F_codePoints V_ac hR0 hR (own_ofN (by omega))) (by decide) (by decide) (by decide) (by decide) rfl (by rw [hml]; rfl) (lenOf own_pd3 rfl) rfl (by show 2 * 0 + _ ≤ _; exact Nat.le_of_eq rfl) (hb hby d7_6) ?_
  rintro T2 L2 _ X2 ⟨rfl, N2q, e2⟩
  have N2 := Fr.app N0 N2q
  show own_Wp _ _ _ _ (T2.setTop (mkF m 9 #[rv a1, iv (2 : Int32), iv p3, iv p4, uu, uu, uu, uu, uu, uu, uu, uu, uu, uu, uu, uu, uu, uu] [(.int (Int32.ofNat RR)), (.ref ao)]))
  refine own_laload X2 hx hZ e2 V_ao (j := (Int32.ofNat RR)) (i := RR) (v := (co RR)) (own_ofN (by omega)) hRl rfl rfl rfl (hb hby d7_9) ?_
  refine own_of (fun tgt kon => XS.lstore X2.here hx rfl (hb hby d7_10) rfl (l' := #[rv a1, iv (2 : Int32), iv p3, iv p4, jv (co RR), ss, uu, uu, uu, uu, uu, uu, uu, uu, uu, uu, uu, uu]) rfl kon) ?_
  refine own_of (fun tgt kon => XS.aloadN X2.here hx rfl (hb hby d7_12) rfl rfl kon) ?_
  obtain ⟨T3, X3, e3, st3⟩ := getF X2 hx hZ hown (host := "") (Or.inl (ow hw 37 rfl)) Via.refl e2 F_matches (g := (mkF m 13 #[rv a1, iv (2 : Int32), iv p3, iv p4, jv (co RR), ss, uu, uu, uu, uu, uu, uu, uu, uu, uu, uu, uu, uu] [(.ref a1)])) rfl rfl (hb hby d7_13)
  refine own_of st3 ?_
  clear st3
  refine own_of (fun tgt kon => XS.iloadN X3.here hx rfl (hb hby d7_16) rfl kon) ?_
  show own_Wp _ _ _ _ (T3.setTop (mkF m 17 #[rv a1, iv (2 : Int32), iv p3, iv p4, jv (co RR), ss, uu, uu, uu, uu, uu, uu, uu, uu, uu, uu, uu, uu] [(.int (2 : Int32)), (.ref am)]))
  refine own_of (fun tgt kon => XS.lload X3.here hx rfl (hb hby d7_17) rfl kon) ?_
  obtain ⟨T4, h4, X4, e4, W4, Aq4, st4⟩ := own_stJ X3 hx hZ e3 V_am (j := (2 : Int32)) (i := 2) (x := (co RR)) (by decide) (by omega) (g := (mkF m 19 #[rv a1, iv (2 : Int32), iv p3, iv p4, jv (co RR), ss, uu, uu, uu, uu, uu, uu, uu, uu, uu, uu, uu, uu] [(.long (co RR)), (.int (2 : Int32)), (.ref am)])) rfl rfl (hb hby d7_19)
  refine own_of st4 ?_
  clear st4
  replace Zs := Nat.le_trans Zs (Keep.of_wr W4).1
  replace K0 := K0.wr W4 (Or.inl (List.mem_of_getElem? (i := 1) rfl))
  replace E_a1 := E_a1.wr W4
  replace F_columnsOf := F_columnsOf.other W4 (Or.inl ne_a1_am)
  replace F_codePoints := F_codePoints.other W4 (Or.inl ne_a1_am)
  replace F_matches := F_matches.other W4 (Or.inl ne_a1_am)
  replace F_rows := F_rows.other W4 (Or.inl ne_a1_am)
  replace F_levels := F_levels.other W4 (Or.inl ne_a1_am)
  replace F_columns := F_columns.other W4 (Or.inl ne_a1_am)
  replace F_headBound := F_headBound.other W4 (Or.inl ne_a1_am)
  replace F_outsideHead := F_outsideHead.other W4 (Or.inl ne_a1_am)
  replace V_ac := V_ac.other W4 ne_ac_am
  replace V_ao := V_ao.other W4 ne_ao_am
  replace V_ar := V_ar.other W4 (Ne.symm ne_am_ar)
  replace V_am := Aq4
  clear Aq4
  replace V_am := V_am.fn (f' := fun k => .long (own_upd mf 2 (co RR) k)) (fun k hk => own_setJ _ _ _ k)
  have N4 := Fr.snoc X4 N2 g_am
  refine own_of (fun tgt kon => XS.iloadN X4.here hx rfl (hb hby d7_20) rfl kon) ?_
  refine own_of (fun tgt kon => XS.aloadN X4.here hx rfl (hb hby d7_21) rfl rfl kon) ?_
  obtain ⟨T5, X5, e5, st5⟩ := getF X4 hx hZ hown (host := "") (Or.inl (ow hw 18 rfl)) Via.refl e4 F_levels (g := (mkF m 22 #[rv a1, iv (2 : Int32), iv p3, iv p4, jv (co RR), ss, uu, uu, uu, uu, uu, uu, uu, uu, uu, uu, uu, uu] [(.ref a1), (.int (2 : Int32))])) rfl rfl (hb hby d7_22)
  refine own_of st5 ?_
  clear st5
  show own_Wp _ _ _ _ (T5.setTop (mkF m 25 #[rv a1, iv (2 : Int32), iv p3, iv p4, jv (co RR), ss, uu, uu, uu, uu, uu, uu, uu, uu, uu, uu, uu, uu] [(.int lv), (.int (2 : Int32))]))
  refine own_of (fun tgt kon => XS.imul X5.here hx rfl (hb hby d7_25) rfl kon) ?_
  show own_Wp _ _ _ _ (T5.setTop (mkF m 26 #[rv a1, iv (2 : Int32), iv p3, iv p4, jv (co RR), ss, uu, uu, uu, uu, uu, uu, uu, uu, uu, uu, uu, uu] [(.int ((2 : Int32) * lv))]))
  obtain ⟨row, h_row⟩ : ∃ q : Int32, q = ((2 : Int32) * lv) := ⟨_, rfl⟩
  rw [← h_row]
  refine own_of (fun tgt kon => XS.istore X5.here hx rfl (hb hby d7_26) rfl (l' := #[rv a1, iv (2 : Int32), iv p3, iv p4, jv (co RR), ss, iv row, uu, uu, uu, uu, uu, uu, uu, uu, uu, uu, uu]) rfl kon) ?_
  show own_Wp _ _ _ _ (T5.setTop (mkF m 28 #[rv a1, iv (2 : Int32), iv p3, iv p4, jv (co RR), ss, iv row, uu, uu, uu, uu, uu, uu, uu, uu, uu, uu, uu] []))
  have t_row : row.toInt = ((2 * (bd + 1) : Nat) : Int) := by
    rw [h_row, Jvm.Kit.i32_mul (by rw [show (2 : Int32).toInt = 2 from by decide, hlv]; omega) (by rw [show (2 : Int32).toInt = 2 from by decide, hlv]; omega), show (2 : Int32).toInt = 2 from by decide, hlv]
    omega
  refine own_of (fun tgt kon => XS.iload X5.here hx rfl (hb hby d7_28) rfl kon) ?_
  refine own_of (fun tgt kon => XS.aloadN X5.here hx rfl (hb hby d7_30) rfl rfl kon) ?_
  obtain ⟨T6, X6, e6, st6⟩ := getF X5 hx hZ hown (host := "") (Or.inl (ow hw 18 rfl)) Via.refl e5 F_levels (g := (mkF m 31 #[rv a1, iv (2 : Int32), iv p3, iv p4, jv (co RR), ss, iv row, uu, uu, uu, uu, uu, uu, uu, uu, uu, uu, uu] [(.ref a1), (.int row)])) rfl rfl (hb hby d7_31)
  refine own_of st6 ?_
  clear st6
  refine own_of (fun tgt kon => XS.isub X6.here hx rfl (hb hby d7_34) rfl kon) ?_
  show own_Wp _ _ _ _ (T6.setTop (mkF m 35 #[rv a1, iv (2 : Int32), iv p3, iv p4, jv (co RR), ss, iv row, uu, uu, uu, uu, uu, uu, uu, uu, uu, uu, uu] [(.int (row - lv))]))
  obtain ⟨abv, h_abv⟩ : ∃ q : Int32, q = (row - lv) := ⟨_, rfl⟩
  rw [← h_abv]
  refine own_of (fun tgt kon => XS.istore X6.here hx rfl (hb hby d7_35) rfl (l' := #[rv a1, iv (2 : Int32), iv p3, iv p4, jv (co RR), ss, iv row, iv abv, uu, uu, uu, uu, uu, uu, uu, uu, uu, uu]) rfl kon) ?_
  show own_Wp _ _ _ _ (T6.setTop (mkF m 37 #[rv a1, iv (2 : Int32), iv p3, iv p4, jv (co RR), ss, iv row, iv abv, uu, uu, uu, uu, uu, uu, uu, uu, uu, uu] []))
  have t_ab : abv.toInt = ((1 * (bd + 1) : Nat) : Int) := by
    rw [h_abv]
    have q := own_subI t_row hlv (by omega) (by omega)
    omega
  refine own_of (fun tgt kon => XS.iload X6.here hx rfl (hb hby d7_37) rfl kon) ?_
  refine own_of (fun tgt kon => XS.aloadN X6.here hx rfl (hb hby d7_39) rfl rfl kon) ?_
  obtain ⟨T7, X7, e7, st7⟩ := getF X6 hx hZ hown (host := "") (Or.inl (ow hw 18 rfl)) Via.refl e6 F_levels (g := (mkF m 40 #[rv a1, iv (2 : Int32), iv p3, iv p4, jv (co RR), ss, iv row, iv abv, uu, uu, uu, uu, uu, uu, uu, uu, uu, uu] [(.ref a1), (.int abv)])) rfl rfl (hb hby d7_40)
  refine own_of st7 ?_
  clear st7
  refine own_of (fun tgt kon => XS.isub X7.here hx rfl (hb hby d7_43) rfl kon) ?_
  show own_Wp _ _ _ _ (T7.setTop (mkF m 44 #[rv a1, iv (2 : Int32), iv p3, iv p4, jv (co RR), ss, iv row, iv abv, uu, uu, uu, uu, uu, uu, uu, uu, uu, uu] [(.int (abv - lv))]))
  obtain ⟨twv, h_twv⟩ : ∃ q : Int32, q = (abv - lv) := ⟨_, rfl⟩
  rw [← h_twv]
  refine own_of (fun tgt kon => XS.istore X7.here hx rfl (hb hby d7_44) rfl (l' := #[rv a1, iv (2 : Int32), iv p3, iv p4, jv (co RR), ss, iv row, iv abv, iv twv, uu, uu, uu, uu, uu, uu, uu, uu, uu]) rfl kon) ?_
  show own_Wp _ _ _ _ (T7.setTop (mkF m 46 #[rv a1, iv (2 : Int32), iv p3, iv p4, jv (co RR), ss, iv row, iv abv, iv twv, uu, uu, uu, uu, uu, uu, uu, uu, uu] []))
  have t_tw : twv.toInt = ((0 * (bd + 1) : Nat) : Int) := by
    rw [h_twv]
    have q := own_subI t_ab hlv (by omega) (by omega)
    omega
  refine own_of (fun tgt kon => XS.iloadN X7.here hx rfl (hb hby d7_46) rfl kon) ?_
  refine own_of (fun tgt kon => XS.iconst X7.here hx rfl (hb hby d7_47) kon) ?_
  have hc48 : (1 : Int32) < (2 : Int32) := by decide
  refine own_of (fun tgt kon => XS.icmpNo X7.here hx rfl (hb hby d7_48) rfl (tlt hc48).2.2.2 kon) ?_
  refine own_of (fun tgt kon => XS.lload X7.here hx rfl (hb hby d7_51) rfl kon) ?_
  refine own_of (fun tgt kon => XS.iconst X7.here hx rfl (hb hby d7_53) kon) ?_
  show own_Wp _ _ _ _ (T7.setTop (mkF m 54 #[rv a1, iv (2 : Int32), iv p3, iv p4, jv (co RR), ss, iv row, iv abv, iv twv, uu, uu, uu, uu, uu, uu, uu, uu, uu] [(.int (1 : Int32)), (.long (co RR))]))
  refine own_of (fun tgt kon => XS.lshl X7.here hx rfl (hb hby d7_54) rfl kon) ?_
  refine own_of (fun tgt kon => XS.aloadN X7.here hx rfl (hb hby d7_55) rfl rfl kon) ?_
  obtain ⟨T8, X8, e8, st8⟩ := getF X7 hx hZ hown (host := "") (Or.inl (ow hw 37 rfl)) Via.refl e7 F_matches (g := (mkF m 56 #[rv a1, iv (2 : Int32), iv p3, iv p4, jv (co RR), ss, iv row, iv abv, iv twv, uu, uu, uu, uu, uu, uu, uu, uu, uu] [(.ref a1), (.long ((co RR) <<< ((1 : Int32) &&& 0x3f).toInt64))])) rfl rfl (hb hby d7_56)
  refine own_of st8 ?_
  clear st8
  refine own_of (fun tgt kon => XS.iloadN X8.here hx rfl (hb hby d7_59) rfl kon) ?_
  refine own_of (fun tgt kon => XS.iconst X8.here hx rfl (hb hby d7_60) kon) ?_
  show own_Wp _ _ _ _ (T8.setTop (mkF m 61 #[rv a1, iv (2 : Int32), iv p3, iv p4, jv (co RR), ss, iv row, iv abv, iv twv, uu, uu, uu, uu, uu, uu, uu, uu, uu] [(.int (1 : Int32)), (.int (2 : Int32)), (.ref am), (.long ((co RR) <<< ((1 : Int32) &&& 0x3f).toInt64))]))
  refine own_of (fun tgt kon => XS.isub X8.here hx rfl (hb hby d7_61) rfl kon) ?_
  refine own_laload X8 hx hZ e8 V_am (j := ((2 : Int32) - (1 : Int32))) (i := 1) (v := (mf 1)) (by decide) (by omega) (by show Value.long (own_upd mf 2 _ 1) = _; rfl) rfl rfl (hb hby d7_62) ?_
  refine own_of (fun tgt kon => XS.land X8.here hx rfl (hb hby d7_63) rfl kon) ?_
  refine own_of (fun tgt kon => XS.goto X8.here hx rfl (pc0 := 64) (pc' := 68) rfl (hb hby d7_64) (by decide) (by decide) kon) ?_
  refine own_of (fun tgt kon => XS.lstore X8.here hx rfl (hb hby d7_68) rfl (l' := #[rv a1, iv (2 : Int32), iv p3, iv p4, jv (co RR), ss, iv row, iv abv, iv twv, jv (((co RR) <<< ((1 : Int32) &&& 0x3f).toInt64) &&& (mf 1)), ss, uu, uu, uu, uu, uu, uu, uu]) rfl kon) ?_
  show own_Wp _ _ _ _ (T8.setTop (mkF m 70 #[rv a1, iv (2 : Int32), iv p3, iv p4, jv (co RR), ss, iv row, iv abv, iv twv, jv (((co RR) <<< ((1 : Int32) &&& 0x3f).toInt64) &&& (mf 1)), ss, uu, uu, uu, uu, uu, uu, uu] []))
  refine own_of (fun tgt kon => XS.lload X8.here hx rfl (hb hby d7_70) rfl kon) ?_
  refine own_of (fun tgt kon => XS.aloadN X8.here hx rfl (hb hby d7_72) rfl rfl kon) ?_
  obtain ⟨T9, X9, e9, st9⟩ := getF X8 hx hZ hown (host := "") (Or.inl (ow hw 35 rfl)) Via.refl e8 F_rows (g := (mkF m 73 #[rv a1, iv (2 : Int32), iv p3, iv p4, jv (co RR), ss, iv row, iv abv, iv twv, jv (((co RR) <<< ((1 : Int32) &&& 0x3f).toInt64) &&& (mf 1)), ss, uu, uu, uu, uu, uu, uu, uu] [(.ref a1), (.long (co RR))])) rfl rfl (hb hby d7_73)
  refine own_of st9 ?_
  clear st9
  refine own_of (fun tgt kon => XS.iload X9.here hx rfl (hb hby d7_76) rfl kon) ?_
  refine own_laload X9 hx hZ e9 V_ar (j := abv) (i := (1 * (bd + 1))) (v := (rf (1 * (bd + 1)))) t_ab (by omega) rfl rfl rfl (hb hby d7_78) ?_
  show own_Wp _ _ _ _ (T9.setTop (mkF m 79 #[rv a1, iv (2 : Int32), iv p3, iv p4, jv (co RR), ss, iv row, iv abv, iv twv, jv (((co RR) <<< ((1 : Int32) &&& 0x3f).toInt64) &&& (mf 1)), ss, uu, uu, uu, uu, uu, uu, uu] [(.long (rf (1 * (bd + 1)))), (.long (co RR))]))
  refine own_of (fun tgt kon => XS.iconst X9.here hx rfl (hb hby d7_79) kon) ?_
  refine own_of (fun tgt kon => XS.lshl X9.here hx rfl (hb hby d7_80) rfl kon) ?_
  refine own_of (fun tgt kon => XS.land X9.here hx rfl (hb hby d7_81) rfl kon) ?_
  refine own_of (fun tgt kon => XS.lstore X9.here hx rfl (hb hby d7_82) rfl (l' := #[rv a1, iv (2 : Int32), iv p3, iv p4, jv (co RR), ss, iv row, iv abv, iv twv, jv (((co RR) <<< ((1 : Int32) &&& 0x3f).toInt64) &&& (mf 1)), ss, jv ((co RR) &&& ((rf (1 * (bd + 1))) <<< ((1 : Int32) &&& 0x3f).toInt64)), ss, uu, uu, uu, uu, uu]) rfl kon) ?_
  refine own_of (fun tgt kon => XS.aloadN X9.here hx rfl (hb hby d7_84) rfl rfl kon) ?_
  show own_Wp _ _ _ _ (T9.setTop (mkF m 85 #[rv a1, iv (2 : Int32), iv p3, iv p4, jv (co RR), ss, iv row, iv abv, iv twv, jv (((co RR) <<< ((1 : Int32) &&& 0x3f).toInt64) &&& (mf 1)), ss, jv ((co RR) &&& ((rf (1 * (bd + 1))) <<< ((1 : Int32) &&& 0x3f).toInt64)), ss, uu, uu, uu, uu, uu] [(.ref a1)]))
  obtain ⟨T10, X10, e10, st10⟩ := getF X9 hx hZ hown (host := "") (Or.inl (ow hw 35 rfl)) Via.refl e9 F_rows (g := (mkF m 85 #[rv a1, iv (2 : Int32), iv p3, iv p4, jv (co RR), ss, iv row, iv abv, iv twv, jv (((co RR) <<< ((1 : Int32) &&& 0x3f).toInt64) &&& (mf 1)), ss, jv ((co RR) &&& ((rf (1 * (bd + 1))) <<< ((1 : Int32) &&& 0x3f).toInt64)), ss, uu, uu, uu, uu, uu] [(.ref a1)])) rfl rfl (hb hby d7_85)
  refine own_of st10 ?_
  clear st10
  refine own_of (fun tgt kon => XS.iload X10.here hx rfl (hb hby d7_88) rfl kon) ?_
  refine own_of (fun tgt kon => XS.lload X10.here hx rfl (hb hby d7_90) rfl kon) ?_
  obtain ⟨T11, h11, X11, e11, W11, Aq11, st11⟩ := own_stJ X10 hx hZ e10 V_ar (j := row) (i := (2 * (bd + 1))) (x := ((co RR) &&& ((rf (1 * (bd + 1))) <<< ((1 : Int32) &&& 0x3f).toInt64))) t_row (by omega) (g := (mkF m 92 #[rv a1, iv (2 : Int32), iv p3, iv p4, jv (co RR), ss, iv row, iv abv, iv twv, jv (((co RR) <<< ((1 : Int32) &&& 0x3f).toInt64) &&& (mf 1)), ss, jv ((co RR) &&& ((rf (1 * (bd + 1))) <<< ((1 : Int32) &&& 0x3f).toInt64)), ss, uu, uu, uu, uu, uu] [(.long ((co RR) &&& ((rf (1 * (bd + 1))) <<< ((1 : Int32) &&& 0x3f).toInt64))), (.int row), (.ref ar)])) rfl rfl (hb hby d7_92)
  refine own_of st11 ?_
  clear st11
  replace Zs := Nat.le_trans Zs (Keep.of_wr W11).1
  replace K0 := K0.wr W11 (Or.inl (List.mem_of_getElem? (i := 0) rfl))
  replace E_a1 := E_a1.wr W11
  replace F_columnsOf := F_columnsOf.other W11 (Or.inl ne_a1_ar)
  replace F_codePoints := F_codePoints.other W11 (Or.inl ne_a1_ar)
  replace F_matches := F_matches.other W11 (Or.inl ne_a1_ar)
  replace F_rows := F_rows.other W11 (Or.inl ne_a1_ar)
  replace F_levels := F_levels.other W11 (Or.inl ne_a1_ar)
  replace F_columns := F_columns.other W11 (Or.inl ne_a1_ar)
  replace F_headBound := F_headBound.other W11 (Or.inl ne_a1_ar)
  replace F_outsideHead := F_outsideHead.other W11 (Or.inl ne_a1_ar)
  replace V_ac := V_ac.other W11 ne_ac_ar
  replace V_ao := V_ao.other W11 ne_ao_ar
  replace V_am := V_am.other W11 ne_am_ar
  replace V_ar := Aq11
  clear Aq11
  rw [show ((co RR) &&& ((rf (1 * (bd + 1))) <<< ((1 : Int32) &&& 0x3f).toInt64)) = FF 0 from hF0.symm] at V_ar ⊢
  replace V_ar := V_ar.fn (f' := fun y => .long (own_rk rf (2 * (bd + 1)) FF 1 y)) (fun y hy => (own_setJ _ _ _ y).trans (congrArg Value.long (own_rk0 _ _ _ y)))
  have N11 := Fr.snoc X11 N4 g_ar
  refine own_of (fun tgt kon => XS.iconst X11.here hx rfl (hb hby d7_93) kon) ?_
  show own_Wp _ _ _ _ (T11.setTop (mkF m 94 #[rv a1, iv (2 : Int32), iv p3, iv p4, jv (co RR), ss, iv row, iv abv, iv twv, jv (((co RR) <<< ((1 : Int32) &&& 0x3f).toInt64) &&& (mf 1)), ss, jv (FF 0), ss, uu, uu, uu, uu, uu] [(.int (1 : Int32))]))
  refine own_of (fun tgt kon => XS.istore X11.here hx rfl (hb hby d7_94) rfl (l' := #[rv a1, iv (2 : Int32), iv p3, iv p4, jv (co RR), ss, iv row, iv abv, iv twv, jv (((co RR) <<< ((1 : Int32) &&& 0x3f).toInt64) &&& (mf 1)), ss, jv (FF 0), ss, iv (1 : Int32), uu, uu, uu, uu]) rfl kon) ?_
  show own_Wp _ _ _ _ (T11.setTop (mkF m 96 #[rv a1, iv (2 : Int32), iv p3, iv p4, jv (co RR), ss, iv row, iv abv, iv twv, jv (((co RR) <<< ((1 : Int32) &&& 0x3f).toInt64) &&& (mf 1)), ss, jv (FF 0), ss, iv (1 : Int32), uu, uu, uu, uu] []))
  refine own_of (fun tgt kon => XS.iload X11.here hx rfl (hb hby d7_96) rfl kon) ?_
  refine own_of (fun tgt kon => XS.aloadN X11.here hx rfl (hb hby d7_98) rfl rfl kon) ?_
  obtain ⟨T12, X12, e12, st12⟩ := getF X11 hx hZ hown (host := "") (Or.inl (ow hw 18 rfl)) Via.refl e11 F_levels (g := (mkF m 99 #[rv a1, iv (2 : Int32), iv p3, iv p4, jv (co RR), ss, iv row, iv abv, iv twv, jv (((co RR) <<< ((1 : Int32) &&& 0x3f).toInt64) &&& (mf 1)), ss, jv (FF 0), ss, iv (1 : Int32), uu, uu, uu, uu] [(.ref a1), (.int (1 : Int32))])) rfl rfl (hb hby d7_99)
  refine own_of st12 ?_
  clear st12
  by_cases hc102 : (1 : Int32) < lv
  · skip
    refine own_of (fun tgt kon => XS.icmpNo X12.here hx rfl (hb hby d7_102) rfl (tlt hc102).2.1 kon) ?_
    show own_Wp _ _ _ _ (T12.setTop (mkF m 105 #[rv a1, iv (2 : Int32), iv p3, iv p4, jv (co RR), ss, iv row, iv abv, iv twv, jv (((co RR) <<< ((1 : Int32) &&& 0x3f).toInt64) &&& (mf 1)), ss, jv (FF 0), ss, iv (1 : Int32), uu, uu, uu, uu] []))
    have hlt : 0 + 1 < bd + 1 := by
      have q := hc102
      rw [Int32.lt_iff_toInt_lt, hlv] at q
      have q2 : (1 : Int32).toInt = ((0 + 1 : Nat) : Int) := by decide
      omega
    have t_d : (1 : Int32).toInt = ((0 + 1 : Nat) : Int) := by decide
    have l1 : (1 : Int32).toInt = 1 := by decide
    refine own_of (fun tgt kon => XS.aloadN X12.here hx rfl (hb hby d7_105) rfl rfl kon) ?_
    obtain ⟨T13, X13, e13, st13⟩ := getF X12 hx hZ hown (host := "") (Or.inl (ow hw 35 rfl)) Via.refl e12 F_rows (g := (mkF m 106 #[rv a1, iv (2 : Int32), iv p3, iv p4, jv (co RR), ss, iv row, iv abv, iv twv, jv (((co RR) <<< ((1 : Int32) &&& 0x3f).toInt64) &&& (mf 1)), ss, jv (FF 0), ss, iv (1 : Int32), uu, uu, uu, uu] [(.ref a1)])) rfl rfl (hb hby d7_106)
    refine own_of st13 ?_
    clear st13
    refine own_of (fun tgt kon => XS.iload X13.here hx rfl (hb hby d7_109) rfl kon) ?_
    refine own_of (fun tgt kon => XS.iload X13.here hx rfl (hb hby d7_111) rfl kon) ?_
    refine own_of (fun tgt kon => XS.iadd X13.here hx rfl (hb hby d7_113) rfl kon) ?_
    show own_Wp _ _ _ _ (T13.setTop (mkF m 114 #[rv a1, iv (2 : Int32), iv p3, iv p4, jv (co RR), ss, iv row, iv abv, iv twv, jv (((co RR) <<< ((1 : Int32) &&& 0x3f).toInt64) &&& (mf 1)), ss, jv (FF 0), ss, iv (1 : Int32), uu, uu, uu, uu] [(.int (abv + (1 : Int32))), (.ref ar)]))
    refine own_of (fun tgt kon => XS.iconst X13.here hx rfl (hb hby d7_114) kon) ?_
    refine own_of (fun tgt kon => XS.isub X13.here hx rfl (hb hby d7_115) rfl kon) ?_
    refine own_laload X13 hx hZ e13 V_ar (j := ((abv + (1 : Int32)) - (1 : Int32))) (i := ((1 * (bd + 1)) + 0)) (v := (rf ((1 * (bd + 1)) + 0))) (by have q1 := own_addI t_ab t_d (by omega) (by omega); have q2 := own_subI q1 l1 (by omega) (by omega); omega) (by omega) (by show Value.long (own_rk _ _ _ _ _) = _; rw [own_rk_lt (by omega)]) rfl rfl (hb hby d7_116) ?_
    refine own_of (fun tgt kon => XS.lstore X13.here hx rfl (hb hby d7_117) rfl (l' := #[rv a1, iv (2 : Int32), iv p3, iv p4, jv (co RR), ss, iv row, iv abv, iv twv, jv (((co RR) <<< ((1 : Int32) &&& 0x3f).toInt64) &&& (mf 1)), ss, jv (FF 0), ss, iv (1 : Int32), jv (rf ((1 * (bd + 1)) + 0)), ss, uu, uu]) rfl kon) ?_
    refine own_of (fun tgt kon => XS.lload X13.here hx rfl (hb hby d7_119) rfl kon) ?_
    show own_Wp _ _ _ _ (T13.setTop (mkF m 121 #[rv a1, iv (2 : Int32), iv p3, iv p4, jv (co RR), ss, iv row, iv abv, iv twv, jv (((co RR) <<< ((1 : Int32) &&& 0x3f).toInt64) &&& (mf 1)), ss, jv (FF 0), ss, iv (1 : Int32), jv (rf ((1 * (bd + 1)) + 0)), ss, uu, uu] [(.long (co RR))]))
    refine own_of (fun tgt kon => XS.aloadN X13.here hx rfl (hb hby d7_121) rfl rfl kon) ?_
    obtain ⟨T14, X14, e14, st14⟩ := getF X13 hx hZ hown (host := "") (Or.inl (ow hw 35 rfl)) Via.refl e13 F_rows (g := (mkF m 122 #[rv a1, iv (2 : Int32), iv p3, iv p4, jv (co RR), ss, iv row, iv abv, iv twv, jv (((co RR) <<< ((1 : Int32) &&& 0x3f).toInt64) &&& (mf 1)), ss, jv (FF 0), ss, iv (1 : Int32), jv (rf ((1 * (bd + 1)) + 0)), ss, uu, uu] [(.ref a1), (.long (co RR))])) rfl rfl (hb hby d7_122)
    refine own_of st14 ?_
    clear st14
    refine own_of (fun tgt kon => XS.iload X14.here hx rfl (hb hby d7_125) rfl kon) ?_
    refine own_of (fun tgt kon => XS.iload X14.here hx rfl (hb hby d7_127) rfl kon) ?_
    refine own_of (fun tgt kon => XS.iadd X14.here hx rfl (hb hby d7_129) rfl kon) ?_
    show own_Wp _ _ _ _ (T14.setTop (mkF m 130 #[rv a1, iv (2 : Int32), iv p3, iv p4, jv (co RR), ss, iv row, iv abv, iv twv, jv (((co RR) <<< ((1 : Int32) &&& 0x3f).toInt64) &&& (mf 1)), ss, jv (FF 0), ss, iv (1 : Int32), jv (rf ((1 * (bd + 1)) + 0)), ss, uu, uu] [(.int (abv + (1 : Int32))), (.ref ar), (.long (co RR))]))
    refine own_laload X14 hx hZ e14 V_ar (j := (abv + (1 : Int32))) (i := ((1 * (bd + 1)) + (0 + 1))) (v := (rf ((1 * (bd + 1)) + (0 + 1)))) (by have q1 := own_addI t_ab t_d (by omega) (by omega); omega) (by omega) (by show Value.long (own_rk _ _ _ _ _) = _; rw [own_rk_lt (by omega)]) rfl rfl (hb hby d7_130) ?_
    refine own_of (fun tgt kon => XS.iconst X14.here hx rfl (hb hby d7_131) kon) ?_
    refine own_of (fun tgt kon => XS.lshl X14.here hx rfl (hb hby d7_132) rfl kon) ?_
    refine own_of (fun tgt kon => XS.land X14.here hx rfl (hb hby d7_133) rfl kon) ?_
    refine own_of (fun tgt kon => XS.lload X14.here hx rfl (hb hby d7_134) rfl kon) ?_
    show own_Wp _ _ _ _ (T14.setTop (mkF m 136 #[rv a1, iv (2 : Int32), iv p3, iv p4, jv (co RR), ss, iv row, iv abv, iv twv, jv (((co RR) <<< ((1 : Int32) &&& 0x3f).toInt64) &&& (mf 1)), ss, jv (FF 0), ss, iv (1 : Int32), jv (rf ((1 * (bd + 1)) + 0)), ss, uu, uu] [(.long (rf ((1 * (bd + 1)) + 0))), (.long ((co RR) &&& ((rf ((1 * (bd + 1)) + (0 + 1))) <<< ((1 : Int32) &&& 0x3f).toInt64)))]))
    refine own_of (fun tgt kon => XS.lor X14.here hx rfl (hb hby d7_136) rfl kon) ?_
    refine own_of (fun tgt kon => XS.lload X14.here hx rfl (hb hby d7_137) rfl kon) ?_
    refine own_of (fun tgt kon => XS.iconst X14.here hx rfl (hb hby d7_139) kon) ?_
    refine own_of (fun tgt kon => XS.lshl X14.here hx rfl (hb hby d7_140) rfl kon) ?_
    refine own_of (fun tgt kon => XS.lor X14.here hx rfl (hb hby d7_141) rfl kon) ?_
    show own_Wp _ _ _ _ (T14.setTop (mkF m 142 #[rv a1, iv (2 : Int32), iv p3, iv p4, jv (co RR), ss, iv row, iv abv, iv twv, jv (((co RR) <<< ((1 : Int32) &&& 0x3f).toInt64) &&& (mf 1)), ss, jv (FF 0), ss, iv (1 : Int32), jv (rf ((1 * (bd + 1)) + 0)), ss, uu, uu] [(.long ((((co RR) &&& ((rf ((1 * (bd + 1)) + (0 + 1))) <<< ((1 : Int32) &&& 0x3f).toInt64)) ||| (rf ((1 * (bd + 1)) + 0))) ||| ((rf ((1 * (bd + 1)) + 0)) <<< ((1 : Int32) &&& 0x3f).toInt64)))]))
    refine own_of (fun tgt kon => XS.lload X14.here hx rfl (hb hby d7_142) rfl kon) ?_
    refine own_of (fun tgt kon => XS.iconst X14.here hx rfl (hb hby d7_144) kon) ?_
    refine own_of (fun tgt kon => XS.lshl X14.here hx rfl (hb hby d7_145) rfl kon) ?_
    refine own_of (fun tgt kon => XS.lor X14.here hx rfl (hb hby d7_146) rfl kon) ?_
    show own_Wp _ _ _ _ (T14.setTop (mkF m 147 #[rv a1, iv (2 : Int32), iv p3, iv p4, jv (co RR), ss, iv row, iv abv, iv twv, jv (((co RR) <<< ((1 : Int32) &&& 0x3f).toInt64) &&& (mf 1)), ss, jv (FF 0), ss, iv (1 : Int32), jv (rf ((1 * (bd + 1)) + 0)), ss, uu, uu] [(.long (((((co RR) &&& ((rf ((1 * (bd + 1)) + (0 + 1))) <<< ((1 : Int32) &&& 0x3f).toInt64)) ||| (rf ((1 * (bd + 1)) + 0))) ||| ((rf ((1 * (bd + 1)) + 0)) <<< ((1 : Int32) &&& 0x3f).toInt64)) ||| ((FF 0) <<< ((1 : Int32) &&& 0x3f).toInt64)))]))
    obtain ⟨r1, h_r1⟩ : ∃ q : Int64, q = (((((co RR) &&& ((rf ((1 * (bd + 1)) + (0 + 1))) <<< ((1 : Int32) &&& 0x3f).toInt64)) ||| (rf ((1 * (bd + 1)) + 0))) ||| ((rf ((1 * (bd + 1)) + 0)) <<< ((1 : Int32) &&& 0x3f).toInt64)) ||| ((FF 0) <<< ((1 : Int32) &&& 0x3f).toInt64)) := ⟨_, rfl⟩
    rw [← h_r1]
    refine own_of (fun tgt kon => XS.lstore X14.here hx rfl (hb hby d7_147) rfl (l' := #[rv a1, iv (2 : Int32), iv p3, iv p4, jv (co RR), ss, iv row, iv abv, iv twv, jv (((co RR) <<< ((1 : Int32) &&& 0x3f).toInt64) &&& (mf 1)), ss, jv (FF 0), ss, iv (1 : Int32), jv (rf ((1 * (bd + 1)) + 0)), ss, jv r1, ss]) rfl kon) ?_
    show own_Wp _ _ _ _ (T14.setTop (mkF m 149 #[rv a1, iv (2 : Int32), iv p3, iv p4, jv (co RR), ss, iv row, iv abv, iv twv, jv (((co RR) <<< ((1 : Int32) &&& 0x3f).toInt64) &&& (mf 1)), ss, jv (FF 0), ss, iv (1 : Int32), jv (rf ((1 * (bd + 1)) + 0)), ss, jv r1, ss] []))
    refine own_of (fun tgt kon => XS.lload X14.here hx rfl (hb hby d7_149) rfl kon) ?_
    refine own_of (fun tgt kon => XS.lconst X14.here hx rfl (hb hby d7_151) kon) ?_
    refine own_of (fun tgt kon => XS.lcmp X14.here hx rfl (hb hby d7_152) rfl kon) ?_
    show own_Wp _ _ _ _ (T14.setTop (mkF m 153 #[rv a1, iv (2 : Int32), iv p3, iv p4, jv (co RR), ss, iv row, iv abv, iv twv, jv (((co RR) <<< ((1 : Int32) &&& 0x3f).toInt64) &&& (mf 1)), ss, jv (FF 0), ss, iv (1 : Int32), jv (rf ((1 * (bd + 1)) + 0)), ss, jv r1, ss] [(.int (lcmpW (((co RR) <<< ((1 : Int32) &&& 0x3f).toInt64) &&& (mf 1)) (0 : Int64)))]))
    have J178 : ∀ (T15 : State) (lc15 : List Loc) (q2 : Int64), (Stand p l e ({ frames := 1, cells := 0, slots := 0, locals := 15 } : Room) s m #[(.ref a1), (.int (2 : Int32)), (.int p3), (.int p4)] below meth c T15 lc15 0 0) → (T15.heap = h11) → (Fr n0 lc15) → (q2 = if (((co RR) <<< ((1 : Int32) &&& 0x3f).toInt64) &&& (mf 1)) = 0 then r1 else r1 ||| ((((co RR) <<< ((1 : Int32) &&& 0x3f).toInt64) &&& (mf 1)) &&& ((rf ((0 * (bd + 1)) + 0)) <<< ((2 : Int32) &&& 0x3f).toInt64))) → own_Wp p.tables e below (own_K ({ frames := 1, cells := 0, slots := 0, locals := 15 } : Room) s below (Q_rmro2 Z a1 p3 p4 ac ao ar am cp co rf mf FF lv p5 cols out bd ph RL ML RR h0 n0)) (T15.setTop (mkF m 178 #[rv a1, iv (2 : Int32), iv p3, iv p4, jv (co RR), ss, iv row, iv abv, iv twv, jv (((co RR) <<< ((1 : Int32) &&& 0x3f).toInt64) &&& (mf 1)), ss, jv (FF 0), ss, iv (1 : Int32), jv (rf ((1 * (bd + 1)) + 0)), ss, jv q2, ss] [])) := by
      intro T15 lc15 q2 X15 e15 N15 h_q2
      refine own_of (fun tgt kon => XS.lload X15.here hx rfl (hb hby d7_178) rfl kon) ?_
      refine own_of (fun tgt kon => XS.aloadN X15.here hx rfl (hb hby d7_180) rfl rfl kon) ?_
      obtain ⟨T16, X16, e16, st16⟩ := getF X15 hx hZ hown (host := "") (Or.inl (ow hw 23 rfl)) Via.refl e15 F_columns (g := (mkF m 181 #[rv a1, iv (2 : Int32), iv p3, iv p4, jv (co RR), ss, iv row, iv abv, iv twv, jv (((co RR) <<< ((1 : Int32) &&& 0x3f).toInt64) &&& (mf 1)), ss, jv (FF 0), ss, iv (1 : Int32), jv (rf ((1 * (bd + 1)) + 0)), ss, jv q2, ss] [(.ref a1), (.long q2)])) rfl rfl (hb hby d7_181)
      refine own_of st16 ?_
      clear st16
      refine own_of (fun tgt kon => XS.land X16.here hx rfl (hb hby d7_184) rfl kon) ?_
      refine own_of (fun tgt kon => XS.lstore X16.here hx rfl (hb hby d7_185) rfl (l' := #[rv a1, iv (2 : Int32), iv p3, iv p4, jv (co RR), ss, iv row, iv abv, iv twv, jv (((co RR) <<< ((1 : Int32) &&& 0x3f).toInt64) &&& (mf 1)), ss, jv (FF 0), ss, iv (1 : Int32), jv (rf ((1 * (bd + 1)) + 0)), ss, jv (q2 &&& cols), ss]) rfl kon) ?_
      show own_Wp _ _ _ _ (T16.setTop (mkF m 187 #[rv a1, iv (2 : Int32), iv p3, iv p4, jv (co RR), ss, iv row, iv abv, iv twv, jv (((co RR) <<< ((1 : Int32) &&& 0x3f).toInt64) &&& (mf 1)), ss, jv (FF 0), ss, iv (1 : Int32), jv (rf ((1 * (bd + 1)) + 0)), ss, jv (q2 &&& cols), ss] []))
      refine own_of (fun tgt kon => XS.iload X16.here hx rfl (hb hby d7_187) rfl kon) ?_
      refine own_of (fun tgt kon => XS.aloadN X16.here hx rfl (hb hby d7_189) rfl rfl kon) ?_
      obtain ⟨T17, X17, e17, st17⟩ := getF X16 hx hZ hown (host := "") (Or.inl (ow hw 16 rfl)) Via.refl e16 F_headBound (g := (mkF m 190 #[rv a1, iv (2 : Int32), iv p3, iv p4, jv (co RR), ss, iv row, iv abv, iv twv, jv (((co RR) <<< ((1 : Int32) &&& 0x3f).toInt64) &&& (mf 1)), ss, jv (FF 0), ss, iv (1 : Int32), jv (rf ((1 * (bd + 1)) + 0)), ss, jv (q2 &&& cols), ss] [(.ref a1), (.int (1 : Int32))])) rfl rfl (hb hby d7_190)
      refine own_of st17 ?_
      clear st17
      show own_Wp _ _ _ _ (T17.setTop (mkF m 193 #[rv a1, iv (2 : Int32), iv p3, iv p4, jv (co RR), ss, iv row, iv abv, iv twv, jv (((co RR) <<< ((1 : Int32) &&& 0x3f).toInt64) &&& (mf 1)), ss, jv (FF 0), ss, iv (1 : Int32), jv (rf ((1 * (bd + 1)) + 0)), ss, jv (q2 &&& cols), ss] [(.int p5), (.int (1 : Int32))]))
      have J218 : ∀ (T18 : State) (lc18 : List Loc) (q3 : Int64), (Stand p l e ({ frames := 1, cells := 0, slots := 0, locals := 15 } : Room) s m #[(.ref a1), (.int (2 : Int32)), (.int p3), (.int p4)] below meth c T18 lc18 0 0) → (T18.heap = h11) → (Fr n0 lc18) → (q3 = if ph < 0 + 1 then (q2 &&& cols) &&& ((FF ph) ||| out) else (q2 &&& cols)) → own_Wp p.tables e below (own_K ({ frames := 1, cells := 0, slots := 0, locals := 15 } : Room) s below (Q_rmro2 Z a1 p3 p4 ac ao ar am cp co rf mf FF lv p5 cols out bd ph RL ML RR h0 n0)) (T18.setTop (mkF m 218 #[rv a1, iv (2 : Int32), iv p3, iv p4, jv (co RR), ss, iv row, iv abv, iv twv, jv (((co RR) <<< ((1 : Int32) &&& 0x3f).toInt64) &&& (mf 1)), ss, jv (FF 0), ss, iv (1 : Int32), jv (rf ((1 * (bd + 1)) + 0)), ss, jv q3, ss] [])) := by
        intro T18 lc18 q3 X18 e18 N18 h_q3
        refine own_of (fun tgt kon => XS.aloadN X18.here hx rfl (hb hby d7_218) rfl rfl kon) ?_
        obtain ⟨T19, X19, e19, st19⟩ := getF X18 hx hZ hown (host := "") (Or.inl (ow hw 35 rfl)) Via.refl e18 F_rows (g := (mkF m 219 #[rv a1, iv (2 : Int32), iv p3, iv p4, jv (co RR), ss, iv row, iv abv, iv twv, jv (((co RR) <<< ((1 : Int32) &&& 0x3f).toInt64) &&& (mf 1)), ss, jv (FF 0), ss, iv (1 : Int32), jv (rf ((1 * (bd + 1)) + 0)), ss, jv q3, ss] [(.ref a1)])) rfl rfl (hb hby d7_219)
        refine own_of st19 ?_
        clear st19
        refine own_of (fun tgt kon => XS.iload X19.here hx rfl (hb hby d7_222) rfl kon) ?_
        refine own_of (fun tgt kon => XS.iload X19.here hx rfl (hb hby d7_224) rfl kon) ?_
        refine own_of (fun tgt kon => XS.iadd X19.here hx rfl (hb hby d7_226) rfl kon) ?_
        show own_Wp _ _ _ _ (T19.setTop (mkF m 227 #[rv a1, iv (2 : Int32), iv p3, iv p4, jv (co RR), ss, iv row, iv abv, iv twv, jv (((co RR) <<< ((1 : Int32) &&& 0x3f).toInt64) &&& (mf 1)), ss, jv (FF 0), ss, iv (1 : Int32), jv (rf ((1 * (bd + 1)) + 0)), ss, jv q3, ss] [(.int (row + (1 : Int32))), (.ref ar)]))
        refine own_of (fun tgt kon => XS.lload X19.here hx rfl (hb hby d7_227) rfl kon) ?_
        obtain ⟨T20, h20, X20, e20, W20, Aq20, st20⟩ := own_stJ X19 hx hZ e19 V_ar (j := (row + (1 : Int32))) (i := ((2 * (bd + 1)) + (0 + 1))) (x := q3) (by have q1 := own_addI t_row t_d (by omega) (by omega); omega) (by omega) (g := (mkF m 229 #[rv a1, iv (2 : Int32), iv p3, iv p4, jv (co RR), ss, iv row, iv abv, iv twv, jv (((co RR) <<< ((1 : Int32) &&& 0x3f).toInt64) &&& (mf 1)), ss, jv (FF 0), ss, iv (1 : Int32), jv (rf ((1 * (bd + 1)) + 0)), ss, jv q3, ss] [(.long q3), (.int (row + (1 : Int32))), (.ref ar)])) rfl rfl (hb hby d7_229)
        refine own_of st20 ?_
        clear st20
        replace Zs := Nat.le_trans Zs (Keep.of_wr W20).1
        replace K0 := K0.wr W20 (Or.inl (List.mem_of_getElem? (i := 0) rfl))
        replace E_a1 := E_a1.wr W20
        replace F_columnsOf := F_columnsOf.other W20 (Or.inl ne_a1_ar)
        replace F_codePoints := F_codePoints.other W20 (Or.inl ne_a1_ar)
        replace F_matches := F_matches.other W20 (Or.inl ne_a1_ar)
        replace F_rows := F_rows.other W20 (Or.inl ne_a1_ar)
        replace F_levels := F_levels.other W20 (Or.inl ne_a1_ar)
        replace F_columns := F_columns.other W20 (Or.inl ne_a1_ar)
        replace F_headBound := F_headBound.other W20 (Or.inl ne_a1_ar)
        replace F_outsideHead := F_outsideHead.other W20 (Or.inl ne_a1_ar)
        replace V_ac := V_ac.other W20 ne_ac_ar
        replace V_ao := V_ao.other W20 ne_ao_ar
        replace V_am := V_am.other W20 ne_am_ar
        replace V_ar := Aq20
        clear Aq20
        have hst : q3 = FF (0 + 1) := by
          rw [hFs 0]
          dsimp only
          rw [h_q3, h_q2, h_r1]
        rw [hst] at V_ar ⊢
        replace V_ar := V_ar.fn (f' := fun y => .long (own_rk rf (2 * (bd + 1)) FF (0 + 1 + 1) y)) (fun y hy => (own_setJ _ _ _ y).trans (congrArg Value.long (own_setRk _ _ _ _ y)))
        have N20 := Fr.snoc X20 N18 g_ar
        refine own_of (fun tgt kon => XS.lload X20.here hx rfl (hb hby d7_230) rfl kon) ?_
        refine own_of (fun tgt kon => XS.lstore X20.here hx rfl (hb hby d7_232) rfl (l' := #[rv a1, iv (2 : Int32), iv p3, iv p4, jv (co RR), ss, iv row, iv abv, iv twv, jv (((co RR) <<< ((1 : Int32) &&& 0x3f).toInt64) &&& (mf 1)), ss, jv (FF (0 + 1)), ss, iv (1 : Int32), jv (rf ((1 * (bd + 1)) + 0)), ss, jv (FF (0 + 1)), ss]) rfl kon) ?_
        refine own_of (fun tgt kon => XS.iinc X20.here hx rfl (hb hby d7_234) rfl (l' := #[rv a1, iv (2 : Int32), iv p3, iv p4, jv (co RR), ss, iv row, iv abv, iv twv, jv (((co RR) <<< ((1 : Int32) &&& 0x3f).toInt64) &&& (mf 1)), ss, jv (FF (0 + 1)), ss, iv ((1 : Int32) + (1 : Int32)), jv (rf ((1 * (bd + 1)) + 0)), ss, jv (FF (0 + 1)), ss]) rfl kon) ?_
        show own_Wp _ _ _ _ (T20.setTop (mkF m 237 #[rv a1, iv (2 : Int32), iv p3, iv p4, jv (co RR), ss, iv row, iv abv, iv twv, jv (((co RR) <<< ((1 : Int32) &&& 0x3f).toInt64) &&& (mf 1)), ss, jv (FF (0 + 1)), ss, iv ((1 : Int32) + (1 : Int32)), jv (rf ((1 * (bd + 1)) + 0)), ss, jv (FF (0 + 1)), ss] []))
        refine own_of (fun tgt kon => XS.goto X20.here hx rfl (pc0 := 237) (pc' := 96) rfl (hb hby d7_237) (by decide) (by decide) kon) ?_
        show own_Wp _ _ _ _ (T20.setTop (mkF m 96 #[rv a1, iv (2 : Int32), iv p3, iv p4, jv (co RR), ss, iv row, iv abv, iv twv, jv (((co RR) <<< ((1 : Int32) &&& 0x3f).toInt64) &&& (mf 1)), ss, jv (FF (0 + 1)), ss, iv ((1 : Int32) + (1 : Int32)), jv (rf ((1 * (bd + 1)) + 0)), ss, jv (FF (0 + 1)), ss] []))
        rw [show ((1 : Int32) + (1 : Int32)) = Int32.ofNat (1 + 1) from rfl]
        have J96 : ∀ (nn : Nat) (T21 : State) (lc21 : List Loc) (h21 : Heap) (k : Nat) (z14 : Int64) (z16 : Int64), (Stand p l e ({ frames := 1, cells := 0, slots := 0, locals := 15 } : Room) s m #[(.ref a1), (.int (2 : Int32)), (.int p3), (.int p4)] below meth c T21 lc21 0 0) → (T21.heap = h21) → (Fr n0 lc21) → (n0 ≤ h21.size) → (Keep h0 h21 [ar, am]) → (Exa Z h21 a1 "com/example/close_words/closewords/BitRows") → (Fld Z h21 a1 "com/example/close_words/closewords/BitRows" "columnsOf" "[J" (.ref ao)) → (Fld Z h21 a1 "com/example/close_words/closewords/BitRows" "codePoints" "[I" (.ref ac)) → (Fld Z h21 a1 "com/example/close_words/closewords/BitRows" "matches" "[J" (.ref am)) → (Fld Z h21 a1 "com/example/close_words/closewords/BitRows" "rows" "[J" (.ref ar)) → (Fld Z h21 a1 "com/example/close_words/closewords/BitRows" "levels" "I" (.int lv)) → (Fld Z h21 a1 "com/example/close_words/closewords/BitRows" "columns" "J" (.long cols)) → (Fld Z h21 a1 "com/example/close_words/closewords/BitRows" "headBound" "I" (.int p5)) → (Fld Z h21 a1 "com/example/close_words/closewords/BitRows" "outsideHead" "J" (.long out)) → (own_Ar Z h21 ac .int 128 (fun k => .int (cp k))) → (own_Ar Z h21 ao .long 128 (fun k => .long (co k))) → (own_Ar Z h21 ar .long RL (fun y => .long (own_rk rf (2 * (bd + 1)) FF (k + 1) y))) → (own_Ar Z h21 am .long ML (fun k => .long (own_upd mf 2 (co RR) k))) → (k + 1 ≤ bd + 1) → (bd + 1 - k < nn) → own_Wp p.tables e below (own_K ({ frames := 1, cells := 0, slots := 0, locals := 15 } : Room) s below (Q_rmro2 Z a1 p3 p4 ac ao ar am cp co rf mf FF lv p5 cols out bd ph RL ML RR h0 n0)) (T21.setTop (mkF m 96 #[rv a1, iv (2 : Int32), iv p3, iv p4, jv (co RR), ss, iv row, iv abv, iv twv, jv (((co RR) <<< ((1 : Int32) &&& 0x3f).toInt64) &&& (mf 1)), ss, jv (FF k), ss, iv (Int32.ofNat (k + 1)), jv z14, ss, jv z16, ss] [])) := by
          clear K0 E_a1 F_columnsOf F_codePoints F_matches F_rows F_levels F_columns F_headBound F_outsideHead V_ac V_ao V_ar V_am Zs
          intro nn
          induction nn with
          | zero => intro T21 lc21 h21 k z14 z16 X21 e21 N21 Zs K0 E_a1 F_columnsOf F_codePoints F_matches F_rows F_levels F_columns F_headBound F_outsideHead V_ac V_ao V_ar V_am hk hmu; exact absurd hmu (Nat.not_lt_zero _)
          | succ nn ih =>
            skip
            intro T21 lc21 h21 k z14 z16 X21 e21 N21 Zs K0 E_a1 F_columnsOf F_codePoints F_matches F_rows F_levels F_columns F_headBound F_outsideHead V_ac V_ao V_ar V_am hk hmu
            refine own_of (fun tgt kon => XS.iload X21.here hx rfl (hb hby d7_96) rfl kon) ?_
            refine own_of (fun tgt kon => XS.aloadN X21.here hx rfl (hb hby d7_98) rfl rfl kon) ?_
            obtain ⟨T22, X22, e22, st22⟩ := getF X21 hx hZ hown (host := "") (Or.inl (ow hw 18 rfl)) Via.refl e21 F_levels (g := (mkF m 99 #[rv a1, iv (2 : Int32), iv p3, iv p4, jv (co RR), ss, iv row, iv abv, iv twv, jv (((co RR) <<< ((1 : Int32) &&& 0x3f).toInt64) &&& (mf 1)), ss, jv (FF k), ss, iv (Int32.ofNat (k + 1)), jv z14, ss, jv z16, ss] [(.ref a1), (.int (Int32.ofNat (k + 1)))])) rfl rfl (hb hby d7_99)
            refine own_of st22 ?_
            clear st22
            by_cases hc102_2 : (Int32.ofNat (k + 1)) < lv
            · skip
              refine own_of (fun tgt kon => XS.icmpNo X22.here hx rfl (hb hby d7_102) rfl (tlt hc102_2).2.1 kon) ?_
              show own_Wp _ _ _ _ (T22.setTop (mkF m 105 #[rv a1, iv (2 : Int32), iv p3, iv p4, jv (co RR), ss, iv row, iv abv, iv twv, jv (((co RR) <<< ((1 : Int32) &&& 0x3f).toInt64) &&& (mf 1)), ss, jv (FF k), ss, iv (Int32.ofNat (k + 1)), jv z14, ss, jv z16, ss] []))
              have hlt : k + 1 < bd + 1 := by
                have q := hc102_2
                rw [Int32.lt_iff_toInt_lt, hlv] at q
                have q2 : (Int32.ofNat (k + 1)).toInt = ((k + 1 : Nat) : Int) := own_ofN (by omega)
                omega
              have t_d : (Int32.ofNat (k + 1)).toInt = ((k + 1 : Nat) : Int) := own_ofN (by omega)
              have l1 : (1 : Int32).toInt = 1 := by decide
              refine own_of (fun tgt kon => XS.aloadN X22.here hx rfl (hb hby d7_105) rfl rfl kon) ?_
              obtain ⟨T23, X23, e23, st23⟩ := getF X22 hx hZ hown (host := "") (Or.inl (ow hw 35 rfl)) Via.refl e22 F_rows (g := (mkF m 106 #[rv a1, iv (2 : Int32), iv p3, iv p4, jv (co RR), ss, iv row, iv abv, iv twv, jv (((co RR) <<< ((1 : Int32) &&& 0x3f).toInt64) &&& (mf 1)), ss, jv (FF k), ss, iv (Int32.ofNat (k + 1)), jv z14, ss, jv z16, ss] [(.ref a1)])) rfl rfl (hb hby d7_106)
              refine own_of st23 ?_
              clear st23
              refine own_of (fun tgt kon => XS.iload X23.here hx rfl (hb hby d7_109) rfl kon) ?_
              refine own_of (fun tgt kon => XS.iload X23.here hx rfl (hb hby d7_111) rfl kon) ?_
              refine own_of (fun tgt kon => XS.iadd X23.here hx rfl (hb hby d7_113) rfl kon) ?_
              show own_Wp _ _ _ _ (T23.setTop (mkF m 114 #[rv a1, iv (2 : Int32), iv p3, iv p4, jv (co RR), ss, iv row, iv abv, iv twv, jv (((co RR) <<< ((1 : Int32) &&& 0x3f).toInt64) &&& (mf 1)), ss, jv (FF k), ss, iv (Int32.ofNat (k + 1)), jv z14, ss, jv z16, ss] [(.int (abv + (Int32.ofNat (k + 1)))), (.ref ar)]))
              refine own_of (fun tgt kon => XS.iconst X23.here hx rfl (hb hby d7_114) kon) ?_
              refine own_of (fun tgt kon => XS.isub X23.here hx rfl (hb hby d7_115) rfl kon) ?_
              refine own_laload X23 hx hZ e23 V_ar (j := ((abv + (Int32.ofNat (k + 1))) - (1 : Int32))) (i := ((1 * (bd + 1)) + k)) (v := (rf ((1 * (bd + 1)) + k))) (by have q1 := own_addI t_ab t_d (by omega) (by omega); have q2 := own_subI q1 l1 (by omega) (by omega); omega) (by omega) (by show Value.long (own_rk _ _ _ _ _) = _; rw [own_rk_lt (by omega)]) rfl rfl (hb hby d7_116) ?_
              refine own_of (fun tgt kon => XS.lstore X23.here hx rfl (hb hby d7_117) rfl (l' := #[rv a1, iv (2 : Int32), iv p3, iv p4, jv (co RR), ss, iv row, iv abv, iv twv, jv (((co RR) <<< ((1 : Int32) &&& 0x3f).toInt64) &&& (mf 1)), ss, jv (FF k), ss, iv (Int32.ofNat (k + 1)), jv (rf ((1 * (bd + 1)) + k)), ss, jv z16, ss]) rfl kon) ?_
              refine own_of (fun tgt kon => XS.lload X23.here hx rfl (hb hby d7_119) rfl kon) ?_
              show own_Wp _ _ _ _ (T23.setTop (mkF m 121 #[rv a1, iv (2 : Int32), iv p3, iv p4, jv (co RR), ss, iv row, iv abv, iv twv, jv (((co RR) <<< ((1 : Int32) &&& 0x3f).toInt64) &&& (mf 1)), ss, jv (FF k), ss, iv (Int32.ofNat (k + 1)), jv (rf ((1 * (bd + 1)) + k)), ss, jv z16, ss] [(.long (co RR))]))
              refine own_of (fun tgt kon => XS.aloadN X23.here hx rfl (hb hby d7_121) rfl rfl kon) ?_
              obtain ⟨T24, X24, e24, st24⟩ := getF X23 hx hZ hown (host := "") (Or.inl (ow hw 35 rfl)) Via.refl e23 F_rows (g := (mkF m 122 #[rv a1, iv (2 : Int32), iv p3, iv p4, jv (co RR), ss, iv row, iv abv, iv twv, jv (((co RR) <<< ((1 : Int32) &&& 0x3f).toInt64) &&& (mf 1)), ss, jv (FF k), ss, iv (Int32.ofNat (k + 1)), jv (rf ((1 * (bd + 1)) + k)), ss, jv z16, ss] [(.ref a1), (.long (co RR))])) rfl rfl (hb hby d7_122)
              refine own_of st24 ?_
              clear st24
              refine own_of (fun tgt kon => XS.iload X24.here hx rfl (hb hby d7_125) rfl kon) ?_
              refine own_of (fun tgt kon => XS.iload X24.here hx rfl (hb hby d7_127) rfl kon) ?_
              refine own_of (fun tgt kon => XS.iadd X24.here hx rfl (hb hby d7_129) rfl kon) ?_
              show own_Wp _ _ _ _ (T24.setTop (mkF m 130 #[rv a1, iv (2 : Int32), iv p3, iv p4, jv (co RR), ss, iv row, iv abv, iv twv, jv (((co RR) <<< ((1 : Int32) &&& 0x3f).toInt64) &&& (mf 1)), ss, jv (FF k), ss, iv (Int32.ofNat (k + 1)), jv (rf ((1 * (bd + 1)) + k)), ss, jv z16, ss] [(.int (abv + (Int32.ofNat (k + 1)))), (.ref ar), (.long (co RR))]))
              refine own_laload X24 hx hZ e24 V_ar (j := (abv + (Int32.ofNat (k + 1)))) (i := ((1 * (bd + 1)) + (k + 1))) (v := (rf ((1 * (bd + 1)) + (k + 1)))) (by have q1 := own_addI t_ab t_d (by omega) (by omega); omega) (by omega) (by show Value.long (own_rk _ _ _ _ _) = _; rw [own_rk_lt (by omega)]) rfl rfl (hb hby d7_130) ?_
              refine own_of (fun tgt kon => XS.iconst X24.here hx rfl (hb hby d7_131) kon) ?_
              refine own_of (fun tgt kon => XS.lshl X24.here hx rfl (hb hby d7_132) rfl kon) ?_
              refine own_of (fun tgt kon => XS.land X24.here hx rfl (hb hby d7_133) rfl kon) ?_
              refine own_of (fun tgt kon => XS.lload X24.here hx rfl (hb hby d7_134) rfl kon) ?_
              show own_Wp _ _ _ _ (T24.setTop (mkF m 136 #[rv a1, iv (2 : Int32), iv p3, iv p4, jv (co RR), ss, iv row, iv abv, iv twv, jv (((co RR) <<< ((1 : Int32) &&& 0x3f).toInt64) &&& (mf 1)), ss, jv (FF k), ss, iv (Int32.ofNat (k + 1)), jv (rf ((1 * (bd + 1)) + k)), ss, jv z16, ss] [(.long (rf ((1 * (bd + 1)) + k))), (.long ((co RR) &&& ((rf ((1 * (bd + 1)) + (k + 1))) <<< ((1 : Int32) &&& 0x3f).toInt64)))]))
              refine own_of (fun tgt kon => XS.lor X24.here hx rfl (hb hby d7_136) rfl kon) ?_
              refine own_of (fun tgt kon => XS.lload X24.here hx rfl (hb hby d7_137) rfl kon) ?_
              refine own_of (fun tgt kon => XS.iconst X24.here hx rfl (hb hby d7_139) kon) ?_
              refine own_of (fun tgt kon => XS.lshl X24.here hx rfl (hb hby d7_140) rfl kon) ?_
              refine own_of (fun tgt kon => XS.lor X24.here hx rfl (hb hby d7_141) rfl kon) ?_
              show own_Wp _ _ _ _ (T24.setTop (mkF m 142 #[rv a1, iv (2 : Int32), iv p3, iv p4, jv (co RR), ss, iv row, iv abv, iv twv, jv (((co RR) <<< ((1 : Int32) &&& 0x3f).toInt64) &&& (mf 1)), ss, jv (FF k), ss, iv (Int32.ofNat (k + 1)), jv (rf ((1 * (bd + 1)) + k)), ss, jv z16, ss] [(.long ((((co RR) &&& ((rf ((1 * (bd + 1)) + (k + 1))) <<< ((1 : Int32) &&& 0x3f).toInt64)) ||| (rf ((1 * (bd + 1)) + k))) ||| ((rf ((1 * (bd + 1)) + k)) <<< ((1 : Int32) &&& 0x3f).toInt64)))]))
              refine own_of (fun tgt kon => XS.lload X24.here hx rfl (hb hby d7_142) rfl kon) ?_
              refine own_of (fun tgt kon => XS.iconst X24.here hx rfl (hb hby d7_144) kon) ?_
              refine own_of (fun tgt kon => XS.lshl X24.here hx rfl (hb hby d7_145) rfl kon) ?_
              refine own_of (fun tgt kon => XS.lor X24.here hx rfl (hb hby d7_146) rfl kon) ?_
              show own_Wp _ _ _ _ (T24.setTop (mkF m 147 #[rv a1, iv (2 : Int32), iv p3, iv p4, jv (co RR), ss, iv row, iv abv, iv twv, jv (((co RR) <<< ((1 : Int32) &&& 0x3f).toInt64) &&& (mf 1)), ss, jv (FF k), ss, iv (Int32.ofNat (k + 1)), jv (rf ((1 * (bd + 1)) + k)), ss, jv z16, ss] [(.long (((((co RR) &&& ((rf ((1 * (bd + 1)) + (k + 1))) <<< ((1 : Int32) &&& 0x3f).toInt64)) ||| (rf ((1 * (bd + 1)) + k))) ||| ((rf ((1 * (bd + 1)) + k)) <<< ((1 : Int32) &&& 0x3f).toInt64)) ||| ((FF k) <<< ((1 : Int32) &&& 0x3f).toInt64)))]))
              obtain ⟨r1_2, h_r1_2⟩ : ∃ q : Int64, q = (((((co RR) &&& ((rf ((1 * (bd + 1)) + (k + 1))) <<< ((1 : Int32) &&& 0x3f).toInt64)) ||| (rf ((1 * (bd + 1)) + k))) ||| ((rf ((1 * (bd + 1)) + k)) <<< ((1 : Int32) &&& 0x3f).toInt64)) ||| ((FF k) <<< ((1 : Int32) &&& 0x3f).toInt64)) := ⟨_, rfl⟩
              rw [← h_r1_2]
              refine own_of (fun tgt kon => XS.lstore X24.here hx rfl (hb hby d7_147) rfl (l' := #[rv a1, iv (2 : Int32), iv p3, iv p4, jv (co RR), ss, iv row, iv abv, iv twv, jv (((co RR) <<< ((1 : Int32) &&& 0x3f).toInt64) &&& (mf 1)), ss, jv (FF k), ss, iv (Int32.ofNat (k + 1)), jv (rf ((1 * (bd + 1)) + k)), ss, jv r1_2, ss]) rfl kon) ?_
              show own_Wp _ _ _ _ (T24.setTop (mkF m 149 #[rv a1, iv (2 : Int32), iv p3, iv p4, jv (co RR), ss, iv row, iv abv, iv twv, jv (((co RR) <<< ((1 : Int32) &&& 0x3f).toInt64) &&& (mf 1)), ss, jv (FF k), ss, iv (Int32.ofNat (k + 1)), jv (rf ((1 * (bd + 1)) + k)), ss, jv r1_2, ss] []))
              refine own_of (fun tgt kon => XS.lload X24.here hx rfl (hb hby d7_149) rfl kon) ?_
              refine own_of (fun tgt kon => XS.lconst X24.here hx rfl (hb hby d7_151) kon) ?_
              refine own_of (fun tgt kon => XS.lcmp X24.here hx rfl (hb hby d7_152) rfl kon) ?_
              show own_Wp _ _ _ _ (T24.setTop (mkF m 153 #[rv a1, iv (2 : Int32), iv p3, iv p4, jv (co RR), ss, iv row, iv abv, iv twv, jv (((co RR) <<< ((1 : Int32) &&& 0x3f).toInt64) &&& (mf 1)), ss, jv (FF k), ss, iv (Int32.ofNat (k + 1)), jv (rf ((1 * (bd + 1)) + k)), ss, jv r1_2, ss] [(.int (lcmpW (((co RR) <<< ((1 : Int32) &&& 0x3f).toInt64) &&& (mf 1)) (0 : Int64)))]))
              have J178 : ∀ (T25 : State) (lc25 : List Loc) (q2 : Int64), (Stand p l e ({ frames := 1, cells := 0, slots := 0, locals := 15 } : Room) s m #[(.ref a1), (.int (2 : Int32)), (.int p3), (.int p4)] below meth c T25 lc25 0 0) → (T25.heap = h21) → (Fr n0 lc25) → (q2 = if (((co RR) <<< ((1 : Int32) &&& 0x3f).toInt64) &&& (mf 1)) = 0 then r1_2 else r1_2 ||| ((((co RR) <<< ((1 : Int32) &&& 0x3f).toInt64) &&& (mf 1)) &&& ((rf ((0 * (bd + 1)) + k)) <<< ((2 : Int32) &&& 0x3f).toInt64))) → own_Wp p.tables e below (own_K ({ frames := 1, cells := 0, slots := 0, locals := 15 } : Room) s below (Q_rmro2 Z a1 p3 p4 ac ao ar am cp co rf mf FF lv p5 cols out bd ph RL ML RR h0 n0)) (T25.setTop (mkF m 178 #[rv a1, iv (2 : Int32), iv p3, iv p4, jv (co RR), ss, iv row, iv abv, iv twv, jv (((co RR) <<< ((1 : Int32) &&& 0x3f).toInt64) &&& (mf 1)), ss, jv (FF k), ss, iv (Int32.ofNat (k + 1)), jv (rf ((1 * (bd + 1)) + k)), ss, jv q2, ss] [])) := by
                intro T25 lc25 q2 X25 e25 N25 h_q2
                refine own_of (fun tgt kon => XS.lload X25.here hx rfl (hb hby d7_178) rfl kon) ?_
                refine own_of (fun tgt kon => XS.aloadN X25.here hx rfl (hb hby d7_180) rfl rfl kon) ?_
                obtain ⟨T26, X26, e26, st26⟩ := getF X25 hx hZ hown (host := "") (Or.inl (ow hw 23 rfl)) Via.refl e25 F_columns (g := (mkF m 181 #[rv a1, iv (2 : Int32), iv p3, iv p4, jv (co RR), ss, iv row, iv abv, iv twv, jv (((co RR) <<< ((1 : Int32) &&& 0x3f).toInt64) &&& (mf 1)), ss, jv (FF k), ss, iv (Int32.ofNat (k + 1)), jv (rf ((1 * (bd + 1)) + k)), ss, jv q2, ss] [(.ref a1), (.long q2)])) rfl rfl (hb hby d7_181)
                refine own_of st26 ?_
                clear st26
                refine own_of (fun tgt kon => XS.land X26.here hx rfl (hb hby d7_184) rfl kon) ?_
                refine own_of (fun tgt kon => XS.lstore X26.here hx rfl (hb hby d7_185) rfl (l' := #[rv a1, iv (2 : Int32), iv p3, iv p4, jv (co RR), ss, iv row, iv abv, iv twv, jv (((co RR) <<< ((1 : Int32) &&& 0x3f).toInt64) &&& (mf 1)), ss, jv (FF k), ss, iv (Int32.ofNat (k + 1)), jv (rf ((1 * (bd + 1)) + k)), ss, jv (q2 &&& cols), ss]) rfl kon) ?_
                show own_Wp _ _ _ _ (T26.setTop (mkF m 187 #[rv a1, iv (2 : Int32), iv p3, iv p4, jv (co RR), ss, iv row, iv abv, iv twv, jv (((co RR) <<< ((1 : Int32) &&& 0x3f).toInt64) &&& (mf 1)), ss, jv (FF k), ss, iv (Int32.ofNat (k + 1)), jv (rf ((1 * (bd + 1)) + k)), ss, jv (q2 &&& cols), ss] []))
                refine own_of (fun tgt kon => XS.iload X26.here hx rfl (hb hby d7_187) rfl kon) ?_
                refine own_of (fun tgt kon => XS.aloadN X26.here hx rfl (hb hby d7_189) rfl rfl kon) ?_
                obtain ⟨T27, X27, e27, st27⟩ := getF X26 hx hZ hown (host := "") (Or.inl (ow hw 16 rfl)) Via.refl e26 F_headBound (g := (mkF m 190 #[rv a1, iv (2 : Int32), iv p3, iv p4, jv (co RR), ss, iv row, iv abv, iv twv, jv (((co RR) <<< ((1 : Int32) &&& 0x3f).toInt64) &&& (mf 1)), ss, jv (FF k), ss, iv (Int32.ofNat (k + 1)), jv (rf ((1 * (bd + 1)) + k)), ss, jv (q2 &&& cols), ss] [(.ref a1), (.int (Int32.ofNat (k + 1)))])) rfl rfl (hb hby d7_190)
                refine own_of st27 ?_
                clear st27
                show own_Wp _ _ _ _ (T27.setTop (mkF m 193 #[rv a1, iv (2 : Int32), iv p3, iv p4, jv (co RR), ss, iv row, iv abv, iv twv, jv (((co RR) <<< ((1 : Int32) &&& 0x3f).toInt64) &&& (mf 1)), ss, jv (FF k), ss, iv (Int32.ofNat (k + 1)), jv (rf ((1 * (bd + 1)) + k)), ss, jv (q2 &&& cols), ss] [(.int p5), (.int (Int32.ofNat (k + 1)))]))
                have J218 : ∀ (T28 : State) (lc28 : List Loc) (q3 : Int64), (Stand p l e ({ frames := 1, cells := 0, slots := 0, locals := 15 } : Room) s m #[(.ref a1), (.int (2 : Int32)), (.int p3), (.int p4)] below meth c T28 lc28 0 0) → (T28.heap = h21) → (Fr n0 lc28) → (q3 = if ph < k + 1 then (q2 &&& cols) &&& ((FF ph) ||| out) else (q2 &&& cols)) → own_Wp p.tables e below (own_K ({ frames := 1, cells := 0, slots := 0, locals := 15 } : Room) s below (Q_rmro2 Z a1 p3 p4 ac ao ar am cp co rf mf FF lv p5 cols out bd ph RL ML RR h0 n0)) (T28.setTop (mkF m 218 #[rv a1, iv (2 : Int32), iv p3, iv p4, jv (co RR), ss, iv row, iv abv, iv twv, jv (((co RR) <<< ((1 : Int32) &&& 0x3f).toInt64) &&& (mf 1)), ss, jv (FF k), ss, iv (Int32.ofNat (k + 1)), jv (rf ((1 * (bd + 1)) + k)), ss, jv q3, ss] [])) := by
                  intro T28 lc28 q3 X28 e28 N28 h_q3
                  refine own_of (fun tgt kon => XS.aloadN X28.here hx rfl (hb hby d7_218) rfl rfl kon) ?_
                  obtain ⟨T29, X29, e29, st29⟩ := getF X28 hx hZ hown (host := "") (Or.inl (ow hw 35 rfl)) Via.refl e28 F_rows (g := (mkF m 219 #[rv a1, iv (2 : Int32), iv p3, iv p4, jv (co RR), ss, iv row, iv abv, iv twv, jv (((co RR) <<< ((1 : Int32) &&& 0x3f).toInt64) &&& (mf 1)), ss, jv (FF k), ss, iv (Int32.ofNat (k + 1)), jv (rf ((1 * (bd + 1)) + k)), ss, jv q3, ss] [(.ref a1)])) rfl rfl (hb hby d7_219)
                  refine own_of st29 ?_
                  clear st29
                  refine own_of (fun tgt kon => XS.iload X29.here hx rfl (hb hby d7_222) rfl kon) ?_
                  refine own_of (fun tgt kon => XS.iload X29.here hx rfl (hb hby d7_224) rfl kon) ?_
                  refine own_of (fun tgt kon => XS.iadd X29.here hx rfl (hb hby d7_226) rfl kon) ?_
                  show own_Wp _ _ _ _ (T29.setTop (mkF m 227 #[rv a1, iv (2 : Int32), iv p3, iv p4, jv (co RR), ss, iv row, iv abv, iv twv, jv (((co RR) <<< ((1 : Int32) &&& 0x3f).toInt64) &&& (mf 1)), ss, jv (FF k), ss, iv (Int32.ofNat (k + 1)), jv (rf ((1 * (bd + 1)) + k)), ss, jv q3, ss] [(.int (row + (Int32.ofNat (k + 1)))), (.ref ar)]))
                  refine own_of (fun tgt kon => XS.lload X29.here hx rfl (hb hby d7_227) rfl kon) ?_
                  obtain ⟨T30, h30, X30, e30, W30, Aq30, st30⟩ := own_stJ X29 hx hZ e29 V_ar (j := (row + (Int32.ofNat (k + 1)))) (i := ((2 * (bd + 1)) + (k + 1))) (x := q3) (by have q1 := own_addI t_row t_d (by omega) (by omega); omega) (by omega) (g := (mkF m 229 #[rv a1, iv (2 : Int32), iv p3, iv p4, jv (co RR), ss, iv row, iv abv, iv twv, jv (((co RR) <<< ((1 : Int32) &&& 0x3f).toInt64) &&& (mf 1)), ss, jv (FF k), ss, iv (Int32.ofNat (k + 1)), jv (rf ((1 * (bd + 1)) + k)), ss, jv q3, ss] [(.long q3), (.int (row + (Int32.ofNat (k + 1)))), (.ref ar)])) rfl rfl (hb hby d7_229)
                  refine own_of st30 ?_
                  clear st30
                  replace Zs := Nat.le_trans Zs (Keep.of_wr W30).1
                  replace K0 := K0.wr W30 (Or.inl (List.mem_of_getElem? (i := 0) rfl))
                  replace E_a1 := E_a1.wr W30
                  replace F_columnsOf := F_columnsOf.other W30 (Or.inl ne_a1_ar)
                  replace F_codePoints := F_codePoints.other W30 (Or.inl ne_a1_ar)
                  replace F_matches := F_matches.other W30 (Or.inl ne_a1_ar)
                  replace F_rows := F_rows.other W30 (Or.inl ne_a1_ar)
                  replace F_levels := F_levels.other W30 (Or.inl ne_a1_ar)
                  replace F_columns := F_columns.other W30 (Or.inl ne_a1_ar)
                  replace F_headBound := F_headBound.other W30 (Or.inl ne_a1_ar)
                  replace F_outsideHead := F_outsideHead.other W30 (Or.inl ne_a1_ar)
                  replace V_ac := V_ac.other W30 ne_ac_ar
                  replace V_ao := V_ao.other W30 ne_ao_ar
                  replace V_am := V_am.other W30 ne_am_ar
                  replace V_ar := Aq30
                  clear Aq30
                  have hst : q3 = FF (k + 1) := by
                    rw [hFs k]
                    dsimp only
                    rw [h_q3, h_q2, h_r1_2]
                  rw [hst] at V_ar ⊢
                  replace V_ar := V_ar.fn (f' := fun y => .long (own_rk rf (2 * (bd + 1)) FF (k + 1 + 1) y)) (fun y hy => (own_setJ _ _ _ y).trans (congrArg Value.long (own_setRk _ _ _ _ y)))
                  have N30 := Fr.snoc X30 N28 g_ar
                  refine own_of (fun tgt kon => XS.lload X30.here hx rfl (hb hby d7_230) rfl kon) ?_
                  refine own_of (fun tgt kon => XS.lstore X30.here hx rfl (hb hby d7_232) rfl (l' := #[rv a1, iv (2 : Int32), iv p3, iv p4, jv (co RR), ss, iv row, iv abv, iv twv, jv (((co RR) <<< ((1 : Int32) &&& 0x3f).toInt64) &&& (mf 1)), ss, jv (FF (k + 1)), ss, iv (Int32.ofNat (k + 1)), jv (rf ((1 * (bd + 1)) + k)), ss, jv (FF (k + 1)), ss]) rfl kon) ?_
                  refine own_of (fun tgt kon => XS.iinc X30.here hx rfl (hb hby d7_234) rfl (l' := #[rv a1, iv (2 : Int32), iv p3, iv p4, jv (co RR), ss, iv row, iv abv, iv twv, jv (((co RR) <<< ((1 : Int32) &&& 0x3f).toInt64) &&& (mf 1)), ss, jv (FF (k + 1)), ss, iv ((Int32.ofNat (k + 1)) + (1 : Int32)), jv (rf ((1 * (bd + 1)) + k)), ss, jv (FF (k + 1)), ss]) rfl kon) ?_
                  show own_Wp _ _ _ _ (T30.setTop (mkF m 237 #[rv a1, iv (2 : Int32), iv p3, iv p4, jv (co RR), ss, iv row, iv abv, iv twv, jv (((co RR) <<< ((1 : Int32) &&& 0x3f).toInt64) &&& (mf 1)), ss, jv (FF (k + 1)), ss, iv ((Int32.ofNat (k + 1)) + (1 : Int32)), jv (rf ((1 * (bd + 1)) + k)), ss, jv (FF (k + 1)), ss] []))
                  refine own_of (fun tgt kon => XS.goto X30.here hx rfl (pc0 := 237) (pc' := 96) rfl (hb hby d7_237) (by decide) (by decide) kon) ?_
                  show own_Wp _ _ _ _ (T30.setTop (mkF m 96 #[rv a1, iv (2 : Int32), iv p3, iv p4, jv (co RR), ss, iv row, iv abv, iv twv, jv (((co RR) <<< ((1 : Int32) &&& 0x3f).toInt64) &&& (mf 1)), ss, jv (FF (k + 1)), ss, iv ((Int32.ofNat (k + 1)) + (1 : Int32)), jv (rf ((1 * (bd + 1)) + k)), ss, jv (FF (k + 1)), ss] []))
                  rw [own_succ]
                  exact ih T30 _ _ (k + 1) ((rf ((1 * (bd + 1)) + k))) ((FF (k + 1))) X30 e30 N30 Zs K0 E_a1 F_columnsOf F_codePoints F_matches F_rows F_levels F_columns F_headBound F_outsideHead V_ac V_ao V_ar V_am (by omega) (by omega)
                show own_Wp _ _ _ _ (T27.setTop (mkF m 193 #[rv a1, iv (2 : Int32), iv p3, iv p4, jv (co RR), ss, iv row, iv abv, iv twv, jv (((co RR) <<< ((1 : Int32) &&& 0x3f).toInt64) &&& (mf 1)), ss, jv (FF k), ss, iv (Int32.ofNat (k + 1)), jv (rf ((1 * (bd + 1)) + k)), ss, jv (q2 &&& cols), ss] [(.int p5), (.int (Int32.ofNat (k + 1)))]))
                by_cases hc193 : p5 < (Int32.ofNat (k + 1))
                · skip
                  refine own_of (fun tgt kon => XS.icmpNo X27.here hx rfl (hb hby d7_193) rfl (tlt hc193).2.2.2 kon) ?_
                  show own_Wp _ _ _ _ (T27.setTop (mkF m 196 #[rv a1, iv (2 : Int32), iv p3, iv p4, jv (co RR), ss, iv row, iv abv, iv twv, jv (((co RR) <<< ((1 : Int32) &&& 0x3f).toInt64) &&& (mf 1)), ss, jv (FF k), ss, iv (Int32.ofNat (k + 1)), jv (rf ((1 * (bd + 1)) + k)), ss, jv (q2 &&& cols), ss] []))
                  have hlb : ph < k + 1 := by
                    have q := hc193
                    rw [Int32.lt_iff_toInt_lt, hhb, t_d] at q
                    omega
                  refine own_of (fun tgt kon => XS.lload X27.here hx rfl (hb hby d7_196) rfl kon) ?_
                  refine own_of (fun tgt kon => XS.aloadN X27.here hx rfl (hb hby d7_198) rfl rfl kon) ?_
                  obtain ⟨T31, X31, e31, st31⟩ := getF X27 hx hZ hown (host := "") (Or.inl (ow hw 35 rfl)) Via.refl e27 F_rows (g := (mkF m 199 #[rv a1, iv (2 : Int32), iv p3, iv p4, jv (co RR), ss, iv row, iv abv, iv twv, jv (((co RR) <<< ((1 : Int32) &&& 0x3f).toInt64) &&& (mf 1)), ss, jv (FF k), ss, iv (Int32.ofNat (k + 1)), jv (rf ((1 * (bd + 1)) + k)), ss, jv (q2 &&& cols), ss] [(.ref a1), (.long (q2 &&& cols))])) rfl rfl (hb hby d7_199)
                  refine own_of st31 ?_
                  clear st31
                  refine own_of (fun tgt kon => XS.iload X31.here hx rfl (hb hby d7_202) rfl kon) ?_
                  refine own_of (fun tgt kon => XS.aloadN X31.here hx rfl (hb hby d7_204) rfl rfl kon) ?_
                  show own_Wp _ _ _ _ (T31.setTop (mkF m 205 #[rv a1, iv (2 : Int32), iv p3, iv p4, jv (co RR), ss, iv row, iv abv, iv twv, jv (((co RR) <<< ((1 : Int32) &&& 0x3f).toInt64) &&& (mf 1)), ss, jv (FF k), ss, iv (Int32.ofNat (k + 1)), jv (rf ((1 * (bd + 1)) + k)), ss, jv (q2 &&& cols), ss] [(.ref a1), (.int row), (.ref ar), (.long (q2 &&& cols))]))
                  obtain ⟨T32, X32, e32, st32⟩ := getF X31 hx hZ hown (host := "") (Or.inl (ow hw 16 rfl)) Via.refl e31 F_headBound (g := (mkF m 205 #[rv a1, iv (2 : Int32), iv p3, iv p4, jv (co RR), ss, iv row, iv abv, iv twv, jv (((co RR) <<< ((1 : Int32) &&& 0x3f).toInt64) &&& (mf 1)), ss, jv (FF k), ss, iv (Int32.ofNat (k + 1)), jv (rf ((1 * (bd + 1)) + k)), ss, jv (q2 &&& cols), ss] [(.ref a1), (.int row), (.ref ar), (.long (q2 &&& cols))])) rfl rfl (hb hby d7_205)
                  refine own_of st32 ?_
                  clear st32
                  refine own_of (fun tgt kon => XS.iadd X32.here hx rfl (hb hby d7_208) rfl kon) ?_
                  refine own_laload X32 hx hZ e32 V_ar (j := (row + p5)) (i := ((2 * (bd + 1)) + ph)) (v := (FF ph)) (by have q1 := own_addI t_row hhb (by omega) (by omega); omega) (by omega) (by show Value.long (own_rk _ _ _ _ _) = _; rw [own_rk_in (by omega)]) rfl rfl (hb hby d7_209) ?_
                  refine own_of (fun tgt kon => XS.aloadN X32.here hx rfl (hb hby d7_210) rfl rfl kon) ?_
                  obtain ⟨T33, X33, e33, st33⟩ := getF X32 hx hZ hown (host := "") (Or.inl (ow hw 28 rfl)) Via.refl e32 F_outsideHead (g := (mkF m 211 #[rv a1, iv (2 : Int32), iv p3, iv p4, jv (co RR), ss, iv row, iv abv, iv twv, jv (((co RR) <<< ((1 : Int32) &&& 0x3f).toInt64) &&& (mf 1)), ss, jv (FF k), ss, iv (Int32.ofNat (k + 1)), jv (rf ((1 * (bd + 1)) + k)), ss, jv (q2 &&& cols), ss] [(.ref a1), (.long (FF ph)), (.long (q2 &&& cols))])) rfl rfl (hb hby d7_211)
                  refine own_of st33 ?_
                  clear st33
                  show own_Wp _ _ _ _ (T33.setTop (mkF m 214 #[rv a1, iv (2 : Int32), iv p3, iv p4, jv (co RR), ss, iv row, iv abv, iv twv, jv (((co RR) <<< ((1 : Int32) &&& 0x3f).toInt64) &&& (mf 1)), ss, jv (FF k), ss, iv (Int32.ofNat (k + 1)), jv (rf ((1 * (bd + 1)) + k)), ss, jv (q2 &&& cols), ss] [(.long out), (.long (FF ph)), (.long (q2 &&& cols))]))
                  refine own_of (fun tgt kon => XS.lor X33.here hx rfl (hb hby d7_214) rfl kon) ?_
                  refine own_of (fun tgt kon => XS.land X33.here hx rfl (hb hby d7_215) rfl kon) ?_
                  refine own_of (fun tgt kon => XS.lstore X33.here hx rfl (hb hby d7_216) rfl (l' := #[rv a1, iv (2 : Int32), iv p3, iv p4, jv (co RR), ss, iv row, iv abv, iv twv, jv (((co RR) <<< ((1 : Int32) &&& 0x3f).toInt64) &&& (mf 1)), ss, jv (FF k), ss, iv (Int32.ofNat (k + 1)), jv (rf ((1 * (bd + 1)) + k)), ss, jv ((q2 &&& cols) &&& ((FF ph) ||| out)), ss]) rfl kon) ?_
                  show own_Wp _ _ _ _ (T33.setTop (mkF m 218 #[rv a1, iv (2 : Int32), iv p3, iv p4, jv (co RR), ss, iv row, iv abv, iv twv, jv (((co RR) <<< ((1 : Int32) &&& 0x3f).toInt64) &&& (mf 1)), ss, jv (FF k), ss, iv (Int32.ofNat (k + 1)), jv (rf ((1 * (bd + 1)) + k)), ss, jv ((q2 &&& cols) &&& ((FF ph) ||| out)), ss] []))
                  exact J218 T33 _ (((q2 &&& cols) &&& ((FF ph) ||| out))) X33 e33 N25 (by exact (if_pos hlb).symm)
                · skip
                  refine own_of (fun tgt kon => XS.icmpYes X27.here hx rfl (pc0 := 193) (pc' := 218) rfl (hb hby d7_193) rfl (flt hc193).2.2.2 (by decide) (by decide) kon) ?_
                  show own_Wp _ _ _ _ (T27.setTop (mkF m 218 #[rv a1, iv (2 : Int32), iv p3, iv p4, jv (co RR), ss, iv row, iv abv, iv twv, jv (((co RR) <<< ((1 : Int32) &&& 0x3f).toInt64) &&& (mf 1)), ss, jv (FF k), ss, iv (Int32.ofNat (k + 1)), jv (rf ((1 * (bd + 1)) + k)), ss, jv (q2 &&& cols), ss] []))
                  exact J218 T27 _ ((q2 &&& cols)) X27 e27 N25 (by exact (if_neg (fun q => hc193 (by rw [Int32.lt_iff_toInt_lt, hhb, t_d]; omega))).symm)
              show own_Wp _ _ _ _ (T24.setTop (mkF m 153 #[rv a1, iv (2 : Int32), iv p3, iv p4, jv (co RR), ss, iv row, iv abv, iv twv, jv (((co RR) <<< ((1 : Int32) &&& 0x3f).toInt64) &&& (mf 1)), ss, jv (FF k), ss, iv (Int32.ofNat (k + 1)), jv (rf ((1 * (bd + 1)) + k)), ss, jv r1_2, ss] [(.int (lcmpW (((co RR) <<< ((1 : Int32) &&& 0x3f).toInt64) &&& (mf 1)) (0 : Int64)))]))
              by_cases hc153 : (lcmpW (((co RR) <<< ((1 : Int32) &&& 0x3f).toInt64) &&& (mf 1)) (0 : Int64)) = (0 : Int32)
              · skip
                refine own_of (fun tgt kon => XS.ifYes X24.here hx rfl (pc0 := 153) (pc' := 178) rfl (hb hby d7_153) rfl ((if0 _ _).trans (teq hc153).1) (by decide) (by decide) kon) ?_
                show own_Wp _ _ _ _ (T24.setTop (mkF m 178 #[rv a1, iv (2 : Int32), iv p3, iv p4, jv (co RR), ss, iv row, iv abv, iv twv, jv (((co RR) <<< ((1 : Int32) &&& 0x3f).toInt64) &&& (mf 1)), ss, jv (FF k), ss, iv (Int32.ofNat (k + 1)), jv (rf ((1 * (bd + 1)) + k)), ss, jv r1_2, ss] []))
                exact J178 T24 _ (r1_2) X24 e24 N21 (by exact (if_pos ((own_lc0 _).mp hc153)).symm)
              · skip
                refine own_of (fun tgt kon => XS.ifNo X24.here hx rfl (hb hby d7_153) rfl ((if0 _ _).trans (feq hc153).1) kon) ?_
                refine own_of (fun tgt kon => XS.lload X24.here hx rfl (hb hby d7_156) rfl kon) ?_
                refine own_of (fun tgt kon => XS.lload X24.here hx rfl (hb hby d7_158) rfl kon) ?_
                refine own_of (fun tgt kon => XS.aloadN X24.here hx rfl (hb hby d7_160) rfl rfl kon) ?_
                obtain ⟨T34, X34, e34, st34⟩ := getF X24 hx hZ hown (host := "") (Or.inl (ow hw 35 rfl)) Via.refl e24 F_rows (g := (mkF m 161 #[rv a1, iv (2 : Int32), iv p3, iv p4, jv (co RR), ss, iv row, iv abv, iv twv, jv (((co RR) <<< ((1 : Int32) &&& 0x3f).toInt64) &&& (mf 1)), ss, jv (FF k), ss, iv (Int32.ofNat (k + 1)), jv (rf ((1 * (bd + 1)) + k)), ss, jv r1_2, ss] [(.ref a1), (.long (((co RR) <<< ((1 : Int32) &&& 0x3f).toInt64) &&& (mf 1))), (.long r1_2)])) rfl rfl (hb hby d7_161)
                refine own_of st34 ?_
                clear st34
                show own_Wp _ _ _ _ (T34.setTop (mkF m 164 #[rv a1, iv (2 : Int32), iv p3, iv p4, jv (co RR), ss, iv row, iv abv, iv twv, jv (((co RR) <<< ((1 : Int32) &&& 0x3f).toInt64) &&& (mf 1)), ss, jv (FF k), ss, iv (Int32.ofNat (k + 1)), jv (rf ((1 * (bd + 1)) + k)), ss, jv r1_2, ss] [(.ref ar), (.long (((co RR) <<< ((1 : Int32) &&& 0x3f).toInt64) &&& (mf 1))), (.long r1_2)]))
                refine own_of (fun tgt kon => XS.iload X34.here hx rfl (hb hby d7_164) rfl kon) ?_
                refine own_of (fun tgt kon => XS.iload X34.here hx rfl (hb hby d7_166) rfl kon) ?_
                refine own_of (fun tgt kon => XS.iadd X34.here hx rfl (hb hby d7_168) rfl kon) ?_
                refine own_of (fun tgt kon => XS.iconst X34.here hx rfl (hb hby d7_169) kon) ?_
                refine own_of (fun tgt kon => XS.isub X34.here hx rfl (hb hby d7_170) rfl kon) ?_
                show own_Wp _ _ _ _ (T34.setTop (mkF m 171 #[rv a1, iv (2 : Int32), iv p3, iv p4, jv (co RR), ss, iv row, iv abv, iv twv, jv (((co RR) <<< ((1 : Int32) &&& 0x3f).toInt64) &&& (mf 1)), ss, jv (FF k), ss, iv (Int32.ofNat (k + 1)), jv (rf ((1 * (bd + 1)) + k)), ss, jv r1_2, ss] [(.int ((twv + (Int32.ofNat (k + 1))) - (1 : Int32))), (.ref ar), (.long (((co RR) <<< ((1 : Int32) &&& 0x3f).toInt64) &&& (mf 1))), (.long r1_2)]))
                refine own_laload X34 hx hZ e34 V_ar (j := ((twv + (Int32.ofNat (k + 1))) - (1 : Int32))) (i := ((0 * (bd + 1)) + k)) (v := (rf ((0 * (bd + 1)) + k))) (by have q1 := own_addI t_tw t_d (by omega) (by omega); have q2 := own_subI q1 l1 (by omega) (by omega); omega) (by omega) (by show Value.long (own_rk _ _ _ _ _) = _; rw [own_rk_lt (by omega)]) rfl rfl (hb hby d7_171) ?_
                refine own_of (fun tgt kon => XS.iconst X34.here hx rfl (hb hby d7_172) kon) ?_
                refine own_of (fun tgt kon => XS.lshl X34.here hx rfl (hb hby d7_173) rfl kon) ?_
                refine own_of (fun tgt kon => XS.land X34.here hx rfl (hb hby d7_174) rfl kon) ?_
                refine own_of (fun tgt kon => XS.lor X34.here hx rfl (hb hby d7_175) rfl kon) ?_
                show own_Wp _ _ _ _ (T34.setTop (mkF m 176 #[rv a1, iv (2 : Int32), iv p3, iv p4, jv (co RR), ss, iv row, iv abv, iv twv, jv (((co RR) <<< ((1 : Int32) &&& 0x3f).toInt64) &&& (mf 1)), ss, jv (FF k), ss, iv (Int32.ofNat (k + 1)), jv (rf ((1 * (bd + 1)) + k)), ss, jv r1_2, ss] [(.long (r1_2 ||| ((((co RR) <<< ((1 : Int32) &&& 0x3f).toInt64) &&& (mf 1)) &&& ((rf ((0 * (bd + 1)) + k)) <<< ((2 : Int32) &&& 0x3f).toInt64))))]))
                refine own_of (fun tgt kon => XS.lstore X34.here hx rfl (hb hby d7_176) rfl (l' := #[rv a1, iv (2 : Int32), iv p3, iv p4, jv (co RR), ss, iv row, iv abv, iv twv, jv (((co RR) <<< ((1 : Int32) &&& 0x3f).toInt64) &&& (mf 1)), ss, jv (FF k), ss, iv (Int32.ofNat (k + 1)), jv (rf ((1 * (bd + 1)) + k)), ss, jv (r1_2 ||| ((((co RR) <<< ((1 : Int32) &&& 0x3f).toInt64) &&& (mf 1)) &&& ((rf ((0 * (bd + 1)) + k)) <<< ((2 : Int32) &&& 0x3f).toInt64))), ss]) rfl kon) ?_
                show own_Wp _ _ _ _ (T34.setTop (mkF m 178 #[rv a1, iv (2 : Int32), iv p3, iv p4, jv (co RR), ss, iv row, iv abv, iv twv, jv (((co RR) <<< ((1 : Int32) &&& 0x3f).toInt64) &&& (mf 1)), ss, jv (FF k), ss, iv (Int32.ofNat (k + 1)), jv (rf ((1 * (bd + 1)) + k)), ss, jv (r1_2 ||| ((((co RR) <<< ((1 : Int32) &&& 0x3f).toInt64) &&& (mf 1)) &&& ((rf ((0 * (bd + 1)) + k)) <<< ((2 : Int32) &&& 0x3f).toInt64))), ss] []))
                exact J178 T34 _ ((r1_2 ||| ((((co RR) <<< ((1 : Int32) &&& 0x3f).toInt64) &&& (mf 1)) &&& ((rf ((0 * (bd + 1)) + k)) <<< ((2 : Int32) &&& 0x3f).toInt64)))) X34 e34 N21 (by exact (if_neg (fun q => hc153 ((own_lc0 _).mpr q))).symm)
            · skip
              refine own_of (fun tgt kon => XS.icmpYes X22.here hx rfl (pc0 := 102) (pc' := 240) rfl (hb hby d7_102) rfl (flt hc102_2).2.1 (by decide) (by decide) kon) ?_
              refine own_of (fun tgt kon => XS.lload X22.here hx rfl (hb hby d7_240) rfl kon) ?_
              show own_Wp _ _ _ _ (T22.setTop (mkF m 242 #[rv a1, iv (2 : Int32), iv p3, iv p4, jv (co RR), ss, iv row, iv abv, iv twv, jv (((co RR) <<< ((1 : Int32) &&& 0x3f).toInt64) &&& (mf 1)), ss, jv (FF k), ss, iv (Int32.ofNat (k + 1)), jv z14, ss, jv z16, ss] [(.long (FF k))]))
              refine own_of (fun tgt kon => XS.lconst X22.here hx rfl (hb hby d7_242) kon) ?_
              refine own_of (fun tgt kon => XS.lcmp X22.here hx rfl (hb hby d7_243) rfl kon) ?_
              by_cases hc244 : (lcmpW (FF k) (0 : Int64)) = (0 : Int32)
              · skip
                refine own_of (fun tgt kon => XS.ifYes X22.here hx rfl (pc0 := 244) (pc' := 251) rfl (hb hby d7_244) rfl ((if0 _ _).trans (teq hc244).1) (by decide) (by decide) kon) ?_
                refine own_of (fun tgt kon => XS.iconst X22.here hx rfl (hb hby d7_251) kon) ?_
                show own_Wp _ _ _ _ (T22.setTop (mkF m 252 #[rv a1, iv (2 : Int32), iv p3, iv p4, jv (co RR), ss, iv row, iv abv, iv twv, jv (((co RR) <<< ((1 : Int32) &&& 0x3f).toInt64) &&& (mf 1)), ss, jv (FF k), ss, iv (Int32.ofNat (k + 1)), jv z14, ss, jv z16, ss] [(.int (0 : Int32))]))
                refine own_ret X22 hlk (some (.int (0 : Int32))) (own_rtI hrt) (fun fs hr => retN X22 hx (t := .boolean) hrt (by simp) (hb hby d7_252) hr) ?_ (by decide) (by decide)
                rw [e22]
                have hge : k = bd := by
                  have q := hc102_2
                  rw [Int32.lt_iff_toInt_lt, hlv, own_ofN (by omega)] at q
                  omega
                subst hge
                refine ⟨?_, N21, K0, V_ar, V_am⟩
                rw [if_pos ((own_lc0 _).mp hc244)]
              · skip
                refine own_of (fun tgt kon => XS.ifNo X22.here hx rfl (hb hby d7_244) rfl ((if0 _ _).trans (feq hc244).1) kon) ?_
                refine own_of (fun tgt kon => XS.iconst X22.here hx rfl (hb hby d7_247) kon) ?_
                refine own_of (fun tgt kon => XS.goto X22.here hx rfl (pc0 := 248) (pc' := 252) rfl (hb hby d7_248) (by decide) (by decide) kon) ?_
                show own_Wp _ _ _ _ (T22.setTop (mkF m 252 #[rv a1, iv (2 : Int32), iv p3, iv p4, jv (co RR), ss, iv row, iv abv, iv twv, jv (((co RR) <<< ((1 : Int32) &&& 0x3f).toInt64) &&& (mf 1)), ss, jv (FF k), ss, iv (Int32.ofNat (k + 1)), jv z14, ss, jv z16, ss] [(.int (1 : Int32))]))
                refine own_ret X22 hlk (some (.int (1 : Int32))) (own_rtI hrt) (fun fs hr => retN X22 hx (t := .boolean) hrt (by simp) (hb hby d7_252) hr) ?_ (by decide) (by decide)
                rw [e22]
                have hge : k = bd := by
                  have q := hc102_2
                  rw [Int32.lt_iff_toInt_lt, hlv, own_ofN (by omega)] at q
                  omega
                subst hge
                refine ⟨?_, N21, K0, V_ar, V_am⟩
                rw [if_neg (fun q => hc244 ((own_lc0 _).mpr q))]
        show own_Wp _ _ _ _ (T20.setTop (mkF m 96 #[rv a1, iv (2 : Int32), iv p3, iv p4, jv (co RR), ss, iv row, iv abv, iv twv, jv (((co RR) <<< ((1 : Int32) &&& 0x3f).toInt64) &&& (mf 1)), ss, jv (FF (0 + 1)), ss, iv (Int32.ofNat (1 + 1)), jv (rf ((1 * (bd + 1)) + 0)), ss, jv (FF (0 + 1)), ss] []))
        exact J96 _ T20 _ _ (1) ((rf ((1 * (bd + 1)) + 0))) ((FF (0 + 1))) X20 e20 N20 Zs K0 E_a1 F_columnsOf F_codePoints F_matches F_rows F_levels F_columns F_headBound F_outsideHead V_ac V_ao V_ar V_am (by omega) (Nat.lt_succ_self _)
      show own_Wp _ _ _ _ (T17.setTop (mkF m 193 #[rv a1, iv (2 : Int32), iv p3, iv p4, jv (co RR), ss, iv row, iv abv, iv twv, jv (((co RR) <<< ((1 : Int32) &&& 0x3f).toInt64) &&& (mf 1)), ss, jv (FF 0), ss, iv (1 : Int32), jv (rf ((1 * (bd + 1)) + 0)), ss, jv (q2 &&& cols), ss] [(.int p5), (.int (1 : Int32))]))
      by_cases hc193 : p5 < (1 : Int32)
      · skip
        refine own_of (fun tgt kon => XS.icmpNo X17.here hx rfl (hb hby d7_193) rfl (tlt hc193).2.2.2 kon) ?_
        show own_Wp _ _ _ _ (T17.setTop (mkF m 196 #[rv a1, iv (2 : Int32), iv p3, iv p4, jv (co RR), ss, iv row, iv abv, iv twv, jv (((co RR) <<< ((1 : Int32) &&& 0x3f).toInt64) &&& (mf 1)), ss, jv (FF 0), ss, iv (1 : Int32), jv (rf ((1 * (bd + 1)) + 0)), ss, jv (q2 &&& cols), ss] []))
        have hlb : ph < 0 + 1 := by
          have q := hc193
          rw [Int32.lt_iff_toInt_lt, hhb, t_d] at q
          omega
        refine own_of (fun tgt kon => XS.lload X17.here hx rfl (hb hby d7_196) rfl kon) ?_
        refine own_of (fun tgt kon => XS.aloadN X17.here hx rfl (hb hby d7_198) rfl rfl kon) ?_
        obtain ⟨T35, X35, e35, st35⟩ := getF X17 hx hZ hown (host := "") (Or.inl (ow hw 35 rfl)) Via.refl e17 F_rows (g := (mkF m 199 #[rv a1, iv (2 : Int32), iv p3, iv p4, jv (co RR), ss, iv row, iv abv, iv twv, jv (((co RR) <<< ((1 : Int32) &&& 0x3f).toInt64) &&& (mf 1)), ss, jv (FF 0), ss, iv (1 : Int32), jv (rf ((1 * (bd + 1)) + 0)), ss, jv (q2 &&& cols), ss] [(.ref a1), (.long (q2 &&& cols))])) rfl rfl (hb hby d7_199)
        refine own_of st35 ?_
        clear st35
        refine own_of (fun tgt kon => XS.iload X35.here hx rfl (hb hby d7_202) rfl kon) ?_
        refine own_of (fun tgt kon => XS.aloadN X35.here hx rfl (hb hby d7_204) rfl rfl kon) ?_
        show own_Wp _ _ _ _ (T35.setTop (mkF m 205 #[rv a1, iv (2 : Int32), iv p3, iv p4, jv (co RR), ss, iv row, iv abv, iv twv, jv (((co RR) <<< ((1 : Int32) &&& 0x3f).toInt64) &&& (mf 1)), ss, jv (FF 0), ss, iv (1 : Int32), jv (rf ((1 * (bd + 1)) + 0)), ss, jv (q2 &&& cols), ss] [(.ref a1), (.int row), (.ref ar), (.long (q2 &&& cols))]))
        obtain ⟨T36, X36, e36, st36⟩ := getF X35 hx hZ hown (host := "") (Or.inl (ow hw 16 rfl)) Via.refl e35 F_headBound (g := (mkF m 205 #[rv a1, iv (2 : Int32), iv p3, iv p4, jv (co RR), ss, iv row, iv abv, iv twv, jv (((co RR) <<< ((1 : Int32) &&& 0x3f).toInt64) &&& (mf 1)), ss, jv (FF 0), ss, iv (1 : Int32), jv (rf ((1 * (bd + 1)) + 0)), ss, jv (q2 &&& cols), ss] [(.ref a1), (.int row), (.ref ar), (.long (q2 &&& cols))])) rfl rfl (hb hby d7_205)
        refine own_of st36 ?_
        clear st36
        refine own_of (fun tgt kon => XS.iadd X36.here hx rfl (hb hby d7_208) rfl kon) ?_
        refine own_laload X36 hx hZ e36 V_ar (j := (row + p5)) (i := ((2 * (bd + 1)) + ph)) (v := (FF ph)) (by have q1 := own_addI t_row hhb (by omega) (by omega); omega) (by omega) (by show Value.long (own_rk _ _ _ _ _) = _; rw [own_rk_in (by omega)]) rfl rfl (hb hby d7_209) ?_
        refine own_of (fun tgt kon => XS.aloadN X36.here hx rfl (hb hby d7_210) rfl rfl kon) ?_
        obtain ⟨T37, X37, e37, st37⟩ := getF X36 hx hZ hown (host := "") (Or.inl (ow hw 28 rfl)) Via.refl e36 F_outsideHead (g := (mkF m 211 #[rv a1, iv (2 : Int32), iv p3, iv p4, jv (co RR), ss, iv row, iv abv, iv twv, jv (((co RR) <<< ((1 : Int32) &&& 0x3f).toInt64) &&& (mf 1)), ss, jv (FF 0), ss, iv (1 : Int32), jv (rf ((1 * (bd + 1)) + 0)), ss, jv (q2 &&& cols), ss] [(.ref a1), (.long (FF ph)), (.long (q2 &&& cols))])) rfl rfl (hb hby d7_211)
        refine own_of st37 ?_
        clear st37
        show own_Wp _ _ _ _ (T37.setTop (mkF m 214 #[rv a1, iv (2 : Int32), iv p3, iv p4, jv (co RR), ss, iv row, iv abv, iv twv, jv (((co RR) <<< ((1 : Int32) &&& 0x3f).toInt64) &&& (mf 1)), ss, jv (FF 0), ss, iv (1 : Int32), jv (rf ((1 * (bd + 1)) + 0)), ss, jv (q2 &&& cols), ss] [(.long out), (.long (FF ph)), (.long (q2 &&& cols))]))
        refine own_of (fun tgt kon => XS.lor X37.here hx rfl (hb hby d7_214) rfl kon) ?_
        refine own_of (fun tgt kon => XS.land X37.here hx rfl (hb hby d7_215) rfl kon) ?_
        refine own_of (fun tgt kon => XS.lstore X37.here hx rfl (hb hby d7_216) rfl (l' := #[rv a1, iv (2 : Int32), iv p3, iv p4, jv (co RR), ss, iv row, iv abv, iv twv, jv (((co RR) <<< ((1 : Int32) &&& 0x3f).toInt64) &&& (mf 1)), ss, jv (FF 0), ss, iv (1 : Int32), jv (rf ((1 * (bd + 1)) + 0)), ss, jv ((q2 &&& cols) &&& ((FF ph) ||| out)), ss]) rfl kon) ?_
        show own_Wp _ _ _ _ (T37.setTop (mkF m 218 #[rv a1, iv (2 : Int32), iv p3, iv p4, jv (co RR), ss, iv row, iv abv, iv twv, jv (((co RR) <<< ((1 : Int32) &&& 0x3f).toInt64) &&& (mf 1)), ss, jv (FF 0), ss, iv (1 : Int32), jv (rf ((1 * (bd + 1)) + 0)), ss, jv ((q2 &&& cols) &&& ((FF ph) ||| out)), ss] []))
        exact J218 T37 _ (((q2 &&& cols) &&& ((FF ph) ||| out))) X37 e37 N15 (by exact (if_pos hlb).symm)
      · skip
        refine own_of (fun tgt kon => XS.icmpYes X17.here hx rfl (pc0 := 193) (pc' := 218) rfl (hb hby d7_193) rfl (flt hc193).2.2.2 (by decide) (by decide) kon) ?_
        show own_Wp _ _ _ _ (T17.setTop (mkF m 218 #[rv a1, iv (2 : Int32), iv p3, iv p4, jv (co RR), ss, iv row, iv abv, iv twv, jv (((co RR) <<< ((1 : Int32) &&& 0x3f).toInt64) &&& (mf 1)), ss, jv (FF 0), ss, iv (1 : Int32), jv (rf ((1 * (bd + 1)) + 0)), ss, jv (q2 &&& cols), ss] []))
        exact J218 T17 _ ((q2 &&& cols)) X17 e17 N15 (by exact (if_neg (fun q => hc193 (by rw [Int32.lt_iff_toInt_lt, hhb, t_d]; omega))).symm)
    show own_Wp _ _ _ _ (T14.setTop (mkF m 153 #[rv a1, iv (2 : Int32), iv p3, iv p4, jv (co RR), ss, iv row, iv abv, iv twv, jv (((co RR) <<< ((1 : Int32) &&& 0x3f).toInt64) &&& (mf 1)), ss, jv (FF 0), ss, iv (1 : Int32), jv (rf ((1 * (bd + 1)) + 0)), ss, jv r1, ss] [(.int (lcmpW (((co RR) <<< ((1 : Int32) &&& 0x3f).toInt64) &&& (mf 1)) (0 : Int64)))]))
    by_cases hc153 : (lcmpW (((co RR) <<< ((1 : Int32) &&& 0x3f).toInt64) &&& (mf 1)) (0 : Int64)) = (0 : Int32)
    · skip
      refine own_of (fun tgt kon => XS.ifYes X14.here hx rfl (pc0 := 153) (pc' := 178) rfl (hb hby d7_153) rfl ((if0 _ _).trans (teq hc153).1) (by decide) (by decide) kon) ?_
      show own_Wp _ _ _ _ (T14.setTop (mkF m 178 #[rv a1, iv (2 : Int32), iv p3, iv p4, jv (co RR), ss, iv row, iv abv, iv twv, jv (((co RR) <<< ((1 : Int32) &&& 0x3f).toInt64) &&& (mf 1)), ss, jv (FF 0), ss, iv (1 : Int32), jv (rf ((1 * (bd + 1)) + 0)), ss, jv r1, ss] []))
      exact J178 T14 _ (r1) X14 e14 N11 (by exact (if_pos ((own_lc0 _).mp hc153)).symm)
    · skip
      refine own_of (fun tgt kon => XS.ifNo X14.here hx rfl (hb hby d7_153) rfl ((if0 _ _).trans (feq hc153).1) kon) ?_
      refine own_of (fun tgt kon => XS.lload X14.here hx rfl (hb hby d7_156) rfl kon) ?_
      refine own_of (fun tgt kon => XS.lload X14.here hx rfl (hb hby d7_158) rfl kon) ?_
      refine own_of (fun tgt kon => XS.aloadN X14.here hx rfl (hb hby d7_160) rfl rfl kon) ?_
      obtain ⟨T38, X38, e38, st38⟩ := getF X14 hx hZ hown (host := "") (Or.inl (ow hw 35 rfl)) Via.refl e14 F_rows (g := (mkF m 161 #[rv a1, iv (2 : Int32), iv p3, iv p4, jv (co RR), ss, iv row, iv abv, iv twv, jv (((co RR) <<< ((1 : Int32) &&& 0x3f).toInt64) &&& (mf 1)), ss, jv (FF 0), ss, iv (1 : Int32), jv (rf ((1 * (bd + 1)) + 0)), ss, jv r1, ss] [(.ref a1), (.long (((co RR) <<< ((1 : Int32) &&& 0x3f).toInt64) &&& (mf 1))), (.long r1)])) rfl rfl (hb hby d7_161)
      refine own_of st38 ?_
      clear st38
      show own_Wp _ _ _ _ (T38.setTop (mkF m 164 #[rv a1, iv (2 : Int32), iv p3, iv p4, jv (co RR), ss, iv row, iv abv, iv twv, jv (((co RR) <<< ((1 : Int32) &&& 0x3f).toInt64) &&& (mf 1)), ss, jv (FF 0), ss, iv (1 : Int32), jv (rf ((1 * (bd + 1)) + 0)), ss, jv r1, ss] [(.ref ar), (.long (((co RR) <<< ((1 : Int32) &&& 0x3f).toInt64) &&& (mf 1))), (.long r1)]))
      refine own_of (fun tgt kon => XS.iload X38.here hx rfl (hb hby d7_164) rfl kon) ?_
      refine own_of (fun tgt kon => XS.iload X38.here hx rfl (hb hby d7_166) rfl kon) ?_
      refine own_of (fun tgt kon => XS.iadd X38.here hx rfl (hb hby d7_168) rfl kon) ?_
      refine own_of (fun tgt kon => XS.iconst X38.here hx rfl (hb hby d7_169) kon) ?_
      refine own_of (fun tgt kon => XS.isub X38.here hx rfl (hb hby d7_170) rfl kon) ?_
      show own_Wp _ _ _ _ (T38.setTop (mkF m 171 #[rv a1, iv (2 : Int32), iv p3, iv p4, jv (co RR), ss, iv row, iv abv, iv twv, jv (((co RR) <<< ((1 : Int32) &&& 0x3f).toInt64) &&& (mf 1)), ss, jv (FF 0), ss, iv (1 : Int32), jv (rf ((1 * (bd + 1)) + 0)), ss, jv r1, ss] [(.int ((twv + (1 : Int32)) - (1 : Int32))), (.ref ar), (.long (((co RR) <<< ((1 : Int32) &&& 0x3f).toInt64) &&& (mf 1))), (.long r1)]))
      refine own_laload X38 hx hZ e38 V_ar (j := ((twv + (1 : Int32)) - (1 : Int32))) (i := ((0 * (bd + 1)) + 0)) (v := (rf ((0 * (bd + 1)) + 0))) (by have q1 := own_addI t_tw t_d (by omega) (by omega); have q2 := own_subI q1 l1 (by omega) (by omega); omega) (by omega) (by show Value.long (own_rk _ _ _ _ _) = _; rw [own_rk_lt (by omega)]) rfl rfl (hb hby d7_171) ?_
      refine own_of (fun tgt kon => XS.iconst X38.here hx rfl (hb hby d7_172) kon) ?_
      refine own_of (fun tgt kon => XS.lshl X38.here hx rfl (hb hby d7_173) rfl kon) ?_
      refine own_of (fun tgt kon => XS.land X38.here hx rfl (hb hby d7_174) rfl kon) ?_
      refine own_of (fun tgt kon => XS.lor X38.here hx rfl (hb hby d7_175) rfl kon) ?_
      show own_Wp _ _ _ _ (T38.setTop (mkF m 176 #[rv a1, iv (2 : Int32), iv p3, iv p4, jv (co RR), ss, iv row, iv abv, iv twv, jv (((co RR) <<< ((1 : Int32) &&& 0x3f).toInt64) &&& (mf 1)), ss, jv (FF 0), ss, iv (1 : Int32), jv (rf ((1 * (bd + 1)) + 0)), ss, jv r1, ss] [(.long (r1 ||| ((((co RR) <<< ((1 : Int32) &&& 0x3f).toInt64) &&& (mf 1)) &&& ((rf ((0 * (bd + 1)) + 0)) <<< ((2 : Int32) &&& 0x3f).toInt64))))]))
      refine own_of (fun tgt kon => XS.lstore X38.here hx rfl (hb hby d7_176) rfl (l' := #[rv a1, iv (2 : Int32), iv p3, iv p4, jv (co RR), ss, iv row, iv abv, iv twv, jv (((co RR) <<< ((1 : Int32) &&& 0x3f).toInt64) &&& (mf 1)), ss, jv (FF 0), ss, iv (1 : Int32), jv (rf ((1 * (bd + 1)) + 0)), ss, jv (r1 ||| ((((co RR) <<< ((1 : Int32) &&& 0x3f).toInt64) &&& (mf 1)) &&& ((rf ((0 * (bd + 1)) + 0)) <<< ((2 : Int32) &&& 0x3f).toInt64))), ss]) rfl kon) ?_
      show own_Wp _ _ _ _ (T38.setTop (mkF m 178 #[rv a1, iv (2 : Int32), iv p3, iv p4, jv (co RR), ss, iv row, iv abv, iv twv, jv (((co RR) <<< ((1 : Int32) &&& 0x3f).toInt64) &&& (mf 1)), ss, jv (FF 0), ss, iv (1 : Int32), jv (rf ((1 * (bd + 1)) + 0)), ss, jv (r1 ||| ((((co RR) <<< ((1 : Int32) &&& 0x3f).toInt64) &&& (mf 1)) &&& ((rf ((0 * (bd + 1)) + 0)) <<< ((2 : Int32) &&& 0x3f).toInt64))), ss] []))
      exact J178 T38 _ ((r1 ||| ((((co RR) <<< ((1 : Int32) &&& 0x3f).toInt64) &&& (mf 1)) &&& ((rf ((0 * (bd + 1)) + 0)) <<< ((2 : Int32) &&& 0x3f).toInt64)))) X38 e38 N11 (by exact (if_neg (fun q => hc153 ((own_lc0 _).mpr q))).symm)
  · skip
    refine own_of (fun tgt kon => XS.icmpYes X12.here hx rfl (pc0 := 102) (pc' := 240) rfl (hb hby d7_102) rfl (flt hc102).2.1 (by decide) (by decide) kon) ?_
    refine own_of (fun tgt kon => XS.lload X12.here hx rfl (hb hby d7_240) rfl kon) ?_
    show own_Wp _ _ _ _ (T12.setTop (mkF m 242 #[rv a1, iv (2 : Int32), iv p3, iv p4, jv (co RR), ss, iv row, iv abv, iv twv, jv (((co RR) <<< ((1 : Int32) &&& 0x3f).toInt64) &&& (mf 1)), ss, jv (FF 0), ss, iv (1 : Int32), uu, uu, uu, uu] [(.long (FF 0))]))
    refine own_of (fun tgt kon => XS.lconst X12.here hx rfl (hb hby d7_242) kon) ?_
    refine own_of (fun tgt kon => XS.lcmp X12.here hx rfl (hb hby d7_243) rfl kon) ?_
    by_cases hc244 : (lcmpW (FF 0) (0 : Int64)) = (0 : Int32)
    · skip
      refine own_of (fun tgt kon => XS.ifYes X12.here hx rfl (pc0 := 244) (pc' := 251) rfl (hb hby d7_244) rfl ((if0 _ _).trans (teq hc244).1) (by decide) (by decide) kon) ?_
      refine own_of (fun tgt kon => XS.iconst X12.here hx rfl (hb hby d7_251) kon) ?_
      show own_Wp _ _ _ _ (T12.setTop (mkF m 252 #[rv a1, iv (2 : Int32), iv p3, iv p4, jv (co RR), ss, iv row, iv abv, iv twv, jv (((co RR) <<< ((1 : Int32) &&& 0x3f).toInt64) &&& (mf 1)), ss, jv (FF 0), ss, iv (1 : Int32), uu, uu, uu, uu] [(.int (0 : Int32))]))
      refine own_ret X12 hlk (some (.int (0 : Int32))) (own_rtI hrt) (fun fs hr => retN X12 hx (t := .boolean) hrt (by simp) (hb hby d7_252) hr) ?_ (by decide) (by decide)
      rw [e12]
      have hge : bd = 0 := by
        have q := hc102
        rw [Int32.lt_iff_toInt_lt, hlv, show (1 : Int32).toInt = 1 from by decide] at q
        omega
      subst hge
      refine ⟨?_, N11, K0, V_ar, V_am⟩
      rw [if_pos ((own_lc0 _).mp hc244)]
    · skip
      refine own_of (fun tgt kon => XS.ifNo X12.here hx rfl (hb hby d7_244) rfl ((if0 _ _).trans (feq hc244).1) kon) ?_
      refine own_of (fun tgt kon => XS.iconst X12.here hx rfl (hb hby d7_247) kon) ?_
      refine own_of (fun tgt kon => XS.goto X12.here hx rfl (pc0 := 248) (pc' := 252) rfl (hb hby d7_248) (by decide) (by decide) kon) ?_
      show own_Wp _ _ _ _ (T12.setTop (mkF m 252 #[rv a1, iv (2 : Int32), iv p3, iv p4, jv (co RR), ss, iv row, iv abv, iv twv, jv (((co RR) <<< ((1 : Int32) &&& 0x3f).toInt64) &&& (mf 1)), ss, jv (FF 0), ss, iv (1 : Int32), uu, uu, uu, uu] [(.int (1 : Int32))]))
      refine own_ret X12 hlk (some (.int (1 : Int32))) (own_rtI hrt) (fun fs hr => retN X12 hx (t := .boolean) hrt (by simp) (hb hby d7_252) hr) ?_ (by decide) (by decide)
      rw [e12]
      have hge : bd = 0 := by
        have q := hc102
        rw [Int32.lt_iff_toInt_lt, hlv, show (1 : Int32).toInt = 1 from by decide] at q
        omega
      subst hge
      refine ⟨?_, N11, K0, V_ar, V_am⟩
      rw [if_neg (fun q => hc244 ((own_lc0 _).mpr q))]
theorem d9_0 : decode prog_6_method_3_code 0 = .ok (.iload_n 1, 1) := by decide +kernel
theorem d9_1 : decode prog_6_method_3_code 1 = .ok (.aload_n 0, 1) := by decide +kernel
theorem d9_2 : decode prog_6_method_3_code 2 = .ok (.getfield 18, 3) := by decide +kernel
theorem d9_5 : decode prog_6_method_3_code 5 = .ok (.imul, 1) := by decide +kernel
theorem d9_6 : decode prog_6_method_3_code 6 = .ok (.istore_n 2, 1) := by decide +kernel
theorem d9_7 : decode prog_6_method_3_code 7 = .ok (.aload_n 0, 1) := by decide +kernel
theorem d9_8 : decode prog_6_method_3_code 8 = .ok (.getfield 45, 3) := by decide +kernel
theorem d9_11 : decode prog_6_method_3_code 11 = .ok (.iload_n 2, 1) := by decide +kernel
theorem d9_12 : decode prog_6_method_3_code 12 = .ok (.aload_n 0, 1) := by decide +kernel
theorem d9_13 : decode prog_6_method_3_code 13 = .ok (.getfield 9, 3) := by decide +kernel
theorem d9_16 : decode prog_6_method_3_code 16 = .ok (.iadd, 1) := by decide +kernel
theorem d9_17 : decode prog_6_method_3_code 17 = .ok (.laload, 1) := by decide +kernel
theorem d9_18 : decode prog_6_method_3_code 18 = .ok (.aload_n 0, 1) := by decide +kernel
theorem d9_19 : decode prog_6_method_3_code 19 = .ok (.getfield 29, 3) := by decide +kernel
theorem d9_22 : decode prog_6_method_3_code 22 = .ok (.land, 1) := by decide +kernel
theorem d9_23 : decode prog_6_method_3_code 23 = .ok (.lconst 0, 1) := by decide +kernel
theorem d9_24 : decode prog_6_method_3_code 24 = .ok (.lcmp, 1) := by decide +kernel
theorem d9_25 : decode prog_6_method_3_code 25 = .ok (.ifCond .ne 5, 3) := by decide +kernel
theorem d9_28 : decode prog_6_method_3_code 28 = .ok (.iconst (-1), 1) := by decide +kernel
theorem d9_29 : decode prog_6_method_3_code 29 = .ok (.ireturn, 1) := by decide +kernel
theorem d9_30 : decode prog_6_method_3_code 30 = .ok (.iconst 0, 1) := by decide +kernel
theorem d9_31 : decode prog_6_method_3_code 31 = .ok (.istore_n 3, 1) := by decide +kernel
theorem d9_32 : decode prog_6_method_3_code 32 = .ok (.aload_n 0, 1) := by decide +kernel
theorem d9_33 : decode prog_6_method_3_code 33 = .ok (.getfield 45, 3) := by decide +kernel
theorem d9_36 : decode prog_6_method_3_code 36 = .ok (.iload_n 2, 1) := by decide +kernel
theorem d9_37 : decode prog_6_method_3_code 37 = .ok (.iload_n 3, 1) := by decide +kernel
theorem d9_38 : decode prog_6_method_3_code 38 = .ok (.iadd, 1) := by decide +kernel
theorem d9_39 : decode prog_6_method_3_code 39 = .ok (.laload, 1) := by decide +kernel
theorem d9_40 : decode prog_6_method_3_code 40 = .ok (.aload_n 0, 1) := by decide +kernel
theorem d9_41 : decode prog_6_method_3_code 41 = .ok (.getfield 29, 3) := by decide +kernel
theorem d9_44 : decode prog_6_method_3_code 44 = .ok (.land, 1) := by decide +kernel
theorem d9_45 : decode prog_6_method_3_code 45 = .ok (.lconst 0, 1) := by decide +kernel
theorem d9_46 : decode prog_6_method_3_code 46 = .ok (.lcmp, 1) := by decide +kernel
theorem d9_47 : decode prog_6_method_3_code 47 = .ok (.ifCond .ne 9, 3) := by decide +kernel
theorem d9_50 : decode prog_6_method_3_code 50 = .ok (.iinc 3 1, 3) := by decide +kernel
theorem d9_53 : decode prog_6_method_3_code 53 = .ok (.goto (-21), 3) := by decide +kernel
theorem d9_56 : decode prog_6_method_3_code 56 = .ok (.iload_n 3, 1) := by decide +kernel
theorem d9_57 : decode prog_6_method_3_code 57 = .ok (.ireturn, 1) := by decide +kernel
def Q_rmdi0 (Z : State) (a1 : Addr) (ar : Addr) (rf : Nat → Int64) (lv : Int32) (p3 : Int32) (last : Int64) (bd : Nat) (RL : Nat) (D : Nat) (r : Int32) (h0 : Heap) (n0 : Nat) (v : Option Value) (h : Heap) (L : List Loc) : Prop := v = some (.int r) ∧ Fr n0 L ∧ h = h0
set_option maxRecDepth 65536 in
set_option maxHeartbeats 40000000 in
theorem rmdi0 (l : Launch) (Z : State) (a0 : Array Value) (hw : ∀ d ∈ tables_1, d.before a0 Z = true) (ws : List Jvm.Cond) (a1 : Addr) (ar : Addr) (rf : Nat → Int64) (lv : Int32) (p3 : Int32) (last : Int64) (bd : Nat) (RL : Nat) (D : Nat) (r : Int32) (h0 : Heap) (n0 : Nat) (Z0 : n0 ≤ h0.size) (F_levels : Fld Z h0 a1 "com/example/close_words/closewords/BitRows" "levels" "I" (.int lv)) (F_rows : Fld Z h0 a1 "com/example/close_words/closewords/BitRows" "rows" "[J" (.ref ar)) (F_bound : Fld Z h0 a1 "com/example/close_words/closewords/BitRows" "bound" "I" (.int p3)) (F_lastColumn : Fld Z h0 a1 "com/example/close_words/closewords/BitRows" "lastColumn" "J" (.long last)) (V_ar : own_Ar Z h0 ar .long RL (fun k => .long (rf k))) (hlv : lv.toInt = ((bd + 1 : Nat) : Int)) (hbd : p3.toInt = (bd : Int)) (hbd63 : bd ≤ 63) (hRLi : 1 * (bd + 1) ≤ RL) (hDz : ((rf ((0 * (bd + 1)) + bd)) &&& last) = 0 → r = -1) (hDn : ¬ ((rf ((0 * (bd + 1)) + bd)) &&& last) = 0 → D ≤ bd ∧ ¬ ((rf ((0 * (bd + 1)) + D)) &&& last) = 0 ∧ r.toInt = (D : Int)) (hDl : ∀ k, k < D → k ≤ bd → ((rf ((0 * (bd + 1)) + k)) &&& last) = 0) :
    own_Ctr l Z (⟨"com/example/close_words/closewords/BitRows", "distance", "(I)I"⟩ : MethodName) prog_6_method_3_code 4 (some .int) ws ({ frames := 0, cells := 0, slots := 0, locals := 0 } : Room) #[(.ref a1), (.int (0 : Int32))] h0 (Q_rmdi0 Z a1 ar rf lv p3 last bd RL D r h0 n0) := by
  refine own_enter (plainFor_of_name own_pn0) ?_
  intro p e s m below meth c s₁ X0 hx hby hml hrt hlk hZ hown hnm e0
  have N0 := Fr.nil n0
  have Zs := Z0
  rw [show entryFrame m #[(.ref a1), (.int (0 : Int32))] 4 = mkF m 0 #[rv a1, iv (0 : Int32), uu, uu] [] from by first | (simp [entryFrame, mkF, argsToLocals, Value.category]; done) | rfl]
  show own_Wp _ _ _ _ (s₁.setTop (mkF m 0 #[rv a1, iv (0 : Int32), uu, uu] []))
  refine own_of (fun tgt kon => XS.iloadN X0.here hx rfl (hb hby d9_0) rfl kon) ?_
  refine own_of (fun tgt kon => XS.aloadN X0.here hx rfl (hb hby d9_1) rfl rfl kon) ?_
  obtain ⟨T1, X1, e1, st1⟩ := getF X0 hx hZ hown (host := "") (Or.inl (ow hw 18 rfl)) Via.refl e0 F_levels (g := (mkF m 2 #[rv a1, iv (0 : Int32), uu, uu] [(.ref a1), (.int (0 : Int32))])) rfl rfl (hb hby d9_2)
  refine own_of st1 ?_
  clear st1
  refine own_of (fun tgt kon => XS.imul X1.here hx rfl (hb hby d9_5) rfl kon) ?_
  show own_Wp _ _ _ _ (T1.setTop (mkF m 6 #[rv a1, iv (0 : Int32), uu, uu] [(.int ((0 : Int32) * lv))]))
  obtain ⟨row, h_row⟩ : ∃ q : Int32, q = ((0 : Int32) * lv) := ⟨_, rfl⟩
  rw [← h_row]
  refine own_of (fun tgt kon => XS.istoreN X1.here hx rfl (hb hby d9_6) rfl (l' := #[rv a1, iv (0 : Int32), iv row, uu]) rfl kon) ?_
  show own_Wp _ _ _ _ (T1.setTop (mkF m 7 #[rv a1, iv (0 : Int32), iv row, uu] []))
  have t_row : row.toInt = ((0 * (bd + 1) : Nat) : Int) := by
    rw [h_row, Jvm.Kit.i32_mul (by rw [show (0 : Int32).toInt = 0 from by decide, hlv]; omega) (by rw [show (0 : Int32).toInt = 0 from by decide, hlv]; omega), show (0 : Int32).toInt = 0 from by decide, hlv]
    omega
  refine own_of (fun tgt kon => XS.aloadN X1.here hx rfl (hb hby d9_7) rfl rfl kon) ?_
  obtain ⟨T2, X2, e2, st2⟩ := getF X1 hx hZ hown (host := "") (Or.inl (ow hw 35 rfl)) Via.refl e1 F_rows (g := (mkF m 8 #[rv a1, iv (0 : Int32), iv row, uu] [(.ref a1)])) rfl rfl (hb hby d9_8)
  refine own_of st2 ?_
  clear st2
  refine own_of (fun tgt kon => XS.iloadN X2.here hx rfl (hb hby d9_11) rfl kon) ?_
  refine own_of (fun tgt kon => XS.aloadN X2.here hx rfl (hb hby d9_12) rfl rfl kon) ?_
  obtain ⟨T3, X3, e3, st3⟩ := getF X2 hx hZ hown (host := "") (Or.inl (ow hw 14 rfl)) Via.refl e2 F_bound (g := (mkF m 13 #[rv a1, iv (0 : Int32), iv row, uu] [(.ref a1), (.int row), (.ref ar)])) rfl rfl (hb hby d9_13)
  refine own_of st3 ?_
  clear st3
  show own_Wp _ _ _ _ (T3.setTop (mkF m 16 #[rv a1, iv (0 : Int32), iv row, uu] [(.int p3), (.int row), (.ref ar)]))
  refine own_of (fun tgt kon => XS.iadd X3.here hx rfl (hb hby d9_16) rfl kon) ?_
  refine own_laload X3 hx hZ e3 V_ar (j := (row + p3)) (i := ((0 * (bd + 1)) + bd)) (v := (rf ((0 * (bd + 1)) + bd))) (by have q1 := own_addI t_row hbd (by omega) (by omega); omega) (by omega) rfl rfl rfl (hb hby d9_17) ?_
  refine own_of (fun tgt kon => XS.aloadN X3.here hx rfl (hb hby d9_18) rfl rfl kon) ?_
  obtain ⟨T4, X4, e4, st4⟩ := getF X3 hx hZ hown (host := "") (Or.inl (ow hw 25 rfl)) Via.refl e3 F_lastColumn (g := (mkF m 19 #[rv a1, iv (0 : Int32), iv row, uu] [(.ref a1), (.long (rf ((0 * (bd + 1)) + bd)))])) rfl rfl (hb hby d9_19)
  refine own_of st4 ?_
  clear st4
  refine own_of (fun tgt kon => XS.land X4.here hx rfl (hb hby d9_22) rfl kon) ?_
  show own_Wp _ _ _ _ (T4.setTop (mkF m 23 #[rv a1, iv (0 : Int32), iv row, uu] [(.long ((rf ((0 * (bd + 1)) + bd)) &&& last))]))
  refine own_of (fun tgt kon => XS.lconst X4.here hx rfl (hb hby d9_23) kon) ?_
  refine own_of (fun tgt kon => XS.lcmp X4.here hx rfl (hb hby d9_24) rfl kon) ?_
  by_cases hc25 : (lcmpW ((rf ((0 * (bd + 1)) + bd)) &&& last) (0 : Int64)) = (0 : Int32)
  · skip
    refine own_of (fun tgt kon => XS.ifNo X4.here hx rfl (hb hby d9_25) rfl ((if0 _ _).trans (teq hc25).2) kon) ?_
    refine own_of (fun tgt kon => XS.iconst X4.here hx rfl (hb hby d9_28) kon) ?_
    show own_Wp _ _ _ _ (T4.setTop (mkF m 29 #[rv a1, iv (0 : Int32), iv row, uu] [(.int (-1 : Int32))]))
    refine own_ret X4 hlk (some (.int (-1 : Int32))) (own_rtI hrt) (fun fs hr => own_retI X4 hx hrt (hb hby d9_29) hr) ?_ (by decide) (by decide)
    rw [e4]
    exact ⟨by rw [hDz ((own_lc0 _).mp hc25)], N0, rfl⟩
  · skip
    refine own_of (fun tgt kon => XS.ifYes X4.here hx rfl (pc0 := 25) (pc' := 30) rfl (hb hby d9_25) rfl ((if0 _ _).trans (feq hc25).2) (by decide) (by decide) kon) ?_
    show own_Wp _ _ _ _ (T4.setTop (mkF m 30 #[rv a1, iv (0 : Int32), iv row, uu] []))
    obtain ⟨hD1, hD2, hD3⟩ := hDn (fun q => hc25 ((own_lc0 _).mpr q))
    refine own_of (fun tgt kon => XS.iconst X4.here hx rfl (hb hby d9_30) kon) ?_
    refine own_of (fun tgt kon => XS.istoreN X4.here hx rfl (hb hby d9_31) rfl (l' := #[rv a1, iv (0 : Int32), iv row, iv (0 : Int32)]) rfl kon) ?_
    show own_Wp _ _ _ _ (T4.setTop (mkF m 32 #[rv a1, iv (0 : Int32), iv row, iv (0 : Int32)] []))
    have J32 : ∀ (nn : Nat) (T5 : State) (lc5 : List Loc) (k : Nat), (Stand p l e ({ frames := 0, cells := 0, slots := 0, locals := 0 } : Room) s m #[(.ref a1), (.int (0 : Int32))] below meth c T5 lc5 0 0) → (T5.heap = h0) → (Fr n0 lc5) → (k ≤ D) → (D - k < nn) → own_Wp p.tables e below (own_K ({ frames := 0, cells := 0, slots := 0, locals := 0 } : Room) s below (Q_rmdi0 Z a1 ar rf lv p3 last bd RL D r h0 n0)) (T5.setTop (mkF m 32 #[rv a1, iv (0 : Int32), iv row, iv (Int32.ofNat k)] [])) := by
      intro nn
      induction nn with
      | zero => intro T5 lc5 k X5 e5 N5 hk hmu; exact absurd hmu (Nat.not_lt_zero _)
      | succ nn ih =>
        intro T5 lc5 k X5 e5 N5 hk hmu
        refine own_of (fun tgt kon => XS.aloadN X5.here hx rfl (hb hby d9_32) rfl rfl kon) ?_
        obtain ⟨T6, X6, e6, st6⟩ := getF X5 hx hZ hown (host := "") (Or.inl (ow hw 35 rfl)) Via.refl e5 F_rows (g := (mkF m 33 #[rv a1, iv (0 : Int32), iv row, iv (Int32.ofNat k)] [(.ref a1)])) rfl rfl (hb hby d9_33)
        refine own_of st6 ?_
        clear st6
        refine own_of (fun tgt kon => XS.iloadN X6.here hx rfl (hb hby d9_36) rfl kon) ?_
        refine own_of (fun tgt kon => XS.iloadN X6.here hx rfl (hb hby d9_37) rfl kon) ?_
        refine own_of (fun tgt kon => XS.iadd X6.here hx rfl (hb hby d9_38) rfl kon) ?_
        show own_Wp _ _ _ _ (T6.setTop (mkF m 39 #[rv a1, iv (0 : Int32), iv row, iv (Int32.ofNat k)] [(.int (row + (Int32.ofNat k))), (.ref ar)]))
        refine own_laload X6 hx hZ e6 V_ar (j := (row + (Int32.ofNat k))) (i := ((0 * (bd + 1)) + k)) (v := (rf ((0 * (bd + 1)) + k))) (by have q1 := own_addI t_row (own_ofN (k := k) (by omega)) (by omega) (by omega); omega) (by omega) rfl rfl rfl (hb hby d9_39) ?_
        refine own_of (fun tgt kon => XS.aloadN X6.here hx rfl (hb hby d9_40) rfl rfl kon) ?_
        obtain ⟨T7, X7, e7, st7⟩ := getF X6 hx hZ hown (host := "") (Or.inl (ow hw 25 rfl)) Via.refl e6 F_lastColumn (g := (mkF m 41 #[rv a1, iv (0 : Int32), iv row, iv (Int32.ofNat k)] [(.ref a1), (.long (rf ((0 * (bd + 1)) + k)))])) rfl rfl (hb hby d9_41)
        refine own_of st7 ?_
        clear st7
        refine own_of (fun tgt kon => XS.land X7.here hx rfl (hb hby d9_44) rfl kon) ?_
        refine own_of (fun tgt kon => XS.lconst X7.here hx rfl (hb hby d9_45) kon) ?_
        show own_Wp _ _ _ _ (T7.setTop (mkF m 46 #[rv a1, iv (0 : Int32), iv row, iv (Int32.ofNat k)] [(.long (0 : Int64)), (.long ((rf ((0 * (bd + 1)) + k)) &&& last))]))
        refine own_of (fun tgt kon => XS.lcmp X7.here hx rfl (hb hby d9_46) rfl kon) ?_
        by_cases hc47 : (lcmpW ((rf ((0 * (bd + 1)) + k)) &&& last) (0 : Int64)) = (0 : Int32)
        · skip
          refine own_of (fun tgt kon => XS.ifNo X7.here hx rfl (hb hby d9_47) rfl ((if0 _ _).trans (teq hc47).2) kon) ?_
          refine own_of (fun tgt kon => XS.iinc X7.here hx rfl (hb hby d9_50) rfl (l' := #[rv a1, iv (0 : Int32), iv row, iv ((Int32.ofNat k) + (1 : Int32))]) rfl kon) ?_
          refine own_of (fun tgt kon => XS.goto X7.here hx rfl (pc0 := 53) (pc' := 32) rfl (hb hby d9_53) (by decide) (by decide) kon) ?_
          show own_Wp _ _ _ _ (T7.setTop (mkF m 32 #[rv a1, iv (0 : Int32), iv row, iv ((Int32.ofNat k) + (1 : Int32))] []))
          have hkD : k ≠ D := by
            intro q
            subst q
            exact hD2 ((own_lc0 _).mp hc47)
          rw [own_succ]
          exact ih T7 _ (k + 1) X7 e7 N5 (by omega) (by omega)
        · skip
          refine own_of (fun tgt kon => XS.ifYes X7.here hx rfl (pc0 := 47) (pc' := 56) rfl (hb hby d9_47) rfl ((if0 _ _).trans (feq hc47).2) (by decide) (by decide) kon) ?_
          refine own_of (fun tgt kon => XS.iloadN X7.here hx rfl (hb hby d9_56) rfl kon) ?_
          show own_Wp _ _ _ _ (T7.setTop (mkF m 57 #[rv a1, iv (0 : Int32), iv row, iv (Int32.ofNat k)] [(.int (Int32.ofNat k))]))
          refine own_ret X7 hlk (some (.int (Int32.ofNat k))) (own_rtI hrt) (fun fs hr => own_retI X7 hx hrt (hb hby d9_57) hr) ?_ (by decide) (by decide)
          rw [e7]
          have e : k = D := by
            apply Decidable.byContradiction
            intro q
            exact hc47 ((own_lc0 _).mpr (hDl k (by omega) (by omega)))
          subst e
          exact ⟨by rw [show r = Int32.ofNat k from Int32.toInt_inj.mp (hD3.trans (own_ofN (by omega)).symm)], N5, rfl⟩
    show own_Wp _ _ _ _ (T4.setTop (mkF m 32 #[rv a1, iv (0 : Int32), iv row, iv (0 : Int32)] []))
    exact J32 _ T4 _ (0) X4 e4 N0 (by omega) (Nat.lt_succ_self _)
def Q_rmdi1 (Z : State) (a1 : Addr) (ar : Addr) (rf : Nat → Int64) (lv : Int32) (p3 : Int32) (last : Int64) (bd : Nat) (RL : Nat) (D : Nat) (r : Int32) (h0 : Heap) (n0 : Nat) (v : Option Value) (h : Heap) (L : List Loc) : Prop := v = some (.int r) ∧ Fr n0 L ∧ h = h0
set_option maxRecDepth 65536 in
set_option maxHeartbeats 40000000 in
theorem rmdi1 (l : Launch) (Z : State) (a0 : Array Value) (hw : ∀ d ∈ tables_1, d.before a0 Z = true) (ws : List Jvm.Cond) (a1 : Addr) (ar : Addr) (rf : Nat → Int64) (lv : Int32) (p3 : Int32) (last : Int64) (bd : Nat) (RL : Nat) (D : Nat) (r : Int32) (h0 : Heap) (n0 : Nat) (Z0 : n0 ≤ h0.size) (F_levels : Fld Z h0 a1 "com/example/close_words/closewords/BitRows" "levels" "I" (.int lv)) (F_rows : Fld Z h0 a1 "com/example/close_words/closewords/BitRows" "rows" "[J" (.ref ar)) (F_bound : Fld Z h0 a1 "com/example/close_words/closewords/BitRows" "bound" "I" (.int p3)) (F_lastColumn : Fld Z h0 a1 "com/example/close_words/closewords/BitRows" "lastColumn" "J" (.long last)) (V_ar : own_Ar Z h0 ar .long RL (fun k => .long (rf k))) (hlv : lv.toInt = ((bd + 1 : Nat) : Int)) (hbd : p3.toInt = (bd : Int)) (hbd63 : bd ≤ 63) (hRLi : 2 * (bd + 1) ≤ RL) (hDz : ((rf ((1 * (bd + 1)) + bd)) &&& last) = 0 → r = -1) (hDn : ¬ ((rf ((1 * (bd + 1)) + bd)) &&& last) = 0 → D ≤ bd ∧ ¬ ((rf ((1 * (bd + 1)) + D)) &&& last) = 0 ∧ r.toInt = (D : Int)) (hDl : ∀ k, k < D → k ≤ bd → ((rf ((1 * (bd + 1)) + k)) &&& last) = 0) :
    own_Ctr l Z (⟨"com/example/close_words/closewords/BitRows", "distance", "(I)I"⟩ : MethodName) prog_6_method_3_code 4 (some .int) ws ({ frames := 0, cells := 0, slots := 0, locals := 0 } : Room) #[(.ref a1), (.int (1 : Int32))] h0 (Q_rmdi1 Z a1 ar rf lv p3 last bd RL D r h0 n0) := by
  refine own_enter (plainFor_of_name own_pn0) ?_
  intro p e s m below meth c s₁ X0 hx hby hml hrt hlk hZ hown hnm e0
  have N0 := Fr.nil n0
  have Zs := Z0
  rw [show entryFrame m #[(.ref a1), (.int (1 : Int32))] 4 = mkF m 0 #[rv a1, iv (1 : Int32), uu, uu] [] from by first | (simp [entryFrame, mkF, argsToLocals, Value.category]; done) | rfl]
  show own_Wp _ _ _ _ (s₁.setTop (mkF m 0 #[rv a1, iv (1 : Int32), uu, uu] []))
  refine own_of (fun tgt kon => XS.iloadN X0.here hx rfl (hb hby d9_0) rfl kon) ?_
  refine own_of (fun tgt kon => XS.aloadN X0.here hx rfl (hb hby d9_1) rfl rfl kon) ?_
  obtain ⟨T1, X1, e1, st1⟩ := getF X0 hx hZ hown (host := "") (Or.inl (ow hw 18 rfl)) Via.refl e0 F_levels (g := (mkF m 2 #[rv a1, iv (1 : Int32), uu, uu] [(.ref a1), (.int (1 : Int32))])) rfl rfl (hb hby d9_2)
  refine own_of st1 ?_
  clear st1
  refine own_of (fun tgt kon => XS.imul X1.here hx rfl (hb hby d9_5) rfl kon) ?_
  show own_Wp _ _ _ _ (T1.setTop (mkF m 6 #[rv a1, iv (1 : Int32), uu, uu] [(.int ((1 : Int32) * lv))]))
  obtain ⟨row, h_row⟩ : ∃ q : Int32, q = ((1 : Int32) * lv) := ⟨_, rfl⟩
  rw [← h_row]
  refine own_of (fun tgt kon => XS.istoreN X1.here hx rfl (hb hby d9_6) rfl (l' := #[rv a1, iv (1 : Int32), iv row, uu]) rfl kon) ?_
  show own_Wp _ _ _ _ (T1.setTop (mkF m 7 #[rv a1, iv (1 : Int32), iv row, uu] []))
  have t_row : row.toInt = ((1 * (bd + 1) : Nat) : Int) := by
    rw [h_row, Jvm.Kit.i32_mul (by rw [show (1 : Int32).toInt = 1 from by decide, hlv]; omega) (by rw [show (1 : Int32).toInt = 1 from by decide, hlv]; omega), show (1 : Int32).toInt = 1 from by decide, hlv]
    omega
  refine own_of (fun tgt kon => XS.aloadN X1.here hx rfl (hb hby d9_7) rfl rfl kon) ?_
  obtain ⟨T2, X2, e2, st2⟩ := getF X1 hx hZ hown (host := "") (Or.inl (ow hw 35 rfl)) Via.refl e1 F_rows (g := (mkF m 8 #[rv a1, iv (1 : Int32), iv row, uu] [(.ref a1)])) rfl rfl (hb hby d9_8)
  refine own_of st2 ?_
  clear st2
  refine own_of (fun tgt kon => XS.iloadN X2.here hx rfl (hb hby d9_11) rfl kon) ?_
  refine own_of (fun tgt kon => XS.aloadN X2.here hx rfl (hb hby d9_12) rfl rfl kon) ?_
  obtain ⟨T3, X3, e3, st3⟩ := getF X2 hx hZ hown (host := "") (Or.inl (ow hw 14 rfl)) Via.refl e2 F_bound (g := (mkF m 13 #[rv a1, iv (1 : Int32), iv row, uu] [(.ref a1), (.int row), (.ref ar)])) rfl rfl (hb hby d9_13)
  refine own_of st3 ?_
  clear st3
  show own_Wp _ _ _ _ (T3.setTop (mkF m 16 #[rv a1, iv (1 : Int32), iv row, uu] [(.int p3), (.int row), (.ref ar)]))
  refine own_of (fun tgt kon => XS.iadd X3.here hx rfl (hb hby d9_16) rfl kon) ?_
  refine own_laload X3 hx hZ e3 V_ar (j := (row + p3)) (i := ((1 * (bd + 1)) + bd)) (v := (rf ((1 * (bd + 1)) + bd))) (by have q1 := own_addI t_row hbd (by omega) (by omega); omega) (by omega) rfl rfl rfl (hb hby d9_17) ?_
  refine own_of (fun tgt kon => XS.aloadN X3.here hx rfl (hb hby d9_18) rfl rfl kon) ?_
  obtain ⟨T4, X4, e4, st4⟩ := getF X3 hx hZ hown (host := "") (Or.inl (ow hw 25 rfl)) Via.refl e3 F_lastColumn (g := (mkF m 19 #[rv a1, iv (1 : Int32), iv row, uu] [(.ref a1), (.long (rf ((1 * (bd + 1)) + bd)))])) rfl rfl (hb hby d9_19)
  refine own_of st4 ?_
  clear st4
  refine own_of (fun tgt kon => XS.land X4.here hx rfl (hb hby d9_22) rfl kon) ?_
  show own_Wp _ _ _ _ (T4.setTop (mkF m 23 #[rv a1, iv (1 : Int32), iv row, uu] [(.long ((rf ((1 * (bd + 1)) + bd)) &&& last))]))
  refine own_of (fun tgt kon => XS.lconst X4.here hx rfl (hb hby d9_23) kon) ?_
  refine own_of (fun tgt kon => XS.lcmp X4.here hx rfl (hb hby d9_24) rfl kon) ?_
  by_cases hc25 : (lcmpW ((rf ((1 * (bd + 1)) + bd)) &&& last) (0 : Int64)) = (0 : Int32)
  · skip
    refine own_of (fun tgt kon => XS.ifNo X4.here hx rfl (hb hby d9_25) rfl ((if0 _ _).trans (teq hc25).2) kon) ?_
    refine own_of (fun tgt kon => XS.iconst X4.here hx rfl (hb hby d9_28) kon) ?_
    show own_Wp _ _ _ _ (T4.setTop (mkF m 29 #[rv a1, iv (1 : Int32), iv row, uu] [(.int (-1 : Int32))]))
    refine own_ret X4 hlk (some (.int (-1 : Int32))) (own_rtI hrt) (fun fs hr => own_retI X4 hx hrt (hb hby d9_29) hr) ?_ (by decide) (by decide)
    rw [e4]
    exact ⟨by rw [hDz ((own_lc0 _).mp hc25)], N0, rfl⟩
  · skip
    refine own_of (fun tgt kon => XS.ifYes X4.here hx rfl (pc0 := 25) (pc' := 30) rfl (hb hby d9_25) rfl ((if0 _ _).trans (feq hc25).2) (by decide) (by decide) kon) ?_
    show own_Wp _ _ _ _ (T4.setTop (mkF m 30 #[rv a1, iv (1 : Int32), iv row, uu] []))
    obtain ⟨hD1, hD2, hD3⟩ := hDn (fun q => hc25 ((own_lc0 _).mpr q))
    refine own_of (fun tgt kon => XS.iconst X4.here hx rfl (hb hby d9_30) kon) ?_
    refine own_of (fun tgt kon => XS.istoreN X4.here hx rfl (hb hby d9_31) rfl (l' := #[rv a1, iv (1 : Int32), iv row, iv (0 : Int32)]) rfl kon) ?_
    show own_Wp _ _ _ _ (T4.setTop (mkF m 32 #[rv a1, iv (1 : Int32), iv row, iv (0 : Int32)] []))
    have J32 : ∀ (nn : Nat) (T5 : State) (lc5 : List Loc) (k : Nat), (Stand p l e ({ frames := 0, cells := 0, slots := 0, locals := 0 } : Room) s m #[(.ref a1), (.int (1 : Int32))] below meth c T5 lc5 0 0) → (T5.heap = h0) → (Fr n0 lc5) → (k ≤ D) → (D - k < nn) → own_Wp p.tables e below (own_K ({ frames := 0, cells := 0, slots := 0, locals := 0 } : Room) s below (Q_rmdi1 Z a1 ar rf lv p3 last bd RL D r h0 n0)) (T5.setTop (mkF m 32 #[rv a1, iv (1 : Int32), iv row, iv (Int32.ofNat k)] [])) := by
      intro nn
      induction nn with
      | zero => intro T5 lc5 k X5 e5 N5 hk hmu; exact absurd hmu (Nat.not_lt_zero _)
      | succ nn ih =>
        intro T5 lc5 k X5 e5 N5 hk hmu
        refine own_of (fun tgt kon => XS.aloadN X5.here hx rfl (hb hby d9_32) rfl rfl kon) ?_
        obtain ⟨T6, X6, e6, st6⟩ := getF X5 hx hZ hown (host := "") (Or.inl (ow hw 35 rfl)) Via.refl e5 F_rows (g := (mkF m 33 #[rv a1, iv (1 : Int32), iv row, iv (Int32.ofNat k)] [(.ref a1)])) rfl rfl (hb hby d9_33)
        refine own_of st6 ?_
        clear st6
        refine own_of (fun tgt kon => XS.iloadN X6.here hx rfl (hb hby d9_36) rfl kon) ?_
        refine own_of (fun tgt kon => XS.iloadN X6.here hx rfl (hb hby d9_37) rfl kon) ?_
        refine own_of (fun tgt kon => XS.iadd X6.here hx rfl (hb hby d9_38) rfl kon) ?_
        show own_Wp _ _ _ _ (T6.setTop (mkF m 39 #[rv a1, iv (1 : Int32), iv row, iv (Int32.ofNat k)] [(.int (row + (Int32.ofNat k))), (.ref ar)]))
        refine own_laload X6 hx hZ e6 V_ar (j := (row + (Int32.ofNat k))) (i := ((1 * (bd + 1)) + k)) (v := (rf ((1 * (bd + 1)) + k))) (by have q1 := own_addI t_row (own_ofN (k := k) (by omega)) (by omega) (by omega); omega) (by omega) rfl rfl rfl (hb hby d9_39) ?_
        refine own_of (fun tgt kon => XS.aloadN X6.here hx rfl (hb hby d9_40) rfl rfl kon) ?_
        obtain ⟨T7, X7, e7, st7⟩ := getF X6 hx hZ hown (host := "") (Or.inl (ow hw 25 rfl)) Via.refl e6 F_lastColumn (g := (mkF m 41 #[rv a1, iv (1 : Int32), iv row, iv (Int32.ofNat k)] [(.ref a1), (.long (rf ((1 * (bd + 1)) + k)))])) rfl rfl (hb hby d9_41)
        refine own_of st7 ?_
        clear st7
        refine own_of (fun tgt kon => XS.land X7.here hx rfl (hb hby d9_44) rfl kon) ?_
        refine own_of (fun tgt kon => XS.lconst X7.here hx rfl (hb hby d9_45) kon) ?_
        show own_Wp _ _ _ _ (T7.setTop (mkF m 46 #[rv a1, iv (1 : Int32), iv row, iv (Int32.ofNat k)] [(.long (0 : Int64)), (.long ((rf ((1 * (bd + 1)) + k)) &&& last))]))
        refine own_of (fun tgt kon => XS.lcmp X7.here hx rfl (hb hby d9_46) rfl kon) ?_
        by_cases hc47 : (lcmpW ((rf ((1 * (bd + 1)) + k)) &&& last) (0 : Int64)) = (0 : Int32)
        · skip
          refine own_of (fun tgt kon => XS.ifNo X7.here hx rfl (hb hby d9_47) rfl ((if0 _ _).trans (teq hc47).2) kon) ?_
          refine own_of (fun tgt kon => XS.iinc X7.here hx rfl (hb hby d9_50) rfl (l' := #[rv a1, iv (1 : Int32), iv row, iv ((Int32.ofNat k) + (1 : Int32))]) rfl kon) ?_
          refine own_of (fun tgt kon => XS.goto X7.here hx rfl (pc0 := 53) (pc' := 32) rfl (hb hby d9_53) (by decide) (by decide) kon) ?_
          show own_Wp _ _ _ _ (T7.setTop (mkF m 32 #[rv a1, iv (1 : Int32), iv row, iv ((Int32.ofNat k) + (1 : Int32))] []))
          have hkD : k ≠ D := by
            intro q
            subst q
            exact hD2 ((own_lc0 _).mp hc47)
          rw [own_succ]
          exact ih T7 _ (k + 1) X7 e7 N5 (by omega) (by omega)
        · skip
          refine own_of (fun tgt kon => XS.ifYes X7.here hx rfl (pc0 := 47) (pc' := 56) rfl (hb hby d9_47) rfl ((if0 _ _).trans (feq hc47).2) (by decide) (by decide) kon) ?_
          refine own_of (fun tgt kon => XS.iloadN X7.here hx rfl (hb hby d9_56) rfl kon) ?_
          show own_Wp _ _ _ _ (T7.setTop (mkF m 57 #[rv a1, iv (1 : Int32), iv row, iv (Int32.ofNat k)] [(.int (Int32.ofNat k))]))
          refine own_ret X7 hlk (some (.int (Int32.ofNat k))) (own_rtI hrt) (fun fs hr => own_retI X7 hx hrt (hb hby d9_57) hr) ?_ (by decide) (by decide)
          rw [e7]
          have e : k = D := by
            apply Decidable.byContradiction
            intro q
            exact hc47 ((own_lc0 _).mpr (hDl k (by omega) (by omega)))
          subst e
          exact ⟨by rw [show r = Int32.ofNat k from Int32.toInt_inj.mp (hD3.trans (own_ofN (by omega)).symm)], N5, rfl⟩
    show own_Wp _ _ _ _ (T4.setTop (mkF m 32 #[rv a1, iv (1 : Int32), iv row, iv (0 : Int32)] []))
    exact J32 _ T4 _ (0) X4 e4 N0 (by omega) (Nat.lt_succ_self _)
def Q_rmdi2 (Z : State) (a1 : Addr) (ar : Addr) (rf : Nat → Int64) (lv : Int32) (p3 : Int32) (last : Int64) (bd : Nat) (RL : Nat) (D : Nat) (r : Int32) (h0 : Heap) (n0 : Nat) (v : Option Value) (h : Heap) (L : List Loc) : Prop := v = some (.int r) ∧ Fr n0 L ∧ h = h0
set_option maxRecDepth 65536 in
set_option maxHeartbeats 40000000 in
theorem rmdi2 (l : Launch) (Z : State) (a0 : Array Value) (hw : ∀ d ∈ tables_1, d.before a0 Z = true) (ws : List Jvm.Cond) (a1 : Addr) (ar : Addr) (rf : Nat → Int64) (lv : Int32) (p3 : Int32) (last : Int64) (bd : Nat) (RL : Nat) (D : Nat) (r : Int32) (h0 : Heap) (n0 : Nat) (Z0 : n0 ≤ h0.size) (F_levels : Fld Z h0 a1 "com/example/close_words/closewords/BitRows" "levels" "I" (.int lv)) (F_rows : Fld Z h0 a1 "com/example/close_words/closewords/BitRows" "rows" "[J" (.ref ar)) (F_bound : Fld Z h0 a1 "com/example/close_words/closewords/BitRows" "bound" "I" (.int p3)) (F_lastColumn : Fld Z h0 a1 "com/example/close_words/closewords/BitRows" "lastColumn" "J" (.long last)) (V_ar : own_Ar Z h0 ar .long RL (fun k => .long (rf k))) (hlv : lv.toInt = ((bd + 1 : Nat) : Int)) (hbd : p3.toInt = (bd : Int)) (hbd63 : bd ≤ 63) (hRLi : 3 * (bd + 1) ≤ RL) (hDz : ((rf ((2 * (bd + 1)) + bd)) &&& last) = 0 → r = -1) (hDn : ¬ ((rf ((2 * (bd + 1)) + bd)) &&& last) = 0 → D ≤ bd ∧ ¬ ((rf ((2 * (bd + 1)) + D)) &&& last) = 0 ∧ r.toInt = (D : Int)) (hDl : ∀ k, k < D → k ≤ bd → ((rf ((2 * (bd + 1)) + k)) &&& last) = 0) :
    own_Ctr l Z (⟨"com/example/close_words/closewords/BitRows", "distance", "(I)I"⟩ : MethodName) prog_6_method_3_code 4 (some .int) ws ({ frames := 0, cells := 0, slots := 0, locals := 0 } : Room) #[(.ref a1), (.int (2 : Int32))] h0 (Q_rmdi2 Z a1 ar rf lv p3 last bd RL D r h0 n0) := by
  refine own_enter (plainFor_of_name own_pn0) ?_
  intro p e s m below meth c s₁ X0 hx hby hml hrt hlk hZ hown hnm e0
  have N0 := Fr.nil n0
  have Zs := Z0
  rw [show entryFrame m #[(.ref a1), (.int (2 : Int32))] 4 = mkF m 0 #[rv a1, iv (2 : Int32), uu, uu] [] from by first | (simp [entryFrame, mkF, argsToLocals, Value.category]; done) | rfl]
  show own_Wp _ _ _ _ (s₁.setTop (mkF m 0 #[rv a1, iv (2 : Int32), uu, uu] []))
  refine own_of (fun tgt kon => XS.iloadN X0.here hx rfl (hb hby d9_0) rfl kon) ?_
  refine own_of (fun tgt kon => XS.aloadN X0.here hx rfl (hb hby d9_1) rfl rfl kon) ?_
  obtain ⟨T1, X1, e1, st1⟩ := getF X0 hx hZ hown (host := "") (Or.inl (ow hw 18 rfl)) Via.refl e0 F_levels (g := (mkF m 2 #[rv a1, iv (2 : Int32), uu, uu] [(.ref a1), (.int (2 : Int32))])) rfl rfl (hb hby d9_2)
  refine own_of st1 ?_
  clear st1
  refine own_of (fun tgt kon => XS.imul X1.here hx rfl (hb hby d9_5) rfl kon) ?_
  show own_Wp _ _ _ _ (T1.setTop (mkF m 6 #[rv a1, iv (2 : Int32), uu, uu] [(.int ((2 : Int32) * lv))]))
  obtain ⟨row, h_row⟩ : ∃ q : Int32, q = ((2 : Int32) * lv) := ⟨_, rfl⟩
  rw [← h_row]
  refine own_of (fun tgt kon => XS.istoreN X1.here hx rfl (hb hby d9_6) rfl (l' := #[rv a1, iv (2 : Int32), iv row, uu]) rfl kon) ?_
  show own_Wp _ _ _ _ (T1.setTop (mkF m 7 #[rv a1, iv (2 : Int32), iv row, uu] []))
  have t_row : row.toInt = ((2 * (bd + 1) : Nat) : Int) := by
    rw [h_row, Jvm.Kit.i32_mul (by rw [show (2 : Int32).toInt = 2 from by decide, hlv]; omega) (by rw [show (2 : Int32).toInt = 2 from by decide, hlv]; omega), show (2 : Int32).toInt = 2 from by decide, hlv]
    omega
  refine own_of (fun tgt kon => XS.aloadN X1.here hx rfl (hb hby d9_7) rfl rfl kon) ?_
  obtain ⟨T2, X2, e2, st2⟩ := getF X1 hx hZ hown (host := "") (Or.inl (ow hw 35 rfl)) Via.refl e1 F_rows (g := (mkF m 8 #[rv a1, iv (2 : Int32), iv row, uu] [(.ref a1)])) rfl rfl (hb hby d9_8)
  refine own_of st2 ?_
  clear st2
  refine own_of (fun tgt kon => XS.iloadN X2.here hx rfl (hb hby d9_11) rfl kon) ?_
  refine own_of (fun tgt kon => XS.aloadN X2.here hx rfl (hb hby d9_12) rfl rfl kon) ?_
  obtain ⟨T3, X3, e3, st3⟩ := getF X2 hx hZ hown (host := "") (Or.inl (ow hw 14 rfl)) Via.refl e2 F_bound (g := (mkF m 13 #[rv a1, iv (2 : Int32), iv row, uu] [(.ref a1), (.int row), (.ref ar)])) rfl rfl (hb hby d9_13)
  refine own_of st3 ?_
  clear st3
  show own_Wp _ _ _ _ (T3.setTop (mkF m 16 #[rv a1, iv (2 : Int32), iv row, uu] [(.int p3), (.int row), (.ref ar)]))
  refine own_of (fun tgt kon => XS.iadd X3.here hx rfl (hb hby d9_16) rfl kon) ?_
  refine own_laload X3 hx hZ e3 V_ar (j := (row + p3)) (i := ((2 * (bd + 1)) + bd)) (v := (rf ((2 * (bd + 1)) + bd))) (by have q1 := own_addI t_row hbd (by omega) (by omega); omega) (by omega) rfl rfl rfl (hb hby d9_17) ?_
  refine own_of (fun tgt kon => XS.aloadN X3.here hx rfl (hb hby d9_18) rfl rfl kon) ?_
  obtain ⟨T4, X4, e4, st4⟩ := getF X3 hx hZ hown (host := "") (Or.inl (ow hw 25 rfl)) Via.refl e3 F_lastColumn (g := (mkF m 19 #[rv a1, iv (2 : Int32), iv row, uu] [(.ref a1), (.long (rf ((2 * (bd + 1)) + bd)))])) rfl rfl (hb hby d9_19)
  refine own_of st4 ?_
  clear st4
  refine own_of (fun tgt kon => XS.land X4.here hx rfl (hb hby d9_22) rfl kon) ?_
  show own_Wp _ _ _ _ (T4.setTop (mkF m 23 #[rv a1, iv (2 : Int32), iv row, uu] [(.long ((rf ((2 * (bd + 1)) + bd)) &&& last))]))
  refine own_of (fun tgt kon => XS.lconst X4.here hx rfl (hb hby d9_23) kon) ?_
  refine own_of (fun tgt kon => XS.lcmp X4.here hx rfl (hb hby d9_24) rfl kon) ?_
  by_cases hc25 : (lcmpW ((rf ((2 * (bd + 1)) + bd)) &&& last) (0 : Int64)) = (0 : Int32)
  · skip
    refine own_of (fun tgt kon => XS.ifNo X4.here hx rfl (hb hby d9_25) rfl ((if0 _ _).trans (teq hc25).2) kon) ?_
    refine own_of (fun tgt kon => XS.iconst X4.here hx rfl (hb hby d9_28) kon) ?_
    show own_Wp _ _ _ _ (T4.setTop (mkF m 29 #[rv a1, iv (2 : Int32), iv row, uu] [(.int (-1 : Int32))]))
    refine own_ret X4 hlk (some (.int (-1 : Int32))) (own_rtI hrt) (fun fs hr => own_retI X4 hx hrt (hb hby d9_29) hr) ?_ (by decide) (by decide)
    rw [e4]
    exact ⟨by rw [hDz ((own_lc0 _).mp hc25)], N0, rfl⟩
  · skip
    refine own_of (fun tgt kon => XS.ifYes X4.here hx rfl (pc0 := 25) (pc' := 30) rfl (hb hby d9_25) rfl ((if0 _ _).trans (feq hc25).2) (by decide) (by decide) kon) ?_
    show own_Wp _ _ _ _ (T4.setTop (mkF m 30 #[rv a1, iv (2 : Int32), iv row, uu] []))
    obtain ⟨hD1, hD2, hD3⟩ := hDn (fun q => hc25 ((own_lc0 _).mpr q))
    refine own_of (fun tgt kon => XS.iconst X4.here hx rfl (hb hby d9_30) kon) ?_
    refine own_of (fun tgt kon => XS.istoreN X4.here hx rfl (hb hby d9_31) rfl (l' := #[rv a1, iv (2 : Int32), iv row, iv (0 : Int32)]) rfl kon) ?_
    show own_Wp _ _ _ _ (T4.setTop (mkF m 32 #[rv a1, iv (2 : Int32), iv row, iv (0 : Int32)] []))
    have J32 : ∀ (nn : Nat) (T5 : State) (lc5 : List Loc) (k : Nat), (Stand p l e ({ frames := 0, cells := 0, slots := 0, locals := 0 } : Room) s m #[(.ref a1), (.int (2 : Int32))] below meth c T5 lc5 0 0) → (T5.heap = h0) → (Fr n0 lc5) → (k ≤ D) → (D - k < nn) → own_Wp p.tables e below (own_K ({ frames := 0, cells := 0, slots := 0, locals := 0 } : Room) s below (Q_rmdi2 Z a1 ar rf lv p3 last bd RL D r h0 n0)) (T5.setTop (mkF m 32 #[rv a1, iv (2 : Int32), iv row, iv (Int32.ofNat k)] [])) := by
      intro nn
      induction nn with
      | zero => intro T5 lc5 k X5 e5 N5 hk hmu; exact absurd hmu (Nat.not_lt_zero _)
      | succ nn ih =>
        intro T5 lc5 k X5 e5 N5 hk hmu
        refine own_of (fun tgt kon => XS.aloadN X5.here hx rfl (hb hby d9_32) rfl rfl kon) ?_
        obtain ⟨T6, X6, e6, st6⟩ := getF X5 hx hZ hown (host := "") (Or.inl (ow hw 35 rfl)) Via.refl e5 F_rows (g := (mkF m 33 #[rv a1, iv (2 : Int32), iv row, iv (Int32.ofNat k)] [(.ref a1)])) rfl rfl (hb hby d9_33)
        refine own_of st6 ?_
        clear st6
        refine own_of (fun tgt kon => XS.iloadN X6.here hx rfl (hb hby d9_36) rfl kon) ?_
        refine own_of (fun tgt kon => XS.iloadN X6.here hx rfl (hb hby d9_37) rfl kon) ?_
        refine own_of (fun tgt kon => XS.iadd X6.here hx rfl (hb hby d9_38) rfl kon) ?_
        show own_Wp _ _ _ _ (T6.setTop (mkF m 39 #[rv a1, iv (2 : Int32), iv row, iv (Int32.ofNat k)] [(.int (row + (Int32.ofNat k))), (.ref ar)]))
        refine own_laload X6 hx hZ e6 V_ar (j := (row + (Int32.ofNat k))) (i := ((2 * (bd + 1)) + k)) (v := (rf ((2 * (bd + 1)) + k))) (by have q1 := own_addI t_row (own_ofN (k := k) (by omega)) (by omega) (by omega); omega) (by omega) rfl rfl rfl (hb hby d9_39) ?_
        refine own_of (fun tgt kon => XS.aloadN X6.here hx rfl (hb hby d9_40) rfl rfl kon) ?_
        obtain ⟨T7, X7, e7, st7⟩ := getF X6 hx hZ hown (host := "") (Or.inl (ow hw 25 rfl)) Via.refl e6 F_lastColumn (g := (mkF m 41 #[rv a1, iv (2 : Int32), iv row, iv (Int32.ofNat k)] [(.ref a1), (.long (rf ((2 * (bd + 1)) + k)))])) rfl rfl (hb hby d9_41)
        refine own_of st7 ?_
        clear st7
        refine own_of (fun tgt kon => XS.land X7.here hx rfl (hb hby d9_44) rfl kon) ?_
        refine own_of (fun tgt kon => XS.lconst X7.here hx rfl (hb hby d9_45) kon) ?_
        show own_Wp _ _ _ _ (T7.setTop (mkF m 46 #[rv a1, iv (2 : Int32), iv row, iv (Int32.ofNat k)] [(.long (0 : Int64)), (.long ((rf ((2 * (bd + 1)) + k)) &&& last))]))
        refine own_of (fun tgt kon => XS.lcmp X7.here hx rfl (hb hby d9_46) rfl kon) ?_
        by_cases hc47 : (lcmpW ((rf ((2 * (bd + 1)) + k)) &&& last) (0 : Int64)) = (0 : Int32)
        · skip
          refine own_of (fun tgt kon => XS.ifNo X7.here hx rfl (hb hby d9_47) rfl ((if0 _ _).trans (teq hc47).2) kon) ?_
          refine own_of (fun tgt kon => XS.iinc X7.here hx rfl (hb hby d9_50) rfl (l' := #[rv a1, iv (2 : Int32), iv row, iv ((Int32.ofNat k) + (1 : Int32))]) rfl kon) ?_
          refine own_of (fun tgt kon => XS.goto X7.here hx rfl (pc0 := 53) (pc' := 32) rfl (hb hby d9_53) (by decide) (by decide) kon) ?_
          show own_Wp _ _ _ _ (T7.setTop (mkF m 32 #[rv a1, iv (2 : Int32), iv row, iv ((Int32.ofNat k) + (1 : Int32))] []))
          have hkD : k ≠ D := by
            intro q
            subst q
            exact hD2 ((own_lc0 _).mp hc47)
          rw [own_succ]
          exact ih T7 _ (k + 1) X7 e7 N5 (by omega) (by omega)
        · skip
          refine own_of (fun tgt kon => XS.ifYes X7.here hx rfl (pc0 := 47) (pc' := 56) rfl (hb hby d9_47) rfl ((if0 _ _).trans (feq hc47).2) (by decide) (by decide) kon) ?_
          refine own_of (fun tgt kon => XS.iloadN X7.here hx rfl (hb hby d9_56) rfl kon) ?_
          show own_Wp _ _ _ _ (T7.setTop (mkF m 57 #[rv a1, iv (2 : Int32), iv row, iv (Int32.ofNat k)] [(.int (Int32.ofNat k))]))
          refine own_ret X7 hlk (some (.int (Int32.ofNat k))) (own_rtI hrt) (fun fs hr => own_retI X7 hx hrt (hb hby d9_57) hr) ?_ (by decide) (by decide)
          rw [e7]
          have e : k = D := by
            apply Decidable.byContradiction
            intro q
            exact hc47 ((own_lc0 _).mpr (hDl k (by omega) (by omega)))
          subst e
          exact ⟨by rw [show r = Int32.ofNat k from Int32.toInt_inj.mp (hD3.trans (own_ofN (by omega)).symm)], N5, rfl⟩
    show own_Wp _ _ _ _ (T4.setTop (mkF m 32 #[rv a1, iv (2 : Int32), iv row, iv (0 : Int32)] []))
    exact J32 _ T4 _ (0) X4 e4 N0 (by omega) (Nat.lt_succ_self _)
theorem own_pn2 : plainName "com/example/close_words/closewords/BitRowsDistancePinLaw" = true := by first | (simp [plainName, overriddenIn]; done) | decide +kernel
theorem d1_0 : decode method_2_code 0 = .ok (.iload_n 0, 1) := by decide +kernel
theorem d1_1 : decode method_2_code 1 = .ok (.iconst 3, 1) := by decide +kernel
theorem d1_2 : decode method_2_code 2 = .ok (.iand, 1) := by decide +kernel
theorem d1_3 : decode method_2_code 3 = .ok (.iload_n 0, 1) := by decide +kernel
theorem d1_4 : decode method_2_code 4 = .ok (.iconst 4, 1) := by decide +kernel
theorem d1_5 : decode method_2_code 5 = .ok (.iand, 1) := by decide +kernel
theorem d1_6 : decode method_2_code 6 = .ok (.iconst 5, 1) := by decide +kernel
theorem d1_7 : decode method_2_code 7 = .ok (.ishl, 1) := by decide +kernel
theorem d1_8 : decode method_2_code 8 = .ok (.ior, 1) := by decide +kernel
theorem d1_9 : decode method_2_code 9 = .ok (.ireturn, 1) := by decide +kernel
def Q_rmch (Z : State) (p1 : Int32) (h0 : Heap) (n0 : Nat) (v : Option Value) (h : Heap) (L : List Loc) : Prop := v = some (.int ((p1 &&& (3 : Int32)) ||| ((p1 &&& (4 : Int32)) <<< ((5 : Int32) &&& 31)))) ∧ Fr n0 L ∧ h = h0
set_option maxRecDepth 65536 in
set_option maxHeartbeats 40000000 in
theorem rmch (l : Launch) (Z : State) (a0 : Array Value) (hw : ∀ d ∈ tables_1, d.before a0 Z = true) (ws : List Jvm.Cond) (p1 : Int32) (h0 : Heap) (n0 : Nat) (Z0 : n0 ≤ h0.size)  :
    own_Ctr l Z (⟨"com/example/close_words/closewords/BitRowsDistancePinLaw", "ch", "(I)I"⟩ : MethodName) method_2_code 1 (some .int) ws ({ frames := 0, cells := 0, slots := 0, locals := 0 } : Room) #[(.int p1)] h0 (Q_rmch Z p1 h0 n0) := by
  refine own_enter (plainFor_of_name own_pn2) ?_
  intro p e s m below meth c s₁ X0 hx hby hml hrt hlk hZ hown hnm e0
  have N0 := Fr.nil n0
  have Zs := Z0
  rw [show entryFrame m #[(.int p1)] 1 = mkF m 0 #[iv p1] [] from by first | (simp [entryFrame, mkF, argsToLocals, Value.category]; done) | rfl]
  show own_Wp _ _ _ _ (s₁.setTop (mkF m 0 #[iv p1] []))
  refine own_of (fun tgt kon => XS.iloadN X0.here hx rfl (hb hby d1_0) rfl kon) ?_
  refine own_of (fun tgt kon => XS.iconst X0.here hx rfl (hb hby d1_1) kon) ?_
  refine own_of (fun tgt kon => XS.iand X0.here hx rfl (hb hby d1_2) rfl kon) ?_
  refine own_of (fun tgt kon => XS.iloadN X0.here hx rfl (hb hby d1_3) rfl kon) ?_
  refine own_of (fun tgt kon => XS.iconst X0.here hx rfl (hb hby d1_4) kon) ?_
  show own_Wp _ _ _ _ (s₁.setTop (mkF m 5 #[iv p1] [(.int (4 : Int32)), (.int p1), (.int (p1 &&& (3 : Int32)))]))
  refine own_of (fun tgt kon => XS.iand X0.here hx rfl (hb hby d1_5) rfl kon) ?_
  refine own_of (fun tgt kon => XS.iconst X0.here hx rfl (hb hby d1_6) kon) ?_
  refine own_of (fun tgt kon => XS.ishl X0.here hx rfl (hb hby d1_7) rfl kon) ?_
  refine own_of (fun tgt kon => XS.ior X0.here hx rfl (hb hby d1_8) rfl kon) ?_
  show own_Wp _ _ _ _ (s₁.setTop (mkF m 9 #[iv p1] [(.int ((p1 &&& (3 : Int32)) ||| ((p1 &&& (4 : Int32)) <<< ((5 : Int32) &&& 31))))]))
  refine own_ret X0 hlk (some (.int ((p1 &&& (3 : Int32)) ||| ((p1 &&& (4 : Int32)) <<< ((5 : Int32) &&& 31))))) (own_rtI hrt) (fun fs hr => own_retI X0 hx hrt (hb hby d1_9) hr) ?_ (by decide) (by decide)
  rw [e0]
  exact ⟨rfl, N0, rfl⟩
theorem d10_0 : decode method_5_code 0 = .ok (.iload_n 0, 1) := by decide +kernel
theorem d10_1 : decode method_5_code 1 = .ok (.iload_n 1, 1) := by decide +kernel
theorem d10_2 : decode method_5_code 2 = .ok (.if_icmp .ne 7, 3) := by decide +kernel
theorem d10_5 : decode method_5_code 5 = .ok (.iconst 0, 1) := by decide +kernel
theorem d10_6 : decode method_5_code 6 = .ok (.goto 4, 3) := by decide +kernel
theorem d10_10 : decode method_5_code 10 = .ok (.ireturn, 1) := by decide +kernel
theorem d10_9 : decode method_5_code 9 = .ok (.iconst 1, 1) := by decide +kernel
def Q_rmeq (Z : State) (p1 : Int32) (p2 : Int32) (h0 : Heap) (n0 : Nat) (v : Option Value) (h : Heap) (L : List Loc) : Prop := v = some (.int (own_eqv p1 p2)) ∧ Fr n0 L ∧ h = h0
set_option maxRecDepth 65536 in
set_option maxHeartbeats 40000000 in
theorem rmeq (l : Launch) (Z : State) (a0 : Array Value) (hw : ∀ d ∈ tables_1, d.before a0 Z = true) (ws : List Jvm.Cond) (p1 : Int32) (p2 : Int32) (h0 : Heap) (n0 : Nat) (Z0 : n0 ≤ h0.size)  :
    own_Ctr l Z (⟨"com/example/close_words/closewords/BitRowsDistancePinLaw", "eq", "(II)I"⟩ : MethodName) method_5_code 2 (some .int) ws ({ frames := 0, cells := 0, slots := 0, locals := 0 } : Room) #[(.int p1), (.int p2)] h0 (Q_rmeq Z p1 p2 h0 n0) := by
  refine own_enter (plainFor_of_name own_pn2) ?_
  intro p e s m below meth c s₁ X0 hx hby hml hrt hlk hZ hown hnm e0
  have N0 := Fr.nil n0
  have Zs := Z0
  rw [show entryFrame m #[(.int p1), (.int p2)] 2 = mkF m 0 #[iv p1, iv p2] [] from by first | (simp [entryFrame, mkF, argsToLocals, Value.category]; done) | rfl]
  show own_Wp _ _ _ _ (s₁.setTop (mkF m 0 #[iv p1, iv p2] []))
  refine own_of (fun tgt kon => XS.iloadN X0.here hx rfl (hb hby d10_0) rfl kon) ?_
  refine own_of (fun tgt kon => XS.iloadN X0.here hx rfl (hb hby d10_1) rfl kon) ?_
  by_cases hc2 : p1 = p2
  · skip
    refine own_of (fun tgt kon => XS.icmpNo X0.here hx rfl (hb hby d10_2) rfl (teq hc2).2 kon) ?_
    refine own_of (fun tgt kon => XS.iconst X0.here hx rfl (hb hby d10_5) kon) ?_
    refine own_of (fun tgt kon => XS.goto X0.here hx rfl (pc0 := 6) (pc' := 10) rfl (hb hby d10_6) (by decide) (by decide) kon) ?_
    show own_Wp _ _ _ _ (s₁.setTop (mkF m 10 #[iv p1, iv p2] [(.int (0 : Int32))]))
    refine own_ret X0 hlk (some (.int (0 : Int32))) (own_rtI hrt) (fun fs hr => own_retI X0 hx hrt (hb hby d10_10) hr) ?_ (by decide) (by decide)
    rw [e0]
    exact ⟨by unfold own_eqv; rw [if_pos hc2], N0, rfl⟩
  · skip
    refine own_of (fun tgt kon => XS.icmpYes X0.here hx rfl (pc0 := 2) (pc' := 9) rfl (hb hby d10_2) rfl (feq hc2).2 (by decide) (by decide) kon) ?_
    refine own_of (fun tgt kon => XS.iconst X0.here hx rfl (hb hby d10_9) kon) ?_
    show own_Wp _ _ _ _ (s₁.setTop (mkF m 10 #[iv p1, iv p2] [(.int (1 : Int32))]))
    refine own_ret X0 hlk (some (.int (1 : Int32))) (own_rtI hrt) (fun fs hr => own_retI X0 hx hrt (hb hby d10_10) hr) ?_ (by decide) (by decide)
    rw [e0]
    exact ⟨by unfold own_eqv; rw [if_neg hc2], N0, rfl⟩
theorem d11_0 : decode method_4_code 0 = .ok (.iload_n 0, 1) := by decide +kernel
theorem d11_1 : decode method_4_code 1 = .ok (.ifCond .ne 5, 3) := by decide +kernel
theorem d11_4 : decode method_4_code 4 = .ok (.iload_n 1, 1) := by decide +kernel
theorem d11_5 : decode method_4_code 5 = .ok (.ireturn, 1) := by decide +kernel
theorem d11_6 : decode method_4_code 6 = .ok (.iload_n 0, 1) := by decide +kernel
theorem d11_7 : decode method_4_code 7 = .ok (.iconst 1, 1) := by decide +kernel
theorem d11_8 : decode method_4_code 8 = .ok (.if_icmp .ne 5, 3) := by decide +kernel
theorem d11_11 : decode method_4_code 11 = .ok (.iload_n 2, 1) := by decide +kernel
theorem d11_12 : decode method_4_code 12 = .ok (.ireturn, 1) := by decide +kernel
theorem d11_13 : decode method_4_code 13 = .ok (.iload_n 3, 1) := by decide +kernel
theorem d11_14 : decode method_4_code 14 = .ok (.ireturn, 1) := by decide +kernel
def Q_rmpick (Z : State) (p1 : Int32) (p2 : Int32) (p3 : Int32) (p4 : Int32) (h0 : Heap) (n0 : Nat) (v : Option Value) (h : Heap) (L : List Loc) : Prop := v = some (.int (own_pk p1 p2 p3 p4)) ∧ Fr n0 L ∧ h = h0
set_option maxRecDepth 65536 in
set_option maxHeartbeats 40000000 in
theorem rmpick (l : Launch) (Z : State) (a0 : Array Value) (hw : ∀ d ∈ tables_1, d.before a0 Z = true) (ws : List Jvm.Cond) (p1 : Int32) (p2 : Int32) (p3 : Int32) (p4 : Int32) (h0 : Heap) (n0 : Nat) (Z0 : n0 ≤ h0.size)  :
    own_Ctr l Z (⟨"com/example/close_words/closewords/BitRowsDistancePinLaw", "pick", "(IIII)I"⟩ : MethodName) method_4_code 4 (some .int) ws ({ frames := 0, cells := 0, slots := 0, locals := 0 } : Room) #[(.int p1), (.int p2), (.int p3), (.int p4)] h0 (Q_rmpick Z p1 p2 p3 p4 h0 n0) := by
  refine own_enter (plainFor_of_name own_pn2) ?_
  intro p e s m below meth c s₁ X0 hx hby hml hrt hlk hZ hown hnm e0
  have N0 := Fr.nil n0
  have Zs := Z0
  rw [show entryFrame m #[(.int p1), (.int p2), (.int p3), (.int p4)] 4 = mkF m 0 #[iv p1, iv p2, iv p3, iv p4] [] from by first | (simp [entryFrame, mkF, argsToLocals, Value.category]; done) | rfl]
  show own_Wp _ _ _ _ (s₁.setTop (mkF m 0 #[iv p1, iv p2, iv p3, iv p4] []))
  refine own_of (fun tgt kon => XS.iloadN X0.here hx rfl (hb hby d11_0) rfl kon) ?_
  by_cases hc1 : p1 = (0 : Int32)
  · skip
    refine own_of (fun tgt kon => XS.ifNo X0.here hx rfl (hb hby d11_1) rfl ((if0 _ _).trans (teq hc1).2) kon) ?_
    refine own_of (fun tgt kon => XS.iloadN X0.here hx rfl (hb hby d11_4) rfl kon) ?_
    show own_Wp _ _ _ _ (s₁.setTop (mkF m 5 #[iv p1, iv p2, iv p3, iv p4] [(.int p2)]))
    refine own_ret X0 hlk (some (.int p2)) (own_rtI hrt) (fun fs hr => own_retI X0 hx hrt (hb hby d11_5) hr) ?_ (by decide) (by decide)
    rw [e0]
    exact ⟨by unfold own_pk; rw [if_pos hc1], N0, rfl⟩
  · skip
    refine own_of (fun tgt kon => XS.ifYes X0.here hx rfl (pc0 := 1) (pc' := 6) rfl (hb hby d11_1) rfl ((if0 _ _).trans (feq hc1).2) (by decide) (by decide) kon) ?_
    refine own_of (fun tgt kon => XS.iloadN X0.here hx rfl (hb hby d11_6) rfl kon) ?_
    refine own_of (fun tgt kon => XS.iconst X0.here hx rfl (hb hby d11_7) kon) ?_
    by_cases hc8 : p1 = (1 : Int32)
    · skip
      refine own_of (fun tgt kon => XS.icmpNo X0.here hx rfl (hb hby d11_8) rfl (teq hc8).2 kon) ?_
      refine own_of (fun tgt kon => XS.iloadN X0.here hx rfl (hb hby d11_11) rfl kon) ?_
      show own_Wp _ _ _ _ (s₁.setTop (mkF m 12 #[iv p1, iv p2, iv p3, iv p4] [(.int p3)]))
      refine own_ret X0 hlk (some (.int p3)) (own_rtI hrt) (fun fs hr => own_retI X0 hx hrt (hb hby d11_12) hr) ?_ (by decide) (by decide)
      rw [e0]
      exact ⟨by unfold own_pk; rw [if_neg hc1, if_pos hc8], N0, rfl⟩
    · skip
      refine own_of (fun tgt kon => XS.icmpYes X0.here hx rfl (pc0 := 8) (pc' := 13) rfl (hb hby d11_8) rfl (feq hc8).2 (by decide) (by decide) kon) ?_
      refine own_of (fun tgt kon => XS.iloadN X0.here hx rfl (hb hby d11_13) rfl kon) ?_
      show own_Wp _ _ _ _ (s₁.setTop (mkF m 14 #[iv p1, iv p2, iv p3, iv p4] [(.int p4)]))
      refine own_ret X0 hlk (some (.int p4)) (own_rtI hrt) (fun fs hr => own_retI X0 hx hrt (hb hby d11_14) hr) ?_ (by decide) (by decide)
      rw [e0]
      exact ⟨by unfold own_pk; rw [if_neg hc1, if_neg hc8], N0, rfl⟩
theorem d12_0 : decode method_3_code 0 = .ok (.iload_n 0, 1) := by decide +kernel
theorem d12_1 : decode method_3_code 1 = .ok (.iload_n 1, 1) := by decide +kernel
theorem d12_2 : decode method_3_code 2 = .ok (.if_icmp .gt 7, 3) := by decide +kernel
theorem d12_9 : decode method_3_code 9 = .ok (.iconst (-1), 1) := by decide +kernel
theorem d12_10 : decode method_3_code 10 = .ok (.ireturn, 1) := by decide +kernel
theorem d12_5 : decode method_3_code 5 = .ok (.iload_n 0, 1) := by decide +kernel
theorem d12_6 : decode method_3_code 6 = .ok (.goto 4, 3) := by decide +kernel
def Q_rmcap (Z : State) (p1 : Int32) (p2 : Int32) (h0 : Heap) (n0 : Nat) (v : Option Value) (h : Heap) (L : List Loc) : Prop := v = some (.int (own_cpI p1 p2)) ∧ Fr n0 L ∧ h = h0
set_option maxRecDepth 65536 in
set_option maxHeartbeats 40000000 in
theorem rmcap (l : Launch) (Z : State) (a0 : Array Value) (hw : ∀ d ∈ tables_1, d.before a0 Z = true) (ws : List Jvm.Cond) (p1 : Int32) (p2 : Int32) (h0 : Heap) (n0 : Nat) (Z0 : n0 ≤ h0.size)  :
    own_Ctr l Z (⟨"com/example/close_words/closewords/BitRowsDistancePinLaw", "cap", "(II)I"⟩ : MethodName) method_3_code 2 (some .int) ws ({ frames := 0, cells := 0, slots := 0, locals := 0 } : Room) #[(.int p1), (.int p2)] h0 (Q_rmcap Z p1 p2 h0 n0) := by
  refine own_enter (plainFor_of_name own_pn2) ?_
  intro p e s m below meth c s₁ X0 hx hby hml hrt hlk hZ hown hnm e0
  have N0 := Fr.nil n0
  have Zs := Z0
  rw [show entryFrame m #[(.int p1), (.int p2)] 2 = mkF m 0 #[iv p1, iv p2] [] from by first | (simp [entryFrame, mkF, argsToLocals, Value.category]; done) | rfl]
  show own_Wp _ _ _ _ (s₁.setTop (mkF m 0 #[iv p1, iv p2] []))
  refine own_of (fun tgt kon => XS.iloadN X0.here hx rfl (hb hby d12_0) rfl kon) ?_
  refine own_of (fun tgt kon => XS.iloadN X0.here hx rfl (hb hby d12_1) rfl kon) ?_
  by_cases hc2 : p2 < p1
  · skip
    refine own_of (fun tgt kon => XS.icmpYes X0.here hx rfl (pc0 := 2) (pc' := 9) rfl (hb hby d12_2) rfl (tlt hc2).2.2.1 (by decide) (by decide) kon) ?_
    refine own_of (fun tgt kon => XS.iconst X0.here hx rfl (hb hby d12_9) kon) ?_
    show own_Wp _ _ _ _ (s₁.setTop (mkF m 10 #[iv p1, iv p2] [(.int (-1 : Int32))]))
    refine own_ret X0 hlk (some (.int (-1 : Int32))) (own_rtI hrt) (fun fs hr => own_retI X0 hx hrt (hb hby d12_10) hr) ?_ (by decide) (by decide)
    rw [e0]
    exact ⟨by unfold own_cpI; rw [if_pos hc2], N0, rfl⟩
  · skip
    refine own_of (fun tgt kon => XS.icmpNo X0.here hx rfl (hb hby d12_2) rfl (flt hc2).2.2.1 kon) ?_
    refine own_of (fun tgt kon => XS.iloadN X0.here hx rfl (hb hby d12_5) rfl kon) ?_
    refine own_of (fun tgt kon => XS.goto X0.here hx rfl (pc0 := 6) (pc' := 10) rfl (hb hby d12_6) (by decide) (by decide) kon) ?_
    show own_Wp _ _ _ _ (s₁.setTop (mkF m 10 #[iv p1, iv p2] [(.int p1)]))
    refine own_ret X0 hlk (some (.int p1)) (own_rtI hrt) (fun fs hr => own_retI X0 hx hrt (hb hby d12_10) hr) ?_ (by decide) (by decide)
    rw [e0]
    exact ⟨by unfold own_cpI; rw [if_neg hc2], N0, rfl⟩
theorem own_rem3 {x k : Int32} (h : k = (x &&& (3 : Int32)) % (3 : Int32)) : k = 0 ∨ k = 1 ∨ k = 2 := by
  have h1 := Jvm.Kit.i32_mask x 3 (k := 2) (by decide) (by decide)
  have h2 : k.toInt = (x.toInt % 2 ^ 2) % 3 := by
    rw [h, Jvm.Kit.i32_rem_nonneg (by rw [h1]; omega), h1]; rfl
  have q : k.toInt = 0 ∨ k.toInt = 1 ∨ k.toInt = 2 := by omega
  rcases q with q | q | q
  · exact Or.inl (Int32.toInt_inj.mp q)
  · exact Or.inr (Or.inl (Int32.toInt_inj.mp q))
  · exact Or.inr (Or.inr (Int32.toInt_inj.mp q))
theorem own_b63 {x k : Int32} (h : k = x &&& (63 : Int32)) : ∃ b : Nat, k.toInt = (b : Int) ∧ b ≤ 63 := by
  have h1 := Jvm.Kit.i32_mask x 63 (k := 6) (by decide) (by decide)
  rw [← h] at h1
  exact ⟨(x.toInt % 2 ^ 6).toNat, by omega, by omega⟩
def own_tx2 (x y : Int32) : Nat → Int32 := fun k => match k with | 0 => x | _ => y
theorem own_dc (x y : Int32) : decide (x = y) = decide (y = x) := by rw [decide_eq_decide]; exact eq_comm
theorem own_m1f (s1 s2 k1 k2 d11 d12 d21 d22 e22 : Int32) (h11 : d11 = own_mni ((own_mni (1 : Int32) (1 : Int32)) + (1 : Int32)) ((0 : Int32) + own_eqv k1 s1)) (h12 : d12 = own_mni ((own_mni (2 : Int32) d11) + (1 : Int32)) ((1 : Int32) + own_eqv k1 s2)) (h21 : d21 = own_mni ((own_mni d11 (2 : Int32)) + (1 : Int32)) ((1 : Int32) + own_eqv k2 s1))
    (h22 : d22 = own_mni ((own_mni d12 d21) + (1 : Int32)) (d11 + own_eqv k2 s2)) (he : e22 = if k2 = s1 ∧ k1 = s2 then own_mni d22 ((0 : Int32) + (1 : Int32)) else d22) :
    (let E1 := own_E1 (decide (s1 = k1)) (decide (s2 = k1)); let E2 := own_E2 (decide (s1 = k1)) (decide (s2 = k1)) (decide (s1 = k2)) (decide (s2 = k2))
     d11 = Int32.ofNat (E1 1) ∧ d12 = Int32.ofNat (E1 2) ∧ d21 = Int32.ofNat (E2 1) ∧ e22 = Int32.ofNat (E2 2) ∧ E1 0 = 1 ∧ E2 0 = 2 ∧ (∀ j : Fin 3, E1 j.1 < 10 ∧ E2 j.1 < 10)) := by
  rw [own_eqe, own_dc] at h11 h12 h21 h22
  have e : (if k2 = s1 ∧ k1 = s2 then own_mni d22 ((0 : Int32) + (1 : Int32)) else d22) = if (decide (s1 = k2) && decide (s2 = k1)) = true then own_mni d22 ((0 : Int32) + (1 : Int32)) else d22 := by
    by_cases q1 : k2 = s1
    · by_cases q2 : k1 = s2
      · rw [if_pos (And.intro q1 q2), if_pos (by rw [decide_eq_true q1.symm, decide_eq_true q2.symm]; rfl)]
      · rw [if_neg (fun q => q2 q.2), if_neg (by rw [decide_eq_false (p := s2 = k1) (fun q => q2 q.symm), Bool.and_false]; exact Bool.false_ne_true)]
    · rw [if_neg (fun q => q1 q.1), if_neg (by rw [decide_eq_false (p := s1 = k2) (fun q => q1 q.symm), Bool.false_and]; exact Bool.false_ne_true)]
  rw [e] at he
  generalize decide (s1 = k1) = b11 at h11 he ⊢
  generalize decide (s2 = k1) = b12 at h12 he ⊢
  generalize decide (s1 = k2) = b21 at h21 he ⊢
  generalize decide (s2 = k2) = b22 at h22 ⊢
  have h := own_m1d b11 b12 b21 b22
  dsimp only at h ⊢
  rw [← h11, ← h12, ← h21, ← h22, ← he] at h
  exact h
theorem own_m1a (x y : Int32) (k : Int32) : (own_rowN (fun j => decide (own_tt x 0 0 j = k)) (fun _ => false) own_id own_id) 1 = own_E1 (decide (x = k)) (decide (y = k)) 1 := rfl
theorem own_m1b (x y : Int32) (k : Int32) : (own_rowN (fun j => decide (own_tt x y 0 j = k)) (fun _ => false) own_id own_id) 2 = own_E1 (decide (x = k)) (decide (y = k)) 2 := rfl
theorem own_m1c (x y k k' : Int32) : (own_rowN (fun j => decide (own_tt x 0 0 j = k')) (fun j => decide (own_tt x 0 0 (j - 1) = k') && decide (own_tt x 0 0 j = k)) (own_rowN (fun j => decide (own_tt x 0 0 j = k)) (fun _ => false) own_id own_id) own_id) 1 = own_E2 (decide (x = k)) (decide (y = k)) (decide (x = k')) (decide (y = k')) 1 := rfl
theorem own_m1e (x y k k' : Int32) : (own_rowN (fun j => decide (own_tt x y 0 j = k')) (fun j => decide (own_tt x y 0 (j - 1) = k') && decide (own_tt x y 0 j = k)) (own_rowN (fun j => decide (own_tt x y 0 j = k)) (fun _ => false) own_id own_id) own_id) 2 = own_E2 (decide (x = k)) (decide (y = k)) (decide (x = k')) (decide (y = k')) 2 := rfl
theorem own_pd4 : parseMethodDescriptor "([IIIII)V" = some ⟨[(.array .int), .int, .int, .int, .int], none⟩ := by decide +kernel
theorem own_pd5 : parseMethodDescriptor "(IIZ)Z" = some ⟨[.int, .int, .boolean], some .boolean⟩ := by decide +kernel
theorem own_pd6 : parseMethodDescriptor "(IIII)I" = some ⟨[.int, .int, .int, .int], some .int⟩ := by decide +kernel
def Q_rm0 (Z : State) (p1 : Int32) (p2 : Int32) (p3 : Int32) (p4 : Int32) (p5 : Int32) (p6 : Int32) (h0 : Heap) (n0 : Nat) (v : Option Value) (h : Heap) (L : List Loc) : Prop := v = some (.int 1) ∧ Fr n0 L
set_option maxRecDepth 65536 in
set_option maxHeartbeats 40000000 in
theorem rm0 (l : Launch) (Z : State) (a0 : Array Value) (hw : ∀ d ∈ tables_1, d.before a0 Z = true) (ws : List Jvm.Cond) (p1 : Int32) (p2 : Int32) (p3 : Int32) (p4 : Int32) (p5 : Int32) (p6 : Int32) (h0 : Heap) (n0 : Nat) (Z0 : n0 ≤ h0.size)  :
    own_Ctr l Z x code maxLocals ret ws room_1 #[(.int p1), (.int p2), (.int p3), (.int p4), (.int p5), (.int p6)] h0 (Q_rm0 Z p1 p2 p3 p4 p5 p6 h0 n0) := by
  refine own_enter (plainFor_of_name own_pn2) ?_
  intro p e s m below meth c s₁ X0 hx hby hml hrt hlk hZ hown hnm e0
  have N0 := Fr.nil n0
  have Zs := Z0
  rw [show entryFrame m #[(.int p1), (.int p2), (.int p3), (.int p4), (.int p5), (.int p6)] maxLocals = mkF m 0 #[iv p1, iv p2, iv p3, iv p4, iv p5, iv p6, uu, uu, uu, uu, uu, uu, uu, uu, uu, uu, uu, uu, uu, uu, uu, uu, uu, uu, uu, uu, uu, uu, uu, uu] [] from by first | (simp [entryFrame, mkF, argsToLocals, Value.category, maxLocals]; done) | rfl]
  show own_Wp _ _ _ _ (s₁.setTop (mkF m 0 #[iv p1, iv p2, iv p3, iv p4, iv p5, iv p6, uu, uu, uu, uu, uu, uu, uu, uu, uu, uu, uu, uu, uu, uu, uu, uu, uu, uu, uu, uu, uu, uu, uu, uu] []))
  refine own_of (fun tgt kon => XS.iload X0.here hx rfl (hb hby at_0) rfl kon) ?_
  refine own_of (fun tgt kon => XS.iconst X0.here hx rfl (hb hby at_2) kon) ?_
  refine own_of (fun tgt kon => XS.iand X0.here hx rfl (hb hby at_3) rfl kon) ?_
  refine own_of (fun tgt kon => XS.iconst X0.here hx rfl (hb hby at_4) kon) ?_
  refine own_of (fun tgt kon => iremM X0 hx rfl (hb hby at_5) rfl (by decide) kon) ?_
  show own_Wp _ _ _ _ (s₁.setTop (mkF m 6 #[iv p1, iv p2, iv p3, iv p4, iv p5, iv p6, uu, uu, uu, uu, uu, uu, uu, uu, uu, uu, uu, uu, uu, uu, uu, uu, uu, uu, uu, uu, uu, uu, uu, uu] [(.int ((p5 &&& (3 : Int32)) % (3 : Int32)))]))
  obtain ⟨nv, h_nv⟩ : ∃ q : Int32, q = ((p5 &&& (3 : Int32)) % (3 : Int32)) := ⟨_, rfl⟩
  rw [← h_nv]
  refine own_of (fun tgt kon => XS.istore X0.here hx rfl (hb hby at_6) rfl (l' := #[iv p1, iv p2, iv p3, iv p4, iv p5, iv p6, iv nv, uu, uu, uu, uu, uu, uu, uu, uu, uu, uu, uu, uu, uu, uu, uu, uu, uu, uu, uu, uu, uu, uu, uu]) rfl kon) ?_
  show own_Wp _ _ _ _ (s₁.setTop (mkF m 8 #[iv p1, iv p2, iv p3, iv p4, iv p5, iv p6, iv nv, uu, uu, uu, uu, uu, uu, uu, uu, uu, uu, uu, uu, uu, uu, uu, uu, uu, uu, uu, uu, uu, uu, uu] []))
  have h3 := own_rem3 h_nv
  clear h_nv
  rcases h3 with rfl | rfl | rfl
  · skip
    show own_Wp _ _ _ _ (s₁.setTop (mkF m 8 #[iv p1, iv p2, iv p3, iv p4, iv p5, iv p6, iv (0 : Int32), uu, uu, uu, uu, uu, uu, uu, uu, uu, uu, uu, uu, uu, uu, uu, uu, uu, uu, uu, uu, uu, uu, uu] []))
    refine own_of (fun tgt kon => XS.iload X0.here hx rfl (hb hby at_8) rfl kon) ?_
    refine own_of (fun tgt kon => XS.iconst X0.here hx rfl (hb hby at_10) kon) ?_
    refine own_of (fun tgt kon => XS.iand X0.here hx rfl (hb hby at_11) rfl kon) ?_
    show own_Wp _ _ _ _ (s₁.setTop (mkF m 12 #[iv p1, iv p2, iv p3, iv p4, iv p5, iv p6, iv (0 : Int32), uu, uu, uu, uu, uu, uu, uu, uu, uu, uu, uu, uu, uu, uu, uu, uu, uu, uu, uu, uu, uu, uu, uu] [(.int (p5 &&& (4 : Int32)))]))
    have J20 : ∀ (br : Int32), (br = if (p5 &&& (4 : Int32)) = (0 : Int32) then (0 : Int32) else 1) → own_Wp p.tables e below (own_K room_1 s below (Q_rm0 Z p1 p2 p3 p4 p5 p6 h0 n0)) (s₁.setTop (mkF m 20 #[iv p1, iv p2, iv p3, iv p4, iv p5, iv p6, iv (0 : Int32), uu, uu, uu, uu, uu, uu, uu, uu, uu, uu, uu, uu, uu, uu, uu, uu, uu, uu, uu, uu, uu, uu, uu] [(.int br)])) := by
      intro br h_br
      refine own_of (fun tgt kon => XS.istore X0.here hx rfl (hb hby at_20) rfl (l' := #[iv p1, iv p2, iv p3, iv p4, iv p5, iv p6, iv (0 : Int32), iv br, uu, uu, uu, uu, uu, uu, uu, uu, uu, uu, uu, uu, uu, uu, uu, uu, uu, uu, uu, uu, uu, uu]) rfl kon) ?_
      refine own_of (fun tgt kon => XS.iload X0.here hx rfl (hb hby at_22) rfl kon) ?_
      refine own_of (fun tgt kon => XS.bipush X0.here hx rfl (hb hby at_24) kon) ?_
      refine own_of (fun tgt kon => XS.iand X0.here hx rfl (hb hby at_26) rfl kon) ?_
      show own_Wp _ _ _ _ (s₁.setTop (mkF m 27 #[iv p1, iv p2, iv p3, iv p4, iv p5, iv p6, iv (0 : Int32), iv br, uu, uu, uu, uu, uu, uu, uu, uu, uu, uu, uu, uu, uu, uu, uu, uu, uu, uu, uu, uu, uu, uu] [(.int (p6 &&& (63 : Int32)))]))
      obtain ⟨bnd, h_bnd⟩ : ∃ q : Int32, q = (p6 &&& (63 : Int32)) := ⟨_, rfl⟩
      rw [← h_bnd]
      refine own_of (fun tgt kon => XS.istore X0.here hx rfl (hb hby at_27) rfl (l' := #[iv p1, iv p2, iv p3, iv p4, iv p5, iv p6, iv (0 : Int32), iv br, iv bnd, uu, uu, uu, uu, uu, uu, uu, uu, uu, uu, uu, uu, uu, uu, uu, uu, uu, uu, uu, uu, uu]) rfl kon) ?_
      refine own_of (fun tgt kon => XS.iloadN X0.here hx rfl (hb hby at_29) rfl kon) ?_
      refine own_callS X0 hx hZ (y := (⟨"com/example/close_words/closewords/BitRowsDistancePinLaw", "ch", "(I)I"⟩ : MethodName)) (argsL := [(.int p1)]) (rest := []) (W := 0) hown (ow hw 0 rfl) (ow hw 1 rfl) (ow hw 2 rfl) (ow hw 3 rfl) (by decide) e0 (rmch l Z a0 hw [] p1 h0 n0 Zs) (by decide) (by decide) (by decide) (by decide) rfl (by rw [hml]; rfl) (lenOf own_pd3 rfl) rfl (by show 2 * 0 + _ ≤ _; exact Nat.le_of_eq rfl) (hb hby at_30) ?_
      rintro T1 L1 _ X1 ⟨rfl, N1q, e1⟩
      have N1 := Fr.app N0 N1q
      show own_Wp _ _ _ _ (T1.setTop (mkF m 33 #[iv p1, iv p2, iv p3, iv p4, iv p5, iv p6, iv (0 : Int32), iv br, iv bnd, uu, uu, uu, uu, uu, uu, uu, uu, uu, uu, uu, uu, uu, uu, uu, uu, uu, uu, uu, uu, uu] [(.int ((p1 &&& (3 : Int32)) ||| ((p1 &&& (4 : Int32)) <<< ((5 : Int32) &&& 31))))]))
      obtain ⟨s1, h_s1⟩ : ∃ q : Int32, q = ((p1 &&& (3 : Int32)) ||| ((p1 &&& (4 : Int32)) <<< ((5 : Int32) &&& 31))) := ⟨_, rfl⟩
      rw [← h_s1]
      refine own_of (fun tgt kon => XS.istore X1.here hx rfl (hb hby at_33) rfl (l' := #[iv p1, iv p2, iv p3, iv p4, iv p5, iv p6, iv (0 : Int32), iv br, iv bnd, iv s1, uu, uu, uu, uu, uu, uu, uu, uu, uu, uu, uu, uu, uu, uu, uu, uu, uu, uu, uu, uu]) rfl kon) ?_
      refine own_of (fun tgt kon => XS.iloadN X1.here hx rfl (hb hby at_35) rfl kon) ?_
      refine own_callS X1 hx hZ (y := (⟨"com/example/close_words/closewords/BitRowsDistancePinLaw", "ch", "(I)I"⟩ : MethodName)) (argsL := [(.int p2)]) (rest := []) (W := 0) hown (ow hw 0 rfl) (ow hw 1 rfl) (ow hw 2 rfl) (ow hw 3 rfl) (by decide) e1 (rmch l Z a0 hw [] p2 h0 n0 Zs) (by decide) (by decide) (by decide) (by decide) rfl (by rw [hml]; rfl) (lenOf own_pd3 rfl) rfl (by show 2 * 0 + _ ≤ _; exact Nat.le_of_eq rfl) (hb hby at_36) ?_
      rintro T2 L2 _ X2 ⟨rfl, N2q, e2⟩
      have N2 := Fr.app N1 N2q
      show own_Wp _ _ _ _ (T2.setTop (mkF m 39 #[iv p1, iv p2, iv p3, iv p4, iv p5, iv p6, iv (0 : Int32), iv br, iv bnd, iv s1, uu, uu, uu, uu, uu, uu, uu, uu, uu, uu, uu, uu, uu, uu, uu, uu, uu, uu, uu, uu] [(.int ((p2 &&& (3 : Int32)) ||| ((p2 &&& (4 : Int32)) <<< ((5 : Int32) &&& 31))))]))
      obtain ⟨s2, h_s2⟩ : ∃ q : Int32, q = ((p2 &&& (3 : Int32)) ||| ((p2 &&& (4 : Int32)) <<< ((5 : Int32) &&& 31))) := ⟨_, rfl⟩
      rw [← h_s2]
      refine own_of (fun tgt kon => XS.istore X2.here hx rfl (hb hby at_39) rfl (l' := #[iv p1, iv p2, iv p3, iv p4, iv p5, iv p6, iv (0 : Int32), iv br, iv bnd, iv s1, iv s2, uu, uu, uu, uu, uu, uu, uu, uu, uu, uu, uu, uu, uu, uu, uu, uu, uu, uu, uu]) rfl kon) ?_
      refine own_of (fun tgt kon => XS.iloadN X2.here hx rfl (hb hby at_41) rfl kon) ?_
      refine own_callS X2 hx hZ (y := (⟨"com/example/close_words/closewords/BitRowsDistancePinLaw", "ch", "(I)I"⟩ : MethodName)) (argsL := [(.int p3)]) (rest := []) (W := 0) hown (ow hw 0 rfl) (ow hw 1 rfl) (ow hw 2 rfl) (ow hw 3 rfl) (by decide) e2 (rmch l Z a0 hw [] p3 h0 n0 Zs) (by decide) (by decide) (by decide) (by decide) rfl (by rw [hml]; rfl) (lenOf own_pd3 rfl) rfl (by show 2 * 0 + _ ≤ _; exact Nat.le_of_eq rfl) (hb hby at_42) ?_
      rintro T3 L3 _ X3 ⟨rfl, N3q, e3⟩
      have N3 := Fr.app N2 N3q
      show own_Wp _ _ _ _ (T3.setTop (mkF m 45 #[iv p1, iv p2, iv p3, iv p4, iv p5, iv p6, iv (0 : Int32), iv br, iv bnd, iv s1, iv s2, uu, uu, uu, uu, uu, uu, uu, uu, uu, uu, uu, uu, uu, uu, uu, uu, uu, uu, uu] [(.int ((p3 &&& (3 : Int32)) ||| ((p3 &&& (4 : Int32)) <<< ((5 : Int32) &&& 31))))]))
      obtain ⟨k1, h_k1⟩ : ∃ q : Int32, q = ((p3 &&& (3 : Int32)) ||| ((p3 &&& (4 : Int32)) <<< ((5 : Int32) &&& 31))) := ⟨_, rfl⟩
      rw [← h_k1]
      refine own_of (fun tgt kon => XS.istore X3.here hx rfl (hb hby at_45) rfl (l' := #[iv p1, iv p2, iv p3, iv p4, iv p5, iv p6, iv (0 : Int32), iv br, iv bnd, iv s1, iv s2, iv k1, uu, uu, uu, uu, uu, uu, uu, uu, uu, uu, uu, uu, uu, uu, uu, uu, uu, uu]) rfl kon) ?_
      refine own_of (fun tgt kon => XS.iloadN X3.here hx rfl (hb hby at_47) rfl kon) ?_
      refine own_callS X3 hx hZ (y := (⟨"com/example/close_words/closewords/BitRowsDistancePinLaw", "ch", "(I)I"⟩ : MethodName)) (argsL := [(.int p4)]) (rest := []) (W := 0) hown (ow hw 0 rfl) (ow hw 1 rfl) (ow hw 2 rfl) (ow hw 3 rfl) (by decide) e3 (rmch l Z a0 hw [] p4 h0 n0 Zs) (by decide) (by decide) (by decide) (by decide) rfl (by rw [hml]; rfl) (lenOf own_pd3 rfl) rfl (by show 2 * 0 + _ ≤ _; exact Nat.le_of_eq rfl) (hb hby at_48) ?_
      rintro T4 L4 _ X4 ⟨rfl, N4q, e4⟩
      have N4 := Fr.app N3 N4q
      show own_Wp _ _ _ _ (T4.setTop (mkF m 51 #[iv p1, iv p2, iv p3, iv p4, iv p5, iv p6, iv (0 : Int32), iv br, iv bnd, iv s1, iv s2, iv k1, uu, uu, uu, uu, uu, uu, uu, uu, uu, uu, uu, uu, uu, uu, uu, uu, uu, uu] [(.int ((p4 &&& (3 : Int32)) ||| ((p4 &&& (4 : Int32)) <<< ((5 : Int32) &&& 31))))]))
      obtain ⟨k2, h_k2⟩ : ∃ q : Int32, q = ((p4 &&& (3 : Int32)) ||| ((p4 &&& (4 : Int32)) <<< ((5 : Int32) &&& 31))) := ⟨_, rfl⟩
      rw [← h_k2]
      refine own_of (fun tgt kon => XS.istore X4.here hx rfl (hb hby at_51) rfl (l' := #[iv p1, iv p2, iv p3, iv p4, iv p5, iv p6, iv (0 : Int32), iv br, iv bnd, iv s1, iv s2, iv k1, iv k2, uu, uu, uu, uu, uu, uu, uu, uu, uu, uu, uu, uu, uu, uu, uu, uu, uu]) rfl kon) ?_
      show own_Wp _ _ _ _ (T4.setTop (mkF m 53 #[iv p1, iv p2, iv p3, iv p4, iv p5, iv p6, iv (0 : Int32), iv br, iv bnd, iv s1, iv s2, iv k1, iv k2, uu, uu, uu, uu, uu, uu, uu, uu, uu, uu, uu, uu, uu, uu, uu, uu, uu] []))
      obtain ⟨bd, hbd, hbd63⟩ := own_b63 h_bnd
      obtain ⟨c1, q⟩ := own_ch p1
      rw [← h_s1] at q
      clear h_s1
      subst q
      obtain ⟨c2, q⟩ := own_ch p2
      rw [← h_s2] at q
      clear h_s2
      subst q
      obtain ⟨c3, q⟩ := own_ch p3
      rw [← h_k1] at q
      clear h_k1
      subst q
      obtain ⟨c4, q⟩ := own_ch p4
      rw [← h_k2] at q
      clear h_k2
      subst q
      show own_Wp _ _ _ _ (T4.setTop (mkF m 53 #[iv p1, iv p2, iv p3, iv p4, iv p5, iv p6, iv (0 : Int32), iv br, iv bnd, iv (own_chr c1), iv (own_chr c2), iv (own_chr c3), iv (own_chr c4), uu, uu, uu, uu, uu, uu, uu, uu, uu, uu, uu, uu, uu, uu, uu, uu, uu] []))
      refine own_of (fun tgt kon => XS.iload X4.here hx rfl (hb hby at_53) rfl kon) ?_
      have hc55 : (0 : Int32) = (0 : Int32) := by decide
      refine own_of (fun tgt kon => XS.ifNo X4.here hx rfl (hb hby at_55) rfl ((if0 _ _).trans (teq hc55).2) kon) ?_
      refine own_of (fun tgt kon => XS.iconst X4.here hx rfl (hb hby at_58) kon) ?_
      obtain ⟨T5, h5, k5, X5, e5, E5, A5, st5⟩ := newP X4 hx hZ (ow hw 4 rfl) e4 (g := (mkF m 59 #[iv p1, iv p2, iv p3, iv p4, iv p5, iv p6, iv (0 : Int32), iv br, iv bnd, iv (own_chr c1), iv (own_chr c2), iv (own_chr c3), iv (own_chr c4), uu, uu, uu, uu, uu, uu, uu, uu, uu, uu, uu, uu, uu, uu, uu, uu, uu] [(.int (0 : Int32))])) rfl (hb hby at_59) rfl (by decide) (cap := 0) (by decide) (by decide) (by decide) (by decide)
      refine own_of st5 ?_
      clear st5
      obtain ⟨b5, gq5⟩ : ∃ z, z = h0.size := ⟨_, rfl⟩
      rw [← gq5] at A5 ⊢
      have g_b5 : n0 ≤ b5 := Nat.le_trans Zs (Nat.le_of_eq gq5.symm)
      replace Zs := Nat.le_trans Zs E5.1
      have V_b5 : own_Ar Z h5 b5 .int 0 (fun _ => (.int (0 : Int32))) := own_Ar.new A5 (by decide) rfl
      refine own_of (fun tgt kon => XS.astore X5.here hx rfl (hb hby at_61) rfl rfl (l' := #[iv p1, iv p2, iv p3, iv p4, iv p5, iv p6, iv (0 : Int32), iv br, iv bnd, iv (own_chr c1), iv (own_chr c2), iv (own_chr c3), iv (own_chr c4), rv b5, uu, uu, uu, uu, uu, uu, uu, uu, uu, uu, uu, uu, uu, uu, uu, uu]) rfl kon) ?_
      show own_Wp _ _ _ _ (T5.setTop (mkF m 63 #[iv p1, iv p2, iv p3, iv p4, iv p5, iv p6, iv (0 : Int32), iv br, iv bnd, iv (own_chr c1), iv (own_chr c2), iv (own_chr c3), iv (own_chr c4), rv b5, uu, uu, uu, uu, uu, uu, uu, uu, uu, uu, uu, uu, uu, uu, uu, uu] []))
      refine own_of (fun tgt kon => XS.goto X5.here hx rfl (pc0 := 63) (pc' := 103) rfl (hb hby at_63) (by decide) (by decide) kon) ?_
      show own_Wp _ _ _ _ (T5.setTop (mkF m 103 #[iv p1, iv p2, iv p3, iv p4, iv p5, iv p6, iv (0 : Int32), iv br, iv bnd, iv (own_chr c1), iv (own_chr c2), iv (own_chr c3), iv (own_chr c4), rv b5, uu, uu, uu, uu, uu, uu, uu, uu, uu, uu, uu, uu, uu, uu, uu, uu] []))
      replace V_b5 := V_b5.fn (f' := fun k => .int ((own_tx2 0 0) k)) (by intro k hk; rcases k with _ | k <;> first | rfl | omega)
      obtain ⟨cp0, co0, hcp0, hco0, htab⟩ := own_tb0 
      obtain ⟨T6, h6, X6, e6, E6, A6, D6, -, st6⟩ := newO X5 hx hZ hown (ow hw 5 rfl) (ow hw 6 rfl) (ow hw 7 rfl) e5 (g := (mkF m 103 #[iv p1, iv p2, iv p3, iv p4, iv p5, iv p6, iv (0 : Int32), iv br, iv bnd, iv (own_chr c1), iv (own_chr c2), iv (own_chr c3), iv (own_chr c4), rv b5, uu, uu, uu, uu, uu, uu, uu, uu, uu, uu, uu, uu, uu, uu, uu, uu] [])) rfl (hb hby at_103) (by decide) (by decide)
      refine own_of st6 ?_
      clear st6
      obtain ⟨b6, gq6⟩ : ∃ z, z = h5.size := ⟨_, rfl⟩
      rw [← gq6] at A6 D6 ⊢
      have ne_b5_b6 : b5 ≠ b6 := Nat.ne_of_lt (Nat.lt_of_lt_of_le V_b5.lt (Nat.le_of_eq gq6.symm))
      have g_b6 : n0 ≤ b6 := Nat.le_trans Zs (Nat.le_of_eq gq6.symm)
      replace Zs := Nat.le_trans Zs E6.1
      replace V_b5 := V_b5.ext E6
      have E_b6 := A6
      have F_bound_b6 : Fld Z h6 b6 "com/example/close_words/closewords/BitRows" "bound" "I" (.int (0 : Int32)) := D6 (Or.inr (ow hw 15 rfl)) (ty := .int) (by decide)
      have F_headBound_b6 : Fld Z h6 b6 "com/example/close_words/closewords/BitRows" "headBound" "I" (.int (0 : Int32)) := D6 (Or.inr (ow hw 17 rfl)) (ty := .int) (by decide)
      have F_levels_b6 : Fld Z h6 b6 "com/example/close_words/closewords/BitRows" "levels" "I" (.int (0 : Int32)) := D6 (Or.inr (ow hw 19 rfl)) (ty := .int) (by decide)
      have F_columns_b6 : Fld Z h6 b6 "com/example/close_words/closewords/BitRows" "columns" "J" (.long (0 : Int64)) := D6 (Or.inr (ow hw 24 rfl)) (ty := .long) (by decide)
      have F_lastColumn_b6 : Fld Z h6 b6 "com/example/close_words/closewords/BitRows" "lastColumn" "J" (.long (0 : Int64)) := D6 (Or.inr (ow hw 26 rfl)) (ty := .long) (by decide)
      have F_outsideHead_b6 : Fld Z h6 b6 "com/example/close_words/closewords/BitRows" "outsideHead" "J" (.long (0 : Int64)) := D6 (Or.inr (ow hw 29 rfl)) (ty := .long) (by decide)
      have F_codePoints_b6 : Fld Z h6 b6 "com/example/close_words/closewords/BitRows" "codePoints" "[I" .null := D6 (Or.inr (ow hw 31 rfl)) (ty := (.array .int)) (by decide)
      have F_columnsOf_b6 : Fld Z h6 b6 "com/example/close_words/closewords/BitRows" "columnsOf" "[J" .null := D6 (Or.inr (ow hw 34 rfl)) (ty := (.array .long)) (by decide)
      have F_rows_b6 : Fld Z h6 b6 "com/example/close_words/closewords/BitRows" "rows" "[J" .null := D6 (Or.inr (ow hw 36 rfl)) (ty := (.array .long)) (by decide)
      have F_matches_b6 : Fld Z h6 b6 "com/example/close_words/closewords/BitRows" "matches" "[J" .null := D6 (Or.inr (ow hw 38 rfl)) (ty := (.array .long)) (by decide)
      refine own_of (fun tgt kon => XS.dup X6.here hx rfl (hb hby at_106) rfl rfl kon) ?_
      refine own_of (fun tgt kon => XS.aload X6.here hx rfl (hb hby at_107) rfl rfl kon) ?_
      refine own_of (fun tgt kon => XS.iload X6.here hx rfl (hb hby at_109) rfl kon) ?_
      refine own_of (fun tgt kon => XS.iconst X6.here hx rfl (hb hby at_111) kon) ?_
      show own_Wp _ _ _ _ (T6.setTop (mkF m 112 #[iv p1, iv p2, iv p3, iv p4, iv p5, iv p6, iv (0 : Int32), iv br, iv bnd, iv (own_chr c1), iv (own_chr c2), iv (own_chr c3), iv (own_chr c4), rv b5, uu, uu, uu, uu, uu, uu, uu, uu, uu, uu, uu, uu, uu, uu, uu, uu] [(.int (-1 : Int32)), (.int bnd), (.ref b5), (.ref b6), (.ref b6)]))
      refine own_of (fun tgt kon => XS.iload X6.here hx rfl (hb hby at_112) rfl kon) ?_
      refine own_of (fun tgt kon => XS.iconst X6.here hx rfl (hb hby at_114) kon) ?_
      refine own_callI X6 hx hZ (y := (⟨"com/example/close_words/closewords/BitRows", "<init>", "([IIIII)V"⟩ : MethodName)) (a := b6) (argsL := [(.ref b5), (.int bnd), (.int (-1 : Int32)), (.int bnd), (.int (2 : Int32))]) (rest := [(.ref b6)]) (W := 1) rfl hown (ow hw 8 rfl) (ow hw 9 rfl) (ow hw 7 rfl) (ow hw 10 rfl) (by decide) e6 (rmct0 l Z a0 hw [] b6 b5 bnd (-1) bnd 2 (own_tx2 0 0) bd bd 2 (3 * (bd + 1)) cp0 co0 h6 n0 Zs E_b6 _ _ _ _ _ _ _ _ _ _ F_bound_b6 F_headBound_b6 F_levels_b6 F_columns_b6 F_lastColumn_b6 F_outsideHead_b6 F_codePoints_b6 F_columnsOf_b6 F_rows_b6 F_matches_b6 V_b5 (Ne.symm ne_b5_b6) g_b6 hbd hbd63 hbd hbd63 (by decide) (by decide) rfl hcp0 hco0 ) (by decide) (by decide) (by decide) (by decide) rfl (by rw [hml]; rfl) (lenOf own_pd4 rfl) rfl (by show 2 * 0 + _ ≤ _; exact Nat.le_of_eq rfl) (hb hby at_115) ?_
      rintro T7 L7 _ X7 ⟨rfl, N7q, Kq7, Eq7, ac, ao, ar, am, g_ac, g_ao, g_ar, g_am, ne_b6_ar, ne_b6_am, ne_ac_ar, ne_ac_am, ne_ao_ar, ne_ao_am, ne_am_ar, F_bound_q, F_headBound_q, F_levels_q, F_columns_q, F_lastColumn_q, F_outsideHead_q, F_codePoints_q, F_columnsOf_q, F_rows_q, F_matches_q, V_ac, V_ao, V_ar, V_am⟩
      have N7 := Fr.app N4 N7q
      show own_Wp _ _ _ _ (T7.setTop (mkF m 118 #[iv p1, iv p2, iv p3, iv p4, iv p5, iv p6, iv (0 : Int32), iv br, iv bnd, iv (own_chr c1), iv (own_chr c2), iv (own_chr c3), iv (own_chr c4), rv b5, uu, uu, uu, uu, uu, uu, uu, uu, uu, uu, uu, uu, uu, uu, uu, uu] [(.ref b6)]))
      replace Zs := Nat.le_trans Zs Kq7.1
      replace V_b5 := V_b5.keep Kq7 (ninS ne_b5_b6 nin0)
      replace E_b6 := E_b6.keep Kq7
      replace E_b6 := Eq7
      have hout : (if (-1 : Int32) < (0 : Int32) then (-1 : Int64) else (own_upTo (-1 : Int32) ^^^ (-1 : Int64))) = (-1 : Int64) := by decide
      rw [hout] at F_outsideHead_q
      have F_bound_b6 := F_bound_q
      have F_headBound_b6 := F_headBound_q
      have F_levels_b6 := F_levels_q
      have F_columns_b6 := F_columns_q
      have F_lastColumn_b6 := F_lastColumn_q
      have F_outsideHead_b6 := F_outsideHead_q
      have F_codePoints_b6 := F_codePoints_q
      have F_columnsOf_b6 := F_columnsOf_q
      have F_rows_b6 := F_rows_q
      have F_matches_b6 := F_matches_q
      obtain ⟨rf0, hrf0⟩ : ∃ z, z = own_r0k 0 bd (-1) (bd + 1) := ⟨_, rfl⟩
      replace V_ar := V_ar.fn (f' := fun y => .long (rf0 y)) (fun y hy => by rw [hrf0, hout])
      have hlv : (bnd + (1 : Int32)).toInt = ((bd + 1 : Nat) : Int) := by have q := own_addI hbd (show (1 : Int32).toInt = 1 from by decide) (by omega) (by omega); omega
      refine own_of (fun tgt kon => XS.astore X7.here hx rfl (hb hby at_118) rfl rfl (l' := #[iv p1, iv p2, iv p3, iv p4, iv p5, iv p6, iv (0 : Int32), iv br, iv bnd, iv (own_chr c1), iv (own_chr c2), iv (own_chr c3), iv (own_chr c4), rv b5, rv b6, uu, uu, uu, uu, uu, uu, uu, uu, uu, uu, uu, uu, uu, uu, uu]) rfl kon) ?_
      refine own_of (fun tgt kon => XS.aload X7.here hx rfl (hb hby at_120) rfl rfl kon) ?_
      refine own_of (fun tgt kon => XS.iconst X7.here hx rfl (hb hby at_122) kon) ?_
      refine own_of (fun tgt kon => XS.iload X7.here hx rfl (hb hby at_123) rfl kon) ?_
      refine own_of (fun tgt kon => XS.iload X7.here hx rfl (hb hby at_125) rfl kon) ?_
      show own_Wp _ _ _ _ (T7.setTop (mkF m 127 #[iv p1, iv p2, iv p3, iv p4, iv p5, iv p6, iv (0 : Int32), iv br, iv bnd, iv (own_chr c1), iv (own_chr c2), iv (own_chr c3), iv (own_chr c4), rv b5, rv b6, uu, uu, uu, uu, uu, uu, uu, uu, uu, uu, uu, uu, uu, uu, uu] [(.int br), (.int (own_chr c3)), (.int (1 : Int32)), (.ref b6)]))
      obtain ⟨RK1, hRK1, hSK1, hLK1, hBK1⟩ := htab c3
      obtain ⟨F1, hF1⟩ : ∃ z, z = own_F (co0 RK1) 0 (own_upTo (0 : Int32)) (-1) bd (fun d => rf0 (0 * (bd + 1) + d)) (fun d => rf0 (0 * (bd + 1) + d)) := ⟨_, rfl⟩
      refine own_callV X7 hx hZ (C := "com/example/close_words/closewords/BitRows") (y := (⟨"com/example/close_words/closewords/BitRows", "fill", "(IIZ)Z"⟩ : MethodName)) (a := b6) (argsL := [(.int (1 : Int32)), (.int (own_chr c3)), (.int br)]) (rest := []) (W := 0) hown (ow hw 47 rfl) (ow hw 48 rfl) (ow hw 50 rfl) (ow hw 49 rfl) (ow hw 7 rfl) (ow hw 51 rfl) (by decide) rfl E_b6 (rmro1 l Z a0 hw [] b6 (own_chr c3) br ac ao ar am cp0 co0 rf0 (fun _ => (0 : Int64)) F1 (bnd + (1 : Int32)) bnd (own_upTo (0 : Int32)) (-1) bd bd (3 * (bd + 1)) 3 RK1 T7.heap n0 Zs E_b6 F_columnsOf_b6 F_codePoints_b6 F_matches_b6 F_rows_b6 F_levels_b6 F_columns_b6 F_headBound_b6 F_outsideHead_b6 V_ac V_ao V_ar V_am ne_b6_ar ne_b6_am ne_ac_ar ne_ac_am ne_ao_ar ne_ao_am ne_am_ar g_ar g_am hlv hbd63 hbd hbd63 (by omega) (by decide) hRK1 hSK1 hLK1 (by rw [hF1]; rfl) (by intro d; rw [hF1]; exact own_F_succ _ _ _ _ _ _ _ d)) (by decide) (by decide) (by decide) (by decide) rfl (by rw [hml]; rfl) (lenOf own_pd5 rfl) rfl (by show 2 * 0 + _ ≤ _; exact Nat.le_of_eq rfl) (hb hby at_127) ?_
      rintro T8 L8 _ X8 ⟨rfl, N8q, Kq8, V_ar_q, V_am_q⟩
      have N8 := Fr.app N7 N8q
      show own_Wp _ _ _ _ (T8.setTop (mkF m 130 #[iv p1, iv p2, iv p3, iv p4, iv p5, iv p6, iv (0 : Int32), iv br, iv bnd, iv (own_chr c1), iv (own_chr c2), iv (own_chr c3), iv (own_chr c4), rv b5, rv b6, uu, uu, uu, uu, uu, uu, uu, uu, uu, uu, uu, uu, uu, uu, uu] [(.int (if F1 bd = 0 then 0 else 1))]))
      replace Zs := Nat.le_trans Zs Kq8.1
      replace E_b6 := E_b6.keep Kq8
      replace F_bound_b6 := F_bound_b6.keep Kq8 (ninS ne_b6_ar (ninS ne_b6_am nin0))
      replace F_headBound_b6 := F_headBound_b6.keep Kq8 (ninS ne_b6_ar (ninS ne_b6_am nin0))
      replace F_levels_b6 := F_levels_b6.keep Kq8 (ninS ne_b6_ar (ninS ne_b6_am nin0))
      replace F_columns_b6 := F_columns_b6.keep Kq8 (ninS ne_b6_ar (ninS ne_b6_am nin0))
      replace F_lastColumn_b6 := F_lastColumn_b6.keep Kq8 (ninS ne_b6_ar (ninS ne_b6_am nin0))
      replace F_outsideHead_b6 := F_outsideHead_b6.keep Kq8 (ninS ne_b6_ar (ninS ne_b6_am nin0))
      replace F_codePoints_b6 := F_codePoints_b6.keep Kq8 (ninS ne_b6_ar (ninS ne_b6_am nin0))
      replace F_columnsOf_b6 := F_columnsOf_b6.keep Kq8 (ninS ne_b6_ar (ninS ne_b6_am nin0))
      replace F_rows_b6 := F_rows_b6.keep Kq8 (ninS ne_b6_ar (ninS ne_b6_am nin0))
      replace F_matches_b6 := F_matches_b6.keep Kq8 (ninS ne_b6_ar (ninS ne_b6_am nin0))
      replace V_ac := V_ac.keep Kq8 (ninS ne_ac_ar (ninS ne_ac_am nin0))
      replace V_ao := V_ao.keep Kq8 (ninS ne_ao_ar (ninS ne_ao_am nin0))
      obtain ⟨rf1, hrf1⟩ : ∃ z, z = own_rk rf0 (1 * (bd + 1)) F1 (bd + 1) := ⟨_, rfl⟩
      have V_ar := V_ar_q.fn (f' := fun y => .long (rf1 y)) (fun y hy => by rw [hrf1])
      have V_am := V_am_q
      refine own_of (fun tgt kon => XS.pop X8.here hx rfl (hb hby at_130) rfl rfl kon) ?_
      refine own_of (fun tgt kon => XS.aload X8.here hx rfl (hb hby at_131) rfl rfl kon) ?_
      refine own_of (fun tgt kon => XS.iconst X8.here hx rfl (hb hby at_133) kon) ?_
      refine own_of (fun tgt kon => XS.iload X8.here hx rfl (hb hby at_134) rfl kon) ?_
      refine own_of (fun tgt kon => XS.iload X8.here hx rfl (hb hby at_136) rfl kon) ?_
      show own_Wp _ _ _ _ (T8.setTop (mkF m 138 #[iv p1, iv p2, iv p3, iv p4, iv p5, iv p6, iv (0 : Int32), iv br, iv bnd, iv (own_chr c1), iv (own_chr c2), iv (own_chr c3), iv (own_chr c4), rv b5, rv b6, uu, uu, uu, uu, uu, uu, uu, uu, uu, uu, uu, uu, uu, uu, uu] [(.int br), (.int (own_chr c4)), (.int (2 : Int32)), (.ref b6)]))
      obtain ⟨RK2, hRK2, hSK2, hLK2, hBK2⟩ := htab c4
      obtain ⟨F2, hF2⟩ : ∃ z, z = own_F (co0 RK2) (((co0 RK2) <<< ((1 : Int32) &&& 0x3f).toInt64) &&& (co0 RK1)) (own_upTo (0 : Int32)) (-1) bd (fun d => rf1 (1 * (bd + 1) + d)) (fun d => rf1 (0 * (bd + 1) + d)) := ⟨_, rfl⟩
      refine own_callV X8 hx hZ (C := "com/example/close_words/closewords/BitRows") (y := (⟨"com/example/close_words/closewords/BitRows", "fill", "(IIZ)Z"⟩ : MethodName)) (a := b6) (argsL := [(.int (2 : Int32)), (.int (own_chr c4)), (.int br)]) (rest := []) (W := 0) hown (ow hw 47 rfl) (ow hw 48 rfl) (ow hw 50 rfl) (ow hw 49 rfl) (ow hw 7 rfl) (ow hw 51 rfl) (by decide) rfl E_b6 (rmro2 l Z a0 hw [] b6 (own_chr c4) br ac ao ar am cp0 co0 rf1 (own_upd (fun _ => (0 : Int64)) 1 (co0 RK1)) F2 (bnd + (1 : Int32)) bnd (own_upTo (0 : Int32)) (-1) bd bd (3 * (bd + 1)) 3 RK2 T8.heap n0 Zs E_b6 F_columnsOf_b6 F_codePoints_b6 F_matches_b6 F_rows_b6 F_levels_b6 F_columns_b6 F_headBound_b6 F_outsideHead_b6 V_ac V_ao V_ar V_am ne_b6_ar ne_b6_am ne_ac_ar ne_ac_am ne_ao_ar ne_ao_am ne_am_ar g_ar g_am hlv hbd63 hbd hbd63 (by omega) (by decide) hRK2 hSK2 hLK2 (by rw [hF2]; rfl) (by intro d; rw [hF2]; exact own_F_succ _ _ _ _ _ _ _ d)) (by decide) (by decide) (by decide) (by decide) rfl (by rw [hml]; rfl) (lenOf own_pd5 rfl) rfl (by show 2 * 0 + _ ≤ _; exact Nat.le_of_eq rfl) (hb hby at_138) ?_
      rintro T9 L9 _ X9 ⟨rfl, N9q, Kq9, V_ar_q, V_am_q⟩
      have N9 := Fr.app N8 N9q
      show own_Wp _ _ _ _ (T9.setTop (mkF m 141 #[iv p1, iv p2, iv p3, iv p4, iv p5, iv p6, iv (0 : Int32), iv br, iv bnd, iv (own_chr c1), iv (own_chr c2), iv (own_chr c3), iv (own_chr c4), rv b5, rv b6, uu, uu, uu, uu, uu, uu, uu, uu, uu, uu, uu, uu, uu, uu, uu] [(.int (if F2 bd = 0 then 0 else 1))]))
      replace Zs := Nat.le_trans Zs Kq9.1
      replace E_b6 := E_b6.keep Kq9
      replace F_bound_b6 := F_bound_b6.keep Kq9 (ninS ne_b6_ar (ninS ne_b6_am nin0))
      replace F_headBound_b6 := F_headBound_b6.keep Kq9 (ninS ne_b6_ar (ninS ne_b6_am nin0))
      replace F_levels_b6 := F_levels_b6.keep Kq9 (ninS ne_b6_ar (ninS ne_b6_am nin0))
      replace F_columns_b6 := F_columns_b6.keep Kq9 (ninS ne_b6_ar (ninS ne_b6_am nin0))
      replace F_lastColumn_b6 := F_lastColumn_b6.keep Kq9 (ninS ne_b6_ar (ninS ne_b6_am nin0))
      replace F_outsideHead_b6 := F_outsideHead_b6.keep Kq9 (ninS ne_b6_ar (ninS ne_b6_am nin0))
      replace F_codePoints_b6 := F_codePoints_b6.keep Kq9 (ninS ne_b6_ar (ninS ne_b6_am nin0))
      replace F_columnsOf_b6 := F_columnsOf_b6.keep Kq9 (ninS ne_b6_ar (ninS ne_b6_am nin0))
      replace F_rows_b6 := F_rows_b6.keep Kq9 (ninS ne_b6_ar (ninS ne_b6_am nin0))
      replace F_matches_b6 := F_matches_b6.keep Kq9 (ninS ne_b6_ar (ninS ne_b6_am nin0))
      replace V_ac := V_ac.keep Kq9 (ninS ne_ac_ar (ninS ne_ac_am nin0))
      replace V_ao := V_ao.keep Kq9 (ninS ne_ao_ar (ninS ne_ao_am nin0))
      obtain ⟨rf2, hrf2⟩ : ∃ z, z = own_rk rf1 (2 * (bd + 1)) F2 (bd + 1) := ⟨_, rfl⟩
      have V_ar := V_ar_q.fn (f' := fun y => .long (rf2 y)) (fun y hy => by rw [hrf2])
      have V_am := V_am_q
      refine own_of (fun tgt kon => XS.pop X9.here hx rfl (hb hby at_141) rfl rfl kon) ?_
      show own_Wp _ _ _ _ (T9.setTop (mkF m 142 #[iv p1, iv p2, iv p3, iv p4, iv p5, iv p6, iv (0 : Int32), iv br, iv bnd, iv (own_chr c1), iv (own_chr c2), iv (own_chr c3), iv (own_chr c4), rv b5, rv b6, uu, uu, uu, uu, uu, uu, uu, uu, uu, uu, uu, uu, uu, uu, uu] []))
      have hall := own_Bt_m1 (n := 0) (by decide) hbd63 (own_tt 0 0 0) (own_chr c3) (own_chr c4) hBK1 hBK2 (own_upTo (0 : Int32)) (own_Bt_cols (n := 0) (by decide)) rf0 F1 rf1 F2 rf2 hrf0 hF1 hrf1 hF2 hrf2
      obtain ⟨D0, hD0⟩ : ∃ z : Nat, z = own_id 0 := ⟨_, rfl⟩
      have hdd0 := own_dist (n := 0) (bd := bd) (B := 0 * (bd + 1)) (D := D0) (rf := rf2) (by decide) hbd63 (fun d hd => by rw [hall.1 d hd 0, hD0]; exact ⟨fun q => q.2, fun q => ⟨Nat.le_refl _, q⟩⟩)
      obtain ⟨D1, hD1⟩ : ∃ z : Nat, z = (own_rowN (fun j => decide ((own_tt 0 0 0) j = own_chr c3)) (fun _ => false) own_id own_id) 0 := ⟨_, rfl⟩
      have hdd1 := own_dist (n := 0) (bd := bd) (B := 1 * (bd + 1)) (D := D1) (rf := rf2) (by decide) hbd63 (fun d hd => by rw [hall.2.1 d hd 0, hD1]; exact ⟨fun q => q.2, fun q => ⟨Nat.le_refl _, q⟩⟩)
      obtain ⟨D2, hD2⟩ : ∃ z : Nat, z = (own_rowN (fun j => decide ((own_tt 0 0 0) j = own_chr c4)) (fun j => decide ((own_tt 0 0 0) (j - 1) = own_chr c4) && decide ((own_tt 0 0 0) j = own_chr c3)) (own_rowN (fun j => decide ((own_tt 0 0 0) j = own_chr c3)) (fun _ => false) own_id own_id) own_id) 0 := ⟨_, rfl⟩
      have hdd2 := own_dist (n := 0) (bd := bd) (B := 2 * (bd + 1)) (D := D2) (rf := rf2) (by decide) hbd63 (fun d hd => by rw [hall.2.2 d hd 0, hD2]; exact ⟨fun q => q.2, fun q => ⟨Nat.le_refl _, q⟩⟩)
      refine own_of (fun tgt kon => XS.aload X9.here hx rfl (hb hby at_142) rfl rfl kon) ?_
      refine own_of (fun tgt kon => XS.iconst X9.here hx rfl (hb hby at_144) kon) ?_
      refine own_callV X9 hx hZ (C := "com/example/close_words/closewords/BitRows") (y := (⟨"com/example/close_words/closewords/BitRows", "distance", "(I)I"⟩ : MethodName)) (a := b6) (argsL := [(.int (0 : Int32))]) (rest := []) (W := 0) hown (ow hw 56 rfl) (ow hw 57 rfl) (ow hw 59 rfl) (ow hw 58 rfl) (ow hw 7 rfl) (ow hw 60 rfl) (by decide) rfl E_b6 (rmdi0 l Z a0 hw [] b6 ar rf2 (bnd + (1 : Int32)) bnd ((1 : Int64) <<< ((0 : Int32) &&& 0x3f).toInt64) bd (3 * (bd + 1)) D0 (own_rD D0 bd) T9.heap n0 Zs F_levels_b6 F_rows_b6 F_bound_b6 F_lastColumn_b6 V_ar hlv hbd hbd63 (by omega) hdd0.1 hdd0.2.1 hdd0.2.2) (by decide) (by decide) (by decide) (by decide) rfl (by rw [hml]; rfl) (lenOf own_pd3 rfl) rfl (by show 2 * 0 + _ ≤ _; exact Nat.le_of_eq rfl) (hb hby at_145) ?_
      rintro T10 L10 _ X10 ⟨rfl, N10q, e10⟩
      have N10 := Fr.app N9 N10q
      show own_Wp _ _ _ _ (T10.setTop (mkF m 148 #[iv p1, iv p2, iv p3, iv p4, iv p5, iv p6, iv (0 : Int32), iv br, iv bnd, iv (own_chr c1), iv (own_chr c2), iv (own_chr c3), iv (own_chr c4), rv b5, rv b6, uu, uu, uu, uu, uu, uu, uu, uu, uu, uu, uu, uu, uu, uu, uu] [(.int (own_rD D0 bd))]))
      obtain ⟨r0, h_r0⟩ : ∃ q : Int32, q = (own_rD D0 bd) := ⟨_, rfl⟩
      rw [← h_r0]
      refine own_of (fun tgt kon => XS.istore X10.here hx rfl (hb hby at_148) rfl (l' := #[iv p1, iv p2, iv p3, iv p4, iv p5, iv p6, iv (0 : Int32), iv br, iv bnd, iv (own_chr c1), iv (own_chr c2), iv (own_chr c3), iv (own_chr c4), rv b5, rv b6, iv r0, uu, uu, uu, uu, uu, uu, uu, uu, uu, uu, uu, uu, uu, uu]) rfl kon) ?_
      refine own_of (fun tgt kon => XS.aload X10.here hx rfl (hb hby at_150) rfl rfl kon) ?_
      refine own_of (fun tgt kon => XS.iconst X10.here hx rfl (hb hby at_152) kon) ?_
      refine own_callV X10 hx hZ (C := "com/example/close_words/closewords/BitRows") (y := (⟨"com/example/close_words/closewords/BitRows", "distance", "(I)I"⟩ : MethodName)) (a := b6) (argsL := [(.int (1 : Int32))]) (rest := []) (W := 0) hown (ow hw 56 rfl) (ow hw 57 rfl) (ow hw 59 rfl) (ow hw 58 rfl) (ow hw 7 rfl) (ow hw 60 rfl) (by decide) e10 E_b6 (rmdi1 l Z a0 hw [] b6 ar rf2 (bnd + (1 : Int32)) bnd ((1 : Int64) <<< ((0 : Int32) &&& 0x3f).toInt64) bd (3 * (bd + 1)) D1 (own_rD D1 bd) T9.heap n0 Zs F_levels_b6 F_rows_b6 F_bound_b6 F_lastColumn_b6 V_ar hlv hbd hbd63 (by omega) hdd1.1 hdd1.2.1 hdd1.2.2) (by decide) (by decide) (by decide) (by decide) rfl (by rw [hml]; rfl) (lenOf own_pd3 rfl) rfl (by show 2 * 0 + _ ≤ _; exact Nat.le_of_eq rfl) (hb hby at_153) ?_
      rintro T11 L11 _ X11 ⟨rfl, N11q, e11⟩
      have N11 := Fr.app N10 N11q
      show own_Wp _ _ _ _ (T11.setTop (mkF m 156 #[iv p1, iv p2, iv p3, iv p4, iv p5, iv p6, iv (0 : Int32), iv br, iv bnd, iv (own_chr c1), iv (own_chr c2), iv (own_chr c3), iv (own_chr c4), rv b5, rv b6, iv r0, uu, uu, uu, uu, uu, uu, uu, uu, uu, uu, uu, uu, uu, uu] [(.int (own_rD D1 bd))]))
      obtain ⟨r1, h_r1⟩ : ∃ q : Int32, q = (own_rD D1 bd) := ⟨_, rfl⟩
      rw [← h_r1]
      refine own_of (fun tgt kon => XS.istore X11.here hx rfl (hb hby at_156) rfl (l' := #[iv p1, iv p2, iv p3, iv p4, iv p5, iv p6, iv (0 : Int32), iv br, iv bnd, iv (own_chr c1), iv (own_chr c2), iv (own_chr c3), iv (own_chr c4), rv b5, rv b6, iv r0, iv r1, uu, uu, uu, uu, uu, uu, uu, uu, uu, uu, uu, uu, uu]) rfl kon) ?_
      refine own_of (fun tgt kon => XS.aload X11.here hx rfl (hb hby at_158) rfl rfl kon) ?_
      refine own_of (fun tgt kon => XS.iconst X11.here hx rfl (hb hby at_160) kon) ?_
      refine own_callV X11 hx hZ (C := "com/example/close_words/closewords/BitRows") (y := (⟨"com/example/close_words/closewords/BitRows", "distance", "(I)I"⟩ : MethodName)) (a := b6) (argsL := [(.int (2 : Int32))]) (rest := []) (W := 0) hown (ow hw 56 rfl) (ow hw 57 rfl) (ow hw 59 rfl) (ow hw 58 rfl) (ow hw 7 rfl) (ow hw 60 rfl) (by decide) e11 E_b6 (rmdi2 l Z a0 hw [] b6 ar rf2 (bnd + (1 : Int32)) bnd ((1 : Int64) <<< ((0 : Int32) &&& 0x3f).toInt64) bd (3 * (bd + 1)) D2 (own_rD D2 bd) T9.heap n0 Zs F_levels_b6 F_rows_b6 F_bound_b6 F_lastColumn_b6 V_ar hlv hbd hbd63 (by omega) hdd2.1 hdd2.2.1 hdd2.2.2) (by decide) (by decide) (by decide) (by decide) rfl (by rw [hml]; rfl) (lenOf own_pd3 rfl) rfl (by show 2 * 0 + _ ≤ _; exact Nat.le_of_eq rfl) (hb hby at_161) ?_
      rintro T12 L12 _ X12 ⟨rfl, N12q, e12⟩
      have N12 := Fr.app N11 N12q
      show own_Wp _ _ _ _ (T12.setTop (mkF m 164 #[iv p1, iv p2, iv p3, iv p4, iv p5, iv p6, iv (0 : Int32), iv br, iv bnd, iv (own_chr c1), iv (own_chr c2), iv (own_chr c3), iv (own_chr c4), rv b5, rv b6, iv r0, iv r1, uu, uu, uu, uu, uu, uu, uu, uu, uu, uu, uu, uu, uu] [(.int (own_rD D2 bd))]))
      obtain ⟨r2, h_r2⟩ : ∃ q : Int32, q = (own_rD D2 bd) := ⟨_, rfl⟩
      rw [← h_r2]
      refine own_of (fun tgt kon => XS.istore X12.here hx rfl (hb hby at_164) rfl (l' := #[iv p1, iv p2, iv p3, iv p4, iv p5, iv p6, iv (0 : Int32), iv br, iv bnd, iv (own_chr c1), iv (own_chr c2), iv (own_chr c3), iv (own_chr c4), rv b5, rv b6, iv r0, iv r1, iv r2, uu, uu, uu, uu, uu, uu, uu, uu, uu, uu, uu, uu]) rfl kon) ?_
      refine own_of (fun tgt kon => XS.iconst X12.here hx rfl (hb hby at_166) kon) ?_
      refine own_of (fun tgt kon => XS.istore X12.here hx rfl (hb hby at_167) rfl (l' := #[iv p1, iv p2, iv p3, iv p4, iv p5, iv p6, iv (0 : Int32), iv br, iv bnd, iv (own_chr c1), iv (own_chr c2), iv (own_chr c3), iv (own_chr c4), rv b5, rv b6, iv r0, iv r1, iv r2, iv (0 : Int32), uu, uu, uu, uu, uu, uu, uu, uu, uu, uu, uu]) rfl kon) ?_
      refine own_of (fun tgt kon => XS.iconst X12.here hx rfl (hb hby at_169) kon) ?_
      refine own_of (fun tgt kon => XS.istore X12.here hx rfl (hb hby at_170) rfl (l' := #[iv p1, iv p2, iv p3, iv p4, iv p5, iv p6, iv (0 : Int32), iv br, iv bnd, iv (own_chr c1), iv (own_chr c2), iv (own_chr c3), iv (own_chr c4), rv b5, rv b6, iv r0, iv r1, iv r2, iv (0 : Int32), iv (1 : Int32), uu, uu, uu, uu, uu, uu, uu, uu, uu, uu]) rfl kon) ?_
      show own_Wp _ _ _ _ (T12.setTop (mkF m 172 #[iv p1, iv p2, iv p3, iv p4, iv p5, iv p6, iv (0 : Int32), iv br, iv bnd, iv (own_chr c1), iv (own_chr c2), iv (own_chr c3), iv (own_chr c4), rv b5, rv b6, iv r0, iv r1, iv r2, iv (0 : Int32), iv (1 : Int32), uu, uu, uu, uu, uu, uu, uu, uu, uu, uu] []))
      refine own_of (fun tgt kon => XS.iconst X12.here hx rfl (hb hby at_172) kon) ?_
      refine own_of (fun tgt kon => XS.istore X12.here hx rfl (hb hby at_173) rfl (l' := #[iv p1, iv p2, iv p3, iv p4, iv p5, iv p6, iv (0 : Int32), iv br, iv bnd, iv (own_chr c1), iv (own_chr c2), iv (own_chr c3), iv (own_chr c4), rv b5, rv b6, iv r0, iv r1, iv r2, iv (0 : Int32), iv (1 : Int32), iv (2 : Int32), uu, uu, uu, uu, uu, uu, uu, uu, uu]) rfl kon) ?_
      refine own_of (fun tgt kon => XS.iconst X12.here hx rfl (hb hby at_175) kon) ?_
      refine own_of (fun tgt kon => XS.istore X12.here hx rfl (hb hby at_176) rfl (l' := #[iv p1, iv p2, iv p3, iv p4, iv p5, iv p6, iv (0 : Int32), iv br, iv bnd, iv (own_chr c1), iv (own_chr c2), iv (own_chr c3), iv (own_chr c4), rv b5, rv b6, iv r0, iv r1, iv r2, iv (0 : Int32), iv (1 : Int32), iv (2 : Int32), iv (1 : Int32), uu, uu, uu, uu, uu, uu, uu, uu]) rfl kon) ?_
      refine own_of (fun tgt kon => XS.iconst X12.here hx rfl (hb hby at_178) kon) ?_
      show own_Wp _ _ _ _ (T12.setTop (mkF m 179 #[iv p1, iv p2, iv p3, iv p4, iv p5, iv p6, iv (0 : Int32), iv br, iv bnd, iv (own_chr c1), iv (own_chr c2), iv (own_chr c3), iv (own_chr c4), rv b5, rv b6, iv r0, iv r1, iv r2, iv (0 : Int32), iv (1 : Int32), iv (2 : Int32), iv (1 : Int32), uu, uu, uu, uu, uu, uu, uu, uu] [(.int (2 : Int32))]))
      refine own_of (fun tgt kon => XS.istore X12.here hx rfl (hb hby at_179) rfl (l' := #[iv p1, iv p2, iv p3, iv p4, iv p5, iv p6, iv (0 : Int32), iv br, iv bnd, iv (own_chr c1), iv (own_chr c2), iv (own_chr c3), iv (own_chr c4), rv b5, rv b6, iv r0, iv r1, iv r2, iv (0 : Int32), iv (1 : Int32), iv (2 : Int32), iv (1 : Int32), iv (2 : Int32), uu, uu, uu, uu, uu, uu, uu]) rfl kon) ?_
      refine own_of (fun tgt kon => XS.iload X12.here hx rfl (hb hby at_181) rfl kon) ?_
      refine own_of (fun tgt kon => XS.iload X12.here hx rfl (hb hby at_183) rfl kon) ?_
      refine own_callS X12 hx hZ (y := (⟨"java/lang/Math", "min", "(II)I"⟩ : MethodName)) (argsL := [(.int (1 : Int32)), (.int (1 : Int32))]) (rest := []) (W := 0) hown (ow hw 61 rfl) (ow hw 44 rfl) (ow hw 45 rfl) (ow hw 46 rfl) (by decide) e12 (rmmin l Z a0 hw [] (1 : Int32) (1 : Int32) T9.heap n0 Zs) (by decide) (by decide) (by decide) (by decide) rfl (by rw [hml]; rfl) (lenOf own_pd2 rfl) rfl (by show 2 * 0 + _ ≤ _; exact Nat.le_of_eq rfl) (hb hby at_185) ?_
      rintro T13 L13 _ X13 ⟨rfl, N13q, e13⟩
      have N13 := Fr.app N12 N13q
      show own_Wp _ _ _ _ (T13.setTop (mkF m 188 #[iv p1, iv p2, iv p3, iv p4, iv p5, iv p6, iv (0 : Int32), iv br, iv bnd, iv (own_chr c1), iv (own_chr c2), iv (own_chr c3), iv (own_chr c4), rv b5, rv b6, iv r0, iv r1, iv r2, iv (0 : Int32), iv (1 : Int32), iv (2 : Int32), iv (1 : Int32), iv (2 : Int32), uu, uu, uu, uu, uu, uu, uu] [(.int (own_mni (1 : Int32) (1 : Int32)))]))
      refine own_of (fun tgt kon => XS.iconst X13.here hx rfl (hb hby at_188) kon) ?_
      refine own_of (fun tgt kon => XS.iadd X13.here hx rfl (hb hby at_189) rfl kon) ?_
      refine own_of (fun tgt kon => XS.iload X13.here hx rfl (hb hby at_190) rfl kon) ?_
      refine own_of (fun tgt kon => XS.iload X13.here hx rfl (hb hby at_192) rfl kon) ?_
      refine own_of (fun tgt kon => XS.iload X13.here hx rfl (hb hby at_194) rfl kon) ?_
      show own_Wp _ _ _ _ (T13.setTop (mkF m 196 #[iv p1, iv p2, iv p3, iv p4, iv p5, iv p6, iv (0 : Int32), iv br, iv bnd, iv (own_chr c1), iv (own_chr c2), iv (own_chr c3), iv (own_chr c4), rv b5, rv b6, iv r0, iv r1, iv r2, iv (0 : Int32), iv (1 : Int32), iv (2 : Int32), iv (1 : Int32), iv (2 : Int32), uu, uu, uu, uu, uu, uu, uu] [(.int (own_chr c1)), (.int (own_chr c3)), (.int (0 : Int32)), (.int ((own_mni (1 : Int32) (1 : Int32)) + (1 : Int32)))]))
      refine own_callS X13 hx hZ (y := (⟨"com/example/close_words/closewords/BitRowsDistancePinLaw", "eq", "(II)I"⟩ : MethodName)) (argsL := [(.int (own_chr c3)), (.int (own_chr c1))]) (rest := [(.int (0 : Int32)), (.int ((own_mni (1 : Int32) (1 : Int32)) + (1 : Int32)))]) (W := 2) hown (ow hw 62 rfl) (ow hw 63 rfl) (ow hw 2 rfl) (ow hw 64 rfl) (by decide) e13 (rmeq l Z a0 hw [] (own_chr c3) (own_chr c1) T9.heap n0 Zs) (by decide) (by decide) (by decide) (by decide) rfl (by rw [hml]; rfl) (lenOf own_pd2 rfl) rfl (by show 2 * 0 + _ ≤ _; exact Nat.le_of_eq rfl) (hb hby at_196) ?_
      rintro T14 L14 _ X14 ⟨rfl, N14q, e14⟩
      have N14 := Fr.app N13 N14q
      show own_Wp _ _ _ _ (T14.setTop (mkF m 199 #[iv p1, iv p2, iv p3, iv p4, iv p5, iv p6, iv (0 : Int32), iv br, iv bnd, iv (own_chr c1), iv (own_chr c2), iv (own_chr c3), iv (own_chr c4), rv b5, rv b6, iv r0, iv r1, iv r2, iv (0 : Int32), iv (1 : Int32), iv (2 : Int32), iv (1 : Int32), iv (2 : Int32), uu, uu, uu, uu, uu, uu, uu] [(.int (own_eqv (own_chr c3) (own_chr c1))), (.int (0 : Int32)), (.int ((own_mni (1 : Int32) (1 : Int32)) + (1 : Int32)))]))
      refine own_of (fun tgt kon => XS.iadd X14.here hx rfl (hb hby at_199) rfl kon) ?_
      refine own_callS X14 hx hZ (y := (⟨"java/lang/Math", "min", "(II)I"⟩ : MethodName)) (argsL := [(.int ((own_mni (1 : Int32) (1 : Int32)) + (1 : Int32))), (.int ((0 : Int32) + (own_eqv (own_chr c3) (own_chr c1))))]) (rest := []) (W := 0) hown (ow hw 61 rfl) (ow hw 44 rfl) (ow hw 45 rfl) (ow hw 46 rfl) (by decide) e14 (rmmin l Z a0 hw [] ((own_mni (1 : Int32) (1 : Int32)) + (1 : Int32)) ((0 : Int32) + (own_eqv (own_chr c3) (own_chr c1))) T9.heap n0 Zs) (by decide) (by decide) (by decide) (by decide) rfl (by rw [hml]; rfl) (lenOf own_pd2 rfl) rfl (by show 2 * 0 + _ ≤ _; exact Nat.le_of_eq rfl) (hb hby at_200) ?_
      rintro T15 L15 _ X15 ⟨rfl, N15q, e15⟩
      have N15 := Fr.app N14 N15q
      show own_Wp _ _ _ _ (T15.setTop (mkF m 203 #[iv p1, iv p2, iv p3, iv p4, iv p5, iv p6, iv (0 : Int32), iv br, iv bnd, iv (own_chr c1), iv (own_chr c2), iv (own_chr c3), iv (own_chr c4), rv b5, rv b6, iv r0, iv r1, iv r2, iv (0 : Int32), iv (1 : Int32), iv (2 : Int32), iv (1 : Int32), iv (2 : Int32), uu, uu, uu, uu, uu, uu, uu] [(.int (own_mni ((own_mni (1 : Int32) (1 : Int32)) + (1 : Int32)) ((0 : Int32) + (own_eqv (own_chr c3) (own_chr c1)))))]))
      obtain ⟨d11, h_d11⟩ : ∃ q : Int32, q = (own_mni ((own_mni (1 : Int32) (1 : Int32)) + (1 : Int32)) ((0 : Int32) + (own_eqv (own_chr c3) (own_chr c1)))) := ⟨_, rfl⟩
      rw [← h_d11]
      refine own_of (fun tgt kon => XS.istore X15.here hx rfl (hb hby at_203) rfl (l' := #[iv p1, iv p2, iv p3, iv p4, iv p5, iv p6, iv (0 : Int32), iv br, iv bnd, iv (own_chr c1), iv (own_chr c2), iv (own_chr c3), iv (own_chr c4), rv b5, rv b6, iv r0, iv r1, iv r2, iv (0 : Int32), iv (1 : Int32), iv (2 : Int32), iv (1 : Int32), iv (2 : Int32), iv d11, uu, uu, uu, uu, uu, uu]) rfl kon) ?_
      refine own_of (fun tgt kon => XS.iload X15.here hx rfl (hb hby at_205) rfl kon) ?_
      refine own_of (fun tgt kon => XS.iload X15.here hx rfl (hb hby at_207) rfl kon) ?_
      refine own_callS X15 hx hZ (y := (⟨"java/lang/Math", "min", "(II)I"⟩ : MethodName)) (argsL := [(.int (2 : Int32)), (.int d11)]) (rest := []) (W := 0) hown (ow hw 61 rfl) (ow hw 44 rfl) (ow hw 45 rfl) (ow hw 46 rfl) (by decide) e15 (rmmin l Z a0 hw [] (2 : Int32) d11 T9.heap n0 Zs) (by decide) (by decide) (by decide) (by decide) rfl (by rw [hml]; rfl) (lenOf own_pd2 rfl) rfl (by show 2 * 0 + _ ≤ _; exact Nat.le_of_eq rfl) (hb hby at_209) ?_
      rintro T16 L16 _ X16 ⟨rfl, N16q, e16⟩
      have N16 := Fr.app N15 N16q
      show own_Wp _ _ _ _ (T16.setTop (mkF m 212 #[iv p1, iv p2, iv p3, iv p4, iv p5, iv p6, iv (0 : Int32), iv br, iv bnd, iv (own_chr c1), iv (own_chr c2), iv (own_chr c3), iv (own_chr c4), rv b5, rv b6, iv r0, iv r1, iv r2, iv (0 : Int32), iv (1 : Int32), iv (2 : Int32), iv (1 : Int32), iv (2 : Int32), iv d11, uu, uu, uu, uu, uu, uu] [(.int (own_mni (2 : Int32) d11))]))
      refine own_of (fun tgt kon => XS.iconst X16.here hx rfl (hb hby at_212) kon) ?_
      refine own_of (fun tgt kon => XS.iadd X16.here hx rfl (hb hby at_213) rfl kon) ?_
      refine own_of (fun tgt kon => XS.iload X16.here hx rfl (hb hby at_214) rfl kon) ?_
      refine own_of (fun tgt kon => XS.iload X16.here hx rfl (hb hby at_216) rfl kon) ?_
      refine own_of (fun tgt kon => XS.iload X16.here hx rfl (hb hby at_218) rfl kon) ?_
      show own_Wp _ _ _ _ (T16.setTop (mkF m 220 #[iv p1, iv p2, iv p3, iv p4, iv p5, iv p6, iv (0 : Int32), iv br, iv bnd, iv (own_chr c1), iv (own_chr c2), iv (own_chr c3), iv (own_chr c4), rv b5, rv b6, iv r0, iv r1, iv r2, iv (0 : Int32), iv (1 : Int32), iv (2 : Int32), iv (1 : Int32), iv (2 : Int32), iv d11, uu, uu, uu, uu, uu, uu] [(.int (own_chr c2)), (.int (own_chr c3)), (.int (1 : Int32)), (.int ((own_mni (2 : Int32) d11) + (1 : Int32)))]))
      refine own_callS X16 hx hZ (y := (⟨"com/example/close_words/closewords/BitRowsDistancePinLaw", "eq", "(II)I"⟩ : MethodName)) (argsL := [(.int (own_chr c3)), (.int (own_chr c2))]) (rest := [(.int (1 : Int32)), (.int ((own_mni (2 : Int32) d11) + (1 : Int32)))]) (W := 2) hown (ow hw 62 rfl) (ow hw 63 rfl) (ow hw 2 rfl) (ow hw 64 rfl) (by decide) e16 (rmeq l Z a0 hw [] (own_chr c3) (own_chr c2) T9.heap n0 Zs) (by decide) (by decide) (by decide) (by decide) rfl (by rw [hml]; rfl) (lenOf own_pd2 rfl) rfl (by show 2 * 0 + _ ≤ _; exact Nat.le_of_eq rfl) (hb hby at_220) ?_
      rintro T17 L17 _ X17 ⟨rfl, N17q, e17⟩
      have N17 := Fr.app N16 N17q
      show own_Wp _ _ _ _ (T17.setTop (mkF m 223 #[iv p1, iv p2, iv p3, iv p4, iv p5, iv p6, iv (0 : Int32), iv br, iv bnd, iv (own_chr c1), iv (own_chr c2), iv (own_chr c3), iv (own_chr c4), rv b5, rv b6, iv r0, iv r1, iv r2, iv (0 : Int32), iv (1 : Int32), iv (2 : Int32), iv (1 : Int32), iv (2 : Int32), iv d11, uu, uu, uu, uu, uu, uu] [(.int (own_eqv (own_chr c3) (own_chr c2))), (.int (1 : Int32)), (.int ((own_mni (2 : Int32) d11) + (1 : Int32)))]))
      refine own_of (fun tgt kon => XS.iadd X17.here hx rfl (hb hby at_223) rfl kon) ?_
      refine own_callS X17 hx hZ (y := (⟨"java/lang/Math", "min", "(II)I"⟩ : MethodName)) (argsL := [(.int ((own_mni (2 : Int32) d11) + (1 : Int32))), (.int ((1 : Int32) + (own_eqv (own_chr c3) (own_chr c2))))]) (rest := []) (W := 0) hown (ow hw 61 rfl) (ow hw 44 rfl) (ow hw 45 rfl) (ow hw 46 rfl) (by decide) e17 (rmmin l Z a0 hw [] ((own_mni (2 : Int32) d11) + (1 : Int32)) ((1 : Int32) + (own_eqv (own_chr c3) (own_chr c2))) T9.heap n0 Zs) (by decide) (by decide) (by decide) (by decide) rfl (by rw [hml]; rfl) (lenOf own_pd2 rfl) rfl (by show 2 * 0 + _ ≤ _; exact Nat.le_of_eq rfl) (hb hby at_224) ?_
      rintro T18 L18 _ X18 ⟨rfl, N18q, e18⟩
      have N18 := Fr.app N17 N18q
      show own_Wp _ _ _ _ (T18.setTop (mkF m 227 #[iv p1, iv p2, iv p3, iv p4, iv p5, iv p6, iv (0 : Int32), iv br, iv bnd, iv (own_chr c1), iv (own_chr c2), iv (own_chr c3), iv (own_chr c4), rv b5, rv b6, iv r0, iv r1, iv r2, iv (0 : Int32), iv (1 : Int32), iv (2 : Int32), iv (1 : Int32), iv (2 : Int32), iv d11, uu, uu, uu, uu, uu, uu] [(.int (own_mni ((own_mni (2 : Int32) d11) + (1 : Int32)) ((1 : Int32) + (own_eqv (own_chr c3) (own_chr c2)))))]))
      obtain ⟨d12, h_d12⟩ : ∃ q : Int32, q = (own_mni ((own_mni (2 : Int32) d11) + (1 : Int32)) ((1 : Int32) + (own_eqv (own_chr c3) (own_chr c2)))) := ⟨_, rfl⟩
      rw [← h_d12]
      refine own_of (fun tgt kon => XS.istore X18.here hx rfl (hb hby at_227) rfl (l' := #[iv p1, iv p2, iv p3, iv p4, iv p5, iv p6, iv (0 : Int32), iv br, iv bnd, iv (own_chr c1), iv (own_chr c2), iv (own_chr c3), iv (own_chr c4), rv b5, rv b6, iv r0, iv r1, iv r2, iv (0 : Int32), iv (1 : Int32), iv (2 : Int32), iv (1 : Int32), iv (2 : Int32), iv d11, iv d12, uu, uu, uu, uu, uu]) rfl kon) ?_
      refine own_of (fun tgt kon => XS.iload X18.here hx rfl (hb hby at_229) rfl kon) ?_
      refine own_of (fun tgt kon => XS.iload X18.here hx rfl (hb hby at_231) rfl kon) ?_
      refine own_callS X18 hx hZ (y := (⟨"java/lang/Math", "min", "(II)I"⟩ : MethodName)) (argsL := [(.int d11), (.int (2 : Int32))]) (rest := []) (W := 0) hown (ow hw 61 rfl) (ow hw 44 rfl) (ow hw 45 rfl) (ow hw 46 rfl) (by decide) e18 (rmmin l Z a0 hw [] d11 (2 : Int32) T9.heap n0 Zs) (by decide) (by decide) (by decide) (by decide) rfl (by rw [hml]; rfl) (lenOf own_pd2 rfl) rfl (by show 2 * 0 + _ ≤ _; exact Nat.le_of_eq rfl) (hb hby at_233) ?_
      rintro T19 L19 _ X19 ⟨rfl, N19q, e19⟩
      have N19 := Fr.app N18 N19q
      show own_Wp _ _ _ _ (T19.setTop (mkF m 236 #[iv p1, iv p2, iv p3, iv p4, iv p5, iv p6, iv (0 : Int32), iv br, iv bnd, iv (own_chr c1), iv (own_chr c2), iv (own_chr c3), iv (own_chr c4), rv b5, rv b6, iv r0, iv r1, iv r2, iv (0 : Int32), iv (1 : Int32), iv (2 : Int32), iv (1 : Int32), iv (2 : Int32), iv d11, iv d12, uu, uu, uu, uu, uu] [(.int (own_mni d11 (2 : Int32)))]))
      refine own_of (fun tgt kon => XS.iconst X19.here hx rfl (hb hby at_236) kon) ?_
      refine own_of (fun tgt kon => XS.iadd X19.here hx rfl (hb hby at_237) rfl kon) ?_
      refine own_of (fun tgt kon => XS.iload X19.here hx rfl (hb hby at_238) rfl kon) ?_
      refine own_of (fun tgt kon => XS.iload X19.here hx rfl (hb hby at_240) rfl kon) ?_
      refine own_of (fun tgt kon => XS.iload X19.here hx rfl (hb hby at_242) rfl kon) ?_
      show own_Wp _ _ _ _ (T19.setTop (mkF m 244 #[iv p1, iv p2, iv p3, iv p4, iv p5, iv p6, iv (0 : Int32), iv br, iv bnd, iv (own_chr c1), iv (own_chr c2), iv (own_chr c3), iv (own_chr c4), rv b5, rv b6, iv r0, iv r1, iv r2, iv (0 : Int32), iv (1 : Int32), iv (2 : Int32), iv (1 : Int32), iv (2 : Int32), iv d11, iv d12, uu, uu, uu, uu, uu] [(.int (own_chr c1)), (.int (own_chr c4)), (.int (1 : Int32)), (.int ((own_mni d11 (2 : Int32)) + (1 : Int32)))]))
      refine own_callS X19 hx hZ (y := (⟨"com/example/close_words/closewords/BitRowsDistancePinLaw", "eq", "(II)I"⟩ : MethodName)) (argsL := [(.int (own_chr c4)), (.int (own_chr c1))]) (rest := [(.int (1 : Int32)), (.int ((own_mni d11 (2 : Int32)) + (1 : Int32)))]) (W := 2) hown (ow hw 62 rfl) (ow hw 63 rfl) (ow hw 2 rfl) (ow hw 64 rfl) (by decide) e19 (rmeq l Z a0 hw [] (own_chr c4) (own_chr c1) T9.heap n0 Zs) (by decide) (by decide) (by decide) (by decide) rfl (by rw [hml]; rfl) (lenOf own_pd2 rfl) rfl (by show 2 * 0 + _ ≤ _; exact Nat.le_of_eq rfl) (hb hby at_244) ?_
      rintro T20 L20 _ X20 ⟨rfl, N20q, e20⟩
      have N20 := Fr.app N19 N20q
      show own_Wp _ _ _ _ (T20.setTop (mkF m 247 #[iv p1, iv p2, iv p3, iv p4, iv p5, iv p6, iv (0 : Int32), iv br, iv bnd, iv (own_chr c1), iv (own_chr c2), iv (own_chr c3), iv (own_chr c4), rv b5, rv b6, iv r0, iv r1, iv r2, iv (0 : Int32), iv (1 : Int32), iv (2 : Int32), iv (1 : Int32), iv (2 : Int32), iv d11, iv d12, uu, uu, uu, uu, uu] [(.int (own_eqv (own_chr c4) (own_chr c1))), (.int (1 : Int32)), (.int ((own_mni d11 (2 : Int32)) + (1 : Int32)))]))
      refine own_of (fun tgt kon => XS.iadd X20.here hx rfl (hb hby at_247) rfl kon) ?_
      refine own_callS X20 hx hZ (y := (⟨"java/lang/Math", "min", "(II)I"⟩ : MethodName)) (argsL := [(.int ((own_mni d11 (2 : Int32)) + (1 : Int32))), (.int ((1 : Int32) + (own_eqv (own_chr c4) (own_chr c1))))]) (rest := []) (W := 0) hown (ow hw 61 rfl) (ow hw 44 rfl) (ow hw 45 rfl) (ow hw 46 rfl) (by decide) e20 (rmmin l Z a0 hw [] ((own_mni d11 (2 : Int32)) + (1 : Int32)) ((1 : Int32) + (own_eqv (own_chr c4) (own_chr c1))) T9.heap n0 Zs) (by decide) (by decide) (by decide) (by decide) rfl (by rw [hml]; rfl) (lenOf own_pd2 rfl) rfl (by show 2 * 0 + _ ≤ _; exact Nat.le_of_eq rfl) (hb hby at_248) ?_
      rintro T21 L21 _ X21 ⟨rfl, N21q, e21⟩
      have N21 := Fr.app N20 N21q
      show own_Wp _ _ _ _ (T21.setTop (mkF m 251 #[iv p1, iv p2, iv p3, iv p4, iv p5, iv p6, iv (0 : Int32), iv br, iv bnd, iv (own_chr c1), iv (own_chr c2), iv (own_chr c3), iv (own_chr c4), rv b5, rv b6, iv r0, iv r1, iv r2, iv (0 : Int32), iv (1 : Int32), iv (2 : Int32), iv (1 : Int32), iv (2 : Int32), iv d11, iv d12, uu, uu, uu, uu, uu] [(.int (own_mni ((own_mni d11 (2 : Int32)) + (1 : Int32)) ((1 : Int32) + (own_eqv (own_chr c4) (own_chr c1)))))]))
      obtain ⟨d21, h_d21⟩ : ∃ q : Int32, q = (own_mni ((own_mni d11 (2 : Int32)) + (1 : Int32)) ((1 : Int32) + (own_eqv (own_chr c4) (own_chr c1)))) := ⟨_, rfl⟩
      rw [← h_d21]
      refine own_of (fun tgt kon => XS.istore X21.here hx rfl (hb hby at_251) rfl (l' := #[iv p1, iv p2, iv p3, iv p4, iv p5, iv p6, iv (0 : Int32), iv br, iv bnd, iv (own_chr c1), iv (own_chr c2), iv (own_chr c3), iv (own_chr c4), rv b5, rv b6, iv r0, iv r1, iv r2, iv (0 : Int32), iv (1 : Int32), iv (2 : Int32), iv (1 : Int32), iv (2 : Int32), iv d11, iv d12, iv d21, uu, uu, uu, uu]) rfl kon) ?_
      refine own_of (fun tgt kon => XS.iload X21.here hx rfl (hb hby at_253) rfl kon) ?_
      refine own_of (fun tgt kon => XS.iload X21.here hx rfl (hb hby at_255) rfl kon) ?_
      refine own_callS X21 hx hZ (y := (⟨"java/lang/Math", "min", "(II)I"⟩ : MethodName)) (argsL := [(.int d12), (.int d21)]) (rest := []) (W := 0) hown (ow hw 61 rfl) (ow hw 44 rfl) (ow hw 45 rfl) (ow hw 46 rfl) (by decide) e21 (rmmin l Z a0 hw [] d12 d21 T9.heap n0 Zs) (by decide) (by decide) (by decide) (by decide) rfl (by rw [hml]; rfl) (lenOf own_pd2 rfl) rfl (by show 2 * 0 + _ ≤ _; exact Nat.le_of_eq rfl) (hb hby at_257) ?_
      rintro T22 L22 _ X22 ⟨rfl, N22q, e22⟩
      have N22 := Fr.app N21 N22q
      show own_Wp _ _ _ _ (T22.setTop (mkF m 260 #[iv p1, iv p2, iv p3, iv p4, iv p5, iv p6, iv (0 : Int32), iv br, iv bnd, iv (own_chr c1), iv (own_chr c2), iv (own_chr c3), iv (own_chr c4), rv b5, rv b6, iv r0, iv r1, iv r2, iv (0 : Int32), iv (1 : Int32), iv (2 : Int32), iv (1 : Int32), iv (2 : Int32), iv d11, iv d12, iv d21, uu, uu, uu, uu] [(.int (own_mni d12 d21))]))
      refine own_of (fun tgt kon => XS.iconst X22.here hx rfl (hb hby at_260) kon) ?_
      refine own_of (fun tgt kon => XS.iadd X22.here hx rfl (hb hby at_261) rfl kon) ?_
      refine own_of (fun tgt kon => XS.iload X22.here hx rfl (hb hby at_262) rfl kon) ?_
      refine own_of (fun tgt kon => XS.iload X22.here hx rfl (hb hby at_264) rfl kon) ?_
      refine own_of (fun tgt kon => XS.iload X22.here hx rfl (hb hby at_266) rfl kon) ?_
      show own_Wp _ _ _ _ (T22.setTop (mkF m 268 #[iv p1, iv p2, iv p3, iv p4, iv p5, iv p6, iv (0 : Int32), iv br, iv bnd, iv (own_chr c1), iv (own_chr c2), iv (own_chr c3), iv (own_chr c4), rv b5, rv b6, iv r0, iv r1, iv r2, iv (0 : Int32), iv (1 : Int32), iv (2 : Int32), iv (1 : Int32), iv (2 : Int32), iv d11, iv d12, iv d21, uu, uu, uu, uu] [(.int (own_chr c2)), (.int (own_chr c4)), (.int d11), (.int ((own_mni d12 d21) + (1 : Int32)))]))
      refine own_callS X22 hx hZ (y := (⟨"com/example/close_words/closewords/BitRowsDistancePinLaw", "eq", "(II)I"⟩ : MethodName)) (argsL := [(.int (own_chr c4)), (.int (own_chr c2))]) (rest := [(.int d11), (.int ((own_mni d12 d21) + (1 : Int32)))]) (W := 2) hown (ow hw 62 rfl) (ow hw 63 rfl) (ow hw 2 rfl) (ow hw 64 rfl) (by decide) e22 (rmeq l Z a0 hw [] (own_chr c4) (own_chr c2) T9.heap n0 Zs) (by decide) (by decide) (by decide) (by decide) rfl (by rw [hml]; rfl) (lenOf own_pd2 rfl) rfl (by show 2 * 0 + _ ≤ _; exact Nat.le_of_eq rfl) (hb hby at_268) ?_
      rintro T23 L23 _ X23 ⟨rfl, N23q, e23⟩
      have N23 := Fr.app N22 N23q
      show own_Wp _ _ _ _ (T23.setTop (mkF m 271 #[iv p1, iv p2, iv p3, iv p4, iv p5, iv p6, iv (0 : Int32), iv br, iv bnd, iv (own_chr c1), iv (own_chr c2), iv (own_chr c3), iv (own_chr c4), rv b5, rv b6, iv r0, iv r1, iv r2, iv (0 : Int32), iv (1 : Int32), iv (2 : Int32), iv (1 : Int32), iv (2 : Int32), iv d11, iv d12, iv d21, uu, uu, uu, uu] [(.int (own_eqv (own_chr c4) (own_chr c2))), (.int d11), (.int ((own_mni d12 d21) + (1 : Int32)))]))
      refine own_of (fun tgt kon => XS.iadd X23.here hx rfl (hb hby at_271) rfl kon) ?_
      refine own_callS X23 hx hZ (y := (⟨"java/lang/Math", "min", "(II)I"⟩ : MethodName)) (argsL := [(.int ((own_mni d12 d21) + (1 : Int32))), (.int (d11 + (own_eqv (own_chr c4) (own_chr c2))))]) (rest := []) (W := 0) hown (ow hw 61 rfl) (ow hw 44 rfl) (ow hw 45 rfl) (ow hw 46 rfl) (by decide) e23 (rmmin l Z a0 hw [] ((own_mni d12 d21) + (1 : Int32)) (d11 + (own_eqv (own_chr c4) (own_chr c2))) T9.heap n0 Zs) (by decide) (by decide) (by decide) (by decide) rfl (by rw [hml]; rfl) (lenOf own_pd2 rfl) rfl (by show 2 * 0 + _ ≤ _; exact Nat.le_of_eq rfl) (hb hby at_272) ?_
      rintro T24 L24 _ X24 ⟨rfl, N24q, e24⟩
      have N24 := Fr.app N23 N24q
      show own_Wp _ _ _ _ (T24.setTop (mkF m 275 #[iv p1, iv p2, iv p3, iv p4, iv p5, iv p6, iv (0 : Int32), iv br, iv bnd, iv (own_chr c1), iv (own_chr c2), iv (own_chr c3), iv (own_chr c4), rv b5, rv b6, iv r0, iv r1, iv r2, iv (0 : Int32), iv (1 : Int32), iv (2 : Int32), iv (1 : Int32), iv (2 : Int32), iv d11, iv d12, iv d21, uu, uu, uu, uu] [(.int (own_mni ((own_mni d12 d21) + (1 : Int32)) (d11 + (own_eqv (own_chr c4) (own_chr c2)))))]))
      obtain ⟨d22, h_d22⟩ : ∃ q : Int32, q = (own_mni ((own_mni d12 d21) + (1 : Int32)) (d11 + (own_eqv (own_chr c4) (own_chr c2)))) := ⟨_, rfl⟩
      rw [← h_d22]
      refine own_of (fun tgt kon => XS.istore X24.here hx rfl (hb hby at_275) rfl (l' := #[iv p1, iv p2, iv p3, iv p4, iv p5, iv p6, iv (0 : Int32), iv br, iv bnd, iv (own_chr c1), iv (own_chr c2), iv (own_chr c3), iv (own_chr c4), rv b5, rv b6, iv r0, iv r1, iv r2, iv (0 : Int32), iv (1 : Int32), iv (2 : Int32), iv (1 : Int32), iv (2 : Int32), iv d11, iv d12, iv d21, iv d22, uu, uu, uu]) rfl kon) ?_
      refine own_of (fun tgt kon => XS.iload X24.here hx rfl (hb hby at_277) rfl kon) ?_
      refine own_of (fun tgt kon => XS.iload X24.here hx rfl (hb hby at_279) rfl kon) ?_
      show own_Wp _ _ _ _ (T24.setTop (mkF m 281 #[iv p1, iv p2, iv p3, iv p4, iv p5, iv p6, iv (0 : Int32), iv br, iv bnd, iv (own_chr c1), iv (own_chr c2), iv (own_chr c3), iv (own_chr c4), rv b5, rv b6, iv r0, iv r1, iv r2, iv (0 : Int32), iv (1 : Int32), iv (2 : Int32), iv (1 : Int32), iv (2 : Int32), iv d11, iv d12, iv d21, iv d22, uu, uu, uu] [(.int (own_chr c1)), (.int (own_chr c4))]))
      have J302 : ∀ (T25 : State) (lc25 : List Loc) (e22 : Int32), (Stand p l e room_1 s m #[(.int p1), (.int p2), (.int p3), (.int p4), (.int p5), (.int p6)] below meth c T25 lc25 6 526) → (T25.heap = T9.heap) → (Fr n0 lc25) → (e22 = if (own_chr c4) = (own_chr c1) ∧ (own_chr c3) = (own_chr c2) then own_mni d22 ((0 : Int32) + (1 : Int32)) else d22) → own_Wp p.tables e below (own_K room_1 s below (Q_rm0 Z p1 p2 p3 p4 p5 p6 h0 n0)) (T25.setTop (mkF m 302 #[iv p1, iv p2, iv p3, iv p4, iv p5, iv p6, iv (0 : Int32), iv br, iv bnd, iv (own_chr c1), iv (own_chr c2), iv (own_chr c3), iv (own_chr c4), rv b5, rv b6, iv r0, iv r1, iv r2, iv (0 : Int32), iv (1 : Int32), iv (2 : Int32), iv (1 : Int32), iv (2 : Int32), iv d11, iv d12, iv d21, iv e22, uu, uu, uu] [])) := by
        intro T25 lc25 e22 X25 e25 N25 h_e22
        have hf := own_m1f _ _ _ _ _ _ _ _ _ h_d11 h_d12 h_d21 h_d22 h_e22
        dsimp only at hf
        refine own_of (fun tgt kon => XS.iload X25.here hx rfl (hb hby at_302) rfl kon) ?_
        refine own_of (fun tgt kon => XS.iload X25.here hx rfl (hb hby at_304) rfl kon) ?_
        refine own_of (fun tgt kon => XS.iload X25.here hx rfl (hb hby at_306) rfl kon) ?_
        refine own_of (fun tgt kon => XS.iload X25.here hx rfl (hb hby at_308) rfl kon) ?_
        refine own_callS X25 hx hZ (y := (⟨"com/example/close_words/closewords/BitRowsDistancePinLaw", "pick", "(IIII)I"⟩ : MethodName)) (argsL := [(.int (0 : Int32)), (.int (0 : Int32)), (.int (1 : Int32)), (.int (2 : Int32))]) (rest := []) (W := 0) hown (ow hw 65 rfl) (ow hw 66 rfl) (ow hw 2 rfl) (ow hw 67 rfl) (by decide) e25 (rmpick l Z a0 hw [] (0 : Int32) (0 : Int32) (1 : Int32) (2 : Int32) T9.heap n0 Zs) (by decide) (by decide) (by decide) (by decide) rfl (by rw [hml]; rfl) (lenOf own_pd6 rfl) rfl (by show 2 * 0 + _ ≤ _; exact Nat.le_of_eq rfl) (hb hby at_310) ?_
        rintro T26 L26 _ X26 ⟨rfl, N26q, e26⟩
        have N26 := Fr.app N25 N26q
        show own_Wp _ _ _ _ (T26.setTop (mkF m 313 #[iv p1, iv p2, iv p3, iv p4, iv p5, iv p6, iv (0 : Int32), iv br, iv bnd, iv (own_chr c1), iv (own_chr c2), iv (own_chr c3), iv (own_chr c4), rv b5, rv b6, iv r0, iv r1, iv r2, iv (0 : Int32), iv (1 : Int32), iv (2 : Int32), iv (1 : Int32), iv (2 : Int32), iv d11, iv d12, iv d21, iv e22, uu, uu, uu] [(.int (own_pk (0 : Int32) (0 : Int32) (1 : Int32) (2 : Int32)))]))
        refine own_of (fun tgt kon => XS.iload X26.here hx rfl (hb hby at_313) rfl kon) ?_
        refine own_callS X26 hx hZ (y := (⟨"com/example/close_words/closewords/BitRowsDistancePinLaw", "cap", "(II)I"⟩ : MethodName)) (argsL := [(.int (own_pk (0 : Int32) (0 : Int32) (1 : Int32) (2 : Int32))), (.int bnd)]) (rest := []) (W := 0) hown (ow hw 68 rfl) (ow hw 69 rfl) (ow hw 2 rfl) (ow hw 70 rfl) (by decide) e26 (rmcap l Z a0 hw [] (own_pk (0 : Int32) (0 : Int32) (1 : Int32) (2 : Int32)) bnd T9.heap n0 Zs) (by decide) (by decide) (by decide) (by decide) rfl (by rw [hml]; rfl) (lenOf own_pd2 rfl) rfl (by show 2 * 0 + _ ≤ _; exact Nat.le_of_eq rfl) (hb hby at_315) ?_
        rintro T27 L27 _ X27 ⟨rfl, N27q, e27⟩
        have N27 := Fr.app N26 N27q
        show own_Wp _ _ _ _ (T27.setTop (mkF m 318 #[iv p1, iv p2, iv p3, iv p4, iv p5, iv p6, iv (0 : Int32), iv br, iv bnd, iv (own_chr c1), iv (own_chr c2), iv (own_chr c3), iv (own_chr c4), rv b5, rv b6, iv r0, iv r1, iv r2, iv (0 : Int32), iv (1 : Int32), iv (2 : Int32), iv (1 : Int32), iv (2 : Int32), iv d11, iv d12, iv d21, iv e22, uu, uu, uu] [(.int (own_cpI (own_pk (0 : Int32) (0 : Int32) (1 : Int32) (2 : Int32)) bnd))]))
        obtain ⟨e0, h_e0⟩ : ∃ q : Int32, q = (own_cpI (own_pk (0 : Int32) (0 : Int32) (1 : Int32) (2 : Int32)) bnd) := ⟨_, rfl⟩
        rw [← h_e0]
        refine own_of (fun tgt kon => XS.istore X27.here hx rfl (hb hby at_318) rfl (l' := #[iv p1, iv p2, iv p3, iv p4, iv p5, iv p6, iv (0 : Int32), iv br, iv bnd, iv (own_chr c1), iv (own_chr c2), iv (own_chr c3), iv (own_chr c4), rv b5, rv b6, iv r0, iv r1, iv r2, iv (0 : Int32), iv (1 : Int32), iv (2 : Int32), iv (1 : Int32), iv (2 : Int32), iv d11, iv d12, iv d21, iv e22, iv e0, uu, uu]) rfl kon) ?_
        refine own_of (fun tgt kon => XS.iload X27.here hx rfl (hb hby at_320) rfl kon) ?_
        refine own_of (fun tgt kon => XS.iload X27.here hx rfl (hb hby at_322) rfl kon) ?_
        refine own_of (fun tgt kon => XS.iload X27.here hx rfl (hb hby at_324) rfl kon) ?_
        refine own_of (fun tgt kon => XS.iload X27.here hx rfl (hb hby at_326) rfl kon) ?_
        show own_Wp _ _ _ _ (T27.setTop (mkF m 328 #[iv p1, iv p2, iv p3, iv p4, iv p5, iv p6, iv (0 : Int32), iv br, iv bnd, iv (own_chr c1), iv (own_chr c2), iv (own_chr c3), iv (own_chr c4), rv b5, rv b6, iv r0, iv r1, iv r2, iv (0 : Int32), iv (1 : Int32), iv (2 : Int32), iv (1 : Int32), iv (2 : Int32), iv d11, iv d12, iv d21, iv e22, iv e0, uu, uu] [(.int d12), (.int d11), (.int (1 : Int32)), (.int (0 : Int32))]))
        refine own_callS X27 hx hZ (y := (⟨"com/example/close_words/closewords/BitRowsDistancePinLaw", "pick", "(IIII)I"⟩ : MethodName)) (argsL := [(.int (0 : Int32)), (.int (1 : Int32)), (.int d11), (.int d12)]) (rest := []) (W := 0) hown (ow hw 65 rfl) (ow hw 66 rfl) (ow hw 2 rfl) (ow hw 67 rfl) (by decide) e27 (rmpick l Z a0 hw [] (0 : Int32) (1 : Int32) d11 d12 T9.heap n0 Zs) (by decide) (by decide) (by decide) (by decide) rfl (by rw [hml]; rfl) (lenOf own_pd6 rfl) rfl (by show 2 * 0 + _ ≤ _; exact Nat.le_of_eq rfl) (hb hby at_328) ?_
        rintro T28 L28 _ X28 ⟨rfl, N28q, e28⟩
        have N28 := Fr.app N27 N28q
        show own_Wp _ _ _ _ (T28.setTop (mkF m 331 #[iv p1, iv p2, iv p3, iv p4, iv p5, iv p6, iv (0 : Int32), iv br, iv bnd, iv (own_chr c1), iv (own_chr c2), iv (own_chr c3), iv (own_chr c4), rv b5, rv b6, iv r0, iv r1, iv r2, iv (0 : Int32), iv (1 : Int32), iv (2 : Int32), iv (1 : Int32), iv (2 : Int32), iv d11, iv d12, iv d21, iv e22, iv e0, uu, uu] [(.int (own_pk (0 : Int32) (1 : Int32) d11 d12))]))
        refine own_of (fun tgt kon => XS.iload X28.here hx rfl (hb hby at_331) rfl kon) ?_
        refine own_callS X28 hx hZ (y := (⟨"com/example/close_words/closewords/BitRowsDistancePinLaw", "cap", "(II)I"⟩ : MethodName)) (argsL := [(.int (own_pk (0 : Int32) (1 : Int32) d11 d12)), (.int bnd)]) (rest := []) (W := 0) hown (ow hw 68 rfl) (ow hw 69 rfl) (ow hw 2 rfl) (ow hw 70 rfl) (by decide) e28 (rmcap l Z a0 hw [] (own_pk (0 : Int32) (1 : Int32) d11 d12) bnd T9.heap n0 Zs) (by decide) (by decide) (by decide) (by decide) rfl (by rw [hml]; rfl) (lenOf own_pd2 rfl) rfl (by show 2 * 0 + _ ≤ _; exact Nat.le_of_eq rfl) (hb hby at_333) ?_
        rintro T29 L29 _ X29 ⟨rfl, N29q, e29⟩
        have N29 := Fr.app N28 N29q
        show own_Wp _ _ _ _ (T29.setTop (mkF m 336 #[iv p1, iv p2, iv p3, iv p4, iv p5, iv p6, iv (0 : Int32), iv br, iv bnd, iv (own_chr c1), iv (own_chr c2), iv (own_chr c3), iv (own_chr c4), rv b5, rv b6, iv r0, iv r1, iv r2, iv (0 : Int32), iv (1 : Int32), iv (2 : Int32), iv (1 : Int32), iv (2 : Int32), iv d11, iv d12, iv d21, iv e22, iv e0, uu, uu] [(.int (own_cpI (own_pk (0 : Int32) (1 : Int32) d11 d12) bnd))]))
        obtain ⟨e1, h_e1⟩ : ∃ q : Int32, q = (own_cpI (own_pk (0 : Int32) (1 : Int32) d11 d12) bnd) := ⟨_, rfl⟩
        rw [← h_e1]
        refine own_of (fun tgt kon => XS.istore X29.here hx rfl (hb hby at_336) rfl (l' := #[iv p1, iv p2, iv p3, iv p4, iv p5, iv p6, iv (0 : Int32), iv br, iv bnd, iv (own_chr c1), iv (own_chr c2), iv (own_chr c3), iv (own_chr c4), rv b5, rv b6, iv r0, iv r1, iv r2, iv (0 : Int32), iv (1 : Int32), iv (2 : Int32), iv (1 : Int32), iv (2 : Int32), iv d11, iv d12, iv d21, iv e22, iv e0, iv e1, uu]) rfl kon) ?_
        refine own_of (fun tgt kon => XS.iload X29.here hx rfl (hb hby at_338) rfl kon) ?_
        refine own_of (fun tgt kon => XS.iload X29.here hx rfl (hb hby at_340) rfl kon) ?_
        refine own_of (fun tgt kon => XS.iload X29.here hx rfl (hb hby at_342) rfl kon) ?_
        refine own_of (fun tgt kon => XS.iload X29.here hx rfl (hb hby at_344) rfl kon) ?_
        show own_Wp _ _ _ _ (T29.setTop (mkF m 346 #[iv p1, iv p2, iv p3, iv p4, iv p5, iv p6, iv (0 : Int32), iv br, iv bnd, iv (own_chr c1), iv (own_chr c2), iv (own_chr c3), iv (own_chr c4), rv b5, rv b6, iv r0, iv r1, iv r2, iv (0 : Int32), iv (1 : Int32), iv (2 : Int32), iv (1 : Int32), iv (2 : Int32), iv d11, iv d12, iv d21, iv e22, iv e0, iv e1, uu] [(.int e22), (.int d21), (.int (2 : Int32)), (.int (0 : Int32))]))
        refine own_callS X29 hx hZ (y := (⟨"com/example/close_words/closewords/BitRowsDistancePinLaw", "pick", "(IIII)I"⟩ : MethodName)) (argsL := [(.int (0 : Int32)), (.int (2 : Int32)), (.int d21), (.int e22)]) (rest := []) (W := 0) hown (ow hw 65 rfl) (ow hw 66 rfl) (ow hw 2 rfl) (ow hw 67 rfl) (by decide) e29 (rmpick l Z a0 hw [] (0 : Int32) (2 : Int32) d21 e22 T9.heap n0 Zs) (by decide) (by decide) (by decide) (by decide) rfl (by rw [hml]; rfl) (lenOf own_pd6 rfl) rfl (by show 2 * 0 + _ ≤ _; exact Nat.le_of_eq rfl) (hb hby at_346) ?_
        rintro T30 L30 _ X30 ⟨rfl, N30q, e30⟩
        have N30 := Fr.app N29 N30q
        show own_Wp _ _ _ _ (T30.setTop (mkF m 349 #[iv p1, iv p2, iv p3, iv p4, iv p5, iv p6, iv (0 : Int32), iv br, iv bnd, iv (own_chr c1), iv (own_chr c2), iv (own_chr c3), iv (own_chr c4), rv b5, rv b6, iv r0, iv r1, iv r2, iv (0 : Int32), iv (1 : Int32), iv (2 : Int32), iv (1 : Int32), iv (2 : Int32), iv d11, iv d12, iv d21, iv e22, iv e0, iv e1, uu] [(.int (own_pk (0 : Int32) (2 : Int32) d21 e22))]))
        refine own_of (fun tgt kon => XS.iload X30.here hx rfl (hb hby at_349) rfl kon) ?_
        refine own_callS X30 hx hZ (y := (⟨"com/example/close_words/closewords/BitRowsDistancePinLaw", "cap", "(II)I"⟩ : MethodName)) (argsL := [(.int (own_pk (0 : Int32) (2 : Int32) d21 e22)), (.int bnd)]) (rest := []) (W := 0) hown (ow hw 68 rfl) (ow hw 69 rfl) (ow hw 2 rfl) (ow hw 70 rfl) (by decide) e30 (rmcap l Z a0 hw [] (own_pk (0 : Int32) (2 : Int32) d21 e22) bnd T9.heap n0 Zs) (by decide) (by decide) (by decide) (by decide) rfl (by rw [hml]; rfl) (lenOf own_pd2 rfl) rfl (by show 2 * 0 + _ ≤ _; exact Nat.le_of_eq rfl) (hb hby at_351) ?_
        rintro T31 L31 _ X31 ⟨rfl, N31q, e31⟩
        have N31 := Fr.app N30 N31q
        show own_Wp _ _ _ _ (T31.setTop (mkF m 354 #[iv p1, iv p2, iv p3, iv p4, iv p5, iv p6, iv (0 : Int32), iv br, iv bnd, iv (own_chr c1), iv (own_chr c2), iv (own_chr c3), iv (own_chr c4), rv b5, rv b6, iv r0, iv r1, iv r2, iv (0 : Int32), iv (1 : Int32), iv (2 : Int32), iv (1 : Int32), iv (2 : Int32), iv d11, iv d12, iv d21, iv e22, iv e0, iv e1, uu] [(.int (own_cpI (own_pk (0 : Int32) (2 : Int32) d21 e22) bnd))]))
        obtain ⟨e2, h_e2⟩ : ∃ q : Int32, q = (own_cpI (own_pk (0 : Int32) (2 : Int32) d21 e22) bnd) := ⟨_, rfl⟩
        rw [← h_e2]
        refine own_of (fun tgt kon => XS.istore X31.here hx rfl (hb hby at_354) rfl (l' := #[iv p1, iv p2, iv p3, iv p4, iv p5, iv p6, iv (0 : Int32), iv br, iv bnd, iv (own_chr c1), iv (own_chr c2), iv (own_chr c3), iv (own_chr c4), rv b5, rv b6, iv r0, iv r1, iv r2, iv (0 : Int32), iv (1 : Int32), iv (2 : Int32), iv (1 : Int32), iv (2 : Int32), iv d11, iv d12, iv d21, iv e22, iv e0, iv e1, iv e2]) rfl kon) ?_
        refine own_of (fun tgt kon => XS.iload X31.here hx rfl (hb hby at_356) rfl kon) ?_
        refine own_of (fun tgt kon => XS.iload X31.here hx rfl (hb hby at_358) rfl kon) ?_
        have hc360 : r0 = e0 := by rw [h_r0, h_e0]; rw [show D0 = 0 from hD0]; exact own_fin hbd (by decide)
        refine own_of (fun tgt kon => XS.icmpNo X31.here hx rfl (hb hby at_360) rfl (teq hc360).2 kon) ?_
        refine own_of (fun tgt kon => XS.iload X31.here hx rfl (hb hby at_363) rfl kon) ?_
        show own_Wp _ _ _ _ (T31.setTop (mkF m 365 #[iv p1, iv p2, iv p3, iv p4, iv p5, iv p6, iv (0 : Int32), iv br, iv bnd, iv (own_chr c1), iv (own_chr c2), iv (own_chr c3), iv (own_chr c4), rv b5, rv b6, iv r0, iv r1, iv r2, iv (0 : Int32), iv (1 : Int32), iv (2 : Int32), iv (1 : Int32), iv (2 : Int32), iv d11, iv d12, iv d21, iv e22, iv e0, iv e1, iv e2] [(.int r1)]))
        refine own_of (fun tgt kon => XS.iload X31.here hx rfl (hb hby at_365) rfl kon) ?_
        have hc367 : r1 = e1 := by rw [h_r1, h_e1]; rw [show D1 = 1 from hD1]; exact own_fin hbd (by decide)
        refine own_of (fun tgt kon => XS.icmpNo X31.here hx rfl (hb hby at_367) rfl (teq hc367).2 kon) ?_
        refine own_of (fun tgt kon => XS.iload X31.here hx rfl (hb hby at_370) rfl kon) ?_
        refine own_of (fun tgt kon => XS.iload X31.here hx rfl (hb hby at_372) rfl kon) ?_
        have hc374 : r2 = e2 := by rw [h_r2, h_e2]; rw [show D2 = 2 from hD2]; exact own_fin hbd (by decide)
        refine own_of (fun tgt kon => XS.icmpNo X31.here hx rfl (hb hby at_374) rfl (teq hc374).2 kon) ?_
        refine own_of (fun tgt kon => XS.iconst X31.here hx rfl (hb hby at_377) kon) ?_
        show own_Wp _ _ _ _ (T31.setTop (mkF m 378 #[iv p1, iv p2, iv p3, iv p4, iv p5, iv p6, iv (0 : Int32), iv br, iv bnd, iv (own_chr c1), iv (own_chr c2), iv (own_chr c3), iv (own_chr c4), rv b5, rv b6, iv r0, iv r1, iv r2, iv (0 : Int32), iv (1 : Int32), iv (2 : Int32), iv (1 : Int32), iv (2 : Int32), iv d11, iv d12, iv d21, iv e22, iv e0, iv e1, iv e2] [(.int (1 : Int32))]))
        refine own_of (fun tgt kon => XS.goto X31.here hx rfl (pc0 := 378) (pc' := 382) rfl (hb hby at_378) (by decide) (by decide) kon) ?_
        show own_Wp _ _ _ _ (T31.setTop (mkF m 382 #[iv p1, iv p2, iv p3, iv p4, iv p5, iv p6, iv (0 : Int32), iv br, iv bnd, iv (own_chr c1), iv (own_chr c2), iv (own_chr c3), iv (own_chr c4), rv b5, rv b6, iv r0, iv r1, iv r2, iv (0 : Int32), iv (1 : Int32), iv (2 : Int32), iv (1 : Int32), iv (2 : Int32), iv d11, iv d12, iv d21, iv e22, iv e0, iv e1, iv e2] [(.int (1 : Int32))]))
        refine own_ret X31 hlk (some (.int (1 : Int32))) (own_rtI hrt) (fun fs hr => retN X31 hx (t := .boolean) hrt (by simp) (hb hby at_382) hr) ?_ (by decide) (by decide)
        rw [e31]
        exact ⟨rfl, N31⟩
      show own_Wp _ _ _ _ (T24.setTop (mkF m 281 #[iv p1, iv p2, iv p3, iv p4, iv p5, iv p6, iv (0 : Int32), iv br, iv bnd, iv (own_chr c1), iv (own_chr c2), iv (own_chr c3), iv (own_chr c4), rv b5, rv b6, iv r0, iv r1, iv r2, iv (0 : Int32), iv (1 : Int32), iv (2 : Int32), iv (1 : Int32), iv (2 : Int32), iv d11, iv d12, iv d21, iv d22, uu, uu, uu] [(.int (own_chr c1)), (.int (own_chr c4))]))
      by_cases hc281 : (own_chr c4) = (own_chr c1)
      · skip
        refine own_of (fun tgt kon => XS.icmpNo X24.here hx rfl (hb hby at_281) rfl (teq hc281).2 kon) ?_
        refine own_of (fun tgt kon => XS.iload X24.here hx rfl (hb hby at_284) rfl kon) ?_
        refine own_of (fun tgt kon => XS.iload X24.here hx rfl (hb hby at_286) rfl kon) ?_
        by_cases hc288 : (own_chr c3) = (own_chr c2)
        · skip
          refine own_of (fun tgt kon => XS.icmpNo X24.here hx rfl (hb hby at_288) rfl (teq hc288).2 kon) ?_
          refine own_of (fun tgt kon => XS.iload X24.here hx rfl (hb hby at_291) rfl kon) ?_
          show own_Wp _ _ _ _ (T24.setTop (mkF m 293 #[iv p1, iv p2, iv p3, iv p4, iv p5, iv p6, iv (0 : Int32), iv br, iv bnd, iv (own_chr c1), iv (own_chr c2), iv (own_chr c3), iv (own_chr c4), rv b5, rv b6, iv r0, iv r1, iv r2, iv (0 : Int32), iv (1 : Int32), iv (2 : Int32), iv (1 : Int32), iv (2 : Int32), iv d11, iv d12, iv d21, iv d22, uu, uu, uu] [(.int d22)]))
          refine own_of (fun tgt kon => XS.iload X24.here hx rfl (hb hby at_293) rfl kon) ?_
          refine own_of (fun tgt kon => XS.iconst X24.here hx rfl (hb hby at_295) kon) ?_
          refine own_of (fun tgt kon => XS.iadd X24.here hx rfl (hb hby at_296) rfl kon) ?_
          refine own_callS X24 hx hZ (y := (⟨"java/lang/Math", "min", "(II)I"⟩ : MethodName)) (argsL := [(.int d22), (.int ((0 : Int32) + (1 : Int32)))]) (rest := []) (W := 0) hown (ow hw 61 rfl) (ow hw 44 rfl) (ow hw 45 rfl) (ow hw 46 rfl) (by decide) e24 (rmmin l Z a0 hw [] d22 ((0 : Int32) + (1 : Int32)) T9.heap n0 Zs) (by decide) (by decide) (by decide) (by decide) rfl (by rw [hml]; rfl) (lenOf own_pd2 rfl) rfl (by show 2 * 0 + _ ≤ _; exact Nat.le_of_eq rfl) (hb hby at_297) ?_
          rintro T32 L32 _ X32 ⟨rfl, N32q, e32⟩
          have N32 := Fr.app N24 N32q
          show own_Wp _ _ _ _ (T32.setTop (mkF m 300 #[iv p1, iv p2, iv p3, iv p4, iv p5, iv p6, iv (0 : Int32), iv br, iv bnd, iv (own_chr c1), iv (own_chr c2), iv (own_chr c3), iv (own_chr c4), rv b5, rv b6, iv r0, iv r1, iv r2, iv (0 : Int32), iv (1 : Int32), iv (2 : Int32), iv (1 : Int32), iv (2 : Int32), iv d11, iv d12, iv d21, iv d22, uu, uu, uu] [(.int (own_mni d22 ((0 : Int32) + (1 : Int32))))]))
          refine own_of (fun tgt kon => XS.istore X32.here hx rfl (hb hby at_300) rfl (l' := #[iv p1, iv p2, iv p3, iv p4, iv p5, iv p6, iv (0 : Int32), iv br, iv bnd, iv (own_chr c1), iv (own_chr c2), iv (own_chr c3), iv (own_chr c4), rv b5, rv b6, iv r0, iv r1, iv r2, iv (0 : Int32), iv (1 : Int32), iv (2 : Int32), iv (1 : Int32), iv (2 : Int32), iv d11, iv d12, iv d21, iv (own_mni d22 ((0 : Int32) + (1 : Int32))), uu, uu, uu]) rfl kon) ?_
          show own_Wp _ _ _ _ (T32.setTop (mkF m 302 #[iv p1, iv p2, iv p3, iv p4, iv p5, iv p6, iv (0 : Int32), iv br, iv bnd, iv (own_chr c1), iv (own_chr c2), iv (own_chr c3), iv (own_chr c4), rv b5, rv b6, iv r0, iv r1, iv r2, iv (0 : Int32), iv (1 : Int32), iv (2 : Int32), iv (1 : Int32), iv (2 : Int32), iv d11, iv d12, iv d21, iv (own_mni d22 ((0 : Int32) + (1 : Int32))), uu, uu, uu] []))
          exact J302 T32 _ ((own_mni d22 ((0 : Int32) + (1 : Int32)))) X32 e32 N32 (by exact (if_pos (And.intro hc281 hc288)).symm)
        · skip
          refine own_of (fun tgt kon => XS.icmpYes X24.here hx rfl (pc0 := 288) (pc' := 302) rfl (hb hby at_288) rfl (feq hc288).2 (by decide) (by decide) kon) ?_
          show own_Wp _ _ _ _ (T24.setTop (mkF m 302 #[iv p1, iv p2, iv p3, iv p4, iv p5, iv p6, iv (0 : Int32), iv br, iv bnd, iv (own_chr c1), iv (own_chr c2), iv (own_chr c3), iv (own_chr c4), rv b5, rv b6, iv r0, iv r1, iv r2, iv (0 : Int32), iv (1 : Int32), iv (2 : Int32), iv (1 : Int32), iv (2 : Int32), iv d11, iv d12, iv d21, iv d22, uu, uu, uu] []))
          exact J302 T24 _ (d22) X24 e24 N24 (by exact (if_neg (fun q => hc288 q.2)).symm)
      · skip
        refine own_of (fun tgt kon => XS.icmpYes X24.here hx rfl (pc0 := 281) (pc' := 302) rfl (hb hby at_281) rfl (feq hc281).2 (by decide) (by decide) kon) ?_
        show own_Wp _ _ _ _ (T24.setTop (mkF m 302 #[iv p1, iv p2, iv p3, iv p4, iv p5, iv p6, iv (0 : Int32), iv br, iv bnd, iv (own_chr c1), iv (own_chr c2), iv (own_chr c3), iv (own_chr c4), rv b5, rv b6, iv r0, iv r1, iv r2, iv (0 : Int32), iv (1 : Int32), iv (2 : Int32), iv (1 : Int32), iv (2 : Int32), iv d11, iv d12, iv d21, iv d22, uu, uu, uu] []))
        exact J302 T24 _ (d22) X24 e24 N24 (by exact (if_neg (fun q => hc281 q.1)).symm)
    show own_Wp _ _ _ _ (s₁.setTop (mkF m 12 #[iv p1, iv p2, iv p3, iv p4, iv p5, iv p6, iv (0 : Int32), uu, uu, uu, uu, uu, uu, uu, uu, uu, uu, uu, uu, uu, uu, uu, uu, uu, uu, uu, uu, uu, uu, uu] [(.int (p5 &&& (4 : Int32)))]))
    by_cases hc12 : (p5 &&& (4 : Int32)) = (0 : Int32)
    · skip
      refine own_of (fun tgt kon => XS.ifYes X0.here hx rfl (pc0 := 12) (pc' := 19) rfl (hb hby at_12) rfl ((if0 _ _).trans (teq hc12).1) (by decide) (by decide) kon) ?_
      refine own_of (fun tgt kon => XS.iconst X0.here hx rfl (hb hby at_19) kon) ?_
      show own_Wp _ _ _ _ (s₁.setTop (mkF m 20 #[iv p1, iv p2, iv p3, iv p4, iv p5, iv p6, iv (0 : Int32), uu, uu, uu, uu, uu, uu, uu, uu, uu, uu, uu, uu, uu, uu, uu, uu, uu, uu, uu, uu, uu, uu, uu] [(.int (0 : Int32))]))
      exact J20 ((0 : Int32)) (by exact (if_pos hc12).symm)
    · skip
      refine own_of (fun tgt kon => XS.ifNo X0.here hx rfl (hb hby at_12) rfl ((if0 _ _).trans (feq hc12).1) kon) ?_
      refine own_of (fun tgt kon => XS.iconst X0.here hx rfl (hb hby at_15) kon) ?_
      refine own_of (fun tgt kon => XS.goto X0.here hx rfl (pc0 := 16) (pc' := 20) rfl (hb hby at_16) (by decide) (by decide) kon) ?_
      show own_Wp _ _ _ _ (s₁.setTop (mkF m 20 #[iv p1, iv p2, iv p3, iv p4, iv p5, iv p6, iv (0 : Int32), uu, uu, uu, uu, uu, uu, uu, uu, uu, uu, uu, uu, uu, uu, uu, uu, uu, uu, uu, uu, uu, uu, uu] [(.int (1 : Int32))]))
      exact J20 ((1 : Int32)) (by exact (if_neg hc12).symm)
  · skip
    show own_Wp _ _ _ _ (s₁.setTop (mkF m 8 #[iv p1, iv p2, iv p3, iv p4, iv p5, iv p6, iv (1 : Int32), uu, uu, uu, uu, uu, uu, uu, uu, uu, uu, uu, uu, uu, uu, uu, uu, uu, uu, uu, uu, uu, uu, uu] []))
    refine own_of (fun tgt kon => XS.iload X0.here hx rfl (hb hby at_8) rfl kon) ?_
    refine own_of (fun tgt kon => XS.iconst X0.here hx rfl (hb hby at_10) kon) ?_
    refine own_of (fun tgt kon => XS.iand X0.here hx rfl (hb hby at_11) rfl kon) ?_
    show own_Wp _ _ _ _ (s₁.setTop (mkF m 12 #[iv p1, iv p2, iv p3, iv p4, iv p5, iv p6, iv (1 : Int32), uu, uu, uu, uu, uu, uu, uu, uu, uu, uu, uu, uu, uu, uu, uu, uu, uu, uu, uu, uu, uu, uu, uu] [(.int (p5 &&& (4 : Int32)))]))
    have J20 : ∀ (br : Int32), (br = if (p5 &&& (4 : Int32)) = (0 : Int32) then (0 : Int32) else 1) → own_Wp p.tables e below (own_K room_1 s below (Q_rm0 Z p1 p2 p3 p4 p5 p6 h0 n0)) (s₁.setTop (mkF m 20 #[iv p1, iv p2, iv p3, iv p4, iv p5, iv p6, iv (1 : Int32), uu, uu, uu, uu, uu, uu, uu, uu, uu, uu, uu, uu, uu, uu, uu, uu, uu, uu, uu, uu, uu, uu, uu] [(.int br)])) := by
      intro br h_br
      refine own_of (fun tgt kon => XS.istore X0.here hx rfl (hb hby at_20) rfl (l' := #[iv p1, iv p2, iv p3, iv p4, iv p5, iv p6, iv (1 : Int32), iv br, uu, uu, uu, uu, uu, uu, uu, uu, uu, uu, uu, uu, uu, uu, uu, uu, uu, uu, uu, uu, uu, uu]) rfl kon) ?_
      refine own_of (fun tgt kon => XS.iload X0.here hx rfl (hb hby at_22) rfl kon) ?_
      refine own_of (fun tgt kon => XS.bipush X0.here hx rfl (hb hby at_24) kon) ?_
      refine own_of (fun tgt kon => XS.iand X0.here hx rfl (hb hby at_26) rfl kon) ?_
      show own_Wp _ _ _ _ (s₁.setTop (mkF m 27 #[iv p1, iv p2, iv p3, iv p4, iv p5, iv p6, iv (1 : Int32), iv br, uu, uu, uu, uu, uu, uu, uu, uu, uu, uu, uu, uu, uu, uu, uu, uu, uu, uu, uu, uu, uu, uu] [(.int (p6 &&& (63 : Int32)))]))
      obtain ⟨bnd, h_bnd⟩ : ∃ q : Int32, q = (p6 &&& (63 : Int32)) := ⟨_, rfl⟩
      rw [← h_bnd]
      refine own_of (fun tgt kon => XS.istore X0.here hx rfl (hb hby at_27) rfl (l' := #[iv p1, iv p2, iv p3, iv p4, iv p5, iv p6, iv (1 : Int32), iv br, iv bnd, uu, uu, uu, uu, uu, uu, uu, uu, uu, uu, uu, uu, uu, uu, uu, uu, uu, uu, uu, uu, uu]) rfl kon) ?_
      refine own_of (fun tgt kon => XS.iloadN X0.here hx rfl (hb hby at_29) rfl kon) ?_
      refine own_callS X0 hx hZ (y := (⟨"com/example/close_words/closewords/BitRowsDistancePinLaw", "ch", "(I)I"⟩ : MethodName)) (argsL := [(.int p1)]) (rest := []) (W := 0) hown (ow hw 0 rfl) (ow hw 1 rfl) (ow hw 2 rfl) (ow hw 3 rfl) (by decide) e0 (rmch l Z a0 hw [] p1 h0 n0 Zs) (by decide) (by decide) (by decide) (by decide) rfl (by rw [hml]; rfl) (lenOf own_pd3 rfl) rfl (by show 2 * 0 + _ ≤ _; exact Nat.le_of_eq rfl) (hb hby at_30) ?_
      rintro T33 L33 _ X33 ⟨rfl, N33q, e33⟩
      have N33 := Fr.app N0 N33q
      show own_Wp _ _ _ _ (T33.setTop (mkF m 33 #[iv p1, iv p2, iv p3, iv p4, iv p5, iv p6, iv (1 : Int32), iv br, iv bnd, uu, uu, uu, uu, uu, uu, uu, uu, uu, uu, uu, uu, uu, uu, uu, uu, uu, uu, uu, uu, uu] [(.int ((p1 &&& (3 : Int32)) ||| ((p1 &&& (4 : Int32)) <<< ((5 : Int32) &&& 31))))]))
      obtain ⟨s1, h_s1⟩ : ∃ q : Int32, q = ((p1 &&& (3 : Int32)) ||| ((p1 &&& (4 : Int32)) <<< ((5 : Int32) &&& 31))) := ⟨_, rfl⟩
      rw [← h_s1]
      refine own_of (fun tgt kon => XS.istore X33.here hx rfl (hb hby at_33) rfl (l' := #[iv p1, iv p2, iv p3, iv p4, iv p5, iv p6, iv (1 : Int32), iv br, iv bnd, iv s1, uu, uu, uu, uu, uu, uu, uu, uu, uu, uu, uu, uu, uu, uu, uu, uu, uu, uu, uu, uu]) rfl kon) ?_
      refine own_of (fun tgt kon => XS.iloadN X33.here hx rfl (hb hby at_35) rfl kon) ?_
      refine own_callS X33 hx hZ (y := (⟨"com/example/close_words/closewords/BitRowsDistancePinLaw", "ch", "(I)I"⟩ : MethodName)) (argsL := [(.int p2)]) (rest := []) (W := 0) hown (ow hw 0 rfl) (ow hw 1 rfl) (ow hw 2 rfl) (ow hw 3 rfl) (by decide) e33 (rmch l Z a0 hw [] p2 h0 n0 Zs) (by decide) (by decide) (by decide) (by decide) rfl (by rw [hml]; rfl) (lenOf own_pd3 rfl) rfl (by show 2 * 0 + _ ≤ _; exact Nat.le_of_eq rfl) (hb hby at_36) ?_
      rintro T34 L34 _ X34 ⟨rfl, N34q, e34⟩
      have N34 := Fr.app N33 N34q
      show own_Wp _ _ _ _ (T34.setTop (mkF m 39 #[iv p1, iv p2, iv p3, iv p4, iv p5, iv p6, iv (1 : Int32), iv br, iv bnd, iv s1, uu, uu, uu, uu, uu, uu, uu, uu, uu, uu, uu, uu, uu, uu, uu, uu, uu, uu, uu, uu] [(.int ((p2 &&& (3 : Int32)) ||| ((p2 &&& (4 : Int32)) <<< ((5 : Int32) &&& 31))))]))
      obtain ⟨s2, h_s2⟩ : ∃ q : Int32, q = ((p2 &&& (3 : Int32)) ||| ((p2 &&& (4 : Int32)) <<< ((5 : Int32) &&& 31))) := ⟨_, rfl⟩
      rw [← h_s2]
      refine own_of (fun tgt kon => XS.istore X34.here hx rfl (hb hby at_39) rfl (l' := #[iv p1, iv p2, iv p3, iv p4, iv p5, iv p6, iv (1 : Int32), iv br, iv bnd, iv s1, iv s2, uu, uu, uu, uu, uu, uu, uu, uu, uu, uu, uu, uu, uu, uu, uu, uu, uu, uu, uu]) rfl kon) ?_
      refine own_of (fun tgt kon => XS.iloadN X34.here hx rfl (hb hby at_41) rfl kon) ?_
      refine own_callS X34 hx hZ (y := (⟨"com/example/close_words/closewords/BitRowsDistancePinLaw", "ch", "(I)I"⟩ : MethodName)) (argsL := [(.int p3)]) (rest := []) (W := 0) hown (ow hw 0 rfl) (ow hw 1 rfl) (ow hw 2 rfl) (ow hw 3 rfl) (by decide) e34 (rmch l Z a0 hw [] p3 h0 n0 Zs) (by decide) (by decide) (by decide) (by decide) rfl (by rw [hml]; rfl) (lenOf own_pd3 rfl) rfl (by show 2 * 0 + _ ≤ _; exact Nat.le_of_eq rfl) (hb hby at_42) ?_
      rintro T35 L35 _ X35 ⟨rfl, N35q, e35⟩
      have N35 := Fr.app N34 N35q
      show own_Wp _ _ _ _ (T35.setTop (mkF m 45 #[iv p1, iv p2, iv p3, iv p4, iv p5, iv p6, iv (1 : Int32), iv br, iv bnd, iv s1, iv s2, uu, uu, uu, uu, uu, uu, uu, uu, uu, uu, uu, uu, uu, uu, uu, uu, uu, uu, uu] [(.int ((p3 &&& (3 : Int32)) ||| ((p3 &&& (4 : Int32)) <<< ((5 : Int32) &&& 31))))]))
      obtain ⟨k1, h_k1⟩ : ∃ q : Int32, q = ((p3 &&& (3 : Int32)) ||| ((p3 &&& (4 : Int32)) <<< ((5 : Int32) &&& 31))) := ⟨_, rfl⟩
      rw [← h_k1]
      refine own_of (fun tgt kon => XS.istore X35.here hx rfl (hb hby at_45) rfl (l' := #[iv p1, iv p2, iv p3, iv p4, iv p5, iv p6, iv (1 : Int32), iv br, iv bnd, iv s1, iv s2, iv k1, uu, uu, uu, uu, uu, uu, uu, uu, uu, uu, uu, uu, uu, uu, uu, uu, uu, uu]) rfl kon) ?_
      refine own_of (fun tgt kon => XS.iloadN X35.here hx rfl (hb hby at_47) rfl kon) ?_
      refine own_callS X35 hx hZ (y := (⟨"com/example/close_words/closewords/BitRowsDistancePinLaw", "ch", "(I)I"⟩ : MethodName)) (argsL := [(.int p4)]) (rest := []) (W := 0) hown (ow hw 0 rfl) (ow hw 1 rfl) (ow hw 2 rfl) (ow hw 3 rfl) (by decide) e35 (rmch l Z a0 hw [] p4 h0 n0 Zs) (by decide) (by decide) (by decide) (by decide) rfl (by rw [hml]; rfl) (lenOf own_pd3 rfl) rfl (by show 2 * 0 + _ ≤ _; exact Nat.le_of_eq rfl) (hb hby at_48) ?_
      rintro T36 L36 _ X36 ⟨rfl, N36q, e36⟩
      have N36 := Fr.app N35 N36q
      show own_Wp _ _ _ _ (T36.setTop (mkF m 51 #[iv p1, iv p2, iv p3, iv p4, iv p5, iv p6, iv (1 : Int32), iv br, iv bnd, iv s1, iv s2, iv k1, uu, uu, uu, uu, uu, uu, uu, uu, uu, uu, uu, uu, uu, uu, uu, uu, uu, uu] [(.int ((p4 &&& (3 : Int32)) ||| ((p4 &&& (4 : Int32)) <<< ((5 : Int32) &&& 31))))]))
      obtain ⟨k2, h_k2⟩ : ∃ q : Int32, q = ((p4 &&& (3 : Int32)) ||| ((p4 &&& (4 : Int32)) <<< ((5 : Int32) &&& 31))) := ⟨_, rfl⟩
      rw [← h_k2]
      refine own_of (fun tgt kon => XS.istore X36.here hx rfl (hb hby at_51) rfl (l' := #[iv p1, iv p2, iv p3, iv p4, iv p5, iv p6, iv (1 : Int32), iv br, iv bnd, iv s1, iv s2, iv k1, iv k2, uu, uu, uu, uu, uu, uu, uu, uu, uu, uu, uu, uu, uu, uu, uu, uu, uu]) rfl kon) ?_
      show own_Wp _ _ _ _ (T36.setTop (mkF m 53 #[iv p1, iv p2, iv p3, iv p4, iv p5, iv p6, iv (1 : Int32), iv br, iv bnd, iv s1, iv s2, iv k1, iv k2, uu, uu, uu, uu, uu, uu, uu, uu, uu, uu, uu, uu, uu, uu, uu, uu, uu] []))
      obtain ⟨bd, hbd, hbd63⟩ := own_b63 h_bnd
      obtain ⟨c1, q⟩ := own_ch p1
      rw [← h_s1] at q
      clear h_s1
      subst q
      obtain ⟨c2, q⟩ := own_ch p2
      rw [← h_s2] at q
      clear h_s2
      subst q
      obtain ⟨c3, q⟩ := own_ch p3
      rw [← h_k1] at q
      clear h_k1
      subst q
      obtain ⟨c4, q⟩ := own_ch p4
      rw [← h_k2] at q
      clear h_k2
      subst q
      show own_Wp _ _ _ _ (T36.setTop (mkF m 53 #[iv p1, iv p2, iv p3, iv p4, iv p5, iv p6, iv (1 : Int32), iv br, iv bnd, iv (own_chr c1), iv (own_chr c2), iv (own_chr c3), iv (own_chr c4), uu, uu, uu, uu, uu, uu, uu, uu, uu, uu, uu, uu, uu, uu, uu, uu, uu] []))
      refine own_of (fun tgt kon => XS.iload X36.here hx rfl (hb hby at_53) rfl kon) ?_
      have hc55 : ¬ ((1 : Int32) = (0 : Int32)) := by decide
      refine own_of (fun tgt kon => XS.ifYes X36.here hx rfl (pc0 := 55) (pc' := 66) rfl (hb hby at_55) rfl ((if0 _ _).trans (feq hc55).2) (by decide) (by decide) kon) ?_
      refine own_of (fun tgt kon => XS.iload X36.here hx rfl (hb hby at_66) rfl kon) ?_
      refine own_of (fun tgt kon => XS.iconst X36.here hx rfl (hb hby at_68) kon) ?_
      have hc69 : (1 : Int32) = (1 : Int32) := by decide
      refine own_of (fun tgt kon => XS.icmpNo X36.here hx rfl (hb hby at_69) rfl (teq hc69).2 kon) ?_
      refine own_of (fun tgt kon => XS.iconst X36.here hx rfl (hb hby at_72) kon) ?_
      show own_Wp _ _ _ _ (T36.setTop (mkF m 73 #[iv p1, iv p2, iv p3, iv p4, iv p5, iv p6, iv (1 : Int32), iv br, iv bnd, iv (own_chr c1), iv (own_chr c2), iv (own_chr c3), iv (own_chr c4), uu, uu, uu, uu, uu, uu, uu, uu, uu, uu, uu, uu, uu, uu, uu, uu, uu] [(.int (1 : Int32))]))
      obtain ⟨T37, h37, k37, X37, e37, E37, A37, st37⟩ := newP X36 hx hZ (ow hw 4 rfl) e36 (g := (mkF m 73 #[iv p1, iv p2, iv p3, iv p4, iv p5, iv p6, iv (1 : Int32), iv br, iv bnd, iv (own_chr c1), iv (own_chr c2), iv (own_chr c3), iv (own_chr c4), uu, uu, uu, uu, uu, uu, uu, uu, uu, uu, uu, uu, uu, uu, uu, uu, uu] [(.int (1 : Int32))])) rfl (hb hby at_73) rfl (by decide) (cap := 1) (by decide) (by decide) (by decide) (by decide)
      refine own_of st37 ?_
      clear st37
      obtain ⟨b37, gq37⟩ : ∃ z, z = h0.size := ⟨_, rfl⟩
      rw [← gq37] at A37 ⊢
      have g_b37 : n0 ≤ b37 := Nat.le_trans Zs (Nat.le_of_eq gq37.symm)
      replace Zs := Nat.le_trans Zs E37.1
      have V_b37 : own_Ar Z h37 b37 .int 1 (fun _ => (.int (0 : Int32))) := own_Ar.new A37 (by decide) rfl
      refine own_of (fun tgt kon => XS.astore X37.here hx rfl (hb hby at_75) rfl rfl (l' := #[iv p1, iv p2, iv p3, iv p4, iv p5, iv p6, iv (1 : Int32), iv br, iv bnd, iv (own_chr c1), iv (own_chr c2), iv (own_chr c3), iv (own_chr c4), rv b37, uu, uu, uu, uu, uu, uu, uu, uu, uu, uu, uu, uu, uu, uu, uu, uu]) rfl kon) ?_
      refine own_of (fun tgt kon => XS.aload X37.here hx rfl (hb hby at_77) rfl rfl kon) ?_
      refine own_of (fun tgt kon => XS.iconst X37.here hx rfl (hb hby at_79) kon) ?_
      refine own_of (fun tgt kon => XS.iload X37.here hx rfl (hb hby at_80) rfl kon) ?_
      show own_Wp _ _ _ _ (T37.setTop (mkF m 82 #[iv p1, iv p2, iv p3, iv p4, iv p5, iv p6, iv (1 : Int32), iv br, iv bnd, iv (own_chr c1), iv (own_chr c2), iv (own_chr c3), iv (own_chr c4), rv b37, uu, uu, uu, uu, uu, uu, uu, uu, uu, uu, uu, uu, uu, uu, uu, uu] [(.int (own_chr c1)), (.int (0 : Int32)), (.ref b37)]))
      obtain ⟨T38, h38, X38, e38, W38, Aq38, st38⟩ := own_stI X37 hx hZ e37 V_b37 (j := (0 : Int32)) (i := 0) (x := (own_chr c1)) (by decide) (by decide) (g := (mkF m 82 #[iv p1, iv p2, iv p3, iv p4, iv p5, iv p6, iv (1 : Int32), iv br, iv bnd, iv (own_chr c1), iv (own_chr c2), iv (own_chr c3), iv (own_chr c4), rv b37, uu, uu, uu, uu, uu, uu, uu, uu, uu, uu, uu, uu, uu, uu, uu, uu] [(.int (own_chr c1)), (.int (0 : Int32)), (.ref b37)])) rfl rfl (hb hby at_82)
      refine own_of st38 ?_
      clear st38
      replace Zs := Nat.le_trans Zs (Keep.of_wr W38).1
      replace V_b37 := Aq38
      clear Aq38
      have N38 := Fr.snoc X38 N36 g_b37
      refine own_of (fun tgt kon => XS.goto X38.here hx rfl (pc0 := 83) (pc' := 103) rfl (hb hby at_83) (by decide) (by decide) kon) ?_
      show own_Wp _ _ _ _ (T38.setTop (mkF m 103 #[iv p1, iv p2, iv p3, iv p4, iv p5, iv p6, iv (1 : Int32), iv br, iv bnd, iv (own_chr c1), iv (own_chr c2), iv (own_chr c3), iv (own_chr c4), rv b37, uu, uu, uu, uu, uu, uu, uu, uu, uu, uu, uu, uu, uu, uu, uu, uu] []))
      replace V_b37 := V_b37.fn (f' := fun k => .int ((own_tx2 (own_chr c1) 0) k)) (by intro k hk; rcases k with _ | k <;> first | rfl | omega)
      obtain ⟨RR1, cp0, cp1, co0, co1, hcp0, hco0, hR1, hok1, hcp1, hco1, htab⟩ := own_tb1 c1
      obtain ⟨T39, h39, X39, e39, E39, A39, D39, -, st39⟩ := newO X38 hx hZ hown (ow hw 5 rfl) (ow hw 6 rfl) (ow hw 7 rfl) e38 (g := (mkF m 103 #[iv p1, iv p2, iv p3, iv p4, iv p5, iv p6, iv (1 : Int32), iv br, iv bnd, iv (own_chr c1), iv (own_chr c2), iv (own_chr c3), iv (own_chr c4), rv b37, uu, uu, uu, uu, uu, uu, uu, uu, uu, uu, uu, uu, uu, uu, uu, uu] [])) rfl (hb hby at_103) (by decide) (by decide)
      refine own_of st39 ?_
      clear st39
      obtain ⟨b39, gq39⟩ : ∃ z, z = h38.size := ⟨_, rfl⟩
      rw [← gq39] at A39 D39 ⊢
      have ne_b37_b39 : b37 ≠ b39 := Nat.ne_of_lt (Nat.lt_of_lt_of_le V_b37.lt (Nat.le_of_eq gq39.symm))
      have g_b39 : n0 ≤ b39 := Nat.le_trans Zs (Nat.le_of_eq gq39.symm)
      replace Zs := Nat.le_trans Zs E39.1
      replace V_b37 := V_b37.ext E39
      have E_b39 := A39
      have F_bound_b39 : Fld Z h39 b39 "com/example/close_words/closewords/BitRows" "bound" "I" (.int (0 : Int32)) := D39 (Or.inr (ow hw 15 rfl)) (ty := .int) (by decide)
      have F_headBound_b39 : Fld Z h39 b39 "com/example/close_words/closewords/BitRows" "headBound" "I" (.int (0 : Int32)) := D39 (Or.inr (ow hw 17 rfl)) (ty := .int) (by decide)
      have F_levels_b39 : Fld Z h39 b39 "com/example/close_words/closewords/BitRows" "levels" "I" (.int (0 : Int32)) := D39 (Or.inr (ow hw 19 rfl)) (ty := .int) (by decide)
      have F_columns_b39 : Fld Z h39 b39 "com/example/close_words/closewords/BitRows" "columns" "J" (.long (0 : Int64)) := D39 (Or.inr (ow hw 24 rfl)) (ty := .long) (by decide)
      have F_lastColumn_b39 : Fld Z h39 b39 "com/example/close_words/closewords/BitRows" "lastColumn" "J" (.long (0 : Int64)) := D39 (Or.inr (ow hw 26 rfl)) (ty := .long) (by decide)
      have F_outsideHead_b39 : Fld Z h39 b39 "com/example/close_words/closewords/BitRows" "outsideHead" "J" (.long (0 : Int64)) := D39 (Or.inr (ow hw 29 rfl)) (ty := .long) (by decide)
      have F_codePoints_b39 : Fld Z h39 b39 "com/example/close_words/closewords/BitRows" "codePoints" "[I" .null := D39 (Or.inr (ow hw 31 rfl)) (ty := (.array .int)) (by decide)
      have F_columnsOf_b39 : Fld Z h39 b39 "com/example/close_words/closewords/BitRows" "columnsOf" "[J" .null := D39 (Or.inr (ow hw 34 rfl)) (ty := (.array .long)) (by decide)
      have F_rows_b39 : Fld Z h39 b39 "com/example/close_words/closewords/BitRows" "rows" "[J" .null := D39 (Or.inr (ow hw 36 rfl)) (ty := (.array .long)) (by decide)
      have F_matches_b39 : Fld Z h39 b39 "com/example/close_words/closewords/BitRows" "matches" "[J" .null := D39 (Or.inr (ow hw 38 rfl)) (ty := (.array .long)) (by decide)
      refine own_of (fun tgt kon => XS.dup X39.here hx rfl (hb hby at_106) rfl rfl kon) ?_
      refine own_of (fun tgt kon => XS.aload X39.here hx rfl (hb hby at_107) rfl rfl kon) ?_
      refine own_of (fun tgt kon => XS.iload X39.here hx rfl (hb hby at_109) rfl kon) ?_
      refine own_of (fun tgt kon => XS.iconst X39.here hx rfl (hb hby at_111) kon) ?_
      show own_Wp _ _ _ _ (T39.setTop (mkF m 112 #[iv p1, iv p2, iv p3, iv p4, iv p5, iv p6, iv (1 : Int32), iv br, iv bnd, iv (own_chr c1), iv (own_chr c2), iv (own_chr c3), iv (own_chr c4), rv b37, uu, uu, uu, uu, uu, uu, uu, uu, uu, uu, uu, uu, uu, uu, uu, uu] [(.int (-1 : Int32)), (.int bnd), (.ref b37), (.ref b39), (.ref b39)]))
      refine own_of (fun tgt kon => XS.iload X39.here hx rfl (hb hby at_112) rfl kon) ?_
      refine own_of (fun tgt kon => XS.iconst X39.here hx rfl (hb hby at_114) kon) ?_
      refine own_callI X39 hx hZ (y := (⟨"com/example/close_words/closewords/BitRows", "<init>", "([IIIII)V"⟩ : MethodName)) (a := b39) (argsL := [(.ref b37), (.int bnd), (.int (-1 : Int32)), (.int bnd), (.int (2 : Int32))]) (rest := [(.ref b39)]) (W := 1) rfl hown (ow hw 8 rfl) (ow hw 9 rfl) (ow hw 7 rfl) (ow hw 10 rfl) (by decide) e39 (rmct1 l Z a0 hw [] b39 b37 bnd (-1) bnd 2 (own_tx2 (own_chr c1) 0) bd bd 2 (3 * (bd + 1)) cp0 cp1 co0 co1 RR1 h39 n0 Zs E_b39 _ _ _ _ _ _ _ _ _ _ F_bound_b39 F_headBound_b39 F_levels_b39 F_columns_b39 F_lastColumn_b39 F_outsideHead_b39 F_codePoints_b39 F_columnsOf_b39 F_rows_b39 F_matches_b39 V_b37 (Ne.symm ne_b37_b39) g_b39 hbd hbd63 hbd hbd63 (by decide) (by decide) rfl hcp0 hco0 hR1 hok1 hcp1 hco1) (by decide) (by decide) (by decide) (by decide) rfl (by rw [hml]; rfl) (lenOf own_pd4 rfl) rfl (by show 2 * 0 + _ ≤ _; exact Nat.le_of_eq rfl) (hb hby at_115) ?_
      rintro T40 L40 _ X40 ⟨rfl, N40q, Kq40, Eq40, ac, ao, ar, am, g_ac, g_ao, g_ar, g_am, ne_b39_ar, ne_b39_am, ne_ac_ar, ne_ac_am, ne_ao_ar, ne_ao_am, ne_am_ar, F_bound_q, F_headBound_q, F_levels_q, F_columns_q, F_lastColumn_q, F_outsideHead_q, F_codePoints_q, F_columnsOf_q, F_rows_q, F_matches_q, V_ac, V_ao, V_ar, V_am⟩
      have N40 := Fr.app N38 N40q
      show own_Wp _ _ _ _ (T40.setTop (mkF m 118 #[iv p1, iv p2, iv p3, iv p4, iv p5, iv p6, iv (1 : Int32), iv br, iv bnd, iv (own_chr c1), iv (own_chr c2), iv (own_chr c3), iv (own_chr c4), rv b37, uu, uu, uu, uu, uu, uu, uu, uu, uu, uu, uu, uu, uu, uu, uu, uu] [(.ref b39)]))
      replace Zs := Nat.le_trans Zs Kq40.1
      replace V_b37 := V_b37.keep Kq40 (ninS ne_b37_b39 nin0)
      replace E_b39 := E_b39.keep Kq40
      replace E_b39 := Eq40
      have hout : (if (-1 : Int32) < (0 : Int32) then (-1 : Int64) else (own_upTo (-1 : Int32) ^^^ (-1 : Int64))) = (-1 : Int64) := by decide
      rw [hout] at F_outsideHead_q
      have F_bound_b39 := F_bound_q
      have F_headBound_b39 := F_headBound_q
      have F_levels_b39 := F_levels_q
      have F_columns_b39 := F_columns_q
      have F_lastColumn_b39 := F_lastColumn_q
      have F_outsideHead_b39 := F_outsideHead_q
      have F_codePoints_b39 := F_codePoints_q
      have F_columnsOf_b39 := F_columnsOf_q
      have F_rows_b39 := F_rows_q
      have F_matches_b39 := F_matches_q
      obtain ⟨rf0, hrf0⟩ : ∃ z, z = own_r0k 1 bd (-1) (bd + 1) := ⟨_, rfl⟩
      replace V_ar := V_ar.fn (f' := fun y => .long (rf0 y)) (fun y hy => by rw [hrf0, hout])
      have hlv : (bnd + (1 : Int32)).toInt = ((bd + 1 : Nat) : Int) := by have q := own_addI hbd (show (1 : Int32).toInt = 1 from by decide) (by omega) (by omega); omega
      refine own_of (fun tgt kon => XS.astore X40.here hx rfl (hb hby at_118) rfl rfl (l' := #[iv p1, iv p2, iv p3, iv p4, iv p5, iv p6, iv (1 : Int32), iv br, iv bnd, iv (own_chr c1), iv (own_chr c2), iv (own_chr c3), iv (own_chr c4), rv b37, rv b39, uu, uu, uu, uu, uu, uu, uu, uu, uu, uu, uu, uu, uu, uu, uu]) rfl kon) ?_
      refine own_of (fun tgt kon => XS.aload X40.here hx rfl (hb hby at_120) rfl rfl kon) ?_
      refine own_of (fun tgt kon => XS.iconst X40.here hx rfl (hb hby at_122) kon) ?_
      refine own_of (fun tgt kon => XS.iload X40.here hx rfl (hb hby at_123) rfl kon) ?_
      refine own_of (fun tgt kon => XS.iload X40.here hx rfl (hb hby at_125) rfl kon) ?_
      show own_Wp _ _ _ _ (T40.setTop (mkF m 127 #[iv p1, iv p2, iv p3, iv p4, iv p5, iv p6, iv (1 : Int32), iv br, iv bnd, iv (own_chr c1), iv (own_chr c2), iv (own_chr c3), iv (own_chr c4), rv b37, rv b39, uu, uu, uu, uu, uu, uu, uu, uu, uu, uu, uu, uu, uu, uu, uu] [(.int br), (.int (own_chr c3)), (.int (1 : Int32)), (.ref b39)]))
      obtain ⟨RK1, hRK1, hSK1, hLK1, hBK1⟩ := htab c3
      obtain ⟨F1, hF1⟩ : ∃ z, z = own_F (co1 RK1) 0 (own_upTo (1 : Int32)) (-1) bd (fun d => rf0 (0 * (bd + 1) + d)) (fun d => rf0 (0 * (bd + 1) + d)) := ⟨_, rfl⟩
      refine own_callV X40 hx hZ (C := "com/example/close_words/closewords/BitRows") (y := (⟨"com/example/close_words/closewords/BitRows", "fill", "(IIZ)Z"⟩ : MethodName)) (a := b39) (argsL := [(.int (1 : Int32)), (.int (own_chr c3)), (.int br)]) (rest := []) (W := 0) hown (ow hw 47 rfl) (ow hw 48 rfl) (ow hw 50 rfl) (ow hw 49 rfl) (ow hw 7 rfl) (ow hw 51 rfl) (by decide) rfl E_b39 (rmro1 l Z a0 hw [] b39 (own_chr c3) br ac ao ar am cp1 co1 rf0 (fun _ => (0 : Int64)) F1 (bnd + (1 : Int32)) bnd (own_upTo (1 : Int32)) (-1) bd bd (3 * (bd + 1)) 3 RK1 T40.heap n0 Zs E_b39 F_columnsOf_b39 F_codePoints_b39 F_matches_b39 F_rows_b39 F_levels_b39 F_columns_b39 F_headBound_b39 F_outsideHead_b39 V_ac V_ao V_ar V_am ne_b39_ar ne_b39_am ne_ac_ar ne_ac_am ne_ao_ar ne_ao_am ne_am_ar g_ar g_am hlv hbd63 hbd hbd63 (by omega) (by decide) hRK1 hSK1 hLK1 (by rw [hF1]; rfl) (by intro d; rw [hF1]; exact own_F_succ _ _ _ _ _ _ _ d)) (by decide) (by decide) (by decide) (by decide) rfl (by rw [hml]; rfl) (lenOf own_pd5 rfl) rfl (by show 2 * 0 + _ ≤ _; exact Nat.le_of_eq rfl) (hb hby at_127) ?_
      rintro T41 L41 _ X41 ⟨rfl, N41q, Kq41, V_ar_q, V_am_q⟩
      have N41 := Fr.app N40 N41q
      show own_Wp _ _ _ _ (T41.setTop (mkF m 130 #[iv p1, iv p2, iv p3, iv p4, iv p5, iv p6, iv (1 : Int32), iv br, iv bnd, iv (own_chr c1), iv (own_chr c2), iv (own_chr c3), iv (own_chr c4), rv b37, rv b39, uu, uu, uu, uu, uu, uu, uu, uu, uu, uu, uu, uu, uu, uu, uu] [(.int (if F1 bd = 0 then 0 else 1))]))
      replace Zs := Nat.le_trans Zs Kq41.1
      replace E_b39 := E_b39.keep Kq41
      replace F_bound_b39 := F_bound_b39.keep Kq41 (ninS ne_b39_ar (ninS ne_b39_am nin0))
      replace F_headBound_b39 := F_headBound_b39.keep Kq41 (ninS ne_b39_ar (ninS ne_b39_am nin0))
      replace F_levels_b39 := F_levels_b39.keep Kq41 (ninS ne_b39_ar (ninS ne_b39_am nin0))
      replace F_columns_b39 := F_columns_b39.keep Kq41 (ninS ne_b39_ar (ninS ne_b39_am nin0))
      replace F_lastColumn_b39 := F_lastColumn_b39.keep Kq41 (ninS ne_b39_ar (ninS ne_b39_am nin0))
      replace F_outsideHead_b39 := F_outsideHead_b39.keep Kq41 (ninS ne_b39_ar (ninS ne_b39_am nin0))
      replace F_codePoints_b39 := F_codePoints_b39.keep Kq41 (ninS ne_b39_ar (ninS ne_b39_am nin0))
      replace F_columnsOf_b39 := F_columnsOf_b39.keep Kq41 (ninS ne_b39_ar (ninS ne_b39_am nin0))
      replace F_rows_b39 := F_rows_b39.keep Kq41 (ninS ne_b39_ar (ninS ne_b39_am nin0))
      replace F_matches_b39 := F_matches_b39.keep Kq41 (ninS ne_b39_ar (ninS ne_b39_am nin0))
      replace V_ac := V_ac.keep Kq41 (ninS ne_ac_ar (ninS ne_ac_am nin0))
      replace V_ao := V_ao.keep Kq41 (ninS ne_ao_ar (ninS ne_ao_am nin0))
      obtain ⟨rf1, hrf1⟩ : ∃ z, z = own_rk rf0 (1 * (bd + 1)) F1 (bd + 1) := ⟨_, rfl⟩
      have V_ar := V_ar_q.fn (f' := fun y => .long (rf1 y)) (fun y hy => by rw [hrf1])
      have V_am := V_am_q
      refine own_of (fun tgt kon => XS.pop X41.here hx rfl (hb hby at_130) rfl rfl kon) ?_
      refine own_of (fun tgt kon => XS.aload X41.here hx rfl (hb hby at_131) rfl rfl kon) ?_
      refine own_of (fun tgt kon => XS.iconst X41.here hx rfl (hb hby at_133) kon) ?_
      refine own_of (fun tgt kon => XS.iload X41.here hx rfl (hb hby at_134) rfl kon) ?_
      refine own_of (fun tgt kon => XS.iload X41.here hx rfl (hb hby at_136) rfl kon) ?_
      show own_Wp _ _ _ _ (T41.setTop (mkF m 138 #[iv p1, iv p2, iv p3, iv p4, iv p5, iv p6, iv (1 : Int32), iv br, iv bnd, iv (own_chr c1), iv (own_chr c2), iv (own_chr c3), iv (own_chr c4), rv b37, rv b39, uu, uu, uu, uu, uu, uu, uu, uu, uu, uu, uu, uu, uu, uu, uu] [(.int br), (.int (own_chr c4)), (.int (2 : Int32)), (.ref b39)]))
      obtain ⟨RK2, hRK2, hSK2, hLK2, hBK2⟩ := htab c4
      obtain ⟨F2, hF2⟩ : ∃ z, z = own_F (co1 RK2) (((co1 RK2) <<< ((1 : Int32) &&& 0x3f).toInt64) &&& (co1 RK1)) (own_upTo (1 : Int32)) (-1) bd (fun d => rf1 (1 * (bd + 1) + d)) (fun d => rf1 (0 * (bd + 1) + d)) := ⟨_, rfl⟩
      refine own_callV X41 hx hZ (C := "com/example/close_words/closewords/BitRows") (y := (⟨"com/example/close_words/closewords/BitRows", "fill", "(IIZ)Z"⟩ : MethodName)) (a := b39) (argsL := [(.int (2 : Int32)), (.int (own_chr c4)), (.int br)]) (rest := []) (W := 0) hown (ow hw 47 rfl) (ow hw 48 rfl) (ow hw 50 rfl) (ow hw 49 rfl) (ow hw 7 rfl) (ow hw 51 rfl) (by decide) rfl E_b39 (rmro2 l Z a0 hw [] b39 (own_chr c4) br ac ao ar am cp1 co1 rf1 (own_upd (fun _ => (0 : Int64)) 1 (co1 RK1)) F2 (bnd + (1 : Int32)) bnd (own_upTo (1 : Int32)) (-1) bd bd (3 * (bd + 1)) 3 RK2 T41.heap n0 Zs E_b39 F_columnsOf_b39 F_codePoints_b39 F_matches_b39 F_rows_b39 F_levels_b39 F_columns_b39 F_headBound_b39 F_outsideHead_b39 V_ac V_ao V_ar V_am ne_b39_ar ne_b39_am ne_ac_ar ne_ac_am ne_ao_ar ne_ao_am ne_am_ar g_ar g_am hlv hbd63 hbd hbd63 (by omega) (by decide) hRK2 hSK2 hLK2 (by rw [hF2]; rfl) (by intro d; rw [hF2]; exact own_F_succ _ _ _ _ _ _ _ d)) (by decide) (by decide) (by decide) (by decide) rfl (by rw [hml]; rfl) (lenOf own_pd5 rfl) rfl (by show 2 * 0 + _ ≤ _; exact Nat.le_of_eq rfl) (hb hby at_138) ?_
      rintro T42 L42 _ X42 ⟨rfl, N42q, Kq42, V_ar_q, V_am_q⟩
      have N42 := Fr.app N41 N42q
      show own_Wp _ _ _ _ (T42.setTop (mkF m 141 #[iv p1, iv p2, iv p3, iv p4, iv p5, iv p6, iv (1 : Int32), iv br, iv bnd, iv (own_chr c1), iv (own_chr c2), iv (own_chr c3), iv (own_chr c4), rv b37, rv b39, uu, uu, uu, uu, uu, uu, uu, uu, uu, uu, uu, uu, uu, uu, uu] [(.int (if F2 bd = 0 then 0 else 1))]))
      replace Zs := Nat.le_trans Zs Kq42.1
      replace E_b39 := E_b39.keep Kq42
      replace F_bound_b39 := F_bound_b39.keep Kq42 (ninS ne_b39_ar (ninS ne_b39_am nin0))
      replace F_headBound_b39 := F_headBound_b39.keep Kq42 (ninS ne_b39_ar (ninS ne_b39_am nin0))
      replace F_levels_b39 := F_levels_b39.keep Kq42 (ninS ne_b39_ar (ninS ne_b39_am nin0))
      replace F_columns_b39 := F_columns_b39.keep Kq42 (ninS ne_b39_ar (ninS ne_b39_am nin0))
      replace F_lastColumn_b39 := F_lastColumn_b39.keep Kq42 (ninS ne_b39_ar (ninS ne_b39_am nin0))
      replace F_outsideHead_b39 := F_outsideHead_b39.keep Kq42 (ninS ne_b39_ar (ninS ne_b39_am nin0))
      replace F_codePoints_b39 := F_codePoints_b39.keep Kq42 (ninS ne_b39_ar (ninS ne_b39_am nin0))
      replace F_columnsOf_b39 := F_columnsOf_b39.keep Kq42 (ninS ne_b39_ar (ninS ne_b39_am nin0))
      replace F_rows_b39 := F_rows_b39.keep Kq42 (ninS ne_b39_ar (ninS ne_b39_am nin0))
      replace F_matches_b39 := F_matches_b39.keep Kq42 (ninS ne_b39_ar (ninS ne_b39_am nin0))
      replace V_ac := V_ac.keep Kq42 (ninS ne_ac_ar (ninS ne_ac_am nin0))
      replace V_ao := V_ao.keep Kq42 (ninS ne_ao_ar (ninS ne_ao_am nin0))
      obtain ⟨rf2, hrf2⟩ : ∃ z, z = own_rk rf1 (2 * (bd + 1)) F2 (bd + 1) := ⟨_, rfl⟩
      have V_ar := V_ar_q.fn (f' := fun y => .long (rf2 y)) (fun y hy => by rw [hrf2])
      have V_am := V_am_q
      refine own_of (fun tgt kon => XS.pop X42.here hx rfl (hb hby at_141) rfl rfl kon) ?_
      show own_Wp _ _ _ _ (T42.setTop (mkF m 142 #[iv p1, iv p2, iv p3, iv p4, iv p5, iv p6, iv (1 : Int32), iv br, iv bnd, iv (own_chr c1), iv (own_chr c2), iv (own_chr c3), iv (own_chr c4), rv b37, rv b39, uu, uu, uu, uu, uu, uu, uu, uu, uu, uu, uu, uu, uu, uu, uu] []))
      have hall := own_Bt_m1 (n := 1) (by decide) hbd63 (own_tt (own_chr c1) 0 0) (own_chr c3) (own_chr c4) hBK1 hBK2 (own_upTo (1 : Int32)) (own_Bt_cols (n := 1) (by decide)) rf0 F1 rf1 F2 rf2 hrf0 hF1 hrf1 hF2 hrf2
      obtain ⟨D0, hD0⟩ : ∃ z : Nat, z = own_id 1 := ⟨_, rfl⟩
      have hdd0 := own_dist (n := 1) (bd := bd) (B := 0 * (bd + 1)) (D := D0) (rf := rf2) (by decide) hbd63 (fun d hd => by rw [hall.1 d hd 1, hD0]; exact ⟨fun q => q.2, fun q => ⟨Nat.le_refl _, q⟩⟩)
      obtain ⟨D1, hD1⟩ : ∃ z : Nat, z = (own_rowN (fun j => decide ((own_tt (own_chr c1) 0 0) j = own_chr c3)) (fun _ => false) own_id own_id) 1 := ⟨_, rfl⟩
      have hdd1 := own_dist (n := 1) (bd := bd) (B := 1 * (bd + 1)) (D := D1) (rf := rf2) (by decide) hbd63 (fun d hd => by rw [hall.2.1 d hd 1, hD1]; exact ⟨fun q => q.2, fun q => ⟨Nat.le_refl _, q⟩⟩)
      obtain ⟨D2, hD2⟩ : ∃ z : Nat, z = (own_rowN (fun j => decide ((own_tt (own_chr c1) 0 0) j = own_chr c4)) (fun j => decide ((own_tt (own_chr c1) 0 0) (j - 1) = own_chr c4) && decide ((own_tt (own_chr c1) 0 0) j = own_chr c3)) (own_rowN (fun j => decide ((own_tt (own_chr c1) 0 0) j = own_chr c3)) (fun _ => false) own_id own_id) own_id) 1 := ⟨_, rfl⟩
      have hdd2 := own_dist (n := 1) (bd := bd) (B := 2 * (bd + 1)) (D := D2) (rf := rf2) (by decide) hbd63 (fun d hd => by rw [hall.2.2 d hd 1, hD2]; exact ⟨fun q => q.2, fun q => ⟨Nat.le_refl _, q⟩⟩)
      refine own_of (fun tgt kon => XS.aload X42.here hx rfl (hb hby at_142) rfl rfl kon) ?_
      refine own_of (fun tgt kon => XS.iconst X42.here hx rfl (hb hby at_144) kon) ?_
      refine own_callV X42 hx hZ (C := "com/example/close_words/closewords/BitRows") (y := (⟨"com/example/close_words/closewords/BitRows", "distance", "(I)I"⟩ : MethodName)) (a := b39) (argsL := [(.int (0 : Int32))]) (rest := []) (W := 0) hown (ow hw 56 rfl) (ow hw 57 rfl) (ow hw 59 rfl) (ow hw 58 rfl) (ow hw 7 rfl) (ow hw 60 rfl) (by decide) rfl E_b39 (rmdi0 l Z a0 hw [] b39 ar rf2 (bnd + (1 : Int32)) bnd ((1 : Int64) <<< ((1 : Int32) &&& 0x3f).toInt64) bd (3 * (bd + 1)) D0 (own_rD D0 bd) T42.heap n0 Zs F_levels_b39 F_rows_b39 F_bound_b39 F_lastColumn_b39 V_ar hlv hbd hbd63 (by omega) hdd0.1 hdd0.2.1 hdd0.2.2) (by decide) (by decide) (by decide) (by decide) rfl (by rw [hml]; rfl) (lenOf own_pd3 rfl) rfl (by show 2 * 0 + _ ≤ _; exact Nat.le_of_eq rfl) (hb hby at_145) ?_
      rintro T43 L43 _ X43 ⟨rfl, N43q, e43⟩
      have N43 := Fr.app N42 N43q
      show own_Wp _ _ _ _ (T43.setTop (mkF m 148 #[iv p1, iv p2, iv p3, iv p4, iv p5, iv p6, iv (1 : Int32), iv br, iv bnd, iv (own_chr c1), iv (own_chr c2), iv (own_chr c3), iv (own_chr c4), rv b37, rv b39, uu, uu, uu, uu, uu, uu, uu, uu, uu, uu, uu, uu, uu, uu, uu] [(.int (own_rD D0 bd))]))
      obtain ⟨r0, h_r0⟩ : ∃ q : Int32, q = (own_rD D0 bd) := ⟨_, rfl⟩
      rw [← h_r0]
      refine own_of (fun tgt kon => XS.istore X43.here hx rfl (hb hby at_148) rfl (l' := #[iv p1, iv p2, iv p3, iv p4, iv p5, iv p6, iv (1 : Int32), iv br, iv bnd, iv (own_chr c1), iv (own_chr c2), iv (own_chr c3), iv (own_chr c4), rv b37, rv b39, iv r0, uu, uu, uu, uu, uu, uu, uu, uu, uu, uu, uu, uu, uu, uu]) rfl kon) ?_
      refine own_of (fun tgt kon => XS.aload X43.here hx rfl (hb hby at_150) rfl rfl kon) ?_
      refine own_of (fun tgt kon => XS.iconst X43.here hx rfl (hb hby at_152) kon) ?_
      refine own_callV X43 hx hZ (C := "com/example/close_words/closewords/BitRows") (y := (⟨"com/example/close_words/closewords/BitRows", "distance", "(I)I"⟩ : MethodName)) (a := b39) (argsL := [(.int (1 : Int32))]) (rest := []) (W := 0) hown (ow hw 56 rfl) (ow hw 57 rfl) (ow hw 59 rfl) (ow hw 58 rfl) (ow hw 7 rfl) (ow hw 60 rfl) (by decide) e43 E_b39 (rmdi1 l Z a0 hw [] b39 ar rf2 (bnd + (1 : Int32)) bnd ((1 : Int64) <<< ((1 : Int32) &&& 0x3f).toInt64) bd (3 * (bd + 1)) D1 (own_rD D1 bd) T42.heap n0 Zs F_levels_b39 F_rows_b39 F_bound_b39 F_lastColumn_b39 V_ar hlv hbd hbd63 (by omega) hdd1.1 hdd1.2.1 hdd1.2.2) (by decide) (by decide) (by decide) (by decide) rfl (by rw [hml]; rfl) (lenOf own_pd3 rfl) rfl (by show 2 * 0 + _ ≤ _; exact Nat.le_of_eq rfl) (hb hby at_153) ?_
      rintro T44 L44 _ X44 ⟨rfl, N44q, e44⟩
      have N44 := Fr.app N43 N44q
      show own_Wp _ _ _ _ (T44.setTop (mkF m 156 #[iv p1, iv p2, iv p3, iv p4, iv p5, iv p6, iv (1 : Int32), iv br, iv bnd, iv (own_chr c1), iv (own_chr c2), iv (own_chr c3), iv (own_chr c4), rv b37, rv b39, iv r0, uu, uu, uu, uu, uu, uu, uu, uu, uu, uu, uu, uu, uu, uu] [(.int (own_rD D1 bd))]))
      obtain ⟨r1, h_r1⟩ : ∃ q : Int32, q = (own_rD D1 bd) := ⟨_, rfl⟩
      rw [← h_r1]
      refine own_of (fun tgt kon => XS.istore X44.here hx rfl (hb hby at_156) rfl (l' := #[iv p1, iv p2, iv p3, iv p4, iv p5, iv p6, iv (1 : Int32), iv br, iv bnd, iv (own_chr c1), iv (own_chr c2), iv (own_chr c3), iv (own_chr c4), rv b37, rv b39, iv r0, iv r1, uu, uu, uu, uu, uu, uu, uu, uu, uu, uu, uu, uu, uu]) rfl kon) ?_
      refine own_of (fun tgt kon => XS.aload X44.here hx rfl (hb hby at_158) rfl rfl kon) ?_
      refine own_of (fun tgt kon => XS.iconst X44.here hx rfl (hb hby at_160) kon) ?_
      refine own_callV X44 hx hZ (C := "com/example/close_words/closewords/BitRows") (y := (⟨"com/example/close_words/closewords/BitRows", "distance", "(I)I"⟩ : MethodName)) (a := b39) (argsL := [(.int (2 : Int32))]) (rest := []) (W := 0) hown (ow hw 56 rfl) (ow hw 57 rfl) (ow hw 59 rfl) (ow hw 58 rfl) (ow hw 7 rfl) (ow hw 60 rfl) (by decide) e44 E_b39 (rmdi2 l Z a0 hw [] b39 ar rf2 (bnd + (1 : Int32)) bnd ((1 : Int64) <<< ((1 : Int32) &&& 0x3f).toInt64) bd (3 * (bd + 1)) D2 (own_rD D2 bd) T42.heap n0 Zs F_levels_b39 F_rows_b39 F_bound_b39 F_lastColumn_b39 V_ar hlv hbd hbd63 (by omega) hdd2.1 hdd2.2.1 hdd2.2.2) (by decide) (by decide) (by decide) (by decide) rfl (by rw [hml]; rfl) (lenOf own_pd3 rfl) rfl (by show 2 * 0 + _ ≤ _; exact Nat.le_of_eq rfl) (hb hby at_161) ?_
      rintro T45 L45 _ X45 ⟨rfl, N45q, e45⟩
      have N45 := Fr.app N44 N45q
      show own_Wp _ _ _ _ (T45.setTop (mkF m 164 #[iv p1, iv p2, iv p3, iv p4, iv p5, iv p6, iv (1 : Int32), iv br, iv bnd, iv (own_chr c1), iv (own_chr c2), iv (own_chr c3), iv (own_chr c4), rv b37, rv b39, iv r0, iv r1, uu, uu, uu, uu, uu, uu, uu, uu, uu, uu, uu, uu, uu] [(.int (own_rD D2 bd))]))
      obtain ⟨r2, h_r2⟩ : ∃ q : Int32, q = (own_rD D2 bd) := ⟨_, rfl⟩
      rw [← h_r2]
      refine own_of (fun tgt kon => XS.istore X45.here hx rfl (hb hby at_164) rfl (l' := #[iv p1, iv p2, iv p3, iv p4, iv p5, iv p6, iv (1 : Int32), iv br, iv bnd, iv (own_chr c1), iv (own_chr c2), iv (own_chr c3), iv (own_chr c4), rv b37, rv b39, iv r0, iv r1, iv r2, uu, uu, uu, uu, uu, uu, uu, uu, uu, uu, uu, uu]) rfl kon) ?_
      refine own_of (fun tgt kon => XS.iconst X45.here hx rfl (hb hby at_166) kon) ?_
      refine own_of (fun tgt kon => XS.istore X45.here hx rfl (hb hby at_167) rfl (l' := #[iv p1, iv p2, iv p3, iv p4, iv p5, iv p6, iv (1 : Int32), iv br, iv bnd, iv (own_chr c1), iv (own_chr c2), iv (own_chr c3), iv (own_chr c4), rv b37, rv b39, iv r0, iv r1, iv r2, iv (0 : Int32), uu, uu, uu, uu, uu, uu, uu, uu, uu, uu, uu]) rfl kon) ?_
      refine own_of (fun tgt kon => XS.iconst X45.here hx rfl (hb hby at_169) kon) ?_
      refine own_of (fun tgt kon => XS.istore X45.here hx rfl (hb hby at_170) rfl (l' := #[iv p1, iv p2, iv p3, iv p4, iv p5, iv p6, iv (1 : Int32), iv br, iv bnd, iv (own_chr c1), iv (own_chr c2), iv (own_chr c3), iv (own_chr c4), rv b37, rv b39, iv r0, iv r1, iv r2, iv (0 : Int32), iv (1 : Int32), uu, uu, uu, uu, uu, uu, uu, uu, uu, uu]) rfl kon) ?_
      show own_Wp _ _ _ _ (T45.setTop (mkF m 172 #[iv p1, iv p2, iv p3, iv p4, iv p5, iv p6, iv (1 : Int32), iv br, iv bnd, iv (own_chr c1), iv (own_chr c2), iv (own_chr c3), iv (own_chr c4), rv b37, rv b39, iv r0, iv r1, iv r2, iv (0 : Int32), iv (1 : Int32), uu, uu, uu, uu, uu, uu, uu, uu, uu, uu] []))
      refine own_of (fun tgt kon => XS.iconst X45.here hx rfl (hb hby at_172) kon) ?_
      refine own_of (fun tgt kon => XS.istore X45.here hx rfl (hb hby at_173) rfl (l' := #[iv p1, iv p2, iv p3, iv p4, iv p5, iv p6, iv (1 : Int32), iv br, iv bnd, iv (own_chr c1), iv (own_chr c2), iv (own_chr c3), iv (own_chr c4), rv b37, rv b39, iv r0, iv r1, iv r2, iv (0 : Int32), iv (1 : Int32), iv (2 : Int32), uu, uu, uu, uu, uu, uu, uu, uu, uu]) rfl kon) ?_
      refine own_of (fun tgt kon => XS.iconst X45.here hx rfl (hb hby at_175) kon) ?_
      refine own_of (fun tgt kon => XS.istore X45.here hx rfl (hb hby at_176) rfl (l' := #[iv p1, iv p2, iv p3, iv p4, iv p5, iv p6, iv (1 : Int32), iv br, iv bnd, iv (own_chr c1), iv (own_chr c2), iv (own_chr c3), iv (own_chr c4), rv b37, rv b39, iv r0, iv r1, iv r2, iv (0 : Int32), iv (1 : Int32), iv (2 : Int32), iv (1 : Int32), uu, uu, uu, uu, uu, uu, uu, uu]) rfl kon) ?_
      refine own_of (fun tgt kon => XS.iconst X45.here hx rfl (hb hby at_178) kon) ?_
      show own_Wp _ _ _ _ (T45.setTop (mkF m 179 #[iv p1, iv p2, iv p3, iv p4, iv p5, iv p6, iv (1 : Int32), iv br, iv bnd, iv (own_chr c1), iv (own_chr c2), iv (own_chr c3), iv (own_chr c4), rv b37, rv b39, iv r0, iv r1, iv r2, iv (0 : Int32), iv (1 : Int32), iv (2 : Int32), iv (1 : Int32), uu, uu, uu, uu, uu, uu, uu, uu] [(.int (2 : Int32))]))
      refine own_of (fun tgt kon => XS.istore X45.here hx rfl (hb hby at_179) rfl (l' := #[iv p1, iv p2, iv p3, iv p4, iv p5, iv p6, iv (1 : Int32), iv br, iv bnd, iv (own_chr c1), iv (own_chr c2), iv (own_chr c3), iv (own_chr c4), rv b37, rv b39, iv r0, iv r1, iv r2, iv (0 : Int32), iv (1 : Int32), iv (2 : Int32), iv (1 : Int32), iv (2 : Int32), uu, uu, uu, uu, uu, uu, uu]) rfl kon) ?_
      refine own_of (fun tgt kon => XS.iload X45.here hx rfl (hb hby at_181) rfl kon) ?_
      refine own_of (fun tgt kon => XS.iload X45.here hx rfl (hb hby at_183) rfl kon) ?_
      refine own_callS X45 hx hZ (y := (⟨"java/lang/Math", "min", "(II)I"⟩ : MethodName)) (argsL := [(.int (1 : Int32)), (.int (1 : Int32))]) (rest := []) (W := 0) hown (ow hw 61 rfl) (ow hw 44 rfl) (ow hw 45 rfl) (ow hw 46 rfl) (by decide) e45 (rmmin l Z a0 hw [] (1 : Int32) (1 : Int32) T42.heap n0 Zs) (by decide) (by decide) (by decide) (by decide) rfl (by rw [hml]; rfl) (lenOf own_pd2 rfl) rfl (by show 2 * 0 + _ ≤ _; exact Nat.le_of_eq rfl) (hb hby at_185) ?_
      rintro T46 L46 _ X46 ⟨rfl, N46q, e46⟩
      have N46 := Fr.app N45 N46q
      show own_Wp _ _ _ _ (T46.setTop (mkF m 188 #[iv p1, iv p2, iv p3, iv p4, iv p5, iv p6, iv (1 : Int32), iv br, iv bnd, iv (own_chr c1), iv (own_chr c2), iv (own_chr c3), iv (own_chr c4), rv b37, rv b39, iv r0, iv r1, iv r2, iv (0 : Int32), iv (1 : Int32), iv (2 : Int32), iv (1 : Int32), iv (2 : Int32), uu, uu, uu, uu, uu, uu, uu] [(.int (own_mni (1 : Int32) (1 : Int32)))]))
      refine own_of (fun tgt kon => XS.iconst X46.here hx rfl (hb hby at_188) kon) ?_
      refine own_of (fun tgt kon => XS.iadd X46.here hx rfl (hb hby at_189) rfl kon) ?_
      refine own_of (fun tgt kon => XS.iload X46.here hx rfl (hb hby at_190) rfl kon) ?_
      refine own_of (fun tgt kon => XS.iload X46.here hx rfl (hb hby at_192) rfl kon) ?_
      refine own_of (fun tgt kon => XS.iload X46.here hx rfl (hb hby at_194) rfl kon) ?_
      show own_Wp _ _ _ _ (T46.setTop (mkF m 196 #[iv p1, iv p2, iv p3, iv p4, iv p5, iv p6, iv (1 : Int32), iv br, iv bnd, iv (own_chr c1), iv (own_chr c2), iv (own_chr c3), iv (own_chr c4), rv b37, rv b39, iv r0, iv r1, iv r2, iv (0 : Int32), iv (1 : Int32), iv (2 : Int32), iv (1 : Int32), iv (2 : Int32), uu, uu, uu, uu, uu, uu, uu] [(.int (own_chr c1)), (.int (own_chr c3)), (.int (0 : Int32)), (.int ((own_mni (1 : Int32) (1 : Int32)) + (1 : Int32)))]))
      refine own_callS X46 hx hZ (y := (⟨"com/example/close_words/closewords/BitRowsDistancePinLaw", "eq", "(II)I"⟩ : MethodName)) (argsL := [(.int (own_chr c3)), (.int (own_chr c1))]) (rest := [(.int (0 : Int32)), (.int ((own_mni (1 : Int32) (1 : Int32)) + (1 : Int32)))]) (W := 2) hown (ow hw 62 rfl) (ow hw 63 rfl) (ow hw 2 rfl) (ow hw 64 rfl) (by decide) e46 (rmeq l Z a0 hw [] (own_chr c3) (own_chr c1) T42.heap n0 Zs) (by decide) (by decide) (by decide) (by decide) rfl (by rw [hml]; rfl) (lenOf own_pd2 rfl) rfl (by show 2 * 0 + _ ≤ _; exact Nat.le_of_eq rfl) (hb hby at_196) ?_
      rintro T47 L47 _ X47 ⟨rfl, N47q, e47⟩
      have N47 := Fr.app N46 N47q
      show own_Wp _ _ _ _ (T47.setTop (mkF m 199 #[iv p1, iv p2, iv p3, iv p4, iv p5, iv p6, iv (1 : Int32), iv br, iv bnd, iv (own_chr c1), iv (own_chr c2), iv (own_chr c3), iv (own_chr c4), rv b37, rv b39, iv r0, iv r1, iv r2, iv (0 : Int32), iv (1 : Int32), iv (2 : Int32), iv (1 : Int32), iv (2 : Int32), uu, uu, uu, uu, uu, uu, uu] [(.int (own_eqv (own_chr c3) (own_chr c1))), (.int (0 : Int32)), (.int ((own_mni (1 : Int32) (1 : Int32)) + (1 : Int32)))]))
      refine own_of (fun tgt kon => XS.iadd X47.here hx rfl (hb hby at_199) rfl kon) ?_
      refine own_callS X47 hx hZ (y := (⟨"java/lang/Math", "min", "(II)I"⟩ : MethodName)) (argsL := [(.int ((own_mni (1 : Int32) (1 : Int32)) + (1 : Int32))), (.int ((0 : Int32) + (own_eqv (own_chr c3) (own_chr c1))))]) (rest := []) (W := 0) hown (ow hw 61 rfl) (ow hw 44 rfl) (ow hw 45 rfl) (ow hw 46 rfl) (by decide) e47 (rmmin l Z a0 hw [] ((own_mni (1 : Int32) (1 : Int32)) + (1 : Int32)) ((0 : Int32) + (own_eqv (own_chr c3) (own_chr c1))) T42.heap n0 Zs) (by decide) (by decide) (by decide) (by decide) rfl (by rw [hml]; rfl) (lenOf own_pd2 rfl) rfl (by show 2 * 0 + _ ≤ _; exact Nat.le_of_eq rfl) (hb hby at_200) ?_
      rintro T48 L48 _ X48 ⟨rfl, N48q, e48⟩
      have N48 := Fr.app N47 N48q
      show own_Wp _ _ _ _ (T48.setTop (mkF m 203 #[iv p1, iv p2, iv p3, iv p4, iv p5, iv p6, iv (1 : Int32), iv br, iv bnd, iv (own_chr c1), iv (own_chr c2), iv (own_chr c3), iv (own_chr c4), rv b37, rv b39, iv r0, iv r1, iv r2, iv (0 : Int32), iv (1 : Int32), iv (2 : Int32), iv (1 : Int32), iv (2 : Int32), uu, uu, uu, uu, uu, uu, uu] [(.int (own_mni ((own_mni (1 : Int32) (1 : Int32)) + (1 : Int32)) ((0 : Int32) + (own_eqv (own_chr c3) (own_chr c1)))))]))
      obtain ⟨d11, h_d11⟩ : ∃ q : Int32, q = (own_mni ((own_mni (1 : Int32) (1 : Int32)) + (1 : Int32)) ((0 : Int32) + (own_eqv (own_chr c3) (own_chr c1)))) := ⟨_, rfl⟩
      rw [← h_d11]
      refine own_of (fun tgt kon => XS.istore X48.here hx rfl (hb hby at_203) rfl (l' := #[iv p1, iv p2, iv p3, iv p4, iv p5, iv p6, iv (1 : Int32), iv br, iv bnd, iv (own_chr c1), iv (own_chr c2), iv (own_chr c3), iv (own_chr c4), rv b37, rv b39, iv r0, iv r1, iv r2, iv (0 : Int32), iv (1 : Int32), iv (2 : Int32), iv (1 : Int32), iv (2 : Int32), iv d11, uu, uu, uu, uu, uu, uu]) rfl kon) ?_
      refine own_of (fun tgt kon => XS.iload X48.here hx rfl (hb hby at_205) rfl kon) ?_
      refine own_of (fun tgt kon => XS.iload X48.here hx rfl (hb hby at_207) rfl kon) ?_
      refine own_callS X48 hx hZ (y := (⟨"java/lang/Math", "min", "(II)I"⟩ : MethodName)) (argsL := [(.int (2 : Int32)), (.int d11)]) (rest := []) (W := 0) hown (ow hw 61 rfl) (ow hw 44 rfl) (ow hw 45 rfl) (ow hw 46 rfl) (by decide) e48 (rmmin l Z a0 hw [] (2 : Int32) d11 T42.heap n0 Zs) (by decide) (by decide) (by decide) (by decide) rfl (by rw [hml]; rfl) (lenOf own_pd2 rfl) rfl (by show 2 * 0 + _ ≤ _; exact Nat.le_of_eq rfl) (hb hby at_209) ?_
      rintro T49 L49 _ X49 ⟨rfl, N49q, e49⟩
      have N49 := Fr.app N48 N49q
      show own_Wp _ _ _ _ (T49.setTop (mkF m 212 #[iv p1, iv p2, iv p3, iv p4, iv p5, iv p6, iv (1 : Int32), iv br, iv bnd, iv (own_chr c1), iv (own_chr c2), iv (own_chr c3), iv (own_chr c4), rv b37, rv b39, iv r0, iv r1, iv r2, iv (0 : Int32), iv (1 : Int32), iv (2 : Int32), iv (1 : Int32), iv (2 : Int32), iv d11, uu, uu, uu, uu, uu, uu] [(.int (own_mni (2 : Int32) d11))]))
      refine own_of (fun tgt kon => XS.iconst X49.here hx rfl (hb hby at_212) kon) ?_
      refine own_of (fun tgt kon => XS.iadd X49.here hx rfl (hb hby at_213) rfl kon) ?_
      refine own_of (fun tgt kon => XS.iload X49.here hx rfl (hb hby at_214) rfl kon) ?_
      refine own_of (fun tgt kon => XS.iload X49.here hx rfl (hb hby at_216) rfl kon) ?_
      refine own_of (fun tgt kon => XS.iload X49.here hx rfl (hb hby at_218) rfl kon) ?_
      show own_Wp _ _ _ _ (T49.setTop (mkF m 220 #[iv p1, iv p2, iv p3, iv p4, iv p5, iv p6, iv (1 : Int32), iv br, iv bnd, iv (own_chr c1), iv (own_chr c2), iv (own_chr c3), iv (own_chr c4), rv b37, rv b39, iv r0, iv r1, iv r2, iv (0 : Int32), iv (1 : Int32), iv (2 : Int32), iv (1 : Int32), iv (2 : Int32), iv d11, uu, uu, uu, uu, uu, uu] [(.int (own_chr c2)), (.int (own_chr c3)), (.int (1 : Int32)), (.int ((own_mni (2 : Int32) d11) + (1 : Int32)))]))
      refine own_callS X49 hx hZ (y := (⟨"com/example/close_words/closewords/BitRowsDistancePinLaw", "eq", "(II)I"⟩ : MethodName)) (argsL := [(.int (own_chr c3)), (.int (own_chr c2))]) (rest := [(.int (1 : Int32)), (.int ((own_mni (2 : Int32) d11) + (1 : Int32)))]) (W := 2) hown (ow hw 62 rfl) (ow hw 63 rfl) (ow hw 2 rfl) (ow hw 64 rfl) (by decide) e49 (rmeq l Z a0 hw [] (own_chr c3) (own_chr c2) T42.heap n0 Zs) (by decide) (by decide) (by decide) (by decide) rfl (by rw [hml]; rfl) (lenOf own_pd2 rfl) rfl (by show 2 * 0 + _ ≤ _; exact Nat.le_of_eq rfl) (hb hby at_220) ?_
      rintro T50 L50 _ X50 ⟨rfl, N50q, e50⟩
      have N50 := Fr.app N49 N50q
      show own_Wp _ _ _ _ (T50.setTop (mkF m 223 #[iv p1, iv p2, iv p3, iv p4, iv p5, iv p6, iv (1 : Int32), iv br, iv bnd, iv (own_chr c1), iv (own_chr c2), iv (own_chr c3), iv (own_chr c4), rv b37, rv b39, iv r0, iv r1, iv r2, iv (0 : Int32), iv (1 : Int32), iv (2 : Int32), iv (1 : Int32), iv (2 : Int32), iv d11, uu, uu, uu, uu, uu, uu] [(.int (own_eqv (own_chr c3) (own_chr c2))), (.int (1 : Int32)), (.int ((own_mni (2 : Int32) d11) + (1 : Int32)))]))
      refine own_of (fun tgt kon => XS.iadd X50.here hx rfl (hb hby at_223) rfl kon) ?_
      refine own_callS X50 hx hZ (y := (⟨"java/lang/Math", "min", "(II)I"⟩ : MethodName)) (argsL := [(.int ((own_mni (2 : Int32) d11) + (1 : Int32))), (.int ((1 : Int32) + (own_eqv (own_chr c3) (own_chr c2))))]) (rest := []) (W := 0) hown (ow hw 61 rfl) (ow hw 44 rfl) (ow hw 45 rfl) (ow hw 46 rfl) (by decide) e50 (rmmin l Z a0 hw [] ((own_mni (2 : Int32) d11) + (1 : Int32)) ((1 : Int32) + (own_eqv (own_chr c3) (own_chr c2))) T42.heap n0 Zs) (by decide) (by decide) (by decide) (by decide) rfl (by rw [hml]; rfl) (lenOf own_pd2 rfl) rfl (by show 2 * 0 + _ ≤ _; exact Nat.le_of_eq rfl) (hb hby at_224) ?_
      rintro T51 L51 _ X51 ⟨rfl, N51q, e51⟩
      have N51 := Fr.app N50 N51q
      show own_Wp _ _ _ _ (T51.setTop (mkF m 227 #[iv p1, iv p2, iv p3, iv p4, iv p5, iv p6, iv (1 : Int32), iv br, iv bnd, iv (own_chr c1), iv (own_chr c2), iv (own_chr c3), iv (own_chr c4), rv b37, rv b39, iv r0, iv r1, iv r2, iv (0 : Int32), iv (1 : Int32), iv (2 : Int32), iv (1 : Int32), iv (2 : Int32), iv d11, uu, uu, uu, uu, uu, uu] [(.int (own_mni ((own_mni (2 : Int32) d11) + (1 : Int32)) ((1 : Int32) + (own_eqv (own_chr c3) (own_chr c2)))))]))
      obtain ⟨d12, h_d12⟩ : ∃ q : Int32, q = (own_mni ((own_mni (2 : Int32) d11) + (1 : Int32)) ((1 : Int32) + (own_eqv (own_chr c3) (own_chr c2)))) := ⟨_, rfl⟩
      rw [← h_d12]
      refine own_of (fun tgt kon => XS.istore X51.here hx rfl (hb hby at_227) rfl (l' := #[iv p1, iv p2, iv p3, iv p4, iv p5, iv p6, iv (1 : Int32), iv br, iv bnd, iv (own_chr c1), iv (own_chr c2), iv (own_chr c3), iv (own_chr c4), rv b37, rv b39, iv r0, iv r1, iv r2, iv (0 : Int32), iv (1 : Int32), iv (2 : Int32), iv (1 : Int32), iv (2 : Int32), iv d11, iv d12, uu, uu, uu, uu, uu]) rfl kon) ?_
      refine own_of (fun tgt kon => XS.iload X51.here hx rfl (hb hby at_229) rfl kon) ?_
      refine own_of (fun tgt kon => XS.iload X51.here hx rfl (hb hby at_231) rfl kon) ?_
      refine own_callS X51 hx hZ (y := (⟨"java/lang/Math", "min", "(II)I"⟩ : MethodName)) (argsL := [(.int d11), (.int (2 : Int32))]) (rest := []) (W := 0) hown (ow hw 61 rfl) (ow hw 44 rfl) (ow hw 45 rfl) (ow hw 46 rfl) (by decide) e51 (rmmin l Z a0 hw [] d11 (2 : Int32) T42.heap n0 Zs) (by decide) (by decide) (by decide) (by decide) rfl (by rw [hml]; rfl) (lenOf own_pd2 rfl) rfl (by show 2 * 0 + _ ≤ _; exact Nat.le_of_eq rfl) (hb hby at_233) ?_
      rintro T52 L52 _ X52 ⟨rfl, N52q, e52⟩
      have N52 := Fr.app N51 N52q
      show own_Wp _ _ _ _ (T52.setTop (mkF m 236 #[iv p1, iv p2, iv p3, iv p4, iv p5, iv p6, iv (1 : Int32), iv br, iv bnd, iv (own_chr c1), iv (own_chr c2), iv (own_chr c3), iv (own_chr c4), rv b37, rv b39, iv r0, iv r1, iv r2, iv (0 : Int32), iv (1 : Int32), iv (2 : Int32), iv (1 : Int32), iv (2 : Int32), iv d11, iv d12, uu, uu, uu, uu, uu] [(.int (own_mni d11 (2 : Int32)))]))
      refine own_of (fun tgt kon => XS.iconst X52.here hx rfl (hb hby at_236) kon) ?_
      refine own_of (fun tgt kon => XS.iadd X52.here hx rfl (hb hby at_237) rfl kon) ?_
      refine own_of (fun tgt kon => XS.iload X52.here hx rfl (hb hby at_238) rfl kon) ?_
      refine own_of (fun tgt kon => XS.iload X52.here hx rfl (hb hby at_240) rfl kon) ?_
      refine own_of (fun tgt kon => XS.iload X52.here hx rfl (hb hby at_242) rfl kon) ?_
      show own_Wp _ _ _ _ (T52.setTop (mkF m 244 #[iv p1, iv p2, iv p3, iv p4, iv p5, iv p6, iv (1 : Int32), iv br, iv bnd, iv (own_chr c1), iv (own_chr c2), iv (own_chr c3), iv (own_chr c4), rv b37, rv b39, iv r0, iv r1, iv r2, iv (0 : Int32), iv (1 : Int32), iv (2 : Int32), iv (1 : Int32), iv (2 : Int32), iv d11, iv d12, uu, uu, uu, uu, uu] [(.int (own_chr c1)), (.int (own_chr c4)), (.int (1 : Int32)), (.int ((own_mni d11 (2 : Int32)) + (1 : Int32)))]))
      refine own_callS X52 hx hZ (y := (⟨"com/example/close_words/closewords/BitRowsDistancePinLaw", "eq", "(II)I"⟩ : MethodName)) (argsL := [(.int (own_chr c4)), (.int (own_chr c1))]) (rest := [(.int (1 : Int32)), (.int ((own_mni d11 (2 : Int32)) + (1 : Int32)))]) (W := 2) hown (ow hw 62 rfl) (ow hw 63 rfl) (ow hw 2 rfl) (ow hw 64 rfl) (by decide) e52 (rmeq l Z a0 hw [] (own_chr c4) (own_chr c1) T42.heap n0 Zs) (by decide) (by decide) (by decide) (by decide) rfl (by rw [hml]; rfl) (lenOf own_pd2 rfl) rfl (by show 2 * 0 + _ ≤ _; exact Nat.le_of_eq rfl) (hb hby at_244) ?_
      rintro T53 L53 _ X53 ⟨rfl, N53q, e53⟩
      have N53 := Fr.app N52 N53q
      show own_Wp _ _ _ _ (T53.setTop (mkF m 247 #[iv p1, iv p2, iv p3, iv p4, iv p5, iv p6, iv (1 : Int32), iv br, iv bnd, iv (own_chr c1), iv (own_chr c2), iv (own_chr c3), iv (own_chr c4), rv b37, rv b39, iv r0, iv r1, iv r2, iv (0 : Int32), iv (1 : Int32), iv (2 : Int32), iv (1 : Int32), iv (2 : Int32), iv d11, iv d12, uu, uu, uu, uu, uu] [(.int (own_eqv (own_chr c4) (own_chr c1))), (.int (1 : Int32)), (.int ((own_mni d11 (2 : Int32)) + (1 : Int32)))]))
      refine own_of (fun tgt kon => XS.iadd X53.here hx rfl (hb hby at_247) rfl kon) ?_
      refine own_callS X53 hx hZ (y := (⟨"java/lang/Math", "min", "(II)I"⟩ : MethodName)) (argsL := [(.int ((own_mni d11 (2 : Int32)) + (1 : Int32))), (.int ((1 : Int32) + (own_eqv (own_chr c4) (own_chr c1))))]) (rest := []) (W := 0) hown (ow hw 61 rfl) (ow hw 44 rfl) (ow hw 45 rfl) (ow hw 46 rfl) (by decide) e53 (rmmin l Z a0 hw [] ((own_mni d11 (2 : Int32)) + (1 : Int32)) ((1 : Int32) + (own_eqv (own_chr c4) (own_chr c1))) T42.heap n0 Zs) (by decide) (by decide) (by decide) (by decide) rfl (by rw [hml]; rfl) (lenOf own_pd2 rfl) rfl (by show 2 * 0 + _ ≤ _; exact Nat.le_of_eq rfl) (hb hby at_248) ?_
      rintro T54 L54 _ X54 ⟨rfl, N54q, e54⟩
      have N54 := Fr.app N53 N54q
      show own_Wp _ _ _ _ (T54.setTop (mkF m 251 #[iv p1, iv p2, iv p3, iv p4, iv p5, iv p6, iv (1 : Int32), iv br, iv bnd, iv (own_chr c1), iv (own_chr c2), iv (own_chr c3), iv (own_chr c4), rv b37, rv b39, iv r0, iv r1, iv r2, iv (0 : Int32), iv (1 : Int32), iv (2 : Int32), iv (1 : Int32), iv (2 : Int32), iv d11, iv d12, uu, uu, uu, uu, uu] [(.int (own_mni ((own_mni d11 (2 : Int32)) + (1 : Int32)) ((1 : Int32) + (own_eqv (own_chr c4) (own_chr c1)))))]))
      obtain ⟨d21, h_d21⟩ : ∃ q : Int32, q = (own_mni ((own_mni d11 (2 : Int32)) + (1 : Int32)) ((1 : Int32) + (own_eqv (own_chr c4) (own_chr c1)))) := ⟨_, rfl⟩
      rw [← h_d21]
      refine own_of (fun tgt kon => XS.istore X54.here hx rfl (hb hby at_251) rfl (l' := #[iv p1, iv p2, iv p3, iv p4, iv p5, iv p6, iv (1 : Int32), iv br, iv bnd, iv (own_chr c1), iv (own_chr c2), iv (own_chr c3), iv (own_chr c4), rv b37, rv b39, iv r0, iv r1, iv r2, iv (0 : Int32), iv (1 : Int32), iv (2 : Int32), iv (1 : Int32), iv (2 : Int32), iv d11, iv d12, iv d21, uu, uu, uu, uu]) rfl kon) ?_
      refine own_of (fun tgt kon => XS.iload X54.here hx rfl (hb hby at_253) rfl kon) ?_
      refine own_of (fun tgt kon => XS.iload X54.here hx rfl (hb hby at_255) rfl kon) ?_
      refine own_callS X54 hx hZ (y := (⟨"java/lang/Math", "min", "(II)I"⟩ : MethodName)) (argsL := [(.int d12), (.int d21)]) (rest := []) (W := 0) hown (ow hw 61 rfl) (ow hw 44 rfl) (ow hw 45 rfl) (ow hw 46 rfl) (by decide) e54 (rmmin l Z a0 hw [] d12 d21 T42.heap n0 Zs) (by decide) (by decide) (by decide) (by decide) rfl (by rw [hml]; rfl) (lenOf own_pd2 rfl) rfl (by show 2 * 0 + _ ≤ _; exact Nat.le_of_eq rfl) (hb hby at_257) ?_
      rintro T55 L55 _ X55 ⟨rfl, N55q, e55⟩
      have N55 := Fr.app N54 N55q
      show own_Wp _ _ _ _ (T55.setTop (mkF m 260 #[iv p1, iv p2, iv p3, iv p4, iv p5, iv p6, iv (1 : Int32), iv br, iv bnd, iv (own_chr c1), iv (own_chr c2), iv (own_chr c3), iv (own_chr c4), rv b37, rv b39, iv r0, iv r1, iv r2, iv (0 : Int32), iv (1 : Int32), iv (2 : Int32), iv (1 : Int32), iv (2 : Int32), iv d11, iv d12, iv d21, uu, uu, uu, uu] [(.int (own_mni d12 d21))]))
      refine own_of (fun tgt kon => XS.iconst X55.here hx rfl (hb hby at_260) kon) ?_
      refine own_of (fun tgt kon => XS.iadd X55.here hx rfl (hb hby at_261) rfl kon) ?_
      refine own_of (fun tgt kon => XS.iload X55.here hx rfl (hb hby at_262) rfl kon) ?_
      refine own_of (fun tgt kon => XS.iload X55.here hx rfl (hb hby at_264) rfl kon) ?_
      refine own_of (fun tgt kon => XS.iload X55.here hx rfl (hb hby at_266) rfl kon) ?_
      show own_Wp _ _ _ _ (T55.setTop (mkF m 268 #[iv p1, iv p2, iv p3, iv p4, iv p5, iv p6, iv (1 : Int32), iv br, iv bnd, iv (own_chr c1), iv (own_chr c2), iv (own_chr c3), iv (own_chr c4), rv b37, rv b39, iv r0, iv r1, iv r2, iv (0 : Int32), iv (1 : Int32), iv (2 : Int32), iv (1 : Int32), iv (2 : Int32), iv d11, iv d12, iv d21, uu, uu, uu, uu] [(.int (own_chr c2)), (.int (own_chr c4)), (.int d11), (.int ((own_mni d12 d21) + (1 : Int32)))]))
      refine own_callS X55 hx hZ (y := (⟨"com/example/close_words/closewords/BitRowsDistancePinLaw", "eq", "(II)I"⟩ : MethodName)) (argsL := [(.int (own_chr c4)), (.int (own_chr c2))]) (rest := [(.int d11), (.int ((own_mni d12 d21) + (1 : Int32)))]) (W := 2) hown (ow hw 62 rfl) (ow hw 63 rfl) (ow hw 2 rfl) (ow hw 64 rfl) (by decide) e55 (rmeq l Z a0 hw [] (own_chr c4) (own_chr c2) T42.heap n0 Zs) (by decide) (by decide) (by decide) (by decide) rfl (by rw [hml]; rfl) (lenOf own_pd2 rfl) rfl (by show 2 * 0 + _ ≤ _; exact Nat.le_of_eq rfl) (hb hby at_268) ?_
      rintro T56 L56 _ X56 ⟨rfl, N56q, e56⟩
      have N56 := Fr.app N55 N56q
      show own_Wp _ _ _ _ (T56.setTop (mkF m 271 #[iv p1, iv p2, iv p3, iv p4, iv p5, iv p6, iv (1 : Int32), iv br, iv bnd, iv (own_chr c1), iv (own_chr c2), iv (own_chr c3), iv (own_chr c4), rv b37, rv b39, iv r0, iv r1, iv r2, iv (0 : Int32), iv (1 : Int32), iv (2 : Int32), iv (1 : Int32), iv (2 : Int32), iv d11, iv d12, iv d21, uu, uu, uu, uu] [(.int (own_eqv (own_chr c4) (own_chr c2))), (.int d11), (.int ((own_mni d12 d21) + (1 : Int32)))]))
      refine own_of (fun tgt kon => XS.iadd X56.here hx rfl (hb hby at_271) rfl kon) ?_
      refine own_callS X56 hx hZ (y := (⟨"java/lang/Math", "min", "(II)I"⟩ : MethodName)) (argsL := [(.int ((own_mni d12 d21) + (1 : Int32))), (.int (d11 + (own_eqv (own_chr c4) (own_chr c2))))]) (rest := []) (W := 0) hown (ow hw 61 rfl) (ow hw 44 rfl) (ow hw 45 rfl) (ow hw 46 rfl) (by decide) e56 (rmmin l Z a0 hw [] ((own_mni d12 d21) + (1 : Int32)) (d11 + (own_eqv (own_chr c4) (own_chr c2))) T42.heap n0 Zs) (by decide) (by decide) (by decide) (by decide) rfl (by rw [hml]; rfl) (lenOf own_pd2 rfl) rfl (by show 2 * 0 + _ ≤ _; exact Nat.le_of_eq rfl) (hb hby at_272) ?_
      rintro T57 L57 _ X57 ⟨rfl, N57q, e57⟩
      have N57 := Fr.app N56 N57q
      show own_Wp _ _ _ _ (T57.setTop (mkF m 275 #[iv p1, iv p2, iv p3, iv p4, iv p5, iv p6, iv (1 : Int32), iv br, iv bnd, iv (own_chr c1), iv (own_chr c2), iv (own_chr c3), iv (own_chr c4), rv b37, rv b39, iv r0, iv r1, iv r2, iv (0 : Int32), iv (1 : Int32), iv (2 : Int32), iv (1 : Int32), iv (2 : Int32), iv d11, iv d12, iv d21, uu, uu, uu, uu] [(.int (own_mni ((own_mni d12 d21) + (1 : Int32)) (d11 + (own_eqv (own_chr c4) (own_chr c2)))))]))
      obtain ⟨d22, h_d22⟩ : ∃ q : Int32, q = (own_mni ((own_mni d12 d21) + (1 : Int32)) (d11 + (own_eqv (own_chr c4) (own_chr c2)))) := ⟨_, rfl⟩
      rw [← h_d22]
      refine own_of (fun tgt kon => XS.istore X57.here hx rfl (hb hby at_275) rfl (l' := #[iv p1, iv p2, iv p3, iv p4, iv p5, iv p6, iv (1 : Int32), iv br, iv bnd, iv (own_chr c1), iv (own_chr c2), iv (own_chr c3), iv (own_chr c4), rv b37, rv b39, iv r0, iv r1, iv r2, iv (0 : Int32), iv (1 : Int32), iv (2 : Int32), iv (1 : Int32), iv (2 : Int32), iv d11, iv d12, iv d21, iv d22, uu, uu, uu]) rfl kon) ?_
      refine own_of (fun tgt kon => XS.iload X57.here hx rfl (hb hby at_277) rfl kon) ?_
      refine own_of (fun tgt kon => XS.iload X57.here hx rfl (hb hby at_279) rfl kon) ?_
      show own_Wp _ _ _ _ (T57.setTop (mkF m 281 #[iv p1, iv p2, iv p3, iv p4, iv p5, iv p6, iv (1 : Int32), iv br, iv bnd, iv (own_chr c1), iv (own_chr c2), iv (own_chr c3), iv (own_chr c4), rv b37, rv b39, iv r0, iv r1, iv r2, iv (0 : Int32), iv (1 : Int32), iv (2 : Int32), iv (1 : Int32), iv (2 : Int32), iv d11, iv d12, iv d21, iv d22, uu, uu, uu] [(.int (own_chr c1)), (.int (own_chr c4))]))
      have J302 : ∀ (T58 : State) (lc58 : List Loc) (e22 : Int32), (Stand p l e room_1 s m #[(.int p1), (.int p2), (.int p3), (.int p4), (.int p5), (.int p6)] below meth c T58 lc58 6 527) → (T58.heap = T42.heap) → (Fr n0 lc58) → (e22 = if (own_chr c4) = (own_chr c1) ∧ (own_chr c3) = (own_chr c2) then own_mni d22 ((0 : Int32) + (1 : Int32)) else d22) → own_Wp p.tables e below (own_K room_1 s below (Q_rm0 Z p1 p2 p3 p4 p5 p6 h0 n0)) (T58.setTop (mkF m 302 #[iv p1, iv p2, iv p3, iv p4, iv p5, iv p6, iv (1 : Int32), iv br, iv bnd, iv (own_chr c1), iv (own_chr c2), iv (own_chr c3), iv (own_chr c4), rv b37, rv b39, iv r0, iv r1, iv r2, iv (0 : Int32), iv (1 : Int32), iv (2 : Int32), iv (1 : Int32), iv (2 : Int32), iv d11, iv d12, iv d21, iv e22, uu, uu, uu] [])) := by
        intro T58 lc58 e22 X58 e58 N58 h_e22
        have hf := own_m1f _ _ _ _ _ _ _ _ _ h_d11 h_d12 h_d21 h_d22 h_e22
        dsimp only at hf
        refine own_of (fun tgt kon => XS.iload X58.here hx rfl (hb hby at_302) rfl kon) ?_
        refine own_of (fun tgt kon => XS.iload X58.here hx rfl (hb hby at_304) rfl kon) ?_
        refine own_of (fun tgt kon => XS.iload X58.here hx rfl (hb hby at_306) rfl kon) ?_
        refine own_of (fun tgt kon => XS.iload X58.here hx rfl (hb hby at_308) rfl kon) ?_
        refine own_callS X58 hx hZ (y := (⟨"com/example/close_words/closewords/BitRowsDistancePinLaw", "pick", "(IIII)I"⟩ : MethodName)) (argsL := [(.int (1 : Int32)), (.int (0 : Int32)), (.int (1 : Int32)), (.int (2 : Int32))]) (rest := []) (W := 0) hown (ow hw 65 rfl) (ow hw 66 rfl) (ow hw 2 rfl) (ow hw 67 rfl) (by decide) e58 (rmpick l Z a0 hw [] (1 : Int32) (0 : Int32) (1 : Int32) (2 : Int32) T42.heap n0 Zs) (by decide) (by decide) (by decide) (by decide) rfl (by rw [hml]; rfl) (lenOf own_pd6 rfl) rfl (by show 2 * 0 + _ ≤ _; exact Nat.le_of_eq rfl) (hb hby at_310) ?_
        rintro T59 L59 _ X59 ⟨rfl, N59q, e59⟩
        have N59 := Fr.app N58 N59q
        show own_Wp _ _ _ _ (T59.setTop (mkF m 313 #[iv p1, iv p2, iv p3, iv p4, iv p5, iv p6, iv (1 : Int32), iv br, iv bnd, iv (own_chr c1), iv (own_chr c2), iv (own_chr c3), iv (own_chr c4), rv b37, rv b39, iv r0, iv r1, iv r2, iv (0 : Int32), iv (1 : Int32), iv (2 : Int32), iv (1 : Int32), iv (2 : Int32), iv d11, iv d12, iv d21, iv e22, uu, uu, uu] [(.int (own_pk (1 : Int32) (0 : Int32) (1 : Int32) (2 : Int32)))]))
        refine own_of (fun tgt kon => XS.iload X59.here hx rfl (hb hby at_313) rfl kon) ?_
        refine own_callS X59 hx hZ (y := (⟨"com/example/close_words/closewords/BitRowsDistancePinLaw", "cap", "(II)I"⟩ : MethodName)) (argsL := [(.int (own_pk (1 : Int32) (0 : Int32) (1 : Int32) (2 : Int32))), (.int bnd)]) (rest := []) (W := 0) hown (ow hw 68 rfl) (ow hw 69 rfl) (ow hw 2 rfl) (ow hw 70 rfl) (by decide) e59 (rmcap l Z a0 hw [] (own_pk (1 : Int32) (0 : Int32) (1 : Int32) (2 : Int32)) bnd T42.heap n0 Zs) (by decide) (by decide) (by decide) (by decide) rfl (by rw [hml]; rfl) (lenOf own_pd2 rfl) rfl (by show 2 * 0 + _ ≤ _; exact Nat.le_of_eq rfl) (hb hby at_315) ?_
        rintro T60 L60 _ X60 ⟨rfl, N60q, e60⟩
        have N60 := Fr.app N59 N60q
        show own_Wp _ _ _ _ (T60.setTop (mkF m 318 #[iv p1, iv p2, iv p3, iv p4, iv p5, iv p6, iv (1 : Int32), iv br, iv bnd, iv (own_chr c1), iv (own_chr c2), iv (own_chr c3), iv (own_chr c4), rv b37, rv b39, iv r0, iv r1, iv r2, iv (0 : Int32), iv (1 : Int32), iv (2 : Int32), iv (1 : Int32), iv (2 : Int32), iv d11, iv d12, iv d21, iv e22, uu, uu, uu] [(.int (own_cpI (own_pk (1 : Int32) (0 : Int32) (1 : Int32) (2 : Int32)) bnd))]))
        obtain ⟨e0, h_e0⟩ : ∃ q : Int32, q = (own_cpI (own_pk (1 : Int32) (0 : Int32) (1 : Int32) (2 : Int32)) bnd) := ⟨_, rfl⟩
        rw [← h_e0]
        refine own_of (fun tgt kon => XS.istore X60.here hx rfl (hb hby at_318) rfl (l' := #[iv p1, iv p2, iv p3, iv p4, iv p5, iv p6, iv (1 : Int32), iv br, iv bnd, iv (own_chr c1), iv (own_chr c2), iv (own_chr c3), iv (own_chr c4), rv b37, rv b39, iv r0, iv r1, iv r2, iv (0 : Int32), iv (1 : Int32), iv (2 : Int32), iv (1 : Int32), iv (2 : Int32), iv d11, iv d12, iv d21, iv e22, iv e0, uu, uu]) rfl kon) ?_
        refine own_of (fun tgt kon => XS.iload X60.here hx rfl (hb hby at_320) rfl kon) ?_
        refine own_of (fun tgt kon => XS.iload X60.here hx rfl (hb hby at_322) rfl kon) ?_
        refine own_of (fun tgt kon => XS.iload X60.here hx rfl (hb hby at_324) rfl kon) ?_
        refine own_of (fun tgt kon => XS.iload X60.here hx rfl (hb hby at_326) rfl kon) ?_
        show own_Wp _ _ _ _ (T60.setTop (mkF m 328 #[iv p1, iv p2, iv p3, iv p4, iv p5, iv p6, iv (1 : Int32), iv br, iv bnd, iv (own_chr c1), iv (own_chr c2), iv (own_chr c3), iv (own_chr c4), rv b37, rv b39, iv r0, iv r1, iv r2, iv (0 : Int32), iv (1 : Int32), iv (2 : Int32), iv (1 : Int32), iv (2 : Int32), iv d11, iv d12, iv d21, iv e22, iv e0, uu, uu] [(.int d12), (.int d11), (.int (1 : Int32)), (.int (1 : Int32))]))
        refine own_callS X60 hx hZ (y := (⟨"com/example/close_words/closewords/BitRowsDistancePinLaw", "pick", "(IIII)I"⟩ : MethodName)) (argsL := [(.int (1 : Int32)), (.int (1 : Int32)), (.int d11), (.int d12)]) (rest := []) (W := 0) hown (ow hw 65 rfl) (ow hw 66 rfl) (ow hw 2 rfl) (ow hw 67 rfl) (by decide) e60 (rmpick l Z a0 hw [] (1 : Int32) (1 : Int32) d11 d12 T42.heap n0 Zs) (by decide) (by decide) (by decide) (by decide) rfl (by rw [hml]; rfl) (lenOf own_pd6 rfl) rfl (by show 2 * 0 + _ ≤ _; exact Nat.le_of_eq rfl) (hb hby at_328) ?_
        rintro T61 L61 _ X61 ⟨rfl, N61q, e61⟩
        have N61 := Fr.app N60 N61q
        show own_Wp _ _ _ _ (T61.setTop (mkF m 331 #[iv p1, iv p2, iv p3, iv p4, iv p5, iv p6, iv (1 : Int32), iv br, iv bnd, iv (own_chr c1), iv (own_chr c2), iv (own_chr c3), iv (own_chr c4), rv b37, rv b39, iv r0, iv r1, iv r2, iv (0 : Int32), iv (1 : Int32), iv (2 : Int32), iv (1 : Int32), iv (2 : Int32), iv d11, iv d12, iv d21, iv e22, iv e0, uu, uu] [(.int (own_pk (1 : Int32) (1 : Int32) d11 d12))]))
        refine own_of (fun tgt kon => XS.iload X61.here hx rfl (hb hby at_331) rfl kon) ?_
        refine own_callS X61 hx hZ (y := (⟨"com/example/close_words/closewords/BitRowsDistancePinLaw", "cap", "(II)I"⟩ : MethodName)) (argsL := [(.int (own_pk (1 : Int32) (1 : Int32) d11 d12)), (.int bnd)]) (rest := []) (W := 0) hown (ow hw 68 rfl) (ow hw 69 rfl) (ow hw 2 rfl) (ow hw 70 rfl) (by decide) e61 (rmcap l Z a0 hw [] (own_pk (1 : Int32) (1 : Int32) d11 d12) bnd T42.heap n0 Zs) (by decide) (by decide) (by decide) (by decide) rfl (by rw [hml]; rfl) (lenOf own_pd2 rfl) rfl (by show 2 * 0 + _ ≤ _; exact Nat.le_of_eq rfl) (hb hby at_333) ?_
        rintro T62 L62 _ X62 ⟨rfl, N62q, e62⟩
        have N62 := Fr.app N61 N62q
        show own_Wp _ _ _ _ (T62.setTop (mkF m 336 #[iv p1, iv p2, iv p3, iv p4, iv p5, iv p6, iv (1 : Int32), iv br, iv bnd, iv (own_chr c1), iv (own_chr c2), iv (own_chr c3), iv (own_chr c4), rv b37, rv b39, iv r0, iv r1, iv r2, iv (0 : Int32), iv (1 : Int32), iv (2 : Int32), iv (1 : Int32), iv (2 : Int32), iv d11, iv d12, iv d21, iv e22, iv e0, uu, uu] [(.int (own_cpI (own_pk (1 : Int32) (1 : Int32) d11 d12) bnd))]))
        obtain ⟨e1, h_e1⟩ : ∃ q : Int32, q = (own_cpI (own_pk (1 : Int32) (1 : Int32) d11 d12) bnd) := ⟨_, rfl⟩
        rw [← h_e1]
        refine own_of (fun tgt kon => XS.istore X62.here hx rfl (hb hby at_336) rfl (l' := #[iv p1, iv p2, iv p3, iv p4, iv p5, iv p6, iv (1 : Int32), iv br, iv bnd, iv (own_chr c1), iv (own_chr c2), iv (own_chr c3), iv (own_chr c4), rv b37, rv b39, iv r0, iv r1, iv r2, iv (0 : Int32), iv (1 : Int32), iv (2 : Int32), iv (1 : Int32), iv (2 : Int32), iv d11, iv d12, iv d21, iv e22, iv e0, iv e1, uu]) rfl kon) ?_
        refine own_of (fun tgt kon => XS.iload X62.here hx rfl (hb hby at_338) rfl kon) ?_
        refine own_of (fun tgt kon => XS.iload X62.here hx rfl (hb hby at_340) rfl kon) ?_
        refine own_of (fun tgt kon => XS.iload X62.here hx rfl (hb hby at_342) rfl kon) ?_
        refine own_of (fun tgt kon => XS.iload X62.here hx rfl (hb hby at_344) rfl kon) ?_
        show own_Wp _ _ _ _ (T62.setTop (mkF m 346 #[iv p1, iv p2, iv p3, iv p4, iv p5, iv p6, iv (1 : Int32), iv br, iv bnd, iv (own_chr c1), iv (own_chr c2), iv (own_chr c3), iv (own_chr c4), rv b37, rv b39, iv r0, iv r1, iv r2, iv (0 : Int32), iv (1 : Int32), iv (2 : Int32), iv (1 : Int32), iv (2 : Int32), iv d11, iv d12, iv d21, iv e22, iv e0, iv e1, uu] [(.int e22), (.int d21), (.int (2 : Int32)), (.int (1 : Int32))]))
        refine own_callS X62 hx hZ (y := (⟨"com/example/close_words/closewords/BitRowsDistancePinLaw", "pick", "(IIII)I"⟩ : MethodName)) (argsL := [(.int (1 : Int32)), (.int (2 : Int32)), (.int d21), (.int e22)]) (rest := []) (W := 0) hown (ow hw 65 rfl) (ow hw 66 rfl) (ow hw 2 rfl) (ow hw 67 rfl) (by decide) e62 (rmpick l Z a0 hw [] (1 : Int32) (2 : Int32) d21 e22 T42.heap n0 Zs) (by decide) (by decide) (by decide) (by decide) rfl (by rw [hml]; rfl) (lenOf own_pd6 rfl) rfl (by show 2 * 0 + _ ≤ _; exact Nat.le_of_eq rfl) (hb hby at_346) ?_
        rintro T63 L63 _ X63 ⟨rfl, N63q, e63⟩
        have N63 := Fr.app N62 N63q
        show own_Wp _ _ _ _ (T63.setTop (mkF m 349 #[iv p1, iv p2, iv p3, iv p4, iv p5, iv p6, iv (1 : Int32), iv br, iv bnd, iv (own_chr c1), iv (own_chr c2), iv (own_chr c3), iv (own_chr c4), rv b37, rv b39, iv r0, iv r1, iv r2, iv (0 : Int32), iv (1 : Int32), iv (2 : Int32), iv (1 : Int32), iv (2 : Int32), iv d11, iv d12, iv d21, iv e22, iv e0, iv e1, uu] [(.int (own_pk (1 : Int32) (2 : Int32) d21 e22))]))
        refine own_of (fun tgt kon => XS.iload X63.here hx rfl (hb hby at_349) rfl kon) ?_
        refine own_callS X63 hx hZ (y := (⟨"com/example/close_words/closewords/BitRowsDistancePinLaw", "cap", "(II)I"⟩ : MethodName)) (argsL := [(.int (own_pk (1 : Int32) (2 : Int32) d21 e22)), (.int bnd)]) (rest := []) (W := 0) hown (ow hw 68 rfl) (ow hw 69 rfl) (ow hw 2 rfl) (ow hw 70 rfl) (by decide) e63 (rmcap l Z a0 hw [] (own_pk (1 : Int32) (2 : Int32) d21 e22) bnd T42.heap n0 Zs) (by decide) (by decide) (by decide) (by decide) rfl (by rw [hml]; rfl) (lenOf own_pd2 rfl) rfl (by show 2 * 0 + _ ≤ _; exact Nat.le_of_eq rfl) (hb hby at_351) ?_
        rintro T64 L64 _ X64 ⟨rfl, N64q, e64⟩
        have N64 := Fr.app N63 N64q
        show own_Wp _ _ _ _ (T64.setTop (mkF m 354 #[iv p1, iv p2, iv p3, iv p4, iv p5, iv p6, iv (1 : Int32), iv br, iv bnd, iv (own_chr c1), iv (own_chr c2), iv (own_chr c3), iv (own_chr c4), rv b37, rv b39, iv r0, iv r1, iv r2, iv (0 : Int32), iv (1 : Int32), iv (2 : Int32), iv (1 : Int32), iv (2 : Int32), iv d11, iv d12, iv d21, iv e22, iv e0, iv e1, uu] [(.int (own_cpI (own_pk (1 : Int32) (2 : Int32) d21 e22) bnd))]))
        obtain ⟨e2, h_e2⟩ : ∃ q : Int32, q = (own_cpI (own_pk (1 : Int32) (2 : Int32) d21 e22) bnd) := ⟨_, rfl⟩
        rw [← h_e2]
        refine own_of (fun tgt kon => XS.istore X64.here hx rfl (hb hby at_354) rfl (l' := #[iv p1, iv p2, iv p3, iv p4, iv p5, iv p6, iv (1 : Int32), iv br, iv bnd, iv (own_chr c1), iv (own_chr c2), iv (own_chr c3), iv (own_chr c4), rv b37, rv b39, iv r0, iv r1, iv r2, iv (0 : Int32), iv (1 : Int32), iv (2 : Int32), iv (1 : Int32), iv (2 : Int32), iv d11, iv d12, iv d21, iv e22, iv e0, iv e1, iv e2]) rfl kon) ?_
        refine own_of (fun tgt kon => XS.iload X64.here hx rfl (hb hby at_356) rfl kon) ?_
        refine own_of (fun tgt kon => XS.iload X64.here hx rfl (hb hby at_358) rfl kon) ?_
        have hc360 : r0 = e0 := by rw [h_r0, h_e0]; rw [show D0 = 1 from hD0]; exact own_fin hbd (by decide)
        refine own_of (fun tgt kon => XS.icmpNo X64.here hx rfl (hb hby at_360) rfl (teq hc360).2 kon) ?_
        refine own_of (fun tgt kon => XS.iload X64.here hx rfl (hb hby at_363) rfl kon) ?_
        show own_Wp _ _ _ _ (T64.setTop (mkF m 365 #[iv p1, iv p2, iv p3, iv p4, iv p5, iv p6, iv (1 : Int32), iv br, iv bnd, iv (own_chr c1), iv (own_chr c2), iv (own_chr c3), iv (own_chr c4), rv b37, rv b39, iv r0, iv r1, iv r2, iv (0 : Int32), iv (1 : Int32), iv (2 : Int32), iv (1 : Int32), iv (2 : Int32), iv d11, iv d12, iv d21, iv e22, iv e0, iv e1, iv e2] [(.int r1)]))
        refine own_of (fun tgt kon => XS.iload X64.here hx rfl (hb hby at_365) rfl kon) ?_
        have hc367 : r1 = e1 := by rw [h_r1, h_e1]; rw [show D1 = _ from hD1.trans (own_m1a (own_chr c1) (own_chr c2) (own_chr c3))]; refine (own_fin hbd (by have := (hf.2.2.2.2.2.2 ⟨1, by decide⟩).1; dsimp only at this; omega)).trans ?_; rw [← hf.1]; rfl
        refine own_of (fun tgt kon => XS.icmpNo X64.here hx rfl (hb hby at_367) rfl (teq hc367).2 kon) ?_
        refine own_of (fun tgt kon => XS.iload X64.here hx rfl (hb hby at_370) rfl kon) ?_
        refine own_of (fun tgt kon => XS.iload X64.here hx rfl (hb hby at_372) rfl kon) ?_
        have hc374 : r2 = e2 := by rw [h_r2, h_e2]; rw [show D2 = _ from hD2.trans (own_m1c (own_chr c1) (own_chr c2) (own_chr c3) (own_chr c4))]; refine (own_fin hbd (by have := (hf.2.2.2.2.2.2 ⟨1, by decide⟩).2; dsimp only at this; omega)).trans ?_; rw [← hf.2.2.1]; rfl
        refine own_of (fun tgt kon => XS.icmpNo X64.here hx rfl (hb hby at_374) rfl (teq hc374).2 kon) ?_
        refine own_of (fun tgt kon => XS.iconst X64.here hx rfl (hb hby at_377) kon) ?_
        show own_Wp _ _ _ _ (T64.setTop (mkF m 378 #[iv p1, iv p2, iv p3, iv p4, iv p5, iv p6, iv (1 : Int32), iv br, iv bnd, iv (own_chr c1), iv (own_chr c2), iv (own_chr c3), iv (own_chr c4), rv b37, rv b39, iv r0, iv r1, iv r2, iv (0 : Int32), iv (1 : Int32), iv (2 : Int32), iv (1 : Int32), iv (2 : Int32), iv d11, iv d12, iv d21, iv e22, iv e0, iv e1, iv e2] [(.int (1 : Int32))]))
        refine own_of (fun tgt kon => XS.goto X64.here hx rfl (pc0 := 378) (pc' := 382) rfl (hb hby at_378) (by decide) (by decide) kon) ?_
        show own_Wp _ _ _ _ (T64.setTop (mkF m 382 #[iv p1, iv p2, iv p3, iv p4, iv p5, iv p6, iv (1 : Int32), iv br, iv bnd, iv (own_chr c1), iv (own_chr c2), iv (own_chr c3), iv (own_chr c4), rv b37, rv b39, iv r0, iv r1, iv r2, iv (0 : Int32), iv (1 : Int32), iv (2 : Int32), iv (1 : Int32), iv (2 : Int32), iv d11, iv d12, iv d21, iv e22, iv e0, iv e1, iv e2] [(.int (1 : Int32))]))
        refine own_ret X64 hlk (some (.int (1 : Int32))) (own_rtI hrt) (fun fs hr => retN X64 hx (t := .boolean) hrt (by simp) (hb hby at_382) hr) ?_ (by decide) (by decide)
        rw [e64]
        exact ⟨rfl, N64⟩
      show own_Wp _ _ _ _ (T57.setTop (mkF m 281 #[iv p1, iv p2, iv p3, iv p4, iv p5, iv p6, iv (1 : Int32), iv br, iv bnd, iv (own_chr c1), iv (own_chr c2), iv (own_chr c3), iv (own_chr c4), rv b37, rv b39, iv r0, iv r1, iv r2, iv (0 : Int32), iv (1 : Int32), iv (2 : Int32), iv (1 : Int32), iv (2 : Int32), iv d11, iv d12, iv d21, iv d22, uu, uu, uu] [(.int (own_chr c1)), (.int (own_chr c4))]))
      by_cases hc281 : (own_chr c4) = (own_chr c1)
      · skip
        refine own_of (fun tgt kon => XS.icmpNo X57.here hx rfl (hb hby at_281) rfl (teq hc281).2 kon) ?_
        refine own_of (fun tgt kon => XS.iload X57.here hx rfl (hb hby at_284) rfl kon) ?_
        refine own_of (fun tgt kon => XS.iload X57.here hx rfl (hb hby at_286) rfl kon) ?_
        by_cases hc288 : (own_chr c3) = (own_chr c2)
        · skip
          refine own_of (fun tgt kon => XS.icmpNo X57.here hx rfl (hb hby at_288) rfl (teq hc288).2 kon) ?_
          refine own_of (fun tgt kon => XS.iload X57.here hx rfl (hb hby at_291) rfl kon) ?_
          show own_Wp _ _ _ _ (T57.setTop (mkF m 293 #[iv p1, iv p2, iv p3, iv p4, iv p5, iv p6, iv (1 : Int32), iv br, iv bnd, iv (own_chr c1), iv (own_chr c2), iv (own_chr c3), iv (own_chr c4), rv b37, rv b39, iv r0, iv r1, iv r2, iv (0 : Int32), iv (1 : Int32), iv (2 : Int32), iv (1 : Int32), iv (2 : Int32), iv d11, iv d12, iv d21, iv d22, uu, uu, uu] [(.int d22)]))
          refine own_of (fun tgt kon => XS.iload X57.here hx rfl (hb hby at_293) rfl kon) ?_
          refine own_of (fun tgt kon => XS.iconst X57.here hx rfl (hb hby at_295) kon) ?_
          refine own_of (fun tgt kon => XS.iadd X57.here hx rfl (hb hby at_296) rfl kon) ?_
          refine own_callS X57 hx hZ (y := (⟨"java/lang/Math", "min", "(II)I"⟩ : MethodName)) (argsL := [(.int d22), (.int ((0 : Int32) + (1 : Int32)))]) (rest := []) (W := 0) hown (ow hw 61 rfl) (ow hw 44 rfl) (ow hw 45 rfl) (ow hw 46 rfl) (by decide) e57 (rmmin l Z a0 hw [] d22 ((0 : Int32) + (1 : Int32)) T42.heap n0 Zs) (by decide) (by decide) (by decide) (by decide) rfl (by rw [hml]; rfl) (lenOf own_pd2 rfl) rfl (by show 2 * 0 + _ ≤ _; exact Nat.le_of_eq rfl) (hb hby at_297) ?_
          rintro T65 L65 _ X65 ⟨rfl, N65q, e65⟩
          have N65 := Fr.app N57 N65q
          show own_Wp _ _ _ _ (T65.setTop (mkF m 300 #[iv p1, iv p2, iv p3, iv p4, iv p5, iv p6, iv (1 : Int32), iv br, iv bnd, iv (own_chr c1), iv (own_chr c2), iv (own_chr c3), iv (own_chr c4), rv b37, rv b39, iv r0, iv r1, iv r2, iv (0 : Int32), iv (1 : Int32), iv (2 : Int32), iv (1 : Int32), iv (2 : Int32), iv d11, iv d12, iv d21, iv d22, uu, uu, uu] [(.int (own_mni d22 ((0 : Int32) + (1 : Int32))))]))
          refine own_of (fun tgt kon => XS.istore X65.here hx rfl (hb hby at_300) rfl (l' := #[iv p1, iv p2, iv p3, iv p4, iv p5, iv p6, iv (1 : Int32), iv br, iv bnd, iv (own_chr c1), iv (own_chr c2), iv (own_chr c3), iv (own_chr c4), rv b37, rv b39, iv r0, iv r1, iv r2, iv (0 : Int32), iv (1 : Int32), iv (2 : Int32), iv (1 : Int32), iv (2 : Int32), iv d11, iv d12, iv d21, iv (own_mni d22 ((0 : Int32) + (1 : Int32))), uu, uu, uu]) rfl kon) ?_
          show own_Wp _ _ _ _ (T65.setTop (mkF m 302 #[iv p1, iv p2, iv p3, iv p4, iv p5, iv p6, iv (1 : Int32), iv br, iv bnd, iv (own_chr c1), iv (own_chr c2), iv (own_chr c3), iv (own_chr c4), rv b37, rv b39, iv r0, iv r1, iv r2, iv (0 : Int32), iv (1 : Int32), iv (2 : Int32), iv (1 : Int32), iv (2 : Int32), iv d11, iv d12, iv d21, iv (own_mni d22 ((0 : Int32) + (1 : Int32))), uu, uu, uu] []))
          exact J302 T65 _ ((own_mni d22 ((0 : Int32) + (1 : Int32)))) X65 e65 N65 (by exact (if_pos (And.intro hc281 hc288)).symm)
        · skip
          refine own_of (fun tgt kon => XS.icmpYes X57.here hx rfl (pc0 := 288) (pc' := 302) rfl (hb hby at_288) rfl (feq hc288).2 (by decide) (by decide) kon) ?_
          show own_Wp _ _ _ _ (T57.setTop (mkF m 302 #[iv p1, iv p2, iv p3, iv p4, iv p5, iv p6, iv (1 : Int32), iv br, iv bnd, iv (own_chr c1), iv (own_chr c2), iv (own_chr c3), iv (own_chr c4), rv b37, rv b39, iv r0, iv r1, iv r2, iv (0 : Int32), iv (1 : Int32), iv (2 : Int32), iv (1 : Int32), iv (2 : Int32), iv d11, iv d12, iv d21, iv d22, uu, uu, uu] []))
          exact J302 T57 _ (d22) X57 e57 N57 (by exact (if_neg (fun q => hc288 q.2)).symm)
      · skip
        refine own_of (fun tgt kon => XS.icmpYes X57.here hx rfl (pc0 := 281) (pc' := 302) rfl (hb hby at_281) rfl (feq hc281).2 (by decide) (by decide) kon) ?_
        show own_Wp _ _ _ _ (T57.setTop (mkF m 302 #[iv p1, iv p2, iv p3, iv p4, iv p5, iv p6, iv (1 : Int32), iv br, iv bnd, iv (own_chr c1), iv (own_chr c2), iv (own_chr c3), iv (own_chr c4), rv b37, rv b39, iv r0, iv r1, iv r2, iv (0 : Int32), iv (1 : Int32), iv (2 : Int32), iv (1 : Int32), iv (2 : Int32), iv d11, iv d12, iv d21, iv d22, uu, uu, uu] []))
        exact J302 T57 _ (d22) X57 e57 N57 (by exact (if_neg (fun q => hc281 q.1)).symm)
    show own_Wp _ _ _ _ (s₁.setTop (mkF m 12 #[iv p1, iv p2, iv p3, iv p4, iv p5, iv p6, iv (1 : Int32), uu, uu, uu, uu, uu, uu, uu, uu, uu, uu, uu, uu, uu, uu, uu, uu, uu, uu, uu, uu, uu, uu, uu] [(.int (p5 &&& (4 : Int32)))]))
    by_cases hc12 : (p5 &&& (4 : Int32)) = (0 : Int32)
    · skip
      refine own_of (fun tgt kon => XS.ifYes X0.here hx rfl (pc0 := 12) (pc' := 19) rfl (hb hby at_12) rfl ((if0 _ _).trans (teq hc12).1) (by decide) (by decide) kon) ?_
      refine own_of (fun tgt kon => XS.iconst X0.here hx rfl (hb hby at_19) kon) ?_
      show own_Wp _ _ _ _ (s₁.setTop (mkF m 20 #[iv p1, iv p2, iv p3, iv p4, iv p5, iv p6, iv (1 : Int32), uu, uu, uu, uu, uu, uu, uu, uu, uu, uu, uu, uu, uu, uu, uu, uu, uu, uu, uu, uu, uu, uu, uu] [(.int (0 : Int32))]))
      exact J20 ((0 : Int32)) (by exact (if_pos hc12).symm)
    · skip
      refine own_of (fun tgt kon => XS.ifNo X0.here hx rfl (hb hby at_12) rfl ((if0 _ _).trans (feq hc12).1) kon) ?_
      refine own_of (fun tgt kon => XS.iconst X0.here hx rfl (hb hby at_15) kon) ?_
      refine own_of (fun tgt kon => XS.goto X0.here hx rfl (pc0 := 16) (pc' := 20) rfl (hb hby at_16) (by decide) (by decide) kon) ?_
      show own_Wp _ _ _ _ (s₁.setTop (mkF m 20 #[iv p1, iv p2, iv p3, iv p4, iv p5, iv p6, iv (1 : Int32), uu, uu, uu, uu, uu, uu, uu, uu, uu, uu, uu, uu, uu, uu, uu, uu, uu, uu, uu, uu, uu, uu, uu] [(.int (1 : Int32))]))
      exact J20 ((1 : Int32)) (by exact (if_neg hc12).symm)
  · skip
    show own_Wp _ _ _ _ (s₁.setTop (mkF m 8 #[iv p1, iv p2, iv p3, iv p4, iv p5, iv p6, iv (2 : Int32), uu, uu, uu, uu, uu, uu, uu, uu, uu, uu, uu, uu, uu, uu, uu, uu, uu, uu, uu, uu, uu, uu, uu] []))
    refine own_of (fun tgt kon => XS.iload X0.here hx rfl (hb hby at_8) rfl kon) ?_
    refine own_of (fun tgt kon => XS.iconst X0.here hx rfl (hb hby at_10) kon) ?_
    refine own_of (fun tgt kon => XS.iand X0.here hx rfl (hb hby at_11) rfl kon) ?_
    show own_Wp _ _ _ _ (s₁.setTop (mkF m 12 #[iv p1, iv p2, iv p3, iv p4, iv p5, iv p6, iv (2 : Int32), uu, uu, uu, uu, uu, uu, uu, uu, uu, uu, uu, uu, uu, uu, uu, uu, uu, uu, uu, uu, uu, uu, uu] [(.int (p5 &&& (4 : Int32)))]))
    have J20 : ∀ (br : Int32), (br = if (p5 &&& (4 : Int32)) = (0 : Int32) then (0 : Int32) else 1) → own_Wp p.tables e below (own_K room_1 s below (Q_rm0 Z p1 p2 p3 p4 p5 p6 h0 n0)) (s₁.setTop (mkF m 20 #[iv p1, iv p2, iv p3, iv p4, iv p5, iv p6, iv (2 : Int32), uu, uu, uu, uu, uu, uu, uu, uu, uu, uu, uu, uu, uu, uu, uu, uu, uu, uu, uu, uu, uu, uu, uu] [(.int br)])) := by
      intro br h_br
      refine own_of (fun tgt kon => XS.istore X0.here hx rfl (hb hby at_20) rfl (l' := #[iv p1, iv p2, iv p3, iv p4, iv p5, iv p6, iv (2 : Int32), iv br, uu, uu, uu, uu, uu, uu, uu, uu, uu, uu, uu, uu, uu, uu, uu, uu, uu, uu, uu, uu, uu, uu]) rfl kon) ?_
      refine own_of (fun tgt kon => XS.iload X0.here hx rfl (hb hby at_22) rfl kon) ?_
      refine own_of (fun tgt kon => XS.bipush X0.here hx rfl (hb hby at_24) kon) ?_
      refine own_of (fun tgt kon => XS.iand X0.here hx rfl (hb hby at_26) rfl kon) ?_
      show own_Wp _ _ _ _ (s₁.setTop (mkF m 27 #[iv p1, iv p2, iv p3, iv p4, iv p5, iv p6, iv (2 : Int32), iv br, uu, uu, uu, uu, uu, uu, uu, uu, uu, uu, uu, uu, uu, uu, uu, uu, uu, uu, uu, uu, uu, uu] [(.int (p6 &&& (63 : Int32)))]))
      obtain ⟨bnd, h_bnd⟩ : ∃ q : Int32, q = (p6 &&& (63 : Int32)) := ⟨_, rfl⟩
      rw [← h_bnd]
      refine own_of (fun tgt kon => XS.istore X0.here hx rfl (hb hby at_27) rfl (l' := #[iv p1, iv p2, iv p3, iv p4, iv p5, iv p6, iv (2 : Int32), iv br, iv bnd, uu, uu, uu, uu, uu, uu, uu, uu, uu, uu, uu, uu, uu, uu, uu, uu, uu, uu, uu, uu, uu]) rfl kon) ?_
      refine own_of (fun tgt kon => XS.iloadN X0.here hx rfl (hb hby at_29) rfl kon) ?_
      refine own_callS X0 hx hZ (y := (⟨"com/example/close_words/closewords/BitRowsDistancePinLaw", "ch", "(I)I"⟩ : MethodName)) (argsL := [(.int p1)]) (rest := []) (W := 0) hown (ow hw 0 rfl) (ow hw 1 rfl) (ow hw 2 rfl) (ow hw 3 rfl) (by decide) e0 (rmch l Z a0 hw [] p1 h0 n0 Zs) (by decide) (by decide) (by decide) (by decide) rfl (by rw [hml]; rfl) (lenOf own_pd3 rfl) rfl (by show 2 * 0 + _ ≤ _; exact Nat.le_of_eq rfl) (hb hby at_30) ?_
      rintro T66 L66 _ X66 ⟨rfl, N66q, e66⟩
      have N66 := Fr.app N0 N66q
      show own_Wp _ _ _ _ (T66.setTop (mkF m 33 #[iv p1, iv p2, iv p3, iv p4, iv p5, iv p6, iv (2 : Int32), iv br, iv bnd, uu, uu, uu, uu, uu, uu, uu, uu, uu, uu, uu, uu, uu, uu, uu, uu, uu, uu, uu, uu, uu] [(.int ((p1 &&& (3 : Int32)) ||| ((p1 &&& (4 : Int32)) <<< ((5 : Int32) &&& 31))))]))
      obtain ⟨s1, h_s1⟩ : ∃ q : Int32, q = ((p1 &&& (3 : Int32)) ||| ((p1 &&& (4 : Int32)) <<< ((5 : Int32) &&& 31))) := ⟨_, rfl⟩
      rw [← h_s1]
      refine own_of (fun tgt kon => XS.istore X66.here hx rfl (hb hby at_33) rfl (l' := #[iv p1, iv p2, iv p3, iv p4, iv p5, iv p6, iv (2 : Int32), iv br, iv bnd, iv s1, uu, uu, uu, uu, uu, uu, uu, uu, uu, uu, uu, uu, uu, uu, uu, uu, uu, uu, uu, uu]) rfl kon) ?_
      refine own_of (fun tgt kon => XS.iloadN X66.here hx rfl (hb hby at_35) rfl kon) ?_
      refine own_callS X66 hx hZ (y := (⟨"com/example/close_words/closewords/BitRowsDistancePinLaw", "ch", "(I)I"⟩ : MethodName)) (argsL := [(.int p2)]) (rest := []) (W := 0) hown (ow hw 0 rfl) (ow hw 1 rfl) (ow hw 2 rfl) (ow hw 3 rfl) (by decide) e66 (rmch l Z a0 hw [] p2 h0 n0 Zs) (by decide) (by decide) (by decide) (by decide) rfl (by rw [hml]; rfl) (lenOf own_pd3 rfl) rfl (by show 2 * 0 + _ ≤ _; exact Nat.le_of_eq rfl) (hb hby at_36) ?_
      rintro T67 L67 _ X67 ⟨rfl, N67q, e67⟩
      have N67 := Fr.app N66 N67q
      show own_Wp _ _ _ _ (T67.setTop (mkF m 39 #[iv p1, iv p2, iv p3, iv p4, iv p5, iv p6, iv (2 : Int32), iv br, iv bnd, iv s1, uu, uu, uu, uu, uu, uu, uu, uu, uu, uu, uu, uu, uu, uu, uu, uu, uu, uu, uu, uu] [(.int ((p2 &&& (3 : Int32)) ||| ((p2 &&& (4 : Int32)) <<< ((5 : Int32) &&& 31))))]))
      obtain ⟨s2, h_s2⟩ : ∃ q : Int32, q = ((p2 &&& (3 : Int32)) ||| ((p2 &&& (4 : Int32)) <<< ((5 : Int32) &&& 31))) := ⟨_, rfl⟩
      rw [← h_s2]
      refine own_of (fun tgt kon => XS.istore X67.here hx rfl (hb hby at_39) rfl (l' := #[iv p1, iv p2, iv p3, iv p4, iv p5, iv p6, iv (2 : Int32), iv br, iv bnd, iv s1, iv s2, uu, uu, uu, uu, uu, uu, uu, uu, uu, uu, uu, uu, uu, uu, uu, uu, uu, uu, uu]) rfl kon) ?_
      refine own_of (fun tgt kon => XS.iloadN X67.here hx rfl (hb hby at_41) rfl kon) ?_
      refine own_callS X67 hx hZ (y := (⟨"com/example/close_words/closewords/BitRowsDistancePinLaw", "ch", "(I)I"⟩ : MethodName)) (argsL := [(.int p3)]) (rest := []) (W := 0) hown (ow hw 0 rfl) (ow hw 1 rfl) (ow hw 2 rfl) (ow hw 3 rfl) (by decide) e67 (rmch l Z a0 hw [] p3 h0 n0 Zs) (by decide) (by decide) (by decide) (by decide) rfl (by rw [hml]; rfl) (lenOf own_pd3 rfl) rfl (by show 2 * 0 + _ ≤ _; exact Nat.le_of_eq rfl) (hb hby at_42) ?_
      rintro T68 L68 _ X68 ⟨rfl, N68q, e68⟩
      have N68 := Fr.app N67 N68q
      show own_Wp _ _ _ _ (T68.setTop (mkF m 45 #[iv p1, iv p2, iv p3, iv p4, iv p5, iv p6, iv (2 : Int32), iv br, iv bnd, iv s1, iv s2, uu, uu, uu, uu, uu, uu, uu, uu, uu, uu, uu, uu, uu, uu, uu, uu, uu, uu, uu] [(.int ((p3 &&& (3 : Int32)) ||| ((p3 &&& (4 : Int32)) <<< ((5 : Int32) &&& 31))))]))
      obtain ⟨k1, h_k1⟩ : ∃ q : Int32, q = ((p3 &&& (3 : Int32)) ||| ((p3 &&& (4 : Int32)) <<< ((5 : Int32) &&& 31))) := ⟨_, rfl⟩
      rw [← h_k1]
      refine own_of (fun tgt kon => XS.istore X68.here hx rfl (hb hby at_45) rfl (l' := #[iv p1, iv p2, iv p3, iv p4, iv p5, iv p6, iv (2 : Int32), iv br, iv bnd, iv s1, iv s2, iv k1, uu, uu, uu, uu, uu, uu, uu, uu, uu, uu, uu, uu, uu, uu, uu, uu, uu, uu]) rfl kon) ?_
      refine own_of (fun tgt kon => XS.iloadN X68.here hx rfl (hb hby at_47) rfl kon) ?_
      refine own_callS X68 hx hZ (y := (⟨"com/example/close_words/closewords/BitRowsDistancePinLaw", "ch", "(I)I"⟩ : MethodName)) (argsL := [(.int p4)]) (rest := []) (W := 0) hown (ow hw 0 rfl) (ow hw 1 rfl) (ow hw 2 rfl) (ow hw 3 rfl) (by decide) e68 (rmch l Z a0 hw [] p4 h0 n0 Zs) (by decide) (by decide) (by decide) (by decide) rfl (by rw [hml]; rfl) (lenOf own_pd3 rfl) rfl (by show 2 * 0 + _ ≤ _; exact Nat.le_of_eq rfl) (hb hby at_48) ?_
      rintro T69 L69 _ X69 ⟨rfl, N69q, e69⟩
      have N69 := Fr.app N68 N69q
      show own_Wp _ _ _ _ (T69.setTop (mkF m 51 #[iv p1, iv p2, iv p3, iv p4, iv p5, iv p6, iv (2 : Int32), iv br, iv bnd, iv s1, iv s2, iv k1, uu, uu, uu, uu, uu, uu, uu, uu, uu, uu, uu, uu, uu, uu, uu, uu, uu, uu] [(.int ((p4 &&& (3 : Int32)) ||| ((p4 &&& (4 : Int32)) <<< ((5 : Int32) &&& 31))))]))
      obtain ⟨k2, h_k2⟩ : ∃ q : Int32, q = ((p4 &&& (3 : Int32)) ||| ((p4 &&& (4 : Int32)) <<< ((5 : Int32) &&& 31))) := ⟨_, rfl⟩
      rw [← h_k2]
      refine own_of (fun tgt kon => XS.istore X69.here hx rfl (hb hby at_51) rfl (l' := #[iv p1, iv p2, iv p3, iv p4, iv p5, iv p6, iv (2 : Int32), iv br, iv bnd, iv s1, iv s2, iv k1, iv k2, uu, uu, uu, uu, uu, uu, uu, uu, uu, uu, uu, uu, uu, uu, uu, uu, uu]) rfl kon) ?_
      show own_Wp _ _ _ _ (T69.setTop (mkF m 53 #[iv p1, iv p2, iv p3, iv p4, iv p5, iv p6, iv (2 : Int32), iv br, iv bnd, iv s1, iv s2, iv k1, iv k2, uu, uu, uu, uu, uu, uu, uu, uu, uu, uu, uu, uu, uu, uu, uu, uu, uu] []))
      obtain ⟨bd, hbd, hbd63⟩ := own_b63 h_bnd
      obtain ⟨c1, q⟩ := own_ch p1
      rw [← h_s1] at q
      clear h_s1
      subst q
      obtain ⟨c2, q⟩ := own_ch p2
      rw [← h_s2] at q
      clear h_s2
      subst q
      obtain ⟨c3, q⟩ := own_ch p3
      rw [← h_k1] at q
      clear h_k1
      subst q
      obtain ⟨c4, q⟩ := own_ch p4
      rw [← h_k2] at q
      clear h_k2
      subst q
      show own_Wp _ _ _ _ (T69.setTop (mkF m 53 #[iv p1, iv p2, iv p3, iv p4, iv p5, iv p6, iv (2 : Int32), iv br, iv bnd, iv (own_chr c1), iv (own_chr c2), iv (own_chr c3), iv (own_chr c4), uu, uu, uu, uu, uu, uu, uu, uu, uu, uu, uu, uu, uu, uu, uu, uu, uu] []))
      refine own_of (fun tgt kon => XS.iload X69.here hx rfl (hb hby at_53) rfl kon) ?_
      have hc55 : ¬ ((2 : Int32) = (0 : Int32)) := by decide
      refine own_of (fun tgt kon => XS.ifYes X69.here hx rfl (pc0 := 55) (pc' := 66) rfl (hb hby at_55) rfl ((if0 _ _).trans (feq hc55).2) (by decide) (by decide) kon) ?_
      refine own_of (fun tgt kon => XS.iload X69.here hx rfl (hb hby at_66) rfl kon) ?_
      refine own_of (fun tgt kon => XS.iconst X69.here hx rfl (hb hby at_68) kon) ?_
      have hc69 : ¬ ((2 : Int32) = (1 : Int32)) := by decide
      refine own_of (fun tgt kon => XS.icmpYes X69.here hx rfl (pc0 := 69) (pc' := 86) rfl (hb hby at_69) rfl (feq hc69).2 (by decide) (by decide) kon) ?_
      refine own_of (fun tgt kon => XS.iconst X69.here hx rfl (hb hby at_86) kon) ?_
      show own_Wp _ _ _ _ (T69.setTop (mkF m 87 #[iv p1, iv p2, iv p3, iv p4, iv p5, iv p6, iv (2 : Int32), iv br, iv bnd, iv (own_chr c1), iv (own_chr c2), iv (own_chr c3), iv (own_chr c4), uu, uu, uu, uu, uu, uu, uu, uu, uu, uu, uu, uu, uu, uu, uu, uu, uu] [(.int (2 : Int32))]))
      obtain ⟨T70, h70, k70, X70, e70, E70, A70, st70⟩ := newP X69 hx hZ (ow hw 4 rfl) e69 (g := (mkF m 87 #[iv p1, iv p2, iv p3, iv p4, iv p5, iv p6, iv (2 : Int32), iv br, iv bnd, iv (own_chr c1), iv (own_chr c2), iv (own_chr c3), iv (own_chr c4), uu, uu, uu, uu, uu, uu, uu, uu, uu, uu, uu, uu, uu, uu, uu, uu, uu] [(.int (2 : Int32))])) rfl (hb hby at_87) rfl (by decide) (cap := 2) (by decide) (by decide) (by decide) (by decide)
      refine own_of st70 ?_
      clear st70
      obtain ⟨b70, gq70⟩ : ∃ z, z = h0.size := ⟨_, rfl⟩
      rw [← gq70] at A70 ⊢
      have g_b70 : n0 ≤ b70 := Nat.le_trans Zs (Nat.le_of_eq gq70.symm)
      replace Zs := Nat.le_trans Zs E70.1
      have V_b70 : own_Ar Z h70 b70 .int 2 (fun _ => (.int (0 : Int32))) := own_Ar.new A70 (by decide) rfl
      refine own_of (fun tgt kon => XS.astore X70.here hx rfl (hb hby at_89) rfl rfl (l' := #[iv p1, iv p2, iv p3, iv p4, iv p5, iv p6, iv (2 : Int32), iv br, iv bnd, iv (own_chr c1), iv (own_chr c2), iv (own_chr c3), iv (own_chr c4), rv b70, uu, uu, uu, uu, uu, uu, uu, uu, uu, uu, uu, uu, uu, uu, uu, uu]) rfl kon) ?_
      refine own_of (fun tgt kon => XS.aload X70.here hx rfl (hb hby at_91) rfl rfl kon) ?_
      refine own_of (fun tgt kon => XS.iconst X70.here hx rfl (hb hby at_93) kon) ?_
      refine own_of (fun tgt kon => XS.iload X70.here hx rfl (hb hby at_94) rfl kon) ?_
      show own_Wp _ _ _ _ (T70.setTop (mkF m 96 #[iv p1, iv p2, iv p3, iv p4, iv p5, iv p6, iv (2 : Int32), iv br, iv bnd, iv (own_chr c1), iv (own_chr c2), iv (own_chr c3), iv (own_chr c4), rv b70, uu, uu, uu, uu, uu, uu, uu, uu, uu, uu, uu, uu, uu, uu, uu, uu] [(.int (own_chr c1)), (.int (0 : Int32)), (.ref b70)]))
      obtain ⟨T71, h71, X71, e71, W71, Aq71, st71⟩ := own_stI X70 hx hZ e70 V_b70 (j := (0 : Int32)) (i := 0) (x := (own_chr c1)) (by decide) (by decide) (g := (mkF m 96 #[iv p1, iv p2, iv p3, iv p4, iv p5, iv p6, iv (2 : Int32), iv br, iv bnd, iv (own_chr c1), iv (own_chr c2), iv (own_chr c3), iv (own_chr c4), rv b70, uu, uu, uu, uu, uu, uu, uu, uu, uu, uu, uu, uu, uu, uu, uu, uu] [(.int (own_chr c1)), (.int (0 : Int32)), (.ref b70)])) rfl rfl (hb hby at_96)
      refine own_of st71 ?_
      clear st71
      replace Zs := Nat.le_trans Zs (Keep.of_wr W71).1
      replace V_b70 := Aq71
      clear Aq71
      have N71 := Fr.snoc X71 N69 g_b70
      refine own_of (fun tgt kon => XS.aload X71.here hx rfl (hb hby at_97) rfl rfl kon) ?_
      refine own_of (fun tgt kon => XS.iconst X71.here hx rfl (hb hby at_99) kon) ?_
      refine own_of (fun tgt kon => XS.iload X71.here hx rfl (hb hby at_100) rfl kon) ?_
      obtain ⟨T72, h72, X72, e72, W72, Aq72, st72⟩ := own_stI X71 hx hZ e71 V_b70 (j := (1 : Int32)) (i := 1) (x := (own_chr c2)) (by decide) (by decide) (g := (mkF m 102 #[iv p1, iv p2, iv p3, iv p4, iv p5, iv p6, iv (2 : Int32), iv br, iv bnd, iv (own_chr c1), iv (own_chr c2), iv (own_chr c3), iv (own_chr c4), rv b70, uu, uu, uu, uu, uu, uu, uu, uu, uu, uu, uu, uu, uu, uu, uu, uu] [(.int (own_chr c2)), (.int (1 : Int32)), (.ref b70)])) rfl rfl (hb hby at_102)
      refine own_of st72 ?_
      clear st72
      replace Zs := Nat.le_trans Zs (Keep.of_wr W72).1
      replace V_b70 := Aq72
      clear Aq72
      have N72 := Fr.snoc X72 N71 g_b70
      show own_Wp _ _ _ _ (T72.setTop (mkF m 103 #[iv p1, iv p2, iv p3, iv p4, iv p5, iv p6, iv (2 : Int32), iv br, iv bnd, iv (own_chr c1), iv (own_chr c2), iv (own_chr c3), iv (own_chr c4), rv b70, uu, uu, uu, uu, uu, uu, uu, uu, uu, uu, uu, uu, uu, uu, uu, uu] []))
      replace V_b70 := V_b70.fn (f' := fun k => .int ((own_tx2 (own_chr c1) (own_chr c2)) k)) (by intro k hk; rcases k with _ | _ | k <;> first | rfl | omega)
      obtain ⟨RR1, RR2, cp0, cp1, cp2, co0, co1, co2, hcp0, hco0, hR1, hok1, hcp1, hco1, hR2, hok2, hcp2, hco2, htab⟩ := own_tb2 c1 c2
      obtain ⟨T73, h73, X73, e73, E73, A73, D73, -, st73⟩ := newO X72 hx hZ hown (ow hw 5 rfl) (ow hw 6 rfl) (ow hw 7 rfl) e72 (g := (mkF m 103 #[iv p1, iv p2, iv p3, iv p4, iv p5, iv p6, iv (2 : Int32), iv br, iv bnd, iv (own_chr c1), iv (own_chr c2), iv (own_chr c3), iv (own_chr c4), rv b70, uu, uu, uu, uu, uu, uu, uu, uu, uu, uu, uu, uu, uu, uu, uu, uu] [])) rfl (hb hby at_103) (by decide) (by decide)
      refine own_of st73 ?_
      clear st73
      obtain ⟨b73, gq73⟩ : ∃ z, z = h72.size := ⟨_, rfl⟩
      rw [← gq73] at A73 D73 ⊢
      have ne_b70_b73 : b70 ≠ b73 := Nat.ne_of_lt (Nat.lt_of_lt_of_le V_b70.lt (Nat.le_of_eq gq73.symm))
      have g_b73 : n0 ≤ b73 := Nat.le_trans Zs (Nat.le_of_eq gq73.symm)
      replace Zs := Nat.le_trans Zs E73.1
      replace V_b70 := V_b70.ext E73
      have E_b73 := A73
      have F_bound_b73 : Fld Z h73 b73 "com/example/close_words/closewords/BitRows" "bound" "I" (.int (0 : Int32)) := D73 (Or.inr (ow hw 15 rfl)) (ty := .int) (by decide)
      have F_headBound_b73 : Fld Z h73 b73 "com/example/close_words/closewords/BitRows" "headBound" "I" (.int (0 : Int32)) := D73 (Or.inr (ow hw 17 rfl)) (ty := .int) (by decide)
      have F_levels_b73 : Fld Z h73 b73 "com/example/close_words/closewords/BitRows" "levels" "I" (.int (0 : Int32)) := D73 (Or.inr (ow hw 19 rfl)) (ty := .int) (by decide)
      have F_columns_b73 : Fld Z h73 b73 "com/example/close_words/closewords/BitRows" "columns" "J" (.long (0 : Int64)) := D73 (Or.inr (ow hw 24 rfl)) (ty := .long) (by decide)
      have F_lastColumn_b73 : Fld Z h73 b73 "com/example/close_words/closewords/BitRows" "lastColumn" "J" (.long (0 : Int64)) := D73 (Or.inr (ow hw 26 rfl)) (ty := .long) (by decide)
      have F_outsideHead_b73 : Fld Z h73 b73 "com/example/close_words/closewords/BitRows" "outsideHead" "J" (.long (0 : Int64)) := D73 (Or.inr (ow hw 29 rfl)) (ty := .long) (by decide)
      have F_codePoints_b73 : Fld Z h73 b73 "com/example/close_words/closewords/BitRows" "codePoints" "[I" .null := D73 (Or.inr (ow hw 31 rfl)) (ty := (.array .int)) (by decide)
      have F_columnsOf_b73 : Fld Z h73 b73 "com/example/close_words/closewords/BitRows" "columnsOf" "[J" .null := D73 (Or.inr (ow hw 34 rfl)) (ty := (.array .long)) (by decide)
      have F_rows_b73 : Fld Z h73 b73 "com/example/close_words/closewords/BitRows" "rows" "[J" .null := D73 (Or.inr (ow hw 36 rfl)) (ty := (.array .long)) (by decide)
      have F_matches_b73 : Fld Z h73 b73 "com/example/close_words/closewords/BitRows" "matches" "[J" .null := D73 (Or.inr (ow hw 38 rfl)) (ty := (.array .long)) (by decide)
      refine own_of (fun tgt kon => XS.dup X73.here hx rfl (hb hby at_106) rfl rfl kon) ?_
      refine own_of (fun tgt kon => XS.aload X73.here hx rfl (hb hby at_107) rfl rfl kon) ?_
      refine own_of (fun tgt kon => XS.iload X73.here hx rfl (hb hby at_109) rfl kon) ?_
      refine own_of (fun tgt kon => XS.iconst X73.here hx rfl (hb hby at_111) kon) ?_
      show own_Wp _ _ _ _ (T73.setTop (mkF m 112 #[iv p1, iv p2, iv p3, iv p4, iv p5, iv p6, iv (2 : Int32), iv br, iv bnd, iv (own_chr c1), iv (own_chr c2), iv (own_chr c3), iv (own_chr c4), rv b70, uu, uu, uu, uu, uu, uu, uu, uu, uu, uu, uu, uu, uu, uu, uu, uu] [(.int (-1 : Int32)), (.int bnd), (.ref b70), (.ref b73), (.ref b73)]))
      refine own_of (fun tgt kon => XS.iload X73.here hx rfl (hb hby at_112) rfl kon) ?_
      refine own_of (fun tgt kon => XS.iconst X73.here hx rfl (hb hby at_114) kon) ?_
      refine own_callI X73 hx hZ (y := (⟨"com/example/close_words/closewords/BitRows", "<init>", "([IIIII)V"⟩ : MethodName)) (a := b73) (argsL := [(.ref b70), (.int bnd), (.int (-1 : Int32)), (.int bnd), (.int (2 : Int32))]) (rest := [(.ref b73)]) (W := 1) rfl hown (ow hw 8 rfl) (ow hw 9 rfl) (ow hw 7 rfl) (ow hw 10 rfl) (by decide) e73 (rmct2 l Z a0 hw [] b73 b70 bnd (-1) bnd 2 (own_tx2 (own_chr c1) (own_chr c2)) bd bd 2 (3 * (bd + 1)) cp0 cp1 cp2 co0 co1 co2 RR1 RR2 h73 n0 Zs E_b73 _ _ _ _ _ _ _ _ _ _ F_bound_b73 F_headBound_b73 F_levels_b73 F_columns_b73 F_lastColumn_b73 F_outsideHead_b73 F_codePoints_b73 F_columnsOf_b73 F_rows_b73 F_matches_b73 V_b70 (Ne.symm ne_b70_b73) g_b73 hbd hbd63 hbd hbd63 (by decide) (by decide) rfl hcp0 hco0 hR1 hok1 hcp1 hco1 hR2 hok2 hcp2 hco2) (by decide) (by decide) (by decide) (by decide) rfl (by rw [hml]; rfl) (lenOf own_pd4 rfl) rfl (by show 2 * 0 + _ ≤ _; exact Nat.le_of_eq rfl) (hb hby at_115) ?_
      rintro T74 L74 _ X74 ⟨rfl, N74q, Kq74, Eq74, ac, ao, ar, am, g_ac, g_ao, g_ar, g_am, ne_b73_ar, ne_b73_am, ne_ac_ar, ne_ac_am, ne_ao_ar, ne_ao_am, ne_am_ar, F_bound_q, F_headBound_q, F_levels_q, F_columns_q, F_lastColumn_q, F_outsideHead_q, F_codePoints_q, F_columnsOf_q, F_rows_q, F_matches_q, V_ac, V_ao, V_ar, V_am⟩
      have N74 := Fr.app N72 N74q
      show own_Wp _ _ _ _ (T74.setTop (mkF m 118 #[iv p1, iv p2, iv p3, iv p4, iv p5, iv p6, iv (2 : Int32), iv br, iv bnd, iv (own_chr c1), iv (own_chr c2), iv (own_chr c3), iv (own_chr c4), rv b70, uu, uu, uu, uu, uu, uu, uu, uu, uu, uu, uu, uu, uu, uu, uu, uu] [(.ref b73)]))
      replace Zs := Nat.le_trans Zs Kq74.1
      replace V_b70 := V_b70.keep Kq74 (ninS ne_b70_b73 nin0)
      replace E_b73 := E_b73.keep Kq74
      replace E_b73 := Eq74
      have hout : (if (-1 : Int32) < (0 : Int32) then (-1 : Int64) else (own_upTo (-1 : Int32) ^^^ (-1 : Int64))) = (-1 : Int64) := by decide
      rw [hout] at F_outsideHead_q
      have F_bound_b73 := F_bound_q
      have F_headBound_b73 := F_headBound_q
      have F_levels_b73 := F_levels_q
      have F_columns_b73 := F_columns_q
      have F_lastColumn_b73 := F_lastColumn_q
      have F_outsideHead_b73 := F_outsideHead_q
      have F_codePoints_b73 := F_codePoints_q
      have F_columnsOf_b73 := F_columnsOf_q
      have F_rows_b73 := F_rows_q
      have F_matches_b73 := F_matches_q
      obtain ⟨rf0, hrf0⟩ : ∃ z, z = own_r0k 2 bd (-1) (bd + 1) := ⟨_, rfl⟩
      replace V_ar := V_ar.fn (f' := fun y => .long (rf0 y)) (fun y hy => by rw [hrf0, hout])
      have hlv : (bnd + (1 : Int32)).toInt = ((bd + 1 : Nat) : Int) := by have q := own_addI hbd (show (1 : Int32).toInt = 1 from by decide) (by omega) (by omega); omega
      refine own_of (fun tgt kon => XS.astore X74.here hx rfl (hb hby at_118) rfl rfl (l' := #[iv p1, iv p2, iv p3, iv p4, iv p5, iv p6, iv (2 : Int32), iv br, iv bnd, iv (own_chr c1), iv (own_chr c2), iv (own_chr c3), iv (own_chr c4), rv b70, rv b73, uu, uu, uu, uu, uu, uu, uu, uu, uu, uu, uu, uu, uu, uu, uu]) rfl kon) ?_
      refine own_of (fun tgt kon => XS.aload X74.here hx rfl (hb hby at_120) rfl rfl kon) ?_
      refine own_of (fun tgt kon => XS.iconst X74.here hx rfl (hb hby at_122) kon) ?_
      refine own_of (fun tgt kon => XS.iload X74.here hx rfl (hb hby at_123) rfl kon) ?_
      refine own_of (fun tgt kon => XS.iload X74.here hx rfl (hb hby at_125) rfl kon) ?_
      show own_Wp _ _ _ _ (T74.setTop (mkF m 127 #[iv p1, iv p2, iv p3, iv p4, iv p5, iv p6, iv (2 : Int32), iv br, iv bnd, iv (own_chr c1), iv (own_chr c2), iv (own_chr c3), iv (own_chr c4), rv b70, rv b73, uu, uu, uu, uu, uu, uu, uu, uu, uu, uu, uu, uu, uu, uu, uu] [(.int br), (.int (own_chr c3)), (.int (1 : Int32)), (.ref b73)]))
      obtain ⟨RK1, hRK1, hSK1, hLK1, hBK1⟩ := htab c3
      obtain ⟨F1, hF1⟩ : ∃ z, z = own_F (co2 RK1) 0 (own_upTo (2 : Int32)) (-1) bd (fun d => rf0 (0 * (bd + 1) + d)) (fun d => rf0 (0 * (bd + 1) + d)) := ⟨_, rfl⟩
      refine own_callV X74 hx hZ (C := "com/example/close_words/closewords/BitRows") (y := (⟨"com/example/close_words/closewords/BitRows", "fill", "(IIZ)Z"⟩ : MethodName)) (a := b73) (argsL := [(.int (1 : Int32)), (.int (own_chr c3)), (.int br)]) (rest := []) (W := 0) hown (ow hw 47 rfl) (ow hw 48 rfl) (ow hw 50 rfl) (ow hw 49 rfl) (ow hw 7 rfl) (ow hw 51 rfl) (by decide) rfl E_b73 (rmro1 l Z a0 hw [] b73 (own_chr c3) br ac ao ar am cp2 co2 rf0 (fun _ => (0 : Int64)) F1 (bnd + (1 : Int32)) bnd (own_upTo (2 : Int32)) (-1) bd bd (3 * (bd + 1)) 3 RK1 T74.heap n0 Zs E_b73 F_columnsOf_b73 F_codePoints_b73 F_matches_b73 F_rows_b73 F_levels_b73 F_columns_b73 F_headBound_b73 F_outsideHead_b73 V_ac V_ao V_ar V_am ne_b73_ar ne_b73_am ne_ac_ar ne_ac_am ne_ao_ar ne_ao_am ne_am_ar g_ar g_am hlv hbd63 hbd hbd63 (by omega) (by decide) hRK1 hSK1 hLK1 (by rw [hF1]; rfl) (by intro d; rw [hF1]; exact own_F_succ _ _ _ _ _ _ _ d)) (by decide) (by decide) (by decide) (by decide) rfl (by rw [hml]; rfl) (lenOf own_pd5 rfl) rfl (by show 2 * 0 + _ ≤ _; exact Nat.le_of_eq rfl) (hb hby at_127) ?_
      rintro T75 L75 _ X75 ⟨rfl, N75q, Kq75, V_ar_q, V_am_q⟩
      have N75 := Fr.app N74 N75q
      show own_Wp _ _ _ _ (T75.setTop (mkF m 130 #[iv p1, iv p2, iv p3, iv p4, iv p5, iv p6, iv (2 : Int32), iv br, iv bnd, iv (own_chr c1), iv (own_chr c2), iv (own_chr c3), iv (own_chr c4), rv b70, rv b73, uu, uu, uu, uu, uu, uu, uu, uu, uu, uu, uu, uu, uu, uu, uu] [(.int (if F1 bd = 0 then 0 else 1))]))
      replace Zs := Nat.le_trans Zs Kq75.1
      replace E_b73 := E_b73.keep Kq75
      replace F_bound_b73 := F_bound_b73.keep Kq75 (ninS ne_b73_ar (ninS ne_b73_am nin0))
      replace F_headBound_b73 := F_headBound_b73.keep Kq75 (ninS ne_b73_ar (ninS ne_b73_am nin0))
      replace F_levels_b73 := F_levels_b73.keep Kq75 (ninS ne_b73_ar (ninS ne_b73_am nin0))
      replace F_columns_b73 := F_columns_b73.keep Kq75 (ninS ne_b73_ar (ninS ne_b73_am nin0))
      replace F_lastColumn_b73 := F_lastColumn_b73.keep Kq75 (ninS ne_b73_ar (ninS ne_b73_am nin0))
      replace F_outsideHead_b73 := F_outsideHead_b73.keep Kq75 (ninS ne_b73_ar (ninS ne_b73_am nin0))
      replace F_codePoints_b73 := F_codePoints_b73.keep Kq75 (ninS ne_b73_ar (ninS ne_b73_am nin0))
      replace F_columnsOf_b73 := F_columnsOf_b73.keep Kq75 (ninS ne_b73_ar (ninS ne_b73_am nin0))
      replace F_rows_b73 := F_rows_b73.keep Kq75 (ninS ne_b73_ar (ninS ne_b73_am nin0))
      replace F_matches_b73 := F_matches_b73.keep Kq75 (ninS ne_b73_ar (ninS ne_b73_am nin0))
      replace V_ac := V_ac.keep Kq75 (ninS ne_ac_ar (ninS ne_ac_am nin0))
      replace V_ao := V_ao.keep Kq75 (ninS ne_ao_ar (ninS ne_ao_am nin0))
      obtain ⟨rf1, hrf1⟩ : ∃ z, z = own_rk rf0 (1 * (bd + 1)) F1 (bd + 1) := ⟨_, rfl⟩
      have V_ar := V_ar_q.fn (f' := fun y => .long (rf1 y)) (fun y hy => by rw [hrf1])
      have V_am := V_am_q
      refine own_of (fun tgt kon => XS.pop X75.here hx rfl (hb hby at_130) rfl rfl kon) ?_
      refine own_of (fun tgt kon => XS.aload X75.here hx rfl (hb hby at_131) rfl rfl kon) ?_
      refine own_of (fun tgt kon => XS.iconst X75.here hx rfl (hb hby at_133) kon) ?_
      refine own_of (fun tgt kon => XS.iload X75.here hx rfl (hb hby at_134) rfl kon) ?_
      refine own_of (fun tgt kon => XS.iload X75.here hx rfl (hb hby at_136) rfl kon) ?_
      show own_Wp _ _ _ _ (T75.setTop (mkF m 138 #[iv p1, iv p2, iv p3, iv p4, iv p5, iv p6, iv (2 : Int32), iv br, iv bnd, iv (own_chr c1), iv (own_chr c2), iv (own_chr c3), iv (own_chr c4), rv b70, rv b73, uu, uu, uu, uu, uu, uu, uu, uu, uu, uu, uu, uu, uu, uu, uu] [(.int br), (.int (own_chr c4)), (.int (2 : Int32)), (.ref b73)]))
      obtain ⟨RK2, hRK2, hSK2, hLK2, hBK2⟩ := htab c4
      obtain ⟨F2, hF2⟩ : ∃ z, z = own_F (co2 RK2) (((co2 RK2) <<< ((1 : Int32) &&& 0x3f).toInt64) &&& (co2 RK1)) (own_upTo (2 : Int32)) (-1) bd (fun d => rf1 (1 * (bd + 1) + d)) (fun d => rf1 (0 * (bd + 1) + d)) := ⟨_, rfl⟩
      refine own_callV X75 hx hZ (C := "com/example/close_words/closewords/BitRows") (y := (⟨"com/example/close_words/closewords/BitRows", "fill", "(IIZ)Z"⟩ : MethodName)) (a := b73) (argsL := [(.int (2 : Int32)), (.int (own_chr c4)), (.int br)]) (rest := []) (W := 0) hown (ow hw 47 rfl) (ow hw 48 rfl) (ow hw 50 rfl) (ow hw 49 rfl) (ow hw 7 rfl) (ow hw 51 rfl) (by decide) rfl E_b73 (rmro2 l Z a0 hw [] b73 (own_chr c4) br ac ao ar am cp2 co2 rf1 (own_upd (fun _ => (0 : Int64)) 1 (co2 RK1)) F2 (bnd + (1 : Int32)) bnd (own_upTo (2 : Int32)) (-1) bd bd (3 * (bd + 1)) 3 RK2 T75.heap n0 Zs E_b73 F_columnsOf_b73 F_codePoints_b73 F_matches_b73 F_rows_b73 F_levels_b73 F_columns_b73 F_headBound_b73 F_outsideHead_b73 V_ac V_ao V_ar V_am ne_b73_ar ne_b73_am ne_ac_ar ne_ac_am ne_ao_ar ne_ao_am ne_am_ar g_ar g_am hlv hbd63 hbd hbd63 (by omega) (by decide) hRK2 hSK2 hLK2 (by rw [hF2]; rfl) (by intro d; rw [hF2]; exact own_F_succ _ _ _ _ _ _ _ d)) (by decide) (by decide) (by decide) (by decide) rfl (by rw [hml]; rfl) (lenOf own_pd5 rfl) rfl (by show 2 * 0 + _ ≤ _; exact Nat.le_of_eq rfl) (hb hby at_138) ?_
      rintro T76 L76 _ X76 ⟨rfl, N76q, Kq76, V_ar_q, V_am_q⟩
      have N76 := Fr.app N75 N76q
      show own_Wp _ _ _ _ (T76.setTop (mkF m 141 #[iv p1, iv p2, iv p3, iv p4, iv p5, iv p6, iv (2 : Int32), iv br, iv bnd, iv (own_chr c1), iv (own_chr c2), iv (own_chr c3), iv (own_chr c4), rv b70, rv b73, uu, uu, uu, uu, uu, uu, uu, uu, uu, uu, uu, uu, uu, uu, uu] [(.int (if F2 bd = 0 then 0 else 1))]))
      replace Zs := Nat.le_trans Zs Kq76.1
      replace E_b73 := E_b73.keep Kq76
      replace F_bound_b73 := F_bound_b73.keep Kq76 (ninS ne_b73_ar (ninS ne_b73_am nin0))
      replace F_headBound_b73 := F_headBound_b73.keep Kq76 (ninS ne_b73_ar (ninS ne_b73_am nin0))
      replace F_levels_b73 := F_levels_b73.keep Kq76 (ninS ne_b73_ar (ninS ne_b73_am nin0))
      replace F_columns_b73 := F_columns_b73.keep Kq76 (ninS ne_b73_ar (ninS ne_b73_am nin0))
      replace F_lastColumn_b73 := F_lastColumn_b73.keep Kq76 (ninS ne_b73_ar (ninS ne_b73_am nin0))
      replace F_outsideHead_b73 := F_outsideHead_b73.keep Kq76 (ninS ne_b73_ar (ninS ne_b73_am nin0))
      replace F_codePoints_b73 := F_codePoints_b73.keep Kq76 (ninS ne_b73_ar (ninS ne_b73_am nin0))
      replace F_columnsOf_b73 := F_columnsOf_b73.keep Kq76 (ninS ne_b73_ar (ninS ne_b73_am nin0))
      replace F_rows_b73 := F_rows_b73.keep Kq76 (ninS ne_b73_ar (ninS ne_b73_am nin0))
      replace F_matches_b73 := F_matches_b73.keep Kq76 (ninS ne_b73_ar (ninS ne_b73_am nin0))
      replace V_ac := V_ac.keep Kq76 (ninS ne_ac_ar (ninS ne_ac_am nin0))
      replace V_ao := V_ao.keep Kq76 (ninS ne_ao_ar (ninS ne_ao_am nin0))
      obtain ⟨rf2, hrf2⟩ : ∃ z, z = own_rk rf1 (2 * (bd + 1)) F2 (bd + 1) := ⟨_, rfl⟩
      have V_ar := V_ar_q.fn (f' := fun y => .long (rf2 y)) (fun y hy => by rw [hrf2])
      have V_am := V_am_q
      refine own_of (fun tgt kon => XS.pop X76.here hx rfl (hb hby at_141) rfl rfl kon) ?_
      show own_Wp _ _ _ _ (T76.setTop (mkF m 142 #[iv p1, iv p2, iv p3, iv p4, iv p5, iv p6, iv (2 : Int32), iv br, iv bnd, iv (own_chr c1), iv (own_chr c2), iv (own_chr c3), iv (own_chr c4), rv b70, rv b73, uu, uu, uu, uu, uu, uu, uu, uu, uu, uu, uu, uu, uu, uu, uu] []))
      have hall := own_Bt_m1 (n := 2) (by decide) hbd63 (own_tt (own_chr c1) (own_chr c2) 0) (own_chr c3) (own_chr c4) hBK1 hBK2 (own_upTo (2 : Int32)) (own_Bt_cols (n := 2) (by decide)) rf0 F1 rf1 F2 rf2 hrf0 hF1 hrf1 hF2 hrf2
      obtain ⟨D0, hD0⟩ : ∃ z : Nat, z = own_id 2 := ⟨_, rfl⟩
      have hdd0 := own_dist (n := 2) (bd := bd) (B := 0 * (bd + 1)) (D := D0) (rf := rf2) (by decide) hbd63 (fun d hd => by rw [hall.1 d hd 2, hD0]; exact ⟨fun q => q.2, fun q => ⟨Nat.le_refl _, q⟩⟩)
      obtain ⟨D1, hD1⟩ : ∃ z : Nat, z = (own_rowN (fun j => decide ((own_tt (own_chr c1) (own_chr c2) 0) j = own_chr c3)) (fun _ => false) own_id own_id) 2 := ⟨_, rfl⟩
      have hdd1 := own_dist (n := 2) (bd := bd) (B := 1 * (bd + 1)) (D := D1) (rf := rf2) (by decide) hbd63 (fun d hd => by rw [hall.2.1 d hd 2, hD1]; exact ⟨fun q => q.2, fun q => ⟨Nat.le_refl _, q⟩⟩)
      obtain ⟨D2, hD2⟩ : ∃ z : Nat, z = (own_rowN (fun j => decide ((own_tt (own_chr c1) (own_chr c2) 0) j = own_chr c4)) (fun j => decide ((own_tt (own_chr c1) (own_chr c2) 0) (j - 1) = own_chr c4) && decide ((own_tt (own_chr c1) (own_chr c2) 0) j = own_chr c3)) (own_rowN (fun j => decide ((own_tt (own_chr c1) (own_chr c2) 0) j = own_chr c3)) (fun _ => false) own_id own_id) own_id) 2 := ⟨_, rfl⟩
      have hdd2 := own_dist (n := 2) (bd := bd) (B := 2 * (bd + 1)) (D := D2) (rf := rf2) (by decide) hbd63 (fun d hd => by rw [hall.2.2 d hd 2, hD2]; exact ⟨fun q => q.2, fun q => ⟨Nat.le_refl _, q⟩⟩)
      refine own_of (fun tgt kon => XS.aload X76.here hx rfl (hb hby at_142) rfl rfl kon) ?_
      refine own_of (fun tgt kon => XS.iconst X76.here hx rfl (hb hby at_144) kon) ?_
      refine own_callV X76 hx hZ (C := "com/example/close_words/closewords/BitRows") (y := (⟨"com/example/close_words/closewords/BitRows", "distance", "(I)I"⟩ : MethodName)) (a := b73) (argsL := [(.int (0 : Int32))]) (rest := []) (W := 0) hown (ow hw 56 rfl) (ow hw 57 rfl) (ow hw 59 rfl) (ow hw 58 rfl) (ow hw 7 rfl) (ow hw 60 rfl) (by decide) rfl E_b73 (rmdi0 l Z a0 hw [] b73 ar rf2 (bnd + (1 : Int32)) bnd ((1 : Int64) <<< ((2 : Int32) &&& 0x3f).toInt64) bd (3 * (bd + 1)) D0 (own_rD D0 bd) T76.heap n0 Zs F_levels_b73 F_rows_b73 F_bound_b73 F_lastColumn_b73 V_ar hlv hbd hbd63 (by omega) hdd0.1 hdd0.2.1 hdd0.2.2) (by decide) (by decide) (by decide) (by decide) rfl (by rw [hml]; rfl) (lenOf own_pd3 rfl) rfl (by show 2 * 0 + _ ≤ _; exact Nat.le_of_eq rfl) (hb hby at_145) ?_
      rintro T77 L77 _ X77 ⟨rfl, N77q, e77⟩
      have N77 := Fr.app N76 N77q
      show own_Wp _ _ _ _ (T77.setTop (mkF m 148 #[iv p1, iv p2, iv p3, iv p4, iv p5, iv p6, iv (2 : Int32), iv br, iv bnd, iv (own_chr c1), iv (own_chr c2), iv (own_chr c3), iv (own_chr c4), rv b70, rv b73, uu, uu, uu, uu, uu, uu, uu, uu, uu, uu, uu, uu, uu, uu, uu] [(.int (own_rD D0 bd))]))
      obtain ⟨r0, h_r0⟩ : ∃ q : Int32, q = (own_rD D0 bd) := ⟨_, rfl⟩
      rw [← h_r0]
      refine own_of (fun tgt kon => XS.istore X77.here hx rfl (hb hby at_148) rfl (l' := #[iv p1, iv p2, iv p3, iv p4, iv p5, iv p6, iv (2 : Int32), iv br, iv bnd, iv (own_chr c1), iv (own_chr c2), iv (own_chr c3), iv (own_chr c4), rv b70, rv b73, iv r0, uu, uu, uu, uu, uu, uu, uu, uu, uu, uu, uu, uu, uu, uu]) rfl kon) ?_
      refine own_of (fun tgt kon => XS.aload X77.here hx rfl (hb hby at_150) rfl rfl kon) ?_
      refine own_of (fun tgt kon => XS.iconst X77.here hx rfl (hb hby at_152) kon) ?_
      refine own_callV X77 hx hZ (C := "com/example/close_words/closewords/BitRows") (y := (⟨"com/example/close_words/closewords/BitRows", "distance", "(I)I"⟩ : MethodName)) (a := b73) (argsL := [(.int (1 : Int32))]) (rest := []) (W := 0) hown (ow hw 56 rfl) (ow hw 57 rfl) (ow hw 59 rfl) (ow hw 58 rfl) (ow hw 7 rfl) (ow hw 60 rfl) (by decide) e77 E_b73 (rmdi1 l Z a0 hw [] b73 ar rf2 (bnd + (1 : Int32)) bnd ((1 : Int64) <<< ((2 : Int32) &&& 0x3f).toInt64) bd (3 * (bd + 1)) D1 (own_rD D1 bd) T76.heap n0 Zs F_levels_b73 F_rows_b73 F_bound_b73 F_lastColumn_b73 V_ar hlv hbd hbd63 (by omega) hdd1.1 hdd1.2.1 hdd1.2.2) (by decide) (by decide) (by decide) (by decide) rfl (by rw [hml]; rfl) (lenOf own_pd3 rfl) rfl (by show 2 * 0 + _ ≤ _; exact Nat.le_of_eq rfl) (hb hby at_153) ?_
      rintro T78 L78 _ X78 ⟨rfl, N78q, e78⟩
      have N78 := Fr.app N77 N78q
      show own_Wp _ _ _ _ (T78.setTop (mkF m 156 #[iv p1, iv p2, iv p3, iv p4, iv p5, iv p6, iv (2 : Int32), iv br, iv bnd, iv (own_chr c1), iv (own_chr c2), iv (own_chr c3), iv (own_chr c4), rv b70, rv b73, iv r0, uu, uu, uu, uu, uu, uu, uu, uu, uu, uu, uu, uu, uu, uu] [(.int (own_rD D1 bd))]))
      obtain ⟨r1, h_r1⟩ : ∃ q : Int32, q = (own_rD D1 bd) := ⟨_, rfl⟩
      rw [← h_r1]
      refine own_of (fun tgt kon => XS.istore X78.here hx rfl (hb hby at_156) rfl (l' := #[iv p1, iv p2, iv p3, iv p4, iv p5, iv p6, iv (2 : Int32), iv br, iv bnd, iv (own_chr c1), iv (own_chr c2), iv (own_chr c3), iv (own_chr c4), rv b70, rv b73, iv r0, iv r1, uu, uu, uu, uu, uu, uu, uu, uu, uu, uu, uu, uu, uu]) rfl kon) ?_
      refine own_of (fun tgt kon => XS.aload X78.here hx rfl (hb hby at_158) rfl rfl kon) ?_
      refine own_of (fun tgt kon => XS.iconst X78.here hx rfl (hb hby at_160) kon) ?_
      refine own_callV X78 hx hZ (C := "com/example/close_words/closewords/BitRows") (y := (⟨"com/example/close_words/closewords/BitRows", "distance", "(I)I"⟩ : MethodName)) (a := b73) (argsL := [(.int (2 : Int32))]) (rest := []) (W := 0) hown (ow hw 56 rfl) (ow hw 57 rfl) (ow hw 59 rfl) (ow hw 58 rfl) (ow hw 7 rfl) (ow hw 60 rfl) (by decide) e78 E_b73 (rmdi2 l Z a0 hw [] b73 ar rf2 (bnd + (1 : Int32)) bnd ((1 : Int64) <<< ((2 : Int32) &&& 0x3f).toInt64) bd (3 * (bd + 1)) D2 (own_rD D2 bd) T76.heap n0 Zs F_levels_b73 F_rows_b73 F_bound_b73 F_lastColumn_b73 V_ar hlv hbd hbd63 (by omega) hdd2.1 hdd2.2.1 hdd2.2.2) (by decide) (by decide) (by decide) (by decide) rfl (by rw [hml]; rfl) (lenOf own_pd3 rfl) rfl (by show 2 * 0 + _ ≤ _; exact Nat.le_of_eq rfl) (hb hby at_161) ?_
      rintro T79 L79 _ X79 ⟨rfl, N79q, e79⟩
      have N79 := Fr.app N78 N79q
      show own_Wp _ _ _ _ (T79.setTop (mkF m 164 #[iv p1, iv p2, iv p3, iv p4, iv p5, iv p6, iv (2 : Int32), iv br, iv bnd, iv (own_chr c1), iv (own_chr c2), iv (own_chr c3), iv (own_chr c4), rv b70, rv b73, iv r0, iv r1, uu, uu, uu, uu, uu, uu, uu, uu, uu, uu, uu, uu, uu] [(.int (own_rD D2 bd))]))
      obtain ⟨r2, h_r2⟩ : ∃ q : Int32, q = (own_rD D2 bd) := ⟨_, rfl⟩
      rw [← h_r2]
      refine own_of (fun tgt kon => XS.istore X79.here hx rfl (hb hby at_164) rfl (l' := #[iv p1, iv p2, iv p3, iv p4, iv p5, iv p6, iv (2 : Int32), iv br, iv bnd, iv (own_chr c1), iv (own_chr c2), iv (own_chr c3), iv (own_chr c4), rv b70, rv b73, iv r0, iv r1, iv r2, uu, uu, uu, uu, uu, uu, uu, uu, uu, uu, uu, uu]) rfl kon) ?_
      refine own_of (fun tgt kon => XS.iconst X79.here hx rfl (hb hby at_166) kon) ?_
      refine own_of (fun tgt kon => XS.istore X79.here hx rfl (hb hby at_167) rfl (l' := #[iv p1, iv p2, iv p3, iv p4, iv p5, iv p6, iv (2 : Int32), iv br, iv bnd, iv (own_chr c1), iv (own_chr c2), iv (own_chr c3), iv (own_chr c4), rv b70, rv b73, iv r0, iv r1, iv r2, iv (0 : Int32), uu, uu, uu, uu, uu, uu, uu, uu, uu, uu, uu]) rfl kon) ?_
      refine own_of (fun tgt kon => XS.iconst X79.here hx rfl (hb hby at_169) kon) ?_
      refine own_of (fun tgt kon => XS.istore X79.here hx rfl (hb hby at_170) rfl (l' := #[iv p1, iv p2, iv p3, iv p4, iv p5, iv p6, iv (2 : Int32), iv br, iv bnd, iv (own_chr c1), iv (own_chr c2), iv (own_chr c3), iv (own_chr c4), rv b70, rv b73, iv r0, iv r1, iv r2, iv (0 : Int32), iv (1 : Int32), uu, uu, uu, uu, uu, uu, uu, uu, uu, uu]) rfl kon) ?_
      show own_Wp _ _ _ _ (T79.setTop (mkF m 172 #[iv p1, iv p2, iv p3, iv p4, iv p5, iv p6, iv (2 : Int32), iv br, iv bnd, iv (own_chr c1), iv (own_chr c2), iv (own_chr c3), iv (own_chr c4), rv b70, rv b73, iv r0, iv r1, iv r2, iv (0 : Int32), iv (1 : Int32), uu, uu, uu, uu, uu, uu, uu, uu, uu, uu] []))
      refine own_of (fun tgt kon => XS.iconst X79.here hx rfl (hb hby at_172) kon) ?_
      refine own_of (fun tgt kon => XS.istore X79.here hx rfl (hb hby at_173) rfl (l' := #[iv p1, iv p2, iv p3, iv p4, iv p5, iv p6, iv (2 : Int32), iv br, iv bnd, iv (own_chr c1), iv (own_chr c2), iv (own_chr c3), iv (own_chr c4), rv b70, rv b73, iv r0, iv r1, iv r2, iv (0 : Int32), iv (1 : Int32), iv (2 : Int32), uu, uu, uu, uu, uu, uu, uu, uu, uu]) rfl kon) ?_
      refine own_of (fun tgt kon => XS.iconst X79.here hx rfl (hb hby at_175) kon) ?_
      refine own_of (fun tgt kon => XS.istore X79.here hx rfl (hb hby at_176) rfl (l' := #[iv p1, iv p2, iv p3, iv p4, iv p5, iv p6, iv (2 : Int32), iv br, iv bnd, iv (own_chr c1), iv (own_chr c2), iv (own_chr c3), iv (own_chr c4), rv b70, rv b73, iv r0, iv r1, iv r2, iv (0 : Int32), iv (1 : Int32), iv (2 : Int32), iv (1 : Int32), uu, uu, uu, uu, uu, uu, uu, uu]) rfl kon) ?_
      refine own_of (fun tgt kon => XS.iconst X79.here hx rfl (hb hby at_178) kon) ?_
      show own_Wp _ _ _ _ (T79.setTop (mkF m 179 #[iv p1, iv p2, iv p3, iv p4, iv p5, iv p6, iv (2 : Int32), iv br, iv bnd, iv (own_chr c1), iv (own_chr c2), iv (own_chr c3), iv (own_chr c4), rv b70, rv b73, iv r0, iv r1, iv r2, iv (0 : Int32), iv (1 : Int32), iv (2 : Int32), iv (1 : Int32), uu, uu, uu, uu, uu, uu, uu, uu] [(.int (2 : Int32))]))
      refine own_of (fun tgt kon => XS.istore X79.here hx rfl (hb hby at_179) rfl (l' := #[iv p1, iv p2, iv p3, iv p4, iv p5, iv p6, iv (2 : Int32), iv br, iv bnd, iv (own_chr c1), iv (own_chr c2), iv (own_chr c3), iv (own_chr c4), rv b70, rv b73, iv r0, iv r1, iv r2, iv (0 : Int32), iv (1 : Int32), iv (2 : Int32), iv (1 : Int32), iv (2 : Int32), uu, uu, uu, uu, uu, uu, uu]) rfl kon) ?_
      refine own_of (fun tgt kon => XS.iload X79.here hx rfl (hb hby at_181) rfl kon) ?_
      refine own_of (fun tgt kon => XS.iload X79.here hx rfl (hb hby at_183) rfl kon) ?_
      refine own_callS X79 hx hZ (y := (⟨"java/lang/Math", "min", "(II)I"⟩ : MethodName)) (argsL := [(.int (1 : Int32)), (.int (1 : Int32))]) (rest := []) (W := 0) hown (ow hw 61 rfl) (ow hw 44 rfl) (ow hw 45 rfl) (ow hw 46 rfl) (by decide) e79 (rmmin l Z a0 hw [] (1 : Int32) (1 : Int32) T76.heap n0 Zs) (by decide) (by decide) (by decide) (by decide) rfl (by rw [hml]; rfl) (lenOf own_pd2 rfl) rfl (by show 2 * 0 + _ ≤ _; exact Nat.le_of_eq rfl) (hb hby at_185) ?_
      rintro T80 L80 _ X80 ⟨rfl, N80q, e80⟩
      have N80 := Fr.app N79 N80q
      show own_Wp _ _ _ _ (T80.setTop (mkF m 188 #[iv p1, iv p2, iv p3, iv p4, iv p5, iv p6, iv (2 : Int32), iv br, iv bnd, iv (own_chr c1), iv (own_chr c2), iv (own_chr c3), iv (own_chr c4), rv b70, rv b73, iv r0, iv r1, iv r2, iv (0 : Int32), iv (1 : Int32), iv (2 : Int32), iv (1 : Int32), iv (2 : Int32), uu, uu, uu, uu, uu, uu, uu] [(.int (own_mni (1 : Int32) (1 : Int32)))]))
      refine own_of (fun tgt kon => XS.iconst X80.here hx rfl (hb hby at_188) kon) ?_
      refine own_of (fun tgt kon => XS.iadd X80.here hx rfl (hb hby at_189) rfl kon) ?_
      refine own_of (fun tgt kon => XS.iload X80.here hx rfl (hb hby at_190) rfl kon) ?_
      refine own_of (fun tgt kon => XS.iload X80.here hx rfl (hb hby at_192) rfl kon) ?_
      refine own_of (fun tgt kon => XS.iload X80.here hx rfl (hb hby at_194) rfl kon) ?_
      show own_Wp _ _ _ _ (T80.setTop (mkF m 196 #[iv p1, iv p2, iv p3, iv p4, iv p5, iv p6, iv (2 : Int32), iv br, iv bnd, iv (own_chr c1), iv (own_chr c2), iv (own_chr c3), iv (own_chr c4), rv b70, rv b73, iv r0, iv r1, iv r2, iv (0 : Int32), iv (1 : Int32), iv (2 : Int32), iv (1 : Int32), iv (2 : Int32), uu, uu, uu, uu, uu, uu, uu] [(.int (own_chr c1)), (.int (own_chr c3)), (.int (0 : Int32)), (.int ((own_mni (1 : Int32) (1 : Int32)) + (1 : Int32)))]))
      refine own_callS X80 hx hZ (y := (⟨"com/example/close_words/closewords/BitRowsDistancePinLaw", "eq", "(II)I"⟩ : MethodName)) (argsL := [(.int (own_chr c3)), (.int (own_chr c1))]) (rest := [(.int (0 : Int32)), (.int ((own_mni (1 : Int32) (1 : Int32)) + (1 : Int32)))]) (W := 2) hown (ow hw 62 rfl) (ow hw 63 rfl) (ow hw 2 rfl) (ow hw 64 rfl) (by decide) e80 (rmeq l Z a0 hw [] (own_chr c3) (own_chr c1) T76.heap n0 Zs) (by decide) (by decide) (by decide) (by decide) rfl (by rw [hml]; rfl) (lenOf own_pd2 rfl) rfl (by show 2 * 0 + _ ≤ _; exact Nat.le_of_eq rfl) (hb hby at_196) ?_
      rintro T81 L81 _ X81 ⟨rfl, N81q, e81⟩
      have N81 := Fr.app N80 N81q
      show own_Wp _ _ _ _ (T81.setTop (mkF m 199 #[iv p1, iv p2, iv p3, iv p4, iv p5, iv p6, iv (2 : Int32), iv br, iv bnd, iv (own_chr c1), iv (own_chr c2), iv (own_chr c3), iv (own_chr c4), rv b70, rv b73, iv r0, iv r1, iv r2, iv (0 : Int32), iv (1 : Int32), iv (2 : Int32), iv (1 : Int32), iv (2 : Int32), uu, uu, uu, uu, uu, uu, uu] [(.int (own_eqv (own_chr c3) (own_chr c1))), (.int (0 : Int32)), (.int ((own_mni (1 : Int32) (1 : Int32)) + (1 : Int32)))]))
      refine own_of (fun tgt kon => XS.iadd X81.here hx rfl (hb hby at_199) rfl kon) ?_
      refine own_callS X81 hx hZ (y := (⟨"java/lang/Math", "min", "(II)I"⟩ : MethodName)) (argsL := [(.int ((own_mni (1 : Int32) (1 : Int32)) + (1 : Int32))), (.int ((0 : Int32) + (own_eqv (own_chr c3) (own_chr c1))))]) (rest := []) (W := 0) hown (ow hw 61 rfl) (ow hw 44 rfl) (ow hw 45 rfl) (ow hw 46 rfl) (by decide) e81 (rmmin l Z a0 hw [] ((own_mni (1 : Int32) (1 : Int32)) + (1 : Int32)) ((0 : Int32) + (own_eqv (own_chr c3) (own_chr c1))) T76.heap n0 Zs) (by decide) (by decide) (by decide) (by decide) rfl (by rw [hml]; rfl) (lenOf own_pd2 rfl) rfl (by show 2 * 0 + _ ≤ _; exact Nat.le_of_eq rfl) (hb hby at_200) ?_
      rintro T82 L82 _ X82 ⟨rfl, N82q, e82⟩
      have N82 := Fr.app N81 N82q
      show own_Wp _ _ _ _ (T82.setTop (mkF m 203 #[iv p1, iv p2, iv p3, iv p4, iv p5, iv p6, iv (2 : Int32), iv br, iv bnd, iv (own_chr c1), iv (own_chr c2), iv (own_chr c3), iv (own_chr c4), rv b70, rv b73, iv r0, iv r1, iv r2, iv (0 : Int32), iv (1 : Int32), iv (2 : Int32), iv (1 : Int32), iv (2 : Int32), uu, uu, uu, uu, uu, uu, uu] [(.int (own_mni ((own_mni (1 : Int32) (1 : Int32)) + (1 : Int32)) ((0 : Int32) + (own_eqv (own_chr c3) (own_chr c1)))))]))
      obtain ⟨d11, h_d11⟩ : ∃ q : Int32, q = (own_mni ((own_mni (1 : Int32) (1 : Int32)) + (1 : Int32)) ((0 : Int32) + (own_eqv (own_chr c3) (own_chr c1)))) := ⟨_, rfl⟩
      rw [← h_d11]
      refine own_of (fun tgt kon => XS.istore X82.here hx rfl (hb hby at_203) rfl (l' := #[iv p1, iv p2, iv p3, iv p4, iv p5, iv p6, iv (2 : Int32), iv br, iv bnd, iv (own_chr c1), iv (own_chr c2), iv (own_chr c3), iv (own_chr c4), rv b70, rv b73, iv r0, iv r1, iv r2, iv (0 : Int32), iv (1 : Int32), iv (2 : Int32), iv (1 : Int32), iv (2 : Int32), iv d11, uu, uu, uu, uu, uu, uu]) rfl kon) ?_
      refine own_of (fun tgt kon => XS.iload X82.here hx rfl (hb hby at_205) rfl kon) ?_
      refine own_of (fun tgt kon => XS.iload X82.here hx rfl (hb hby at_207) rfl kon) ?_
      refine own_callS X82 hx hZ (y := (⟨"java/lang/Math", "min", "(II)I"⟩ : MethodName)) (argsL := [(.int (2 : Int32)), (.int d11)]) (rest := []) (W := 0) hown (ow hw 61 rfl) (ow hw 44 rfl) (ow hw 45 rfl) (ow hw 46 rfl) (by decide) e82 (rmmin l Z a0 hw [] (2 : Int32) d11 T76.heap n0 Zs) (by decide) (by decide) (by decide) (by decide) rfl (by rw [hml]; rfl) (lenOf own_pd2 rfl) rfl (by show 2 * 0 + _ ≤ _; exact Nat.le_of_eq rfl) (hb hby at_209) ?_
      rintro T83 L83 _ X83 ⟨rfl, N83q, e83⟩
      have N83 := Fr.app N82 N83q
      show own_Wp _ _ _ _ (T83.setTop (mkF m 212 #[iv p1, iv p2, iv p3, iv p4, iv p5, iv p6, iv (2 : Int32), iv br, iv bnd, iv (own_chr c1), iv (own_chr c2), iv (own_chr c3), iv (own_chr c4), rv b70, rv b73, iv r0, iv r1, iv r2, iv (0 : Int32), iv (1 : Int32), iv (2 : Int32), iv (1 : Int32), iv (2 : Int32), iv d11, uu, uu, uu, uu, uu, uu] [(.int (own_mni (2 : Int32) d11))]))
      refine own_of (fun tgt kon => XS.iconst X83.here hx rfl (hb hby at_212) kon) ?_
      refine own_of (fun tgt kon => XS.iadd X83.here hx rfl (hb hby at_213) rfl kon) ?_
      refine own_of (fun tgt kon => XS.iload X83.here hx rfl (hb hby at_214) rfl kon) ?_
      refine own_of (fun tgt kon => XS.iload X83.here hx rfl (hb hby at_216) rfl kon) ?_
      refine own_of (fun tgt kon => XS.iload X83.here hx rfl (hb hby at_218) rfl kon) ?_
      show own_Wp _ _ _ _ (T83.setTop (mkF m 220 #[iv p1, iv p2, iv p3, iv p4, iv p5, iv p6, iv (2 : Int32), iv br, iv bnd, iv (own_chr c1), iv (own_chr c2), iv (own_chr c3), iv (own_chr c4), rv b70, rv b73, iv r0, iv r1, iv r2, iv (0 : Int32), iv (1 : Int32), iv (2 : Int32), iv (1 : Int32), iv (2 : Int32), iv d11, uu, uu, uu, uu, uu, uu] [(.int (own_chr c2)), (.int (own_chr c3)), (.int (1 : Int32)), (.int ((own_mni (2 : Int32) d11) + (1 : Int32)))]))
      refine own_callS X83 hx hZ (y := (⟨"com/example/close_words/closewords/BitRowsDistancePinLaw", "eq", "(II)I"⟩ : MethodName)) (argsL := [(.int (own_chr c3)), (.int (own_chr c2))]) (rest := [(.int (1 : Int32)), (.int ((own_mni (2 : Int32) d11) + (1 : Int32)))]) (W := 2) hown (ow hw 62 rfl) (ow hw 63 rfl) (ow hw 2 rfl) (ow hw 64 rfl) (by decide) e83 (rmeq l Z a0 hw [] (own_chr c3) (own_chr c2) T76.heap n0 Zs) (by decide) (by decide) (by decide) (by decide) rfl (by rw [hml]; rfl) (lenOf own_pd2 rfl) rfl (by show 2 * 0 + _ ≤ _; exact Nat.le_of_eq rfl) (hb hby at_220) ?_
      rintro T84 L84 _ X84 ⟨rfl, N84q, e84⟩
      have N84 := Fr.app N83 N84q
      show own_Wp _ _ _ _ (T84.setTop (mkF m 223 #[iv p1, iv p2, iv p3, iv p4, iv p5, iv p6, iv (2 : Int32), iv br, iv bnd, iv (own_chr c1), iv (own_chr c2), iv (own_chr c3), iv (own_chr c4), rv b70, rv b73, iv r0, iv r1, iv r2, iv (0 : Int32), iv (1 : Int32), iv (2 : Int32), iv (1 : Int32), iv (2 : Int32), iv d11, uu, uu, uu, uu, uu, uu] [(.int (own_eqv (own_chr c3) (own_chr c2))), (.int (1 : Int32)), (.int ((own_mni (2 : Int32) d11) + (1 : Int32)))]))
      refine own_of (fun tgt kon => XS.iadd X84.here hx rfl (hb hby at_223) rfl kon) ?_
      refine own_callS X84 hx hZ (y := (⟨"java/lang/Math", "min", "(II)I"⟩ : MethodName)) (argsL := [(.int ((own_mni (2 : Int32) d11) + (1 : Int32))), (.int ((1 : Int32) + (own_eqv (own_chr c3) (own_chr c2))))]) (rest := []) (W := 0) hown (ow hw 61 rfl) (ow hw 44 rfl) (ow hw 45 rfl) (ow hw 46 rfl) (by decide) e84 (rmmin l Z a0 hw [] ((own_mni (2 : Int32) d11) + (1 : Int32)) ((1 : Int32) + (own_eqv (own_chr c3) (own_chr c2))) T76.heap n0 Zs) (by decide) (by decide) (by decide) (by decide) rfl (by rw [hml]; rfl) (lenOf own_pd2 rfl) rfl (by show 2 * 0 + _ ≤ _; exact Nat.le_of_eq rfl) (hb hby at_224) ?_
      rintro T85 L85 _ X85 ⟨rfl, N85q, e85⟩
      have N85 := Fr.app N84 N85q
      show own_Wp _ _ _ _ (T85.setTop (mkF m 227 #[iv p1, iv p2, iv p3, iv p4, iv p5, iv p6, iv (2 : Int32), iv br, iv bnd, iv (own_chr c1), iv (own_chr c2), iv (own_chr c3), iv (own_chr c4), rv b70, rv b73, iv r0, iv r1, iv r2, iv (0 : Int32), iv (1 : Int32), iv (2 : Int32), iv (1 : Int32), iv (2 : Int32), iv d11, uu, uu, uu, uu, uu, uu] [(.int (own_mni ((own_mni (2 : Int32) d11) + (1 : Int32)) ((1 : Int32) + (own_eqv (own_chr c3) (own_chr c2)))))]))
      obtain ⟨d12, h_d12⟩ : ∃ q : Int32, q = (own_mni ((own_mni (2 : Int32) d11) + (1 : Int32)) ((1 : Int32) + (own_eqv (own_chr c3) (own_chr c2)))) := ⟨_, rfl⟩
      rw [← h_d12]
      refine own_of (fun tgt kon => XS.istore X85.here hx rfl (hb hby at_227) rfl (l' := #[iv p1, iv p2, iv p3, iv p4, iv p5, iv p6, iv (2 : Int32), iv br, iv bnd, iv (own_chr c1), iv (own_chr c2), iv (own_chr c3), iv (own_chr c4), rv b70, rv b73, iv r0, iv r1, iv r2, iv (0 : Int32), iv (1 : Int32), iv (2 : Int32), iv (1 : Int32), iv (2 : Int32), iv d11, iv d12, uu, uu, uu, uu, uu]) rfl kon) ?_
      refine own_of (fun tgt kon => XS.iload X85.here hx rfl (hb hby at_229) rfl kon) ?_
      refine own_of (fun tgt kon => XS.iload X85.here hx rfl (hb hby at_231) rfl kon) ?_
      refine own_callS X85 hx hZ (y := (⟨"java/lang/Math", "min", "(II)I"⟩ : MethodName)) (argsL := [(.int d11), (.int (2 : Int32))]) (rest := []) (W := 0) hown (ow hw 61 rfl) (ow hw 44 rfl) (ow hw 45 rfl) (ow hw 46 rfl) (by decide) e85 (rmmin l Z a0 hw [] d11 (2 : Int32) T76.heap n0 Zs) (by decide) (by decide) (by decide) (by decide) rfl (by rw [hml]; rfl) (lenOf own_pd2 rfl) rfl (by show 2 * 0 + _ ≤ _; exact Nat.le_of_eq rfl) (hb hby at_233) ?_
      rintro T86 L86 _ X86 ⟨rfl, N86q, e86⟩
      have N86 := Fr.app N85 N86q
      show own_Wp _ _ _ _ (T86.setTop (mkF m 236 #[iv p1, iv p2, iv p3, iv p4, iv p5, iv p6, iv (2 : Int32), iv br, iv bnd, iv (own_chr c1), iv (own_chr c2), iv (own_chr c3), iv (own_chr c4), rv b70, rv b73, iv r0, iv r1, iv r2, iv (0 : Int32), iv (1 : Int32), iv (2 : Int32), iv (1 : Int32), iv (2 : Int32), iv d11, iv d12, uu, uu, uu, uu, uu] [(.int (own_mni d11 (2 : Int32)))]))
      refine own_of (fun tgt kon => XS.iconst X86.here hx rfl (hb hby at_236) kon) ?_
      refine own_of (fun tgt kon => XS.iadd X86.here hx rfl (hb hby at_237) rfl kon) ?_
      refine own_of (fun tgt kon => XS.iload X86.here hx rfl (hb hby at_238) rfl kon) ?_
      refine own_of (fun tgt kon => XS.iload X86.here hx rfl (hb hby at_240) rfl kon) ?_
      refine own_of (fun tgt kon => XS.iload X86.here hx rfl (hb hby at_242) rfl kon) ?_
      show own_Wp _ _ _ _ (T86.setTop (mkF m 244 #[iv p1, iv p2, iv p3, iv p4, iv p5, iv p6, iv (2 : Int32), iv br, iv bnd, iv (own_chr c1), iv (own_chr c2), iv (own_chr c3), iv (own_chr c4), rv b70, rv b73, iv r0, iv r1, iv r2, iv (0 : Int32), iv (1 : Int32), iv (2 : Int32), iv (1 : Int32), iv (2 : Int32), iv d11, iv d12, uu, uu, uu, uu, uu] [(.int (own_chr c1)), (.int (own_chr c4)), (.int (1 : Int32)), (.int ((own_mni d11 (2 : Int32)) + (1 : Int32)))]))
      refine own_callS X86 hx hZ (y := (⟨"com/example/close_words/closewords/BitRowsDistancePinLaw", "eq", "(II)I"⟩ : MethodName)) (argsL := [(.int (own_chr c4)), (.int (own_chr c1))]) (rest := [(.int (1 : Int32)), (.int ((own_mni d11 (2 : Int32)) + (1 : Int32)))]) (W := 2) hown (ow hw 62 rfl) (ow hw 63 rfl) (ow hw 2 rfl) (ow hw 64 rfl) (by decide) e86 (rmeq l Z a0 hw [] (own_chr c4) (own_chr c1) T76.heap n0 Zs) (by decide) (by decide) (by decide) (by decide) rfl (by rw [hml]; rfl) (lenOf own_pd2 rfl) rfl (by show 2 * 0 + _ ≤ _; exact Nat.le_of_eq rfl) (hb hby at_244) ?_
      rintro T87 L87 _ X87 ⟨rfl, N87q, e87⟩
      have N87 := Fr.app N86 N87q
      show own_Wp _ _ _ _ (T87.setTop (mkF m 247 #[iv p1, iv p2, iv p3, iv p4, iv p5, iv p6, iv (2 : Int32), iv br, iv bnd, iv (own_chr c1), iv (own_chr c2), iv (own_chr c3), iv (own_chr c4), rv b70, rv b73, iv r0, iv r1, iv r2, iv (0 : Int32), iv (1 : Int32), iv (2 : Int32), iv (1 : Int32), iv (2 : Int32), iv d11, iv d12, uu, uu, uu, uu, uu] [(.int (own_eqv (own_chr c4) (own_chr c1))), (.int (1 : Int32)), (.int ((own_mni d11 (2 : Int32)) + (1 : Int32)))]))
      refine own_of (fun tgt kon => XS.iadd X87.here hx rfl (hb hby at_247) rfl kon) ?_
      refine own_callS X87 hx hZ (y := (⟨"java/lang/Math", "min", "(II)I"⟩ : MethodName)) (argsL := [(.int ((own_mni d11 (2 : Int32)) + (1 : Int32))), (.int ((1 : Int32) + (own_eqv (own_chr c4) (own_chr c1))))]) (rest := []) (W := 0) hown (ow hw 61 rfl) (ow hw 44 rfl) (ow hw 45 rfl) (ow hw 46 rfl) (by decide) e87 (rmmin l Z a0 hw [] ((own_mni d11 (2 : Int32)) + (1 : Int32)) ((1 : Int32) + (own_eqv (own_chr c4) (own_chr c1))) T76.heap n0 Zs) (by decide) (by decide) (by decide) (by decide) rfl (by rw [hml]; rfl) (lenOf own_pd2 rfl) rfl (by show 2 * 0 + _ ≤ _; exact Nat.le_of_eq rfl) (hb hby at_248) ?_
      rintro T88 L88 _ X88 ⟨rfl, N88q, e88⟩
      have N88 := Fr.app N87 N88q
      show own_Wp _ _ _ _ (T88.setTop (mkF m 251 #[iv p1, iv p2, iv p3, iv p4, iv p5, iv p6, iv (2 : Int32), iv br, iv bnd, iv (own_chr c1), iv (own_chr c2), iv (own_chr c3), iv (own_chr c4), rv b70, rv b73, iv r0, iv r1, iv r2, iv (0 : Int32), iv (1 : Int32), iv (2 : Int32), iv (1 : Int32), iv (2 : Int32), iv d11, iv d12, uu, uu, uu, uu, uu] [(.int (own_mni ((own_mni d11 (2 : Int32)) + (1 : Int32)) ((1 : Int32) + (own_eqv (own_chr c4) (own_chr c1)))))]))
      obtain ⟨d21, h_d21⟩ : ∃ q : Int32, q = (own_mni ((own_mni d11 (2 : Int32)) + (1 : Int32)) ((1 : Int32) + (own_eqv (own_chr c4) (own_chr c1)))) := ⟨_, rfl⟩
      rw [← h_d21]
      refine own_of (fun tgt kon => XS.istore X88.here hx rfl (hb hby at_251) rfl (l' := #[iv p1, iv p2, iv p3, iv p4, iv p5, iv p6, iv (2 : Int32), iv br, iv bnd, iv (own_chr c1), iv (own_chr c2), iv (own_chr c3), iv (own_chr c4), rv b70, rv b73, iv r0, iv r1, iv r2, iv (0 : Int32), iv (1 : Int32), iv (2 : Int32), iv (1 : Int32), iv (2 : Int32), iv d11, iv d12, iv d21, uu, uu, uu, uu]) rfl kon) ?_
      refine own_of (fun tgt kon => XS.iload X88.here hx rfl (hb hby at_253) rfl kon) ?_
      refine own_of (fun tgt kon => XS.iload X88.here hx rfl (hb hby at_255) rfl kon) ?_
      refine own_callS X88 hx hZ (y := (⟨"java/lang/Math", "min", "(II)I"⟩ : MethodName)) (argsL := [(.int d12), (.int d21)]) (rest := []) (W := 0) hown (ow hw 61 rfl) (ow hw 44 rfl) (ow hw 45 rfl) (ow hw 46 rfl) (by decide) e88 (rmmin l Z a0 hw [] d12 d21 T76.heap n0 Zs) (by decide) (by decide) (by decide) (by decide) rfl (by rw [hml]; rfl) (lenOf own_pd2 rfl) rfl (by show 2 * 0 + _ ≤ _; exact Nat.le_of_eq rfl) (hb hby at_257) ?_
      rintro T89 L89 _ X89 ⟨rfl, N89q, e89⟩
      have N89 := Fr.app N88 N89q
      show own_Wp _ _ _ _ (T89.setTop (mkF m 260 #[iv p1, iv p2, iv p3, iv p4, iv p5, iv p6, iv (2 : Int32), iv br, iv bnd, iv (own_chr c1), iv (own_chr c2), iv (own_chr c3), iv (own_chr c4), rv b70, rv b73, iv r0, iv r1, iv r2, iv (0 : Int32), iv (1 : Int32), iv (2 : Int32), iv (1 : Int32), iv (2 : Int32), iv d11, iv d12, iv d21, uu, uu, uu, uu] [(.int (own_mni d12 d21))]))
      refine own_of (fun tgt kon => XS.iconst X89.here hx rfl (hb hby at_260) kon) ?_
      refine own_of (fun tgt kon => XS.iadd X89.here hx rfl (hb hby at_261) rfl kon) ?_
      refine own_of (fun tgt kon => XS.iload X89.here hx rfl (hb hby at_262) rfl kon) ?_
      refine own_of (fun tgt kon => XS.iload X89.here hx rfl (hb hby at_264) rfl kon) ?_
      refine own_of (fun tgt kon => XS.iload X89.here hx rfl (hb hby at_266) rfl kon) ?_
      show own_Wp _ _ _ _ (T89.setTop (mkF m 268 #[iv p1, iv p2, iv p3, iv p4, iv p5, iv p6, iv (2 : Int32), iv br, iv bnd, iv (own_chr c1), iv (own_chr c2), iv (own_chr c3), iv (own_chr c4), rv b70, rv b73, iv r0, iv r1, iv r2, iv (0 : Int32), iv (1 : Int32), iv (2 : Int32), iv (1 : Int32), iv (2 : Int32), iv d11, iv d12, iv d21, uu, uu, uu, uu] [(.int (own_chr c2)), (.int (own_chr c4)), (.int d11), (.int ((own_mni d12 d21) + (1 : Int32)))]))
      refine own_callS X89 hx hZ (y := (⟨"com/example/close_words/closewords/BitRowsDistancePinLaw", "eq", "(II)I"⟩ : MethodName)) (argsL := [(.int (own_chr c4)), (.int (own_chr c2))]) (rest := [(.int d11), (.int ((own_mni d12 d21) + (1 : Int32)))]) (W := 2) hown (ow hw 62 rfl) (ow hw 63 rfl) (ow hw 2 rfl) (ow hw 64 rfl) (by decide) e89 (rmeq l Z a0 hw [] (own_chr c4) (own_chr c2) T76.heap n0 Zs) (by decide) (by decide) (by decide) (by decide) rfl (by rw [hml]; rfl) (lenOf own_pd2 rfl) rfl (by show 2 * 0 + _ ≤ _; exact Nat.le_of_eq rfl) (hb hby at_268) ?_
      rintro T90 L90 _ X90 ⟨rfl, N90q, e90⟩
      have N90 := Fr.app N89 N90q
      show own_Wp _ _ _ _ (T90.setTop (mkF m 271 #[iv p1, iv p2, iv p3, iv p4, iv p5, iv p6, iv (2 : Int32), iv br, iv bnd, iv (own_chr c1), iv (own_chr c2), iv (own_chr c3), iv (own_chr c4), rv b70, rv b73, iv r0, iv r1, iv r2, iv (0 : Int32), iv (1 : Int32), iv (2 : Int32), iv (1 : Int32), iv (2 : Int32), iv d11, iv d12, iv d21, uu, uu, uu, uu] [(.int (own_eqv (own_chr c4) (own_chr c2))), (.int d11), (.int ((own_mni d12 d21) + (1 : Int32)))]))
      refine own_of (fun tgt kon => XS.iadd X90.here hx rfl (hb hby at_271) rfl kon) ?_
      refine own_callS X90 hx hZ (y := (⟨"java/lang/Math", "min", "(II)I"⟩ : MethodName)) (argsL := [(.int ((own_mni d12 d21) + (1 : Int32))), (.int (d11 + (own_eqv (own_chr c4) (own_chr c2))))]) (rest := []) (W := 0) hown (ow hw 61 rfl) (ow hw 44 rfl) (ow hw 45 rfl) (ow hw 46 rfl) (by decide) e90 (rmmin l Z a0 hw [] ((own_mni d12 d21) + (1 : Int32)) (d11 + (own_eqv (own_chr c4) (own_chr c2))) T76.heap n0 Zs) (by decide) (by decide) (by decide) (by decide) rfl (by rw [hml]; rfl) (lenOf own_pd2 rfl) rfl (by show 2 * 0 + _ ≤ _; exact Nat.le_of_eq rfl) (hb hby at_272) ?_
      rintro T91 L91 _ X91 ⟨rfl, N91q, e91⟩
      have N91 := Fr.app N90 N91q
      show own_Wp _ _ _ _ (T91.setTop (mkF m 275 #[iv p1, iv p2, iv p3, iv p4, iv p5, iv p6, iv (2 : Int32), iv br, iv bnd, iv (own_chr c1), iv (own_chr c2), iv (own_chr c3), iv (own_chr c4), rv b70, rv b73, iv r0, iv r1, iv r2, iv (0 : Int32), iv (1 : Int32), iv (2 : Int32), iv (1 : Int32), iv (2 : Int32), iv d11, iv d12, iv d21, uu, uu, uu, uu] [(.int (own_mni ((own_mni d12 d21) + (1 : Int32)) (d11 + (own_eqv (own_chr c4) (own_chr c2)))))]))
      obtain ⟨d22, h_d22⟩ : ∃ q : Int32, q = (own_mni ((own_mni d12 d21) + (1 : Int32)) (d11 + (own_eqv (own_chr c4) (own_chr c2)))) := ⟨_, rfl⟩
      rw [← h_d22]
      refine own_of (fun tgt kon => XS.istore X91.here hx rfl (hb hby at_275) rfl (l' := #[iv p1, iv p2, iv p3, iv p4, iv p5, iv p6, iv (2 : Int32), iv br, iv bnd, iv (own_chr c1), iv (own_chr c2), iv (own_chr c3), iv (own_chr c4), rv b70, rv b73, iv r0, iv r1, iv r2, iv (0 : Int32), iv (1 : Int32), iv (2 : Int32), iv (1 : Int32), iv (2 : Int32), iv d11, iv d12, iv d21, iv d22, uu, uu, uu]) rfl kon) ?_
      refine own_of (fun tgt kon => XS.iload X91.here hx rfl (hb hby at_277) rfl kon) ?_
      refine own_of (fun tgt kon => XS.iload X91.here hx rfl (hb hby at_279) rfl kon) ?_
      show own_Wp _ _ _ _ (T91.setTop (mkF m 281 #[iv p1, iv p2, iv p3, iv p4, iv p5, iv p6, iv (2 : Int32), iv br, iv bnd, iv (own_chr c1), iv (own_chr c2), iv (own_chr c3), iv (own_chr c4), rv b70, rv b73, iv r0, iv r1, iv r2, iv (0 : Int32), iv (1 : Int32), iv (2 : Int32), iv (1 : Int32), iv (2 : Int32), iv d11, iv d12, iv d21, iv d22, uu, uu, uu] [(.int (own_chr c1)), (.int (own_chr c4))]))
      have J302 : ∀ (T92 : State) (lc92 : List Loc) (e22 : Int32), (Stand p l e room_1 s m #[(.int p1), (.int p2), (.int p3), (.int p4), (.int p5), (.int p6)] below meth c T92 lc92 6 528) → (T92.heap = T76.heap) → (Fr n0 lc92) → (e22 = if (own_chr c4) = (own_chr c1) ∧ (own_chr c3) = (own_chr c2) then own_mni d22 ((0 : Int32) + (1 : Int32)) else d22) → own_Wp p.tables e below (own_K room_1 s below (Q_rm0 Z p1 p2 p3 p4 p5 p6 h0 n0)) (T92.setTop (mkF m 302 #[iv p1, iv p2, iv p3, iv p4, iv p5, iv p6, iv (2 : Int32), iv br, iv bnd, iv (own_chr c1), iv (own_chr c2), iv (own_chr c3), iv (own_chr c4), rv b70, rv b73, iv r0, iv r1, iv r2, iv (0 : Int32), iv (1 : Int32), iv (2 : Int32), iv (1 : Int32), iv (2 : Int32), iv d11, iv d12, iv d21, iv e22, uu, uu, uu] [])) := by
        intro T92 lc92 e22 X92 e92 N92 h_e22
        have hf := own_m1f _ _ _ _ _ _ _ _ _ h_d11 h_d12 h_d21 h_d22 h_e22
        dsimp only at hf
        refine own_of (fun tgt kon => XS.iload X92.here hx rfl (hb hby at_302) rfl kon) ?_
        refine own_of (fun tgt kon => XS.iload X92.here hx rfl (hb hby at_304) rfl kon) ?_
        refine own_of (fun tgt kon => XS.iload X92.here hx rfl (hb hby at_306) rfl kon) ?_
        refine own_of (fun tgt kon => XS.iload X92.here hx rfl (hb hby at_308) rfl kon) ?_
        refine own_callS X92 hx hZ (y := (⟨"com/example/close_words/closewords/BitRowsDistancePinLaw", "pick", "(IIII)I"⟩ : MethodName)) (argsL := [(.int (2 : Int32)), (.int (0 : Int32)), (.int (1 : Int32)), (.int (2 : Int32))]) (rest := []) (W := 0) hown (ow hw 65 rfl) (ow hw 66 rfl) (ow hw 2 rfl) (ow hw 67 rfl) (by decide) e92 (rmpick l Z a0 hw [] (2 : Int32) (0 : Int32) (1 : Int32) (2 : Int32) T76.heap n0 Zs) (by decide) (by decide) (by decide) (by decide) rfl (by rw [hml]; rfl) (lenOf own_pd6 rfl) rfl (by show 2 * 0 + _ ≤ _; exact Nat.le_of_eq rfl) (hb hby at_310) ?_
        rintro T93 L93 _ X93 ⟨rfl, N93q, e93⟩
        have N93 := Fr.app N92 N93q
        show own_Wp _ _ _ _ (T93.setTop (mkF m 313 #[iv p1, iv p2, iv p3, iv p4, iv p5, iv p6, iv (2 : Int32), iv br, iv bnd, iv (own_chr c1), iv (own_chr c2), iv (own_chr c3), iv (own_chr c4), rv b70, rv b73, iv r0, iv r1, iv r2, iv (0 : Int32), iv (1 : Int32), iv (2 : Int32), iv (1 : Int32), iv (2 : Int32), iv d11, iv d12, iv d21, iv e22, uu, uu, uu] [(.int (own_pk (2 : Int32) (0 : Int32) (1 : Int32) (2 : Int32)))]))
        refine own_of (fun tgt kon => XS.iload X93.here hx rfl (hb hby at_313) rfl kon) ?_
        refine own_callS X93 hx hZ (y := (⟨"com/example/close_words/closewords/BitRowsDistancePinLaw", "cap", "(II)I"⟩ : MethodName)) (argsL := [(.int (own_pk (2 : Int32) (0 : Int32) (1 : Int32) (2 : Int32))), (.int bnd)]) (rest := []) (W := 0) hown (ow hw 68 rfl) (ow hw 69 rfl) (ow hw 2 rfl) (ow hw 70 rfl) (by decide) e93 (rmcap l Z a0 hw [] (own_pk (2 : Int32) (0 : Int32) (1 : Int32) (2 : Int32)) bnd T76.heap n0 Zs) (by decide) (by decide) (by decide) (by decide) rfl (by rw [hml]; rfl) (lenOf own_pd2 rfl) rfl (by show 2 * 0 + _ ≤ _; exact Nat.le_of_eq rfl) (hb hby at_315) ?_
        rintro T94 L94 _ X94 ⟨rfl, N94q, e94⟩
        have N94 := Fr.app N93 N94q
        show own_Wp _ _ _ _ (T94.setTop (mkF m 318 #[iv p1, iv p2, iv p3, iv p4, iv p5, iv p6, iv (2 : Int32), iv br, iv bnd, iv (own_chr c1), iv (own_chr c2), iv (own_chr c3), iv (own_chr c4), rv b70, rv b73, iv r0, iv r1, iv r2, iv (0 : Int32), iv (1 : Int32), iv (2 : Int32), iv (1 : Int32), iv (2 : Int32), iv d11, iv d12, iv d21, iv e22, uu, uu, uu] [(.int (own_cpI (own_pk (2 : Int32) (0 : Int32) (1 : Int32) (2 : Int32)) bnd))]))
        obtain ⟨e0, h_e0⟩ : ∃ q : Int32, q = (own_cpI (own_pk (2 : Int32) (0 : Int32) (1 : Int32) (2 : Int32)) bnd) := ⟨_, rfl⟩
        rw [← h_e0]
        refine own_of (fun tgt kon => XS.istore X94.here hx rfl (hb hby at_318) rfl (l' := #[iv p1, iv p2, iv p3, iv p4, iv p5, iv p6, iv (2 : Int32), iv br, iv bnd, iv (own_chr c1), iv (own_chr c2), iv (own_chr c3), iv (own_chr c4), rv b70, rv b73, iv r0, iv r1, iv r2, iv (0 : Int32), iv (1 : Int32), iv (2 : Int32), iv (1 : Int32), iv (2 : Int32), iv d11, iv d12, iv d21, iv e22, iv e0, uu, uu]) rfl kon) ?_
        refine own_of (fun tgt kon => XS.iload X94.here hx rfl (hb hby at_320) rfl kon) ?_
        refine own_of (fun tgt kon => XS.iload X94.here hx rfl (hb hby at_322) rfl kon) ?_
        refine own_of (fun tgt kon => XS.iload X94.here hx rfl (hb hby at_324) rfl kon) ?_
        refine own_of (fun tgt kon => XS.iload X94.here hx rfl (hb hby at_326) rfl kon) ?_
        show own_Wp _ _ _ _ (T94.setTop (mkF m 328 #[iv p1, iv p2, iv p3, iv p4, iv p5, iv p6, iv (2 : Int32), iv br, iv bnd, iv (own_chr c1), iv (own_chr c2), iv (own_chr c3), iv (own_chr c4), rv b70, rv b73, iv r0, iv r1, iv r2, iv (0 : Int32), iv (1 : Int32), iv (2 : Int32), iv (1 : Int32), iv (2 : Int32), iv d11, iv d12, iv d21, iv e22, iv e0, uu, uu] [(.int d12), (.int d11), (.int (1 : Int32)), (.int (2 : Int32))]))
        refine own_callS X94 hx hZ (y := (⟨"com/example/close_words/closewords/BitRowsDistancePinLaw", "pick", "(IIII)I"⟩ : MethodName)) (argsL := [(.int (2 : Int32)), (.int (1 : Int32)), (.int d11), (.int d12)]) (rest := []) (W := 0) hown (ow hw 65 rfl) (ow hw 66 rfl) (ow hw 2 rfl) (ow hw 67 rfl) (by decide) e94 (rmpick l Z a0 hw [] (2 : Int32) (1 : Int32) d11 d12 T76.heap n0 Zs) (by decide) (by decide) (by decide) (by decide) rfl (by rw [hml]; rfl) (lenOf own_pd6 rfl) rfl (by show 2 * 0 + _ ≤ _; exact Nat.le_of_eq rfl) (hb hby at_328) ?_
        rintro T95 L95 _ X95 ⟨rfl, N95q, e95⟩
        have N95 := Fr.app N94 N95q
        show own_Wp _ _ _ _ (T95.setTop (mkF m 331 #[iv p1, iv p2, iv p3, iv p4, iv p5, iv p6, iv (2 : Int32), iv br, iv bnd, iv (own_chr c1), iv (own_chr c2), iv (own_chr c3), iv (own_chr c4), rv b70, rv b73, iv r0, iv r1, iv r2, iv (0 : Int32), iv (1 : Int32), iv (2 : Int32), iv (1 : Int32), iv (2 : Int32), iv d11, iv d12, iv d21, iv e22, iv e0, uu, uu] [(.int (own_pk (2 : Int32) (1 : Int32) d11 d12))]))
        refine own_of (fun tgt kon => XS.iload X95.here hx rfl (hb hby at_331) rfl kon) ?_
        refine own_callS X95 hx hZ (y := (⟨"com/example/close_words/closewords/BitRowsDistancePinLaw", "cap", "(II)I"⟩ : MethodName)) (argsL := [(.int (own_pk (2 : Int32) (1 : Int32) d11 d12)), (.int bnd)]) (rest := []) (W := 0) hown (ow hw 68 rfl) (ow hw 69 rfl) (ow hw 2 rfl) (ow hw 70 rfl) (by decide) e95 (rmcap l Z a0 hw [] (own_pk (2 : Int32) (1 : Int32) d11 d12) bnd T76.heap n0 Zs) (by decide) (by decide) (by decide) (by decide) rfl (by rw [hml]; rfl) (lenOf own_pd2 rfl) rfl (by show 2 * 0 + _ ≤ _; exact Nat.le_of_eq rfl) (hb hby at_333) ?_
        rintro T96 L96 _ X96 ⟨rfl, N96q, e96⟩
        have N96 := Fr.app N95 N96q
        show own_Wp _ _ _ _ (T96.setTop (mkF m 336 #[iv p1, iv p2, iv p3, iv p4, iv p5, iv p6, iv (2 : Int32), iv br, iv bnd, iv (own_chr c1), iv (own_chr c2), iv (own_chr c3), iv (own_chr c4), rv b70, rv b73, iv r0, iv r1, iv r2, iv (0 : Int32), iv (1 : Int32), iv (2 : Int32), iv (1 : Int32), iv (2 : Int32), iv d11, iv d12, iv d21, iv e22, iv e0, uu, uu] [(.int (own_cpI (own_pk (2 : Int32) (1 : Int32) d11 d12) bnd))]))
        obtain ⟨e1, h_e1⟩ : ∃ q : Int32, q = (own_cpI (own_pk (2 : Int32) (1 : Int32) d11 d12) bnd) := ⟨_, rfl⟩
        rw [← h_e1]
        refine own_of (fun tgt kon => XS.istore X96.here hx rfl (hb hby at_336) rfl (l' := #[iv p1, iv p2, iv p3, iv p4, iv p5, iv p6, iv (2 : Int32), iv br, iv bnd, iv (own_chr c1), iv (own_chr c2), iv (own_chr c3), iv (own_chr c4), rv b70, rv b73, iv r0, iv r1, iv r2, iv (0 : Int32), iv (1 : Int32), iv (2 : Int32), iv (1 : Int32), iv (2 : Int32), iv d11, iv d12, iv d21, iv e22, iv e0, iv e1, uu]) rfl kon) ?_
        refine own_of (fun tgt kon => XS.iload X96.here hx rfl (hb hby at_338) rfl kon) ?_
        refine own_of (fun tgt kon => XS.iload X96.here hx rfl (hb hby at_340) rfl kon) ?_
        refine own_of (fun tgt kon => XS.iload X96.here hx rfl (hb hby at_342) rfl kon) ?_
        refine own_of (fun tgt kon => XS.iload X96.here hx rfl (hb hby at_344) rfl kon) ?_
        show own_Wp _ _ _ _ (T96.setTop (mkF m 346 #[iv p1, iv p2, iv p3, iv p4, iv p5, iv p6, iv (2 : Int32), iv br, iv bnd, iv (own_chr c1), iv (own_chr c2), iv (own_chr c3), iv (own_chr c4), rv b70, rv b73, iv r0, iv r1, iv r2, iv (0 : Int32), iv (1 : Int32), iv (2 : Int32), iv (1 : Int32), iv (2 : Int32), iv d11, iv d12, iv d21, iv e22, iv e0, iv e1, uu] [(.int e22), (.int d21), (.int (2 : Int32)), (.int (2 : Int32))]))
        refine own_callS X96 hx hZ (y := (⟨"com/example/close_words/closewords/BitRowsDistancePinLaw", "pick", "(IIII)I"⟩ : MethodName)) (argsL := [(.int (2 : Int32)), (.int (2 : Int32)), (.int d21), (.int e22)]) (rest := []) (W := 0) hown (ow hw 65 rfl) (ow hw 66 rfl) (ow hw 2 rfl) (ow hw 67 rfl) (by decide) e96 (rmpick l Z a0 hw [] (2 : Int32) (2 : Int32) d21 e22 T76.heap n0 Zs) (by decide) (by decide) (by decide) (by decide) rfl (by rw [hml]; rfl) (lenOf own_pd6 rfl) rfl (by show 2 * 0 + _ ≤ _; exact Nat.le_of_eq rfl) (hb hby at_346) ?_
        rintro T97 L97 _ X97 ⟨rfl, N97q, e97⟩
        have N97 := Fr.app N96 N97q
        show own_Wp _ _ _ _ (T97.setTop (mkF m 349 #[iv p1, iv p2, iv p3, iv p4, iv p5, iv p6, iv (2 : Int32), iv br, iv bnd, iv (own_chr c1), iv (own_chr c2), iv (own_chr c3), iv (own_chr c4), rv b70, rv b73, iv r0, iv r1, iv r2, iv (0 : Int32), iv (1 : Int32), iv (2 : Int32), iv (1 : Int32), iv (2 : Int32), iv d11, iv d12, iv d21, iv e22, iv e0, iv e1, uu] [(.int (own_pk (2 : Int32) (2 : Int32) d21 e22))]))
        refine own_of (fun tgt kon => XS.iload X97.here hx rfl (hb hby at_349) rfl kon) ?_
        refine own_callS X97 hx hZ (y := (⟨"com/example/close_words/closewords/BitRowsDistancePinLaw", "cap", "(II)I"⟩ : MethodName)) (argsL := [(.int (own_pk (2 : Int32) (2 : Int32) d21 e22)), (.int bnd)]) (rest := []) (W := 0) hown (ow hw 68 rfl) (ow hw 69 rfl) (ow hw 2 rfl) (ow hw 70 rfl) (by decide) e97 (rmcap l Z a0 hw [] (own_pk (2 : Int32) (2 : Int32) d21 e22) bnd T76.heap n0 Zs) (by decide) (by decide) (by decide) (by decide) rfl (by rw [hml]; rfl) (lenOf own_pd2 rfl) rfl (by show 2 * 0 + _ ≤ _; exact Nat.le_of_eq rfl) (hb hby at_351) ?_
        rintro T98 L98 _ X98 ⟨rfl, N98q, e98⟩
        have N98 := Fr.app N97 N98q
        show own_Wp _ _ _ _ (T98.setTop (mkF m 354 #[iv p1, iv p2, iv p3, iv p4, iv p5, iv p6, iv (2 : Int32), iv br, iv bnd, iv (own_chr c1), iv (own_chr c2), iv (own_chr c3), iv (own_chr c4), rv b70, rv b73, iv r0, iv r1, iv r2, iv (0 : Int32), iv (1 : Int32), iv (2 : Int32), iv (1 : Int32), iv (2 : Int32), iv d11, iv d12, iv d21, iv e22, iv e0, iv e1, uu] [(.int (own_cpI (own_pk (2 : Int32) (2 : Int32) d21 e22) bnd))]))
        obtain ⟨e2, h_e2⟩ : ∃ q : Int32, q = (own_cpI (own_pk (2 : Int32) (2 : Int32) d21 e22) bnd) := ⟨_, rfl⟩
        rw [← h_e2]
        refine own_of (fun tgt kon => XS.istore X98.here hx rfl (hb hby at_354) rfl (l' := #[iv p1, iv p2, iv p3, iv p4, iv p5, iv p6, iv (2 : Int32), iv br, iv bnd, iv (own_chr c1), iv (own_chr c2), iv (own_chr c3), iv (own_chr c4), rv b70, rv b73, iv r0, iv r1, iv r2, iv (0 : Int32), iv (1 : Int32), iv (2 : Int32), iv (1 : Int32), iv (2 : Int32), iv d11, iv d12, iv d21, iv e22, iv e0, iv e1, iv e2]) rfl kon) ?_
        refine own_of (fun tgt kon => XS.iload X98.here hx rfl (hb hby at_356) rfl kon) ?_
        refine own_of (fun tgt kon => XS.iload X98.here hx rfl (hb hby at_358) rfl kon) ?_
        have hc360 : r0 = e0 := by rw [h_r0, h_e0]; rw [show D0 = 2 from hD0]; exact own_fin hbd (by decide)
        refine own_of (fun tgt kon => XS.icmpNo X98.here hx rfl (hb hby at_360) rfl (teq hc360).2 kon) ?_
        refine own_of (fun tgt kon => XS.iload X98.here hx rfl (hb hby at_363) rfl kon) ?_
        show own_Wp _ _ _ _ (T98.setTop (mkF m 365 #[iv p1, iv p2, iv p3, iv p4, iv p5, iv p6, iv (2 : Int32), iv br, iv bnd, iv (own_chr c1), iv (own_chr c2), iv (own_chr c3), iv (own_chr c4), rv b70, rv b73, iv r0, iv r1, iv r2, iv (0 : Int32), iv (1 : Int32), iv (2 : Int32), iv (1 : Int32), iv (2 : Int32), iv d11, iv d12, iv d21, iv e22, iv e0, iv e1, iv e2] [(.int r1)]))
        refine own_of (fun tgt kon => XS.iload X98.here hx rfl (hb hby at_365) rfl kon) ?_
        have hc367 : r1 = e1 := by rw [h_r1, h_e1]; rw [show D1 = _ from hD1.trans (own_m1b (own_chr c1) (own_chr c2) (own_chr c3))]; refine (own_fin hbd (by have := (hf.2.2.2.2.2.2 ⟨2, by decide⟩).1; dsimp only at this; omega)).trans ?_; rw [← hf.2.1]; rfl
        refine own_of (fun tgt kon => XS.icmpNo X98.here hx rfl (hb hby at_367) rfl (teq hc367).2 kon) ?_
        refine own_of (fun tgt kon => XS.iload X98.here hx rfl (hb hby at_370) rfl kon) ?_
        refine own_of (fun tgt kon => XS.iload X98.here hx rfl (hb hby at_372) rfl kon) ?_
        have hc374 : r2 = e2 := by rw [h_r2, h_e2]; rw [show D2 = _ from hD2.trans (own_m1e (own_chr c1) (own_chr c2) (own_chr c3) (own_chr c4))]; refine (own_fin hbd (by have := (hf.2.2.2.2.2.2 ⟨2, by decide⟩).2; dsimp only at this; omega)).trans ?_; rw [← hf.2.2.2.1]; rfl
        refine own_of (fun tgt kon => XS.icmpNo X98.here hx rfl (hb hby at_374) rfl (teq hc374).2 kon) ?_
        refine own_of (fun tgt kon => XS.iconst X98.here hx rfl (hb hby at_377) kon) ?_
        show own_Wp _ _ _ _ (T98.setTop (mkF m 378 #[iv p1, iv p2, iv p3, iv p4, iv p5, iv p6, iv (2 : Int32), iv br, iv bnd, iv (own_chr c1), iv (own_chr c2), iv (own_chr c3), iv (own_chr c4), rv b70, rv b73, iv r0, iv r1, iv r2, iv (0 : Int32), iv (1 : Int32), iv (2 : Int32), iv (1 : Int32), iv (2 : Int32), iv d11, iv d12, iv d21, iv e22, iv e0, iv e1, iv e2] [(.int (1 : Int32))]))
        refine own_of (fun tgt kon => XS.goto X98.here hx rfl (pc0 := 378) (pc' := 382) rfl (hb hby at_378) (by decide) (by decide) kon) ?_
        show own_Wp _ _ _ _ (T98.setTop (mkF m 382 #[iv p1, iv p2, iv p3, iv p4, iv p5, iv p6, iv (2 : Int32), iv br, iv bnd, iv (own_chr c1), iv (own_chr c2), iv (own_chr c3), iv (own_chr c4), rv b70, rv b73, iv r0, iv r1, iv r2, iv (0 : Int32), iv (1 : Int32), iv (2 : Int32), iv (1 : Int32), iv (2 : Int32), iv d11, iv d12, iv d21, iv e22, iv e0, iv e1, iv e2] [(.int (1 : Int32))]))
        refine own_ret X98 hlk (some (.int (1 : Int32))) (own_rtI hrt) (fun fs hr => retN X98 hx (t := .boolean) hrt (by simp) (hb hby at_382) hr) ?_ (by decide) (by decide)
        rw [e98]
        exact ⟨rfl, N98⟩
      show own_Wp _ _ _ _ (T91.setTop (mkF m 281 #[iv p1, iv p2, iv p3, iv p4, iv p5, iv p6, iv (2 : Int32), iv br, iv bnd, iv (own_chr c1), iv (own_chr c2), iv (own_chr c3), iv (own_chr c4), rv b70, rv b73, iv r0, iv r1, iv r2, iv (0 : Int32), iv (1 : Int32), iv (2 : Int32), iv (1 : Int32), iv (2 : Int32), iv d11, iv d12, iv d21, iv d22, uu, uu, uu] [(.int (own_chr c1)), (.int (own_chr c4))]))
      by_cases hc281 : (own_chr c4) = (own_chr c1)
      · skip
        refine own_of (fun tgt kon => XS.icmpNo X91.here hx rfl (hb hby at_281) rfl (teq hc281).2 kon) ?_
        refine own_of (fun tgt kon => XS.iload X91.here hx rfl (hb hby at_284) rfl kon) ?_
        refine own_of (fun tgt kon => XS.iload X91.here hx rfl (hb hby at_286) rfl kon) ?_
        by_cases hc288 : (own_chr c3) = (own_chr c2)
        · skip
          refine own_of (fun tgt kon => XS.icmpNo X91.here hx rfl (hb hby at_288) rfl (teq hc288).2 kon) ?_
          refine own_of (fun tgt kon => XS.iload X91.here hx rfl (hb hby at_291) rfl kon) ?_
          show own_Wp _ _ _ _ (T91.setTop (mkF m 293 #[iv p1, iv p2, iv p3, iv p4, iv p5, iv p6, iv (2 : Int32), iv br, iv bnd, iv (own_chr c1), iv (own_chr c2), iv (own_chr c3), iv (own_chr c4), rv b70, rv b73, iv r0, iv r1, iv r2, iv (0 : Int32), iv (1 : Int32), iv (2 : Int32), iv (1 : Int32), iv (2 : Int32), iv d11, iv d12, iv d21, iv d22, uu, uu, uu] [(.int d22)]))
          refine own_of (fun tgt kon => XS.iload X91.here hx rfl (hb hby at_293) rfl kon) ?_
          refine own_of (fun tgt kon => XS.iconst X91.here hx rfl (hb hby at_295) kon) ?_
          refine own_of (fun tgt kon => XS.iadd X91.here hx rfl (hb hby at_296) rfl kon) ?_
          refine own_callS X91 hx hZ (y := (⟨"java/lang/Math", "min", "(II)I"⟩ : MethodName)) (argsL := [(.int d22), (.int ((0 : Int32) + (1 : Int32)))]) (rest := []) (W := 0) hown (ow hw 61 rfl) (ow hw 44 rfl) (ow hw 45 rfl) (ow hw 46 rfl) (by decide) e91 (rmmin l Z a0 hw [] d22 ((0 : Int32) + (1 : Int32)) T76.heap n0 Zs) (by decide) (by decide) (by decide) (by decide) rfl (by rw [hml]; rfl) (lenOf own_pd2 rfl) rfl (by show 2 * 0 + _ ≤ _; exact Nat.le_of_eq rfl) (hb hby at_297) ?_
          rintro T99 L99 _ X99 ⟨rfl, N99q, e99⟩
          have N99 := Fr.app N91 N99q
          show own_Wp _ _ _ _ (T99.setTop (mkF m 300 #[iv p1, iv p2, iv p3, iv p4, iv p5, iv p6, iv (2 : Int32), iv br, iv bnd, iv (own_chr c1), iv (own_chr c2), iv (own_chr c3), iv (own_chr c4), rv b70, rv b73, iv r0, iv r1, iv r2, iv (0 : Int32), iv (1 : Int32), iv (2 : Int32), iv (1 : Int32), iv (2 : Int32), iv d11, iv d12, iv d21, iv d22, uu, uu, uu] [(.int (own_mni d22 ((0 : Int32) + (1 : Int32))))]))
          refine own_of (fun tgt kon => XS.istore X99.here hx rfl (hb hby at_300) rfl (l' := #[iv p1, iv p2, iv p3, iv p4, iv p5, iv p6, iv (2 : Int32), iv br, iv bnd, iv (own_chr c1), iv (own_chr c2), iv (own_chr c3), iv (own_chr c4), rv b70, rv b73, iv r0, iv r1, iv r2, iv (0 : Int32), iv (1 : Int32), iv (2 : Int32), iv (1 : Int32), iv (2 : Int32), iv d11, iv d12, iv d21, iv (own_mni d22 ((0 : Int32) + (1 : Int32))), uu, uu, uu]) rfl kon) ?_
          show own_Wp _ _ _ _ (T99.setTop (mkF m 302 #[iv p1, iv p2, iv p3, iv p4, iv p5, iv p6, iv (2 : Int32), iv br, iv bnd, iv (own_chr c1), iv (own_chr c2), iv (own_chr c3), iv (own_chr c4), rv b70, rv b73, iv r0, iv r1, iv r2, iv (0 : Int32), iv (1 : Int32), iv (2 : Int32), iv (1 : Int32), iv (2 : Int32), iv d11, iv d12, iv d21, iv (own_mni d22 ((0 : Int32) + (1 : Int32))), uu, uu, uu] []))
          exact J302 T99 _ ((own_mni d22 ((0 : Int32) + (1 : Int32)))) X99 e99 N99 (by exact (if_pos (And.intro hc281 hc288)).symm)
        · skip
          refine own_of (fun tgt kon => XS.icmpYes X91.here hx rfl (pc0 := 288) (pc' := 302) rfl (hb hby at_288) rfl (feq hc288).2 (by decide) (by decide) kon) ?_
          show own_Wp _ _ _ _ (T91.setTop (mkF m 302 #[iv p1, iv p2, iv p3, iv p4, iv p5, iv p6, iv (2 : Int32), iv br, iv bnd, iv (own_chr c1), iv (own_chr c2), iv (own_chr c3), iv (own_chr c4), rv b70, rv b73, iv r0, iv r1, iv r2, iv (0 : Int32), iv (1 : Int32), iv (2 : Int32), iv (1 : Int32), iv (2 : Int32), iv d11, iv d12, iv d21, iv d22, uu, uu, uu] []))
          exact J302 T91 _ (d22) X91 e91 N91 (by exact (if_neg (fun q => hc288 q.2)).symm)
      · skip
        refine own_of (fun tgt kon => XS.icmpYes X91.here hx rfl (pc0 := 281) (pc' := 302) rfl (hb hby at_281) rfl (feq hc281).2 (by decide) (by decide) kon) ?_
        show own_Wp _ _ _ _ (T91.setTop (mkF m 302 #[iv p1, iv p2, iv p3, iv p4, iv p5, iv p6, iv (2 : Int32), iv br, iv bnd, iv (own_chr c1), iv (own_chr c2), iv (own_chr c3), iv (own_chr c4), rv b70, rv b73, iv r0, iv r1, iv r2, iv (0 : Int32), iv (1 : Int32), iv (2 : Int32), iv (1 : Int32), iv (2 : Int32), iv d11, iv d12, iv d21, iv d22, uu, uu, uu] []))
        exact J302 T91 _ (d22) X91 e91 N91 (by exact (if_neg (fun q => hc281 q.1)).symm)
    show own_Wp _ _ _ _ (s₁.setTop (mkF m 12 #[iv p1, iv p2, iv p3, iv p4, iv p5, iv p6, iv (2 : Int32), uu, uu, uu, uu, uu, uu, uu, uu, uu, uu, uu, uu, uu, uu, uu, uu, uu, uu, uu, uu, uu, uu, uu] [(.int (p5 &&& (4 : Int32)))]))
    by_cases hc12 : (p5 &&& (4 : Int32)) = (0 : Int32)
    · skip
      refine own_of (fun tgt kon => XS.ifYes X0.here hx rfl (pc0 := 12) (pc' := 19) rfl (hb hby at_12) rfl ((if0 _ _).trans (teq hc12).1) (by decide) (by decide) kon) ?_
      refine own_of (fun tgt kon => XS.iconst X0.here hx rfl (hb hby at_19) kon) ?_
      show own_Wp _ _ _ _ (s₁.setTop (mkF m 20 #[iv p1, iv p2, iv p3, iv p4, iv p5, iv p6, iv (2 : Int32), uu, uu, uu, uu, uu, uu, uu, uu, uu, uu, uu, uu, uu, uu, uu, uu, uu, uu, uu, uu, uu, uu, uu] [(.int (0 : Int32))]))
      exact J20 ((0 : Int32)) (by exact (if_pos hc12).symm)
    · skip
      refine own_of (fun tgt kon => XS.ifNo X0.here hx rfl (hb hby at_12) rfl ((if0 _ _).trans (feq hc12).1) kon) ?_
      refine own_of (fun tgt kon => XS.iconst X0.here hx rfl (hb hby at_15) kon) ?_
      refine own_of (fun tgt kon => XS.goto X0.here hx rfl (pc0 := 16) (pc' := 20) rfl (hb hby at_16) (by decide) (by decide) kon) ?_
      show own_Wp _ _ _ _ (s₁.setTop (mkF m 20 #[iv p1, iv p2, iv p3, iv p4, iv p5, iv p6, iv (2 : Int32), uu, uu, uu, uu, uu, uu, uu, uu, uu, uu, uu, uu, uu, uu, uu, uu, uu, uu, uu, uu, uu, uu, uu] [(.int (1 : Int32))]))
      exact J20 ((1 : Int32)) (by exact (if_neg hc12).symm)
set_option maxRecDepth 65536 in
set_option maxHeartbeats 40000000 in
theorem comes_1 {Post : Tables → Env → Array Value → State → Outcome → State → Prop} (hpost : ∀ tb e args s v u, (limb_1_1.after args s (.returned v) u = true ∧ limb_1_2.after args s (.returned v) u = true ∧ True) → FrameEnd s (.returned v) u (Jvm.fieldLocs frame_1_writes args s ++ Jvm.arrayLocs frame_1_arrays args s ++ Jvm.staticLocs frame_1_statics s) 24 1024 → Post tb e args s (.returned v) u) :
    ArmFor flags0 classFile x code maxLocals ret World_1 tables_1 room_1 Calls_1 rest_1 Pre_1 Post := by
  intro l hfl _ _ p e ha hc hk s m args below hf hA hF happ hP
  obtain ⟨hcalls, hrest, hpre⟩ := hP
  obtain ⟨-, -, -, hnamed, -, -, -, hat⟩ := (Spec.applies_iff hf).mp happ
  obtain ⟨hg, hn⟩ := and_e (Cond.before_iff.mp (show (Jvm.Cond.and given_1 narrow_1).before args s = true from hpre))
  obtain ⟨g1, g2⟩ := and_e hg
  obtain ⟨g3, g4⟩ := and_e g2
  obtain ⟨g5, g6⟩ := and_e g4
  obtain ⟨g7, g8⟩ := and_e g6
  obtain ⟨g9, g10⟩ := and_e g8
  obtain ⟨g11, g12⟩ := and_e g10
  obtain ⟨w0, w1, w2, w3, w4, w5, rfl⟩ : ∃ w0 w1 w2 w3 w4 w5 : Value, args = #[w0, w1, w2, w3, w4, w5] := by
    have hs : args.size = 6 := by simpa [Cond.value, given_1] using g1
    obtain ⟨L⟩ := args
    match L, hs with
    | [w0, w1, w2, w3, w4, w5], _ => exact ⟨w0, w1, w2, w3, w4, w5, rfl⟩
  have hw := fun d (hd : d ∈ tables_1) => atoms_spec (ws := Jvm.Cond.code x code maxLocals ret :: tables_1) hat d (List.mem_cons_of_mem _ hd)
  have hfit : Fit s := fun {y c} hc i hi => by
    obtain ⟨ha, rfl⟩ := Array.getElem?_eq_some_iff.mp hc
    have q := List.all_eq_true.mp ((Array.all_eq_true_iff_forall_mem.mp hF) _ (Array.getElem_mem ha)) i (List.mem_range.mpr hi)
    simpa [Array.getElem?_eq_getElem hi] using q
  obtain ⟨i0, ei0⟩ := is_v g3
  obtain rfl : w0 = (.int i0) := Option.some.inj ei0
  obtain ⟨i1, ei1⟩ := is_v g5
  obtain rfl : w1 = (.int i1) := Option.some.inj ei1
  obtain ⟨i2, ei2⟩ := is_v g7
  obtain rfl : w2 = (.int i2) := Option.some.inj ei2
  obtain ⟨i3, ei3⟩ := is_v g9
  obtain rfl : w3 = (.int i3) := Option.some.inj ei3
  obtain ⟨i4, ei4⟩ := is_v g11
  obtain rfl : w4 = (.int i4) := Option.some.inj ei4
  obtain ⟨i5, ei5⟩ := is_v g12
  obtain rfl : w5 = (.int i5) := Option.some.inj ei5
  obtain ⟨n, o, h1, h2, h3, _, L, rfl, ⟨rfl, N⟩, hq⟩ := rm0 l s _ hw tables_1 i0 i1 i2 i3 i4 i5  s.heap s.heap.size (Nat.le_refl _)  p e ha hc hk s m _ below hf ((Spec.applies_iff_loose hf).mp happ).1 ⟨rfl, State.Warmed39.refl s, rfl⟩ trivial
  refine ⟨n, _, h1, h2, h3, hpost _ _ _ _ _ _ ⟨Cond.after_iff.mpr rfl, Cond.after_iff.mpr (eq_i res_at (Term.int_eval (1)) rfl), trivial⟩ ⟨hq.1, hq.2.1, (hq.2.2.sift fun y hy => Or.inr (N y hy)).mono (by decide) (by decide)⟩⟩
theorem main_1_1 : Claimed_1_1 := comes_1 fun _ _ _ _ _ _ h hF => ⟨h.1, hF⟩
theorem main_1_2 : Claimed_1_2 := comes_1 fun _ _ _ _ _ _ h hF => ⟨h.2.1, hF⟩
end Jvm.Pilot.@@N@@
namespace Jvm.Pilot.@@N@@
open Jvm Jvm.ClassFile Sem Op Lib Jvm.Free Jvm.Stand Jvm.Pilot.@@N@@.Jvm.D
/-! MADE BY PROGRAM (witnessworld.py) out of the Statement's table words and the real class files: 14 classes; the members and pool entries that the words name. The judged class is class 1, her method 5. -/
namespace start1
open Jvm.ClassFile
def u (s : String) : CpInfo := .utf8 (stringToUtf16 s)
/-- a pool by its gaps: so many unusable entries, then the entry; so many at the end -/
def gap : Nat → List CpInfo → List CpInfo
  | 0, r => r
  | n + 1, r => .unusable :: gap n r
def poolList (es : List (Nat × CpInfo)) (last : Nat) : List CpInfo := es.foldr (fun e r => gap e.1 (e.2 :: r)) (gap last [])
def pool (es : List (Nat × CpInfo)) (last : Nat) : Array CpInfo := ⟨poolList es last⟩
def fileOf (pool : Array CpInfo) (this : Nat) (attrs : Array Attribute := #[]) (ms : Array MethodInfo := #[]) (fl : Nat := 33) (sup : Nat := 0) (ifs : Array Nat := #[]) (fds : Array FieldInfo := #[]) : ClassFile where
  minorVersion := 0
  majorVersion := 65
  constantPool := pool
  accessFlags := fl
  thisClass := this
  superClass := sup
  interfaces := ifs
  fields := fds
  methods := ms
  attributes := attrs
def plain (name : String) (sup : Option ClassId) : Class where
  name := name
  kind := .ordinary
  loader := none
  accessFlags := 33
  super := sup
  interfaces := #[]
  cf := none
  fields := #[]
  methods := #[]
  instanceTypes := #[]
  staticTypes := #[]
  resolved := #[]
  callSites := []
  init := .initialized
  statics := none
  mirror := none

def pool0 : Array CpInfo := pool [(5, u "<init>"), (0, u "()V"), (1, .class_ 10), (1, u "java/lang/Object")] 113

def k0c0 : Code := { maxStack := 0, maxLocals := 1, code := object_method_1_code, exceptionTable := #[], attributes := #[] }
def k0m0 : Method := { name := "<init>", desc := "()V", sig := { parameters := [], returnType := none }, accessFlags := 1, code := some k0c0 }
/-- java/lang/Object -/
def k0 : Class := { plain "java/lang/Object" none with
  accessFlags := 33
  interfaces := #[]
  cf := some (fileOf pool0 8 #[] #[{ accessFlags := 1, nameIndex := 5, descriptorIndex := 6, attributes := #[] }] 33 0 #[] #[])
  fields := #[]
  methods := #[k0m0]
  instanceTypes := #[]
  staticTypes := #[]
  resolved := Array.replicate 124 none
  statics := none }

def pool1 : Array CpInfo := pool [(2, .class_ 4), (1, u "java/lang/Object"), (0, u "<init>"), (0, u "()V"), (0, .methodref 8 9), (0, .class_ 10), (0, .nameAndType 11 12), (0, u "com/example/close_words/closewords/BitRowsDistancePinLaw"), (0, u "ch"), (0, u "(I)I"), (0, .class_ 14), (0, u "com/example/close_words/closewords/BitRows"), (0, .methodref 13 16), (0, .nameAndType 5 17), (0, u "([IIIII)V"), (0, .methodref 13 19), (0, .nameAndType 20 21), (0, u "fill"), (0, u "(IIZ)Z"), (0, .methodref 13 23), (0, .nameAndType 24 12), (0, u "distance"), (0, .methodref 26 27), (0, .class_ 28), (0, .nameAndType 29 30), (0, u "java/lang/Math"), (0, u "min"), (0, u "(II)I"), (0, .methodref 8 32), (0, .nameAndType 33 30), (0, u "eq"), (0, .methodref 8 35), (0, .nameAndType 36 37), (0, u "pick"), (0, u "(IIII)I"), (0, .methodref 8 39), (0, .nameAndType 40 30), (0, u "cap"), (3, u "law"), (0, u "(IIIIII)Z")] 4

def k1m0 : Method := { name := "<init>", desc := "()V", sig := { parameters := [], returnType := none }, accessFlags := 1, code := none }
def k1c1 : Code := { maxStack := 3, maxLocals := 1, code := method_2_code, exceptionTable := #[], attributes := #[] }
def k1m1 : Method := { name := "ch", desc := "(I)I", sig := { parameters := [.int], returnType := some .int }, accessFlags := 10, code := some k1c1 }
def k1c2 : Code := { maxStack := 2, maxLocals := 2, code := method_3_code, exceptionTable := #[], attributes := #[] }
def k1m2 : Method := { name := "cap", desc := "(II)I", sig := { parameters := [.int, .int], returnType := some .int }, accessFlags := 10, code := some k1c2 }
def k1c3 : Code := { maxStack := 2, maxLocals := 4, code := method_4_code, exceptionTable := #[], attributes := #[] }
def k1m3 : Method := { name := "pick", desc := "(IIII)I", sig := { parameters := [.int, .int, .int, .int], returnType := some .int }, accessFlags := 10, code := some k1c3 }
def k1c4 : Code := { maxStack := 2, maxLocals := 2, code := method_5_code, exceptionTable := #[], attributes := #[] }
def k1m4 : Method := { name := "eq", desc := "(II)I", sig := { parameters := [.int, .int], returnType := some .int }, accessFlags := 10, code := some k1c4 }
def k1c5 : Code := { maxStack := 7, maxLocals := 30, code := code, exceptionTable := #[], attributes := #[] }
def k1m5 : Method := { name := "law", desc := "(IIIIII)Z", sig := { parameters := [.int, .int, .int, .int, .int, .int], returnType := some .boolean }, accessFlags := 9, code := some k1c5 }
/-- com/example/close_words/closewords/BitRowsDistancePinLaw -/
def k1 : Class := { plain "com/example/close_words/closewords/BitRowsDistancePinLaw" (some 0) with
  accessFlags := 49
  interfaces := #[]
  cf := some (fileOf pool1 8 #[] #[{ accessFlags := 1, nameIndex := 5, descriptorIndex := 6, attributes := #[] }, { accessFlags := 10, nameIndex := 11, descriptorIndex := 12, attributes := #[] }, { accessFlags := 10, nameIndex := 40, descriptorIndex := 30, attributes := #[] }, { accessFlags := 10, nameIndex := 36, descriptorIndex := 37, attributes := #[] }, { accessFlags := 10, nameIndex := 33, descriptorIndex := 30, attributes := #[] }, { accessFlags := 9, nameIndex := 44, descriptorIndex := 45, attributes := #[] }] 49 2 #[] #[])
  fields := #[]
  methods := #[k1m0, k1m1, k1m2, k1m3, k1m4, k1m5]
  instanceTypes := #[]
  staticTypes := #[]
  resolved := Array.replicate 50 none
  statics := none }

def pool2 : Array CpInfo := pool [(10, .class_ 11), (0, u "com/example/close_words/closewords/AlignmentRows"), (0, .class_ 13), (0, u "java/lang/Object")] 11

/-- com/example/close_words/closewords/AlignmentRows -/
def k2 : Class := { plain "com/example/close_words/closewords/AlignmentRows" (some 0) with
  accessFlags := 1536
  interfaces := #[]
  cf := some (fileOf pool2 10 #[] #[] 1536 12 #[] #[])
  fields := #[]
  methods := #[]
  instanceTypes := #[]
  staticTypes := #[]
  resolved := Array.replicate 25 none
  statics := none }

def pool3 : Array CpInfo := pool [(3, .methodref 4 5), (0, .class_ 6), (0, .nameAndType 7 8), (0, u "java/lang/Object"), (0, u "<init>"), (0, u "()V"), (0, .fieldref 10 11), (0, .class_ 12), (0, .nameAndType 13 14), (0, u "com/example/close_words/closewords/BitRows"), (0, u "bound"), (0, u "I"), (0, .fieldref 10 16), (0, .nameAndType 17 14), (0, u "headBound"), (0, .fieldref 10 19), (0, .nameAndType 20 14), (0, u "levels"), (0, .methodref 10 22), (0, .nameAndType 23 24), (0, u "upTo"), (0, u "(I)J"), (0, .fieldref 10 26), (0, .nameAndType 27 28), (0, u "columns"), (0, u "J"), (0, .fieldref 10 30), (0, .nameAndType 31 28), (0, u "lastColumn"), (0, .long 18446744073709551615), (1, .fieldref 10 35), (0, .nameAndType 36 28), (0, u "outsideHead"), (0, .fieldref 10 38), (0, .nameAndType 39 40), (0, u "codePoints"), (0, u "[I"), (0, .fieldref 10 42), (0, .nameAndType 43 44), (0, u "columnsOf"), (0, u "[J"), (0, .fieldref 10 46), (0, .nameAndType 47 44), (0, u "rows"), (0, .fieldref 10 49), (0, .nameAndType 50 44), (0, u "matches"), (0, .methodref 52 53), (0, .class_ 54), (0, .nameAndType 55 56), (0, u "java/util/Arrays"), (0, u "fill"), (0, u "([II)V"), (0, .methodref 10 58), (0, .nameAndType 59 60), (0, u "slot"), (0, u "(I)I"), (0, .methodref 62 63), (0, .class_ 64), (0, .nameAndType 65 66), (0, u "java/lang/Math"), (0, u "min"), (0, u "(II)I"), (0, .class_ 68), (0, u "com/example/close_words/closewords/AlignmentRows"), (0, u "LONGEST_TEXT"), (2, u "BOUND_LIMIT"), (1, u "EMPTY"), (1, u "SLOTS"), (1, u "([IIIII)V"), (5, u "(IIZ)Z"), (0, u "distance")] 2

def k3c0 : Code := { maxStack := 8, maxLocals := 10, code := prog_6_method_1_code, exceptionTable := #[], attributes := #[] }
def k3m0 : Method := { name := "<init>", desc := "([IIIII)V", sig := { parameters := [(.array .int), .int, .int, .int, .int], returnType := none }, accessFlags := 0, code := some k3c0 }
def k3c1 : Code := { maxStack := 7, maxLocals := 18, code := prog_6_method_2_code, exceptionTable := #[], attributes := #[] }
def k3m1 : Method := { name := "fill", desc := "(IIZ)Z", sig := { parameters := [.int, .int, .boolean], returnType := some .boolean }, accessFlags := 1, code := some k3c1 }
def k3c2 : Code := { maxStack := 4, maxLocals := 4, code := prog_6_method_3_code, exceptionTable := #[], attributes := #[] }
def k3m2 : Method := { name := "distance", desc := "(I)I", sig := { parameters := [.int], returnType := some .int }, accessFlags := 1, code := some k3c2 }
def k3c3 : Code := { maxStack := 2, maxLocals := 3, code := prog_6_method_4_code, exceptionTable := #[], attributes := #[] }
def k3m3 : Method := { name := "slot", desc := "(I)I", sig := { parameters := [.int], returnType := some .int }, accessFlags := 2, code := some k3c3 }
def k3c4 : Code := { maxStack := 4, maxLocals := 1, code := prog_6_method_5_code, exceptionTable := #[], attributes := #[] }
def k3m4 : Method := { name := "upTo", desc := "(I)J", sig := { parameters := [.int], returnType := some .long }, accessFlags := 10, code := some k3c4 }
/-- com/example/close_words/closewords/BitRows -/
def k3 : Class := { plain "com/example/close_words/closewords/BitRows" (some 0) with
  accessFlags := 48
  interfaces := #[2]
  cf := some (fileOf pool3 10 #[] #[{ accessFlags := 0, nameIndex := 7, descriptorIndex := 78, attributes := #[] }, { accessFlags := 1, nameIndex := 55, descriptorIndex := 84, attributes := #[] }, { accessFlags := 1, nameIndex := 85, descriptorIndex := 60, attributes := #[] }, { accessFlags := 2, nameIndex := 59, descriptorIndex := 60, attributes := #[] }, { accessFlags := 10, nameIndex := 23, descriptorIndex := 24, attributes := #[] }] 48 4 #[67] #[{ accessFlags := 24, nameIndex := 69, descriptorIndex := 14, attributes := #[] }, { accessFlags := 24, nameIndex := 72, descriptorIndex := 14, attributes := #[] }, { accessFlags := 26, nameIndex := 74, descriptorIndex := 14, attributes := #[] }, { accessFlags := 26, nameIndex := 76, descriptorIndex := 14, attributes := #[] }, { accessFlags := 18, nameIndex := 13, descriptorIndex := 14, attributes := #[] }, { accessFlags := 18, nameIndex := 17, descriptorIndex := 14, attributes := #[] }, { accessFlags := 18, nameIndex := 20, descriptorIndex := 14, attributes := #[] }, { accessFlags := 18, nameIndex := 27, descriptorIndex := 28, attributes := #[] }, { accessFlags := 18, nameIndex := 31, descriptorIndex := 28, attributes := #[] }, { accessFlags := 18, nameIndex := 36, descriptorIndex := 28, attributes := #[] }, { accessFlags := 18, nameIndex := 39, descriptorIndex := 40, attributes := #[] }, { accessFlags := 18, nameIndex := 43, descriptorIndex := 44, attributes := #[] }, { accessFlags := 18, nameIndex := 47, descriptorIndex := 44, attributes := #[] }, { accessFlags := 18, nameIndex := 50, descriptorIndex := 44, attributes := #[] }])
  fields := #[{ name := "LONGEST_TEXT", type := .int, accessFlags := 24, slot := 0, constantValue := 0 }, { name := "BOUND_LIMIT", type := .int, accessFlags := 24, slot := 1, constantValue := 0 }, { name := "EMPTY", type := .int, accessFlags := 26, slot := 2, constantValue := 0 }, { name := "SLOTS", type := .int, accessFlags := 26, slot := 3, constantValue := 0 }, { name := "bound", type := .int, accessFlags := 18, slot := 0, constantValue := 0 }, { name := "headBound", type := .int, accessFlags := 18, slot := 1, constantValue := 0 }, { name := "levels", type := .int, accessFlags := 18, slot := 2, constantValue := 0 }, { name := "columns", type := .long, accessFlags := 18, slot := 3, constantValue := 0 }, { name := "lastColumn", type := .long, accessFlags := 18, slot := 4, constantValue := 0 }, { name := "outsideHead", type := .long, accessFlags := 18, slot := 5, constantValue := 0 }, { name := "codePoints", type := (.array .int), accessFlags := 18, slot := 6, constantValue := 0 }, { name := "columnsOf", type := (.array .long), accessFlags := 18, slot := 7, constantValue := 0 }, { name := "rows", type := (.array .long), accessFlags := 18, slot := 8, constantValue := 0 }, { name := "matches", type := (.array .long), accessFlags := 18, slot := 9, constantValue := 0 }]
  methods := #[k3m0, k3m1, k3m2, k3m3, k3m4]
  instanceTypes := #[.int, .int, .int, .long, .long, .long, (.array .int), (.array .long), (.array .long), (.array .long)]
  staticTypes := #[.int, .int, .int, .int]
  resolved := Array.replicate 88 none
  statics := none }

def pool4 : Array CpInfo := pool [(2, .class_ 4), (1, u "java/lang/Object"), (0, u "<init>"), (0, u "()V"), (7, .class_ 16), (1, u "java/util/Arrays"), (57, .class_ 76), (1, u "java/util/Arrays$NaturalOrder"), (36, .class_ 115), (1, u "java/util/Arrays$LegacyMergeSort"), (1, u "Z"), (257, .class_ 376), (0, u "java/util/Arrays$ArrayList"), (68, u "$assertionsDisabled"), (269, u "MIN_ARRAY_SORT_GRAN"), (0, u "I"), (2, u "INSERTIONSORT_THRESHOLD"), (120, u "fill"), (4, u "([II)V"), (129, .class_ 976), (0, u "java/util/Arrays$ArrayItr")] 52

def k4m0 : Method := { name := "<init>", desc := "()V", sig := { parameters := [], returnType := none }, accessFlags := 2, code := none }
def k4c1 : Code := { maxStack := 3, maxLocals := 4, code := jdk_65_method_103_code, exceptionTable := #[], attributes := #[] }
def k4m1 : Method := { name := "fill", desc := "([II)V", sig := { parameters := [(.array .int), .int], returnType := none }, accessFlags := 9, code := some k4c1 }
/-- java/util/Arrays -/
def k4 : Class := { plain "java/util/Arrays" (some 0) with
  accessFlags := 49
  interfaces := #[]
  cf := some (fileOf pool4 14 #[.nestMembers #[975, 375, 113, 74]] #[{ accessFlags := 2, nameIndex := 5, descriptorIndex := 6, attributes := #[] }, { accessFlags := 9, nameIndex := 840, descriptorIndex := 845, attributes := #[] }] 49 2 #[] #[{ accessFlags := 26, nameIndex := 715, descriptorIndex := 716, attributes := #[] }, { accessFlags := 26, nameIndex := 719, descriptorIndex := 716, attributes := #[] }, { accessFlags := 4120, nameIndex := 445, descriptorIndex := 117, attributes := #[] }])
  fields := #[{ name := "MIN_ARRAY_SORT_GRAN", type := .int, accessFlags := 26, slot := 0, constantValue := 0 }, { name := "INSERTIONSORT_THRESHOLD", type := .int, accessFlags := 26, slot := 1, constantValue := 0 }, { name := "$assertionsDisabled", type := .boolean, accessFlags := 4120, slot := 2, constantValue := 0 }]
  methods := #[k4m0, k4m1]
  instanceTypes := #[]
  staticTypes := #[.int, .int, .boolean]
  resolved := Array.replicate 1029 none
  statics := none }

def pool5 : Array CpInfo := pool [(1, .class_ 2), (0, u "java/lang/Math"), (1, .class_ 6), (1, u "java/lang/Object"), (0, u "<init>"), (0, u "()V"), (89, .class_ 100), (1, u "java/lang/Math$RandomNumberGeneratorHolder"), (71, u "negativeZeroFloatBits"), (0, u "J"), (2, u "negativeZeroDoubleBits"), (24, u "min"), (43, u "$assertionsDisabled"), (0, u "Z"), (88, u "(II)I"), (2, u "twoToTheDoubleScaleDown"), (0, u "D"), (4, u "twoToTheDoubleScaleUp"), (9, u "E"), (3, u "PI"), (2, u "TAU"), (2, u "DEGREES_TO_RADIANS"), (0, u "RADIANS_TO_DEGREES")] 94

def k5m0 : Method := { name := "<init>", desc := "()V", sig := { parameters := [], returnType := none }, accessFlags := 2, code := none }
def k5c1 : Code := { maxStack := 2, maxLocals := 2, code := jdk_29_method_69_code, exceptionTable := #[], attributes := #[] }
def k5m1 : Method := { name := "min", desc := "(II)I", sig := { parameters := [.int, .int], returnType := some .int }, accessFlags := 9, code := some k5c1 }
/-- java/lang/Math -/
def k5 : Class := { plain "java/lang/Math" (some 0) with
  accessFlags := 49
  interfaces := #[]
  cf := some (fileOf pool5 1 #[.nestMembers #[98]] #[{ accessFlags := 2, nameIndex := 7, descriptorIndex := 8, attributes := #[] }, { accessFlags := 9, nameIndex := 201, descriptorIndex := 335, attributes := #[] }] 49 4 #[] #[{ accessFlags := 25, nameIndex := 354, descriptorIndex := 339, attributes := #[] }, { accessFlags := 25, nameIndex := 358, descriptorIndex := 339, attributes := #[] }, { accessFlags := 25, nameIndex := 361, descriptorIndex := 339, attributes := #[] }, { accessFlags := 26, nameIndex := 364, descriptorIndex := 339, attributes := #[] }, { accessFlags := 26, nameIndex := 365, descriptorIndex := 339, attributes := #[] }, { accessFlags := 26, nameIndex := 172, descriptorIndex := 173, attributes := #[] }, { accessFlags := 26, nameIndex := 176, descriptorIndex := 173, attributes := #[] }, { accessFlags := 8, nameIndex := 344, descriptorIndex := 339, attributes := #[] }, { accessFlags := 8, nameIndex := 338, descriptorIndex := 339, attributes := #[] }, { accessFlags := 4120, nameIndex := 245, descriptorIndex := 246, attributes := #[] }])
  fields := #[{ name := "E", type := .double, accessFlags := 25, slot := 0, constantValue := 0 }, { name := "PI", type := .double, accessFlags := 25, slot := 1, constantValue := 0 }, { name := "TAU", type := .double, accessFlags := 25, slot := 2, constantValue := 0 }, { name := "DEGREES_TO_RADIANS", type := .double, accessFlags := 26, slot := 3, constantValue := 0 }, { name := "RADIANS_TO_DEGREES", type := .double, accessFlags := 26, slot := 4, constantValue := 0 }, { name := "negativeZeroFloatBits", type := .long, accessFlags := 26, slot := 5, constantValue := 0 }, { name := "negativeZeroDoubleBits", type := .long, accessFlags := 26, slot := 6, constantValue := 0 }, { name := "twoToTheDoubleScaleUp", type := .double, accessFlags := 8, slot := 7, constantValue := 0 }, { name := "twoToTheDoubleScaleDown", type := .double, accessFlags := 8, slot := 8, constantValue := 0 }, { name := "$assertionsDisabled", type := .boolean, accessFlags := 4120, slot := 9, constantValue := 0 }]
  methods := #[k5m0, k5m1]
  instanceTypes := #[]
  staticTypes := #[.double, .double, .double, .double, .double, .long, .long, .double, .double, .boolean]
  resolved := Array.replicate 460 none
  statics := none }

def pool6 : Array CpInfo := pool [(1, u "java/lang/Cloneable"), (0, .class_ 1), (0, u "java/lang/Object"), (0, .class_ 3)] 3

/-- java/lang/Cloneable -/
def k6 : Class := { plain "java/lang/Cloneable" (some 0) with
  accessFlags := 1537
  interfaces := #[]
  cf := some (fileOf pool6 2 #[] #[] 1537 4 #[] #[])
  fields := #[]
  methods := #[]
  instanceTypes := #[]
  staticTypes := #[]
  resolved := Array.replicate 8 none
  statics := none }

def pool7 : Array CpInfo := pool [(1, u "java/io/Serializable"), (0, .class_ 1), (0, u "java/lang/Object"), (0, .class_ 3)] 3

/-- java/io/Serializable -/
def k7 : Class := { plain "java/io/Serializable" (some 0) with
  accessFlags := 1537
  interfaces := #[]
  cf := some (fileOf pool7 2 #[] #[] 1537 4 #[] #[])
  fields := #[]
  methods := #[]
  instanceTypes := #[]
  staticTypes := #[]
  resolved := Array.replicate 8 none
  statics := none }

/-- the primitive byte -/
def k8 : Class := { plain "byte" none with kind := .primitive 'B', accessFlags := 0x411 }
/-- [B -/
def k9 : Class := { plain "[B" (some 0) with kind := .array 8 .byte, interfaces := #[6, 7], accessFlags := 1041 }

/-- the primitive int -/
def k10 : Class := { plain "int" none with kind := .primitive 'I', accessFlags := 0x411 }
/-- [I -/
def k11 : Class := { plain "[I" (some 0) with kind := .array 10 .int, interfaces := #[6, 7], accessFlags := 1041 }

/-- the primitive long -/
def k12 : Class := { plain "long" none with kind := .primitive 'J', accessFlags := 0x411 }
/-- [J -/
def k13 : Class := { plain "[J" (some 0) with kind := .array 12 .long, interfaces := #[6, 7], accessFlags := 1041 }

def heap : Heap := #[]
def classes : Array Class := #[k0, k1, k2, k3, k4, k5, k6, k7, k8, k9, k10, k11, k12, k13]
def interned : List (Array UInt16 × Addr) := []
def slotsUsed : Nat := 0
def theMethod : MethodId := ⟨1, 5⟩
def args0 : Array Value := #[.int 1, .int 2, .int 2, .int 1, .int 2, .int 3]
def aboutOver (below : List Frame) : State where
  vm := { classes := classes, interned := interned.toArray }
  heap := heap
  slotsUsed := slotsUsed
  threads := #[{ frames := .invoking theMethod args0 :: below }]
def below0 : List Frame := [.native { method := ⟨0, 0⟩, args := #[] }]
def about1 : State := aboutOver below0
def p0 : Program := .bare "" "" ""
def e0 : Env := launch0.env 0 0 0
theorem w_frames : about1.frames = Frame.invoking theMethod args0 :: below0 := rfl
set_option maxRecDepth 65536 in
theorem w_args : argsFit about1.vm theMethod args0 = true := by decide +kernel
set_option maxRecDepth 65536 in
theorem w_heap : heapFits about1 = true := by decide +kernel
set_option maxRecDepth 65536 in
theorem w_runnable : about1.curStatus? = some .runnable := by decide +kernel
set_option maxRecDepth 65536 in
theorem w_alone : about1.alone = true := by decide +kernel
set_option maxRecDepth 65536 in
theorem w_named : about1.methodNamed? x = some theMethod := by decide +kernel
set_option maxRecDepth 65536 in
theorem w_hears : about1.hears theMethod below0 = true := by decide +kernel
set_option maxRecDepth 65536 in
theorem w_ripe : about1.ripe theMethod args0 below0 = true := by decide +kernel
theorem w_running : about1.status = .running := rfl
set_option maxRecDepth 65536 in
theorem w_room : about1.hasRoom e0.platform room_1 = true :=
  launch0.hasRoom_least _ room_1 (by decide +kernel) (by decide +kernel) (by decide +kernel) (by decide +kernel) (by decide +kernel) (by decide +kernel)
theorem allAtoms_all (ts : List Jvm.Cond) (a : Array Jvm.Value) (st : Jvm.State) : (allAtoms ts).before a st = ts.all (fun c => c.before a st) := by
  induction ts with
  | nil => rfl
  | cons c t ih =>
    show (Jvm.Cond.and c (allAtoms t)).before a st = _
    rw [Jvm.Cond.before_and, ih, List.all_cons]
def words1 : List Jvm.Cond := Jvm.Cond.code x code maxLocals ret :: tables_1
/-- a 'code' word, met by the world's own term for the bytes: nothing is compared byte by byte -/
theorem code_word {y : MethodName} {bytes : ByteArray} {mx : Nat} {rt : Option FieldType} {a : Array Value} {s : State} {m : MethodId} {meth : Method} {c : Code} (h1 : s.methodNamed? y = some m) (h2 : s.vm.method? m = some meth) (h3 : meth.code = some c) (h4 : c.code = bytes)
    (h5 : (c.maxLocals == mx && c.exceptionTable.isEmpty && decide (c.maxStack ≤ mostOperands) && decide (meth.sig.returnType = rt) && !meth.locks && decide (parseMethodDescriptor y.desc = some meth.sig)) = true) : (Jvm.Cond.code y bytes mx rt).before a s = true := by
  simp only [Bool.and_eq_true, beq_iff_eq, Bool.not_eq_true', decide_eq_true_eq] at h5
  obtain ⟨⟨⟨⟨⟨g1, g2⟩, g3⟩, g4⟩, g5⟩, g6⟩ := h5
  simp [Cond.before, Cond.holds, Cond.value, h1, h2, h3, h4, g1, g2, g3, g4, g5, g6]
def isCode : Jvm.Cond → Bool
  | .code _ _ _ _ => true
  | _ => false
theorem all_split {L : List Jvm.Cond} {P : Jvm.Cond → Bool} (h1 : L.all (fun c => isCode c || P c) = true) (h2 : ∀ c ∈ L.filter isCode, P c = true) : L.all P = true := by
  refine List.all_eq_true.mpr fun c hc => ?_
  have h := List.all_eq_true.mp h1 c hc
  rcases Bool.eq_false_or_eq_true (isCode c) with hi | hi
  · exact h2 c (List.mem_filter.mpr ⟨hc, hi⟩)
  · simpa [hi] using h
set_option maxRecDepth 65536 in
theorem w_c0 : (Jvm.Cond.code x code maxLocals ret).before args0 about1 = true := code_word (m := ⟨1, 5⟩) (meth := k1m5) (c := k1c5) (by decide +kernel) rfl rfl rfl (by decide +kernel)
set_option maxRecDepth 65536 in
theorem w_c1 : (Jvm.Cond.code ({ cls := "com/example/close_words/closewords/BitRowsDistancePinLaw", name := "ch", desc := "(I)I" } : Jvm.MethodName) method_2_code (1 : Nat) (Option.some Jvm.ClassFile.FieldType.int)).before args0 about1 = true := code_word (m := ⟨1, 1⟩) (meth := k1m1) (c := k1c1) (by decide +kernel) rfl rfl rfl (by decide +kernel)
set_option maxRecDepth 65536 in
theorem w_c2 : (Jvm.Cond.code ({ cls := "com/example/close_words/closewords/BitRows", name := "<init>", desc := "([IIIII)V" } : Jvm.MethodName) prog_6_method_1_code (10 : Nat) (Option.none : Option Jvm.ClassFile.FieldType)).before args0 about1 = true := code_word (m := ⟨3, 0⟩) (meth := k3m0) (c := k3c0) (by decide +kernel) rfl rfl rfl (by decide +kernel)
set_option maxRecDepth 65536 in
theorem w_c3 : (Jvm.Cond.code ({ cls := "java/lang/Object", name := "<init>", desc := "()V" } : Jvm.MethodName) object_method_1_code (1 : Nat) (Option.none : Option Jvm.ClassFile.FieldType)).before args0 about1 = true := code_word (m := ⟨0, 0⟩) (meth := k0m0) (c := k0c0) (by decide +kernel) rfl rfl rfl (by decide +kernel)
set_option maxRecDepth 65536 in
theorem w_c4 : (Jvm.Cond.code ({ cls := "com/example/close_words/closewords/BitRows", name := "upTo", desc := "(I)J" } : Jvm.MethodName) prog_6_method_5_code (1 : Nat) (Option.some Jvm.ClassFile.FieldType.long)).before args0 about1 = true := code_word (m := ⟨3, 4⟩) (meth := k3m4) (c := k3c4) (by decide +kernel) rfl rfl rfl (by decide +kernel)
set_option maxRecDepth 65536 in
theorem w_c5 : (Jvm.Cond.code ({ cls := "java/util/Arrays", name := "fill", desc := "([II)V" } : Jvm.MethodName) jdk_65_method_103_code (4 : Nat) (Option.none : Option Jvm.ClassFile.FieldType)).before args0 about1 = true := code_word (m := ⟨4, 1⟩) (meth := k4m1) (c := k4c1) (by decide +kernel) rfl rfl rfl (by decide +kernel)
set_option maxRecDepth 65536 in
theorem w_c6 : (Jvm.Cond.code ({ cls := "java/lang/Math", name := "min", desc := "(II)I" } : Jvm.MethodName) jdk_29_method_69_code (2 : Nat) (Option.some Jvm.ClassFile.FieldType.int)).before args0 about1 = true := code_word (m := ⟨5, 1⟩) (meth := k5m1) (c := k5c1) (by decide +kernel) rfl rfl rfl (by decide +kernel)
set_option maxRecDepth 65536 in
theorem w_c7 : (Jvm.Cond.code ({ cls := "com/example/close_words/closewords/BitRows", name := "fill", desc := "(IIZ)Z" } : Jvm.MethodName) prog_6_method_2_code (18 : Nat) (Option.some Jvm.ClassFile.FieldType.boolean)).before args0 about1 = true := code_word (m := ⟨3, 1⟩) (meth := k3m1) (c := k3c1) (by decide +kernel) rfl rfl rfl (by decide +kernel)
set_option maxRecDepth 65536 in
theorem w_c8 : (Jvm.Cond.code ({ cls := "com/example/close_words/closewords/BitRows", name := "slot", desc := "(I)I" } : Jvm.MethodName) prog_6_method_4_code (3 : Nat) (Option.some Jvm.ClassFile.FieldType.int)).before args0 about1 = true := code_word (m := ⟨3, 3⟩) (meth := k3m3) (c := k3c3) (by decide +kernel) rfl rfl rfl (by decide +kernel)
set_option maxRecDepth 65536 in
theorem w_c9 : (Jvm.Cond.code ({ cls := "com/example/close_words/closewords/BitRows", name := "distance", desc := "(I)I" } : Jvm.MethodName) prog_6_method_3_code (4 : Nat) (Option.some Jvm.ClassFile.FieldType.int)).before args0 about1 = true := code_word (m := ⟨3, 2⟩) (meth := k3m2) (c := k3c2) (by decide +kernel) rfl rfl rfl (by decide +kernel)
set_option maxRecDepth 65536 in
theorem w_c10 : (Jvm.Cond.code ({ cls := "com/example/close_words/closewords/BitRowsDistancePinLaw", name := "eq", desc := "(II)I" } : Jvm.MethodName) method_5_code (2 : Nat) (Option.some Jvm.ClassFile.FieldType.int)).before args0 about1 = true := code_word (m := ⟨1, 4⟩) (meth := k1m4) (c := k1c4) (by decide +kernel) rfl rfl rfl (by decide +kernel)
set_option maxRecDepth 65536 in
theorem w_c11 : (Jvm.Cond.code ({ cls := "com/example/close_words/closewords/BitRowsDistancePinLaw", name := "pick", desc := "(IIII)I" } : Jvm.MethodName) method_4_code (4 : Nat) (Option.some Jvm.ClassFile.FieldType.int)).before args0 about1 = true := code_word (m := ⟨1, 3⟩) (meth := k1m3) (c := k1c3) (by decide +kernel) rfl rfl rfl (by decide +kernel)
set_option maxRecDepth 65536 in
theorem w_c12 : (Jvm.Cond.code ({ cls := "com/example/close_words/closewords/BitRowsDistancePinLaw", name := "cap", desc := "(II)I" } : Jvm.MethodName) method_3_code (2 : Nat) (Option.some Jvm.ClassFile.FieldType.int)).before args0 about1 = true := code_word (m := ⟨1, 2⟩) (meth := k1m2) (c := k1c2) (by decide +kernel) rfl rfl rfl (by decide +kernel)
def codes1 : List Jvm.Cond := [Jvm.Cond.code x code maxLocals ret, Jvm.Cond.code ({ cls := "com/example/close_words/closewords/BitRowsDistancePinLaw", name := "ch", desc := "(I)I" } : Jvm.MethodName) method_2_code (1 : Nat) (Option.some Jvm.ClassFile.FieldType.int), Jvm.Cond.code ({ cls := "com/example/close_words/closewords/BitRows", name := "<init>", desc := "([IIIII)V" } : Jvm.MethodName) prog_6_method_1_code (10 : Nat) (Option.none : Option Jvm.ClassFile.FieldType), Jvm.Cond.code ({ cls := "java/lang/Object", name := "<init>", desc := "()V" } : Jvm.MethodName) object_method_1_code (1 : Nat) (Option.none : Option Jvm.ClassFile.FieldType), Jvm.Cond.code ({ cls := "com/example/close_words/closewords/BitRows", name := "upTo", desc := "(I)J" } : Jvm.MethodName) prog_6_method_5_code (1 : Nat) (Option.some Jvm.ClassFile.FieldType.long), Jvm.Cond.code ({ cls := "java/util/Arrays", name := "fill", desc := "([II)V" } : Jvm.MethodName) jdk_65_method_103_code (4 : Nat) (Option.none : Option Jvm.ClassFile.FieldType), Jvm.Cond.code ({ cls := "java/lang/Math", name := "min", desc := "(II)I" } : Jvm.MethodName) jdk_29_method_69_code (2 : Nat) (Option.some Jvm.ClassFile.FieldType.int), Jvm.Cond.code ({ cls := "com/example/close_words/closewords/BitRows", name := "fill", desc := "(IIZ)Z" } : Jvm.MethodName) prog_6_method_2_code (18 : Nat) (Option.some Jvm.ClassFile.FieldType.boolean), Jvm.Cond.code ({ cls := "com/example/close_words/closewords/BitRows", name := "slot", desc := "(I)I" } : Jvm.MethodName) prog_6_method_4_code (3 : Nat) (Option.some Jvm.ClassFile.FieldType.int), Jvm.Cond.code ({ cls := "com/example/close_words/closewords/BitRows", name := "distance", desc := "(I)I" } : Jvm.MethodName) prog_6_method_3_code (4 : Nat) (Option.some Jvm.ClassFile.FieldType.int), Jvm.Cond.code ({ cls := "com/example/close_words/closewords/BitRowsDistancePinLaw", name := "eq", desc := "(II)I" } : Jvm.MethodName) method_5_code (2 : Nat) (Option.some Jvm.ClassFile.FieldType.int), Jvm.Cond.code ({ cls := "com/example/close_words/closewords/BitRowsDistancePinLaw", name := "pick", desc := "(IIII)I" } : Jvm.MethodName) method_4_code (4 : Nat) (Option.some Jvm.ClassFile.FieldType.int), Jvm.Cond.code ({ cls := "com/example/close_words/closewords/BitRowsDistancePinLaw", name := "cap", desc := "(II)I" } : Jvm.MethodName) method_3_code (2 : Nat) (Option.some Jvm.ClassFile.FieldType.int)]
set_option maxRecDepth 65536 in
theorem codes_eq : words1.filter isCode = codes1 := rfl
theorem w_codes : ∀ c ∈ words1.filter isCode, c.before args0 about1 = true := by
  rw [codes_eq]
  intro c hc
  simp only [codes1, List.mem_cons, List.not_mem_nil, or_false] at hc
  rcases hc with rfl | rfl | rfl | rfl | rfl | rfl | rfl | rfl | rfl | rfl | rfl | rfl | rfl
  · exact w_c0
  · exact w_c1
  · exact w_c2
  · exact w_c3
  · exact w_c4
  · exact w_c5
  · exact w_c6
  · exact w_c7
  · exact w_c8
  · exact w_c9
  · exact w_c10
  · exact w_c11
  · exact w_c12
set_option maxRecDepth 65536 in
theorem w_t1 : (words1.take 24).all (fun c => isCode c || c.before args0 about1) = true := by decide +kernel
set_option maxRecDepth 65536 in
theorem w_t2 : ((words1.drop 24).take 24).all (fun c => isCode c || c.before args0 about1) = true := by decide +kernel
set_option maxRecDepth 65536 in
theorem w_t3 : ((words1.drop 24).drop 24).all (fun c => isCode c || c.before args0 about1) = true := by decide +kernel
theorem w_tables : (allAtoms (Jvm.Cond.code x code maxLocals ret :: tables_1)).before args0 about1 = true := by
  rw [allAtoms_all]
  show words1.all (fun c => c.before args0 about1) = true
  refine all_split ?_ w_codes
  rw [← List.take_append_drop 24 words1, List.all_append, w_t1, ← List.take_append_drop 24 (words1.drop 24), List.all_append, w_t2, w_t3]
  rfl
set_option maxRecDepth 65536 in
theorem w_case : (Jvm.Cond.and given_1 narrow_1).before args0 about1 = true := by decide +kernel
theorem w_applies : (headSpec (Jvm.Cond.code x code maxLocals ret :: tables_1) room_1).applies x e0.platform about1 = true :=
  (Spec.applies_iff w_frames).mpr ⟨w_running, w_runnable, w_alone, w_named, w_hears, w_ripe, w_room, w_tables⟩
theorem atStart : AtStart classFile x code maxLocals ret World_1 tables_1 room_1 Calls_1 rest_1 Pre_1 launch0 p0 e0 about1 theMethod args0 below0 :=
  ⟨lists_1, trivial, launch0.admits_env _ _ _, launch0.least_env, fairChoices_fair.cas, fairChoices_fair.clock, w_frames, w_args, w_heap, w_applies, trivial, trivial, w_case⟩
end start1
theorem witness_1 : WitnessClaimed_1 := ⟨start1.p0, start1.e0, start1.about1, start1.theMethod, start1.args0, start1.below0, start1.atStart⟩
end Jvm.Pilot.@@N@@
