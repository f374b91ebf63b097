import JvmDerived
import JvmDerived.Pilot.@@N@@Statement
import JvmDerived.Pilot.@@N@@Code
set_option linter.unusedVariables false
set_option linter.unusedSimpArgs false
@@BLOCK:NumsL.lean.txt@@
namespace Jvm.Pilot.@@N@@
open Jvm Jvm.ClassFile Sem Op Lib Jvm.Free Jvm.Stand Jvm.LawKit Jvm.RoadKit Bundle Jvm.Pilot.@@N@@.Jvm.D
theorem ow {a0 : Array Value} {Z : State} (hw : ∀ d ∈ tables_1, d.before a0 Z = true) (i : Nat) {d : Jvm.Cond} (h : tables_1[i]? = some d) : d.before a0 Z = true := hw _ (List.mem_of_getElem? h)
section OwnKit
abbrev uu : Slot := .unset
abbrev ss : Slot := .second
abbrev jv (x : Int64) : Slot := .val (.long x)
variable {p : Program} {l : Launch} {e : Env} {R : Room} {s : State} {m : MethodId} {args : Array Value} {below : List Frame} {meth : Method} {c : Code} {T : State} {locs : List Loc} {cells slots : Nat} {Z : State} {a0 : Array Value} {h h' : Heap} {K : State → Outcome → Prop}
/-- from here the run comes to an end that K takes -/
def own_Wp (tb : Tables) (e : Env) (below : List Frame) (K : State → Outcome → Prop) (st : State) : Prop := ∃ s₂ o, Steps tb e below st s₂ ∧ K s₂ o
theorem own_of {tb : Tables} {A B : State} (h : ∀ t, Steps tb e below B t → Steps tb e below A t) (w : own_Wp tb e below K B) : own_Wp tb e below K A := by
  obtain ⟨s₂, o, h1, h2⟩ := w
  exact ⟨s₂, o, h _ h1, h2⟩
def own_K (R : Room) (s : State) (below : List Frame) (Q : Option Value → Heap → List Loc → Prop) (s₂ : State) (o : Outcome) : Prop :=
  s₂.status = .running ∧ Ended s₂ below o ∧ ∃ v L, o = .returned v ∧ Q v s₂.heap L ∧ FrameEnd s o s₂ L R.cells R.slots
theorem own_ret {Q : Option Value → Heap → List Loc → Prop} (X : Stand p l e R s m args below meth c T locs cells slots) (hlk : meth.locks = false) (v : Option Value) (hv : meth.sig.returnType = none → v = none) {f : JFrame}
    (hs : ∀ fs, (∀ (f : JFrame) (acts : List Action), f.method = m → f.locked = none → f.entered = [] → (doReturn e (T.setTop f) acts v).1 = T.setFrames fs) → Steps p.tables e below (T.setTop f) (T.setFrames fs))
    (hQ : Q v T.heap locs) (hc : cells ≤ R.cells) (hsl : slots ≤ R.slots) : own_Wp p.tables e below (own_K R s below Q) (T.setTop f) := by
  obtain ⟨fs, hr, hrun, hended, hW, hsame⟩ := X.leave (v := v) hv hlk
  exact ⟨_, _, hs fs hr, hrun, hended, _, _, rfl, hQ, ⟨_, rfl⟩, hW, hsame.mono hc hsl⟩
theorem own_rtI {i : FieldType} {v : Option Value} {r : Option FieldType} (h1 : r = some i) : r = none → v = none := fun h => by rw [h1] at h; cases h
theorem own_retI (X : Stand p l e R s m args below meth c T locs cells slots) (hx : p.tables.exec = Jvm.exec) {pc : Nat} {Ls : Array Slot} {z : Int32} {rest : List Value} (hret : meth.sig.returnType = some .int) (hd : decode c.code pc = .ok (.ireturn, 1)) {fs : List Frame}
    (hl : ∀ (f : JFrame) (acts : List Action), f.method = m → f.locked = none → f.entered = [] → (doReturn e (T.setTop f) acts (some (.int z))).1 = T.setFrames fs) : Steps p.tables e below (T.setTop (mkF m pc Ls (.int z :: rest))) (T.setFrames fs) :=
  retOut X hx hret rfl (Or.inl ⟨rfl, Or.inl rfl, z, rfl⟩) hd hl
theorem own_retJ (X : Stand p l e R s m args below meth c T locs cells slots) (hx : p.tables.exec = Jvm.exec) {pc : Nat} {Ls : Array Slot} {z : Int64} {rest : List Value} (hret : meth.sig.returnType = some .long) (hd : decode c.code pc = .ok (.lreturn, 1)) {fs : List Frame}
    (hl : ∀ (f : JFrame) (acts : List Action), f.method = m → f.locked = none → f.entered = [] → (doReturn e (T.setTop f) acts (some (.long z))).1 = T.setFrames fs) : Steps p.tables e below (T.setTop (mkF m pc Ls (.long z :: rest))) (T.setFrames fs) :=
  retOut X hx hret rfl (Or.inr (Or.inl ⟨rfl, rfl, z, rfl⟩)) hd hl
theorem own_retR (X : Stand p l e R s m args below meth c T locs cells slots) (hx : p.tables.exec = Jvm.exec) {pc : Nat} {Ls : Array Slot} {w : Value} {t : FieldType} {rest : List Value} (hret : meth.sig.returnType = some t) (hw : w.isRef = true) (ht : t.isReference = true) (hn : narrow t w = w) (hd : decode c.code pc = .ok (.areturn, 1)) {fs : List Frame}
    (hl : ∀ (f : JFrame) (acts : List Action), f.method = m → f.locked = none → f.entered = [] → (doReturn e (T.setTop f) acts (some w)).1 = T.setFrames fs) : Steps p.tables e below (T.setTop (mkF m pc Ls (w :: rest))) (T.setFrames fs) :=
  retOut X hx hret hn (Or.inr (Or.inr (Or.inr (Or.inr ⟨rfl, ht, hw⟩)))) hd hl
/-- a method's contract: called so, at the heap h0, it returns as Q says -/
abbrev own_Ctr (l : Launch) (Z : State) (y : MethodName) (bytes : ByteArray) (maxL : Nat) (ret : Option FieldType) (ws : List Jvm.Cond) (rm : Room) (as' : Array Value) (h0 : Heap) (Q : Option Value → Heap → List Loc → Prop) : Prop :=
  MetFree l y (head1 (Jvm.Cond.code y bytes maxL ret :: ws) rm) (fun a U => a = as' ∧ Z.Warmed39 U.vm ∧ U.heap = h0) (fun _ _ _ _ _ => True) (fun _ U o U' => ∃ v L, o = .returned v ∧ Q v U'.heap L ∧ FrameEnd U o U' L rm.cells rm.slots)
theorem own_enter {y : MethodName} {bytes : ByteArray} {maxL : Nat} {ret : Option FieldType} {ws : List Jvm.Cond} {rm : Room} {as' : Array Value} {h0 : Heap} {Q : Option Value → Heap → List Loc → Prop} (hpl : plainFor y = true)
    (body : ∀ (p : Program) (e : Env) (s : State) (m : MethodId) (below : List Frame) (meth : Method) (c : Code) (s₁ : State), Stand p l e rm s m as' below meth c s₁ [] 0 0 → p.tables.exec = Jvm.exec → c.code = bytes → c.maxLocals = maxL → meth.sig.returnType = ret → meth.locks = false → Z.Warmed39 s.vm → s.vm.findClass y.cls = some m.cls → meth.name = y.name → s₁.heap = h0 → own_Wp p.tables e below (own_K rm s below Q) (s₁.setTop (entryFrame m as' maxL))) :
    own_Ctr l Z y bytes maxL ret ws rm as' h0 Q := by
  refine MetFree.of_bodySF hpl hisR ?_
  intro p e s m args below meth c s₁ Bd hml0 hP hK
  obtain ⟨rfl, hZ, hh⟩ := hP
  obtain ⟨s₂, o, h1, h2, h3, h4⟩ := body p e s m below meth c s₁ (Stand.of_body Bd) Bd.exec Bd.bytes hml0 Bd.returns Bd.notSynchronized hZ (findClass_of_methodNamed Bd.named) (name_of_methodNamed Bd.named Bd.method).1 (by rw [← hh, Bd.state]; rfl)
  exact ⟨s₂, o, h1, h2, h3, h4⟩
section Calls
variable {own C : String} {index maxL W : Nat} {y z : MethodName} {bytes : ByteArray} {ret : Option FieldType} {rm : Room} {Q : Option Value → Heap → List Loc → Prop} {argsL rest : List Value} {g : JFrame} {a : Addr}
theorem own_callS (X : Stand p l e R s m args below meth c T locs cells slots) (hx : p.tables.exec = Jvm.exec) (hZ : Z.Warmed39 s.vm) (hown : s.vm.findClass own = some m.cls)
    (w1 : (Jvm.Cond.methodLink own index y).before a0 Z = true) (w2 : (Jvm.Cond.static y).before a0 Z = true) (w3 : (Jvm.Cond.initialized y.cls).before a0 Z = true) (w4 : (Jvm.Cond.code y bytes maxL ret).before a0 Z = true)
    (hy : y.cls ≠ "java/lang/invoke/MethodHandle" ∧ y.cls ≠ "java/lang/invoke/VarHandle") (eT : T.heap = h) (hM : own_Ctr l Z y bytes maxL ret [] rm argsL.toArray h Q)
    (hf : rm.frames + 1 ≤ R.frames) (hl : W + (maxL + 11) + rm.locals ≤ R.locals) (hc : cells + rm.cells ≤ R.cells) (hs : slots + rm.slots ≤ R.slots)
    (hg : g.method = m) (hsize : g.locals.size = c.maxLocals) (hlen : ∀ sig, parseMethodDescriptor y.desc = some sig → argsL.length = sig.parameters.length) (hstack : g.stack = argsL.reverse ++ rest) (hW : 2 * g.monitorRoom + (rest.map fun v => v.category).sum ≤ W) (hdg : decode c.code g.pc = .ok (.invokestatic index, 3))
    (k : ∀ (T' : State) (L : List Loc) (v : Option Value), Stand p l e R s m args below meth c T' (locs ++ L) (cells + rm.cells) (slots + rm.slots) → Q v T'.heap L → own_Wp p.tables e below K (T'.setTop { g with pc := g.pc + 3, stack := v.toList ++ rest })) :
    own_Wp p.tables e below K (T.setTop g) := by
  obtain ⟨v, _, ⟨T', L', k', n'⟩, -, X', ⟨Lc, hQ, l1, y1, z1⟩, st⟩ := Jvm.LawKit.callS X hx hown (mvT hZ w1) (mvT hZ w2) (mvT hZ w3) (mvT hZ w4) hy (backOf (W := W) hM hZ w4 w3 hf hl) hg hsize hlen hstack hW hdg (fun _ _ => ⟨rfl, eT, hc, hs⟩)
  dsimp only [Pt.U, Pt.locs, Pt.cells, Pt.slots] at X' l1 y1 z1 st hQ
  subst l1 y1 z1
  exact own_of st (k _ _ _ X' hQ)
theorem own_callI (X : Stand p l e R s m args below meth c T locs cells slots) (hx : p.tables.exec = Jvm.exec) (hZ : Z.Warmed39 s.vm) (hy1 : y.name = "<init>") (hown : s.vm.findClass own = some m.cls)
    (w1 : (Jvm.Cond.methodLink own index y).before a0 Z = true) (w2 : (Jvm.Cond.instanceMethod y).before a0 Z = true) (w3 : (Jvm.Cond.initialized y.cls).before a0 Z = true) (w4 : (Jvm.Cond.code y bytes maxL none).before a0 Z = true)
    (hy : y.cls ≠ "java/lang/invoke/MethodHandle" ∧ y.cls ≠ "java/lang/invoke/VarHandle") (eT : T.heap = h) (hM : own_Ctr l Z y bytes maxL none [] rm (.ref a :: argsL).toArray h Q)
    (hf : rm.frames + 1 ≤ R.frames) (hl : W + (maxL + 11) + rm.locals ≤ R.locals) (hc : cells + rm.cells ≤ R.cells) (hs : slots + rm.slots ≤ R.slots)
    (hg : g.method = m) (hsize : g.locals.size = c.maxLocals) (hlen : ∀ sig, parseMethodDescriptor y.desc = some sig → argsL.length = sig.parameters.length) (hstack : g.stack = argsL.reverse ++ .ref a :: rest) (hW : 2 * g.monitorRoom + (rest.map fun v => v.category).sum ≤ W) (hdg : decode c.code g.pc = .ok (.invokespecial index, 3))
    (k : ∀ (T' : State) (L : List Loc) (v : Option Value), Stand p l e R s m args below meth c T' (locs ++ L) (cells + rm.cells) (slots + rm.slots) → Q v T'.heap L → own_Wp p.tables e below K (T'.setTop { g with pc := g.pc + 3, stack := v.toList ++ rest })) :
    own_Wp p.tables e below K (T.setTop g) := by
  obtain ⟨v, _, ⟨T', L', k', n'⟩, -, X', ⟨Lc, hQ, l1, y1, z1⟩, st⟩ := X.specialBack hx hy1 hown (mvT hZ w1) (mvT hZ w2) (mvT hZ w4) hy (backOf (W := W) hM hZ w4 w3 hf hl) hg hsize (Steps.refl _) hlen hstack hW hdg (fun _ _ => ⟨rfl, eT, hc, hs⟩)
  dsimp only [Pt.U, Pt.locs, Pt.cells, Pt.slots] at X' l1 y1 z1 st hQ
  subst l1 y1 z1
  exact own_of (fun t q => st.trans q) (k _ _ _ X' hQ)
theorem own_callV (X : Stand p l e R s m args below meth c T locs cells slots) (hx : p.tables.exec = Jvm.exec) (hZ : Z.Warmed39 s.vm) (hown : s.vm.findClass own = some m.cls)
    (w1 : (Jvm.Cond.methodLink own index y).before a0 Z = true) (w2 : (Jvm.Cond.declares y).before a0 Z = true) (w5 : (Jvm.Cond.selects C y y).before a0 Z = true) (w6 : (Jvm.Cond.instanceMethod y).before a0 Z = true) (w3 : (Jvm.Cond.initialized y.cls).before a0 Z = true) (w4 : (Jvm.Cond.code y bytes maxL ret).before a0 Z = true)
    (hy : y.cls ≠ "java/lang/invoke/MethodHandle" ∧ y.cls ≠ "java/lang/invoke/VarHandle") (eT : T.heap = h) (E : Exa Z h a C) (hM : own_Ctr l Z y bytes maxL ret [] rm (.ref a :: argsL).toArray h Q)
    (hf : rm.frames + 1 ≤ R.frames) (hl : W + (maxL + 11) + rm.locals ≤ R.locals) (hc : cells + rm.cells ≤ R.cells) (hs : slots + rm.slots ≤ R.slots)
    (hg : g.method = m) (hsize : g.locals.size = c.maxLocals) (hlen : ∀ sig, parseMethodDescriptor y.desc = some sig → argsL.length = sig.parameters.length) (hstack : g.stack = argsL.reverse ++ .ref a :: rest) (hW : 2 * g.monitorRoom + (rest.map fun v => v.category).sum ≤ W) (hdg : decode c.code g.pc = .ok (.invokevirtual index, 3))
    (k : ∀ (T' : State) (L : List Loc) (v : Option Value), Stand p l e R s m args below meth c T' (locs ++ L) (cells + rm.cells) (slots + rm.slots) → Q v T'.heap L → own_Wp p.tables e below K (T'.setTop { g with pc := g.pc + 3, stack := v.toList ++ rest })) :
    own_Wp p.tables e below K (T.setTop g) := by
  obtain ⟨cq, kq, qa, qb, qc⟩ := isOf hZ eT E
  obtain ⟨v, _, ⟨T', L', k', n'⟩, -, X', ⟨Lc, hQ, l1, y1, z1⟩, st⟩ := X.virtualBack hx hown (mvT hZ w1) (mvT hZ w2) (notFace_of_selects (args := #[]) (mvT hZ w5)) (mvT hZ w5) (mvT hZ w6) hy (backOf (W := W) hM hZ w4 w3 hf hl) qa qc hg hsize (Steps.refl _) hlen hstack hW hdg (fun _ _ => ⟨rfl, eT, hc, hs⟩)
  dsimp only [Pt.U, Pt.locs, Pt.cells, Pt.slots] at X' l1 y1 z1 st hQ
  subst l1 y1 z1
  exact own_of (fun t q => st.trans q) (k _ _ _ X' hQ)
theorem own_callP {nI : Nat} {C0 : String} (X : Stand p l e R s m args below meth c T locs cells slots) (hx : p.tables.exec = Jvm.exec) (hZ : Z.Warmed39 s.vm) (hown : s.vm.findClass own = some m.cls)
    (w1 : (Jvm.Cond.methodLink own index y).before a0 Z = true) (w2 : (Jvm.Cond.instanceMethod y).before a0 Z = true) (wi : (Jvm.Cond.instantiable y.cls nI).before a0 Z = true) (wp : (Jvm.Cond.privateMethod y).before a0 Z = true) (w3 : (Jvm.Cond.initialized y.cls).before a0 Z = true) (w4 : (Jvm.Cond.code y bytes maxL ret).before a0 Z = true)
    (hy : y.cls ≠ "java/lang/invoke/MethodHandle" ∧ y.cls ≠ "java/lang/invoke/VarHandle") (eT : T.heap = h) (E : Exa Z h a C0) (hM : own_Ctr l Z y bytes maxL ret [] rm (.ref a :: argsL).toArray h Q)
    (hf : rm.frames + 1 ≤ R.frames) (hl : W + (maxL + 11) + rm.locals ≤ R.locals) (hc : cells + rm.cells ≤ R.cells) (hs : slots + rm.slots ≤ R.slots)
    (hg : g.method = m) (hsize : g.locals.size = c.maxLocals) (hlen : ∀ sig, parseMethodDescriptor y.desc = some sig → argsL.length = sig.parameters.length) (hstack : g.stack = argsL.reverse ++ .ref a :: rest) (hW : 2 * g.monitorRoom + (rest.map fun v => v.category).sum ≤ W) (hdg : decode c.code g.pc = .ok (.invokevirtual index, 3))
    (k : ∀ (T' : State) (L : List Loc) (v : Option Value), Stand p l e R s m args below meth c T' (locs ++ L) (cells + rm.cells) (slots + rm.slots) → Q v T'.heap L → own_Wp p.tables e below K (T'.setTop { g with pc := g.pc + 3, stack := v.toList ++ rest })) :
    own_Wp p.tables e below K (T.setTop g) := by
  obtain ⟨cq, q1, q2⟩ := E.cell
  obtain ⟨ci, ki, i1, i2, -, i4, -⟩ := Cond.instantiable_spec (mvT (args := args) hZ wi)
  simp only [Bool.or_eq_false_iff] at i4
  have hpr : s.PrivateAt y := Cond.privateMethod_at (mvP hZ wp (args := #[]))
  have hsel : (Jvm.Cond.selects y.cls y y).before args s = true := selects_self_of_private i1 i2 i4.1 hpr (mvT hZ w2) hy
  obtain ⟨v, _, ⟨T', L', k', n'⟩, -, X', ⟨Lc, hQ, l1, y1, z1⟩, st⟩ := X.privateBack hx hown (mvT hZ w1) (mvT hZ w2) hsel hpr (mvT hZ w4) hy (backOf (W := W) hM hZ w4 w3 hf hl) hg hsize (Steps.refl _) (by rw [eT]; exact q1) q2 hlen hstack hW hdg (fun _ _ => ⟨rfl, eT, hc, hs⟩)
  dsimp only [Pt.U, Pt.locs, Pt.cells, Pt.slots] at X' l1 y1 z1 st hQ
  subst l1 y1 z1
  exact own_of (fun t q => st.trans q) (k _ _ _ X' hQ)
end Calls
end OwnKit
section OwnArr
variable {p : Program} {l : Launch} {e : Env} {R : Room} {s : State} {m : MethodId} {args : Array Value} {below : List Frame} {meth : Method} {c : Code} {T : State} {locs : List Loc} {cells slots : Nat} {Z : State} {a0 : Array Value} {h h' : Heap} {K : State → Outcome → Prop}
variable {a b : Addr} {ty : FieldType} {n sl : Nat} {f : Nat → Value} {v : Value} {ws : List Addr}
theorem own_nat {j : Int32} {i : Nat} (hj : j.toInt = (i : Int)) : j.toNatClampNeg = i := by
  show j.toInt.toNat = i
  rw [hj]; exact Int.toNat_natCast i
theorem own_nneg {j : Int32} {i : Nat} (hj : j.toInt = (i : Int)) : ¬ j < 0 := by
  rw [Int32.lt_iff_toInt_lt, hj]
  show ¬ ((i : Int) < 0)
  omega
/-- the array at a: its kind, its length, its elements -/
def own_Ar (Z : State) (h : Heap) (a : Addr) (ty : FieldType) (n : Nat) (f : Nat → Value) : Prop := n < 2147483648 ∧ ∃ c : Cell, Arr Z h a c ty ∧ c.slots.size = n ∧ ∀ i, i < n → c.slots[i]? = some (f i)
def own_set (f : Nat → Value) (i : Nat) (v : Value) : Nat → Value := fun k => if k = i then v else f k
theorem own_set_eq (f : Nat → Value) (i : Nat) (v : Value) : own_set f i v i = v := if_pos rfl
theorem own_set_ne {f : Nat → Value} {i k : Nat} {v : Value} (q : k ≠ i) : own_set f i v k = f k := if_neg q
theorem own_Ar.lt (F : own_Ar Z h a ty n f) : a < h.size := by obtain ⟨_, c, A, -⟩ := F; exact A.lt
theorem own_Ar.ext (F : own_Ar Z h a ty n f) (E : Ext h h') : own_Ar Z h' a ty n f := by obtain ⟨q, c, A, r⟩ := F; exact ⟨q, c, A.ext E, r⟩
theorem own_Ar.other (F : own_Ar Z h a ty n f) (W : Wr h h' b sl v) (q : a ≠ b) : own_Ar Z h' a ty n f := by obtain ⟨q0, c, A, r⟩ := F; exact ⟨q0, c, A.other W q, r⟩
theorem own_Ar.keep (F : own_Ar Z h a ty n f) (K : Keep h h' ws) (q : a ∉ ws) : own_Ar Z h' a ty n f := by obtain ⟨q0, c, A, r⟩ := F; exact ⟨q0, c, ⟨K.2.1 a c A.1 q, A.2⟩, r⟩
theorem own_Ar.fn {f' : Nat → Value} (F : own_Ar Z h a ty n f) (q : ∀ i, i < n → f i = f' i) : own_Ar Z h a ty n f' := by obtain ⟨q0, c, A, r1, r2⟩ := F; exact ⟨q0, c, A, r1, fun i hi => by rw [← q i hi]; exact r2 i hi⟩
theorem own_Ar.new {k : ClassId} {z : Int32} (A : Arr Z h a (newA k ty z) ty) (q : ¬ z < 0) (e : z.toNatClampNeg = n) : own_Ar Z h a ty n (fun _ => defaultValue ty) := by
  refine ⟨by rw [← e]; exact (back32 q).2, _, A, by rw [sz_new, e], fun i hi => ?_⟩
  simp [newA, e, hi]
theorem own_Ar.start (A : Arr Z h a c' ty) (hs : c'.slots.size < 2147483648) (H : ∀ i, i < c'.slots.size → c'.slots[i]? = some (f i)) : own_Ar Z h a ty c'.slots.size f := ⟨hs, _, A, rfl, H⟩
section Steps
variable {j : Int32} {i : Nat} {g : JFrame} {rest : List Value}
theorem own_in {cl : Cell} (hj : j.toInt = (i : Int)) (hi : i < n) (hsz : cl.slots.size = n) : ¬ (j < 0 ∨ cl.slots.size ≤ j.toNatClampNeg) := by
  rw [own_nat hj, hsz]
  rintro (q | q)
  · exact own_nneg hj q
  · omega
theorem own_iaload {v : Int32} (X : Stand p l e R s m args below meth c T locs cells slots) (hx : p.tables.exec = Jvm.exec) (hZ : Z.Warmed39 s.vm) (eT : T.heap = h) (A : own_Ar Z h a .int n f) (hj : j.toInt = (i : Int)) (hi : i < n) (hv : f i = .int v)
    (hg : g.method = m) (hs : g.stack = .int j :: .ref a :: rest) (hd : decode c.code g.pc = .ok (.iaload, 1)) (k : own_Wp p.tables e below K (T.setTop { g with pc := g.pc + 1, stack := .int v :: rest })) : own_Wp p.tables e below K (T.setTop g) := by
  obtain ⟨-, cl, A, hsz, H⟩ := A
  exact own_of (X.iaload hx (by rw [eT]; exact A.1) (State.isArrayOf_alike hZ.alike A.2.1) A.2.2 (own_in hj hi hsz) (by rw [own_nat hj, H i hi, hv]) hg hs hd) k
theorem own_laload {v : Int64} (X : Stand p l e R s m args below meth c T locs cells slots) (hx : p.tables.exec = Jvm.exec) (hZ : Z.Warmed39 s.vm) (eT : T.heap = h) (A : own_Ar Z h a .long n f) (hj : j.toInt = (i : Int)) (hi : i < n) (hv : f i = .long v)
    (hg : g.method = m) (hs : g.stack = .int j :: .ref a :: rest) (hd : decode c.code g.pc = .ok (.laload, 1)) (k : own_Wp p.tables e below K (T.setTop { g with pc := g.pc + 1, stack := .long v :: rest })) : own_Wp p.tables e below K (T.setTop g) := by
  obtain ⟨-, cl, A, hsz, H⟩ := A
  exact own_of (X.laload hx (by rw [eT]; exact A.1) (State.isArrayOf_alike hZ.alike A.2.1) A.2.2 (own_in hj hi hsz) (by rw [own_nat hj, H i hi, hv]) hg hs hd) k
theorem own_baload {v : Int32} (X : Stand p l e R s m args below meth c T locs cells slots) (hx : p.tables.exec = Jvm.exec) (hZ : Z.Warmed39 s.vm) (eT : T.heap = h) (A : own_Ar Z h a .byte n f) (hj : j.toInt = (i : Int)) (hi : i < n) (hv : f i = .int v)
    (hg : g.method = m) (hs : g.stack = .int j :: .ref a :: rest) (hd : decode c.code g.pc = .ok (.baload, 1)) (k : own_Wp p.tables e below K (T.setTop { g with pc := g.pc + 1, stack := .int v :: rest })) : own_Wp p.tables e below K (T.setTop g) := by
  obtain ⟨-, cl, A, hsz, H⟩ := A
  exact own_of (X.baloadBytes hx (by rw [eT]; exact A.1) (State.isArrayOf_alike hZ.alike A.2.1) A.2.2 (own_in hj hi hsz) (by rw [own_nat hj, H i hi, hv]) hg hs hd) k
theorem own_caload {v : Int32} (X : Stand p l e R s m args below meth c T locs cells slots) (hx : p.tables.exec = Jvm.exec) (hZ : Z.Warmed39 s.vm) (eT : T.heap = h) (A : own_Ar Z h a .char n f) (hj : j.toInt = (i : Int)) (hi : i < n) (hv : f i = .int v)
    (hg : g.method = m) (hs : g.stack = .int j :: .ref a :: rest) (hd : decode c.code g.pc = .ok (.caload, 1)) (k : own_Wp p.tables e below K (T.setTop { g with pc := g.pc + 1, stack := .int v :: rest })) : own_Wp p.tables e below K (T.setTop g) := by
  obtain ⟨-, cl, A, hsz, H⟩ := A
  exact own_of (X.caload hx (by rw [eT]; exact A.1) (State.isArrayOf_alike hZ.alike A.2.1) A.2.2 (own_in hj hi hsz) (by rw [own_nat hj, H i hi, hv]) hg hs hd) k
theorem own_zaload {v : Int32} (X : Stand p l e R s m args below meth c T locs cells slots) (hx : p.tables.exec = Jvm.exec) (hZ : Z.Warmed39 s.vm) (eT : T.heap = h) (A : own_Ar Z h a .boolean n f) (hj : j.toInt = (i : Int)) (hi : i < n) (hv : f i = .int v)
    (hg : g.method = m) (hs : g.stack = .int j :: .ref a :: rest) (hd : decode c.code g.pc = .ok (.baload, 1)) (k : own_Wp p.tables e below K (T.setTop { g with pc := g.pc + 1, stack := .int v :: rest })) : own_Wp p.tables e below K (T.setTop g) := by
  obtain ⟨-, cl, A, hsz, H⟩ := A
  exact own_of (X.baloadBooleans hx (by rw [eT]; exact A.1) (State.isArrayOf_alike hZ.alike A.2.1) A.2.2 (own_in hj hi hsz) (by rw [own_nat hj, H i hi, hv]) hg hs hd) k
theorem own_aaload {C : String} {v : Value} (X : Stand p l e R s m args below meth c T locs cells slots) (hx : p.tables.exec = Jvm.exec) (hZ : Z.Warmed39 s.vm) (eT : T.heap = h) (A : own_Ar Z h a (.object C) n f) (hj : j.toInt = (i : Int)) (hi : i < n) (hv : f i = v)
    (hg : g.method = m) (hs : g.stack = .int j :: .ref a :: rest) (hd : decode c.code g.pc = .ok (.aaload, 1)) (k : own_Wp p.tables e below K (T.setTop { g with pc := g.pc + 1, stack := v :: rest })) : own_Wp p.tables e below K (T.setTop g) := by
  obtain ⟨-, cl, A, hsz, H⟩ := A
  exact own_of (X.aaload hx (by rw [eT]; exact A.1) (State.isArrayOf_alike hZ.alike A.2.1) rfl A.2.2 (own_in hj hi hsz) (by rw [own_nat hj, H i hi, hv]) hg hs hd) k
theorem own_len {z : Int32} (X : Stand p l e R s m args below meth c T locs cells slots) (hx : p.tables.exec = Jvm.exec) (hZ : Z.Warmed39 s.vm) (eT : T.heap = h) (A : own_Ar Z h a ty n f) (hz : z.toInt = (n : Int))
    (hg : g.method = m) (hs : g.stack = .ref a :: rest) (hd : decode c.code g.pc = .ok (.arraylength, 1)) (k : own_Wp p.tables e below K (T.setTop { g with pc := g.pc + 1, stack := .int z :: rest })) : own_Wp p.tables e below K (T.setTop g) := by
  obtain ⟨-, cl, A, hsz, H⟩ := A
  have q : cl.slots.size.toInt32 = z := by rw [hsz, ← own_nat hz]; exact (back32 (own_nneg hz)).1
  rw [← q] at k
  exact own_of (X.arraylength hx (by rw [eT]; exact A.1) (State.isArrayOf_alike hZ.alike A.2.1) hg hs hd) k
theorem own_Ar.set {cl : Cell} {hn : n < 2147483648} (A : Arr Z h a cl ty) (hsz : cl.slots.size = n) (H : ∀ i, i < n → cl.slots[i]? = some (f i)) (hi : i < n) (W : Wr h h' a i v) : own_Ar Z h' a ty n (own_set f i v) := by
  refine ⟨hn, _, A.same W, by rw [sz_set]; exact hsz, fun q hq => ?_⟩
  by_cases e : q = i
  · subst e; rw [own_set_eq]; simp [Cell.setSlot, hsz, hq]
  · rw [own_set_ne e, ← H q hq]; exact Array.getElem?_setIfInBounds_ne (Ne.symm e)
theorem own_stI {x : Int32} (X : Stand p l e R s m args below meth c T locs cells slots) (hx : p.tables.exec = Jvm.exec) (hZ : Z.Warmed39 s.vm) (eT : T.heap = h) (A : own_Ar Z h a .int n f) (hj : j.toInt = (i : Int)) (hi : i < n)
    (hg : g.method = m) (hs : g.stack = .int x :: .int j :: .ref a :: rest) (hd : decode c.code g.pc = .ok (.iastore, 1)) :
    ∃ T' h', Stand p l e R s m args below meth c T' (locs ++ [⟨a, i⟩]) cells slots ∧ T'.heap = h' ∧ Wr h h' a i (.int x) ∧ own_Ar Z h' a .int n (own_set f i (.int x)) ∧ ∀ target, Steps p.tables e below (T'.setTop { g with pc := g.pc + 1, stack := rest }) target → Steps p.tables e below (T.setTop g) target := by
  obtain ⟨hn, cl, A, hsz, H⟩ := A
  obtain ⟨T', h', X', e', W, st⟩ := stI X hx hZ eT A (own_in hj hi hsz) hg hs hd
  rw [own_nat hj] at X' W
  exact ⟨T', h', X', e', W, own_Ar.set (hn := hn) A hsz H hi W, st⟩
theorem own_stJ {x : Int64} (X : Stand p l e R s m args below meth c T locs cells slots) (hx : p.tables.exec = Jvm.exec) (hZ : Z.Warmed39 s.vm) (eT : T.heap = h) (A : own_Ar Z h a .long n f) (hj : j.toInt = (i : Int)) (hi : i < n)
    (hg : g.method = m) (hs : g.stack = .long x :: .int j :: .ref a :: rest) (hd : decode c.code g.pc = .ok (.lastore, 1)) :
    ∃ T' h', Stand p l e R s m args below meth c T' (locs ++ [⟨a, i⟩]) cells slots ∧ T'.heap = h' ∧ Wr h h' a i (.long x) ∧ own_Ar Z h' a .long n (own_set f i (.long x)) ∧ ∀ target, Steps p.tables e below (T'.setTop { g with pc := g.pc + 1, stack := rest }) target → Steps p.tables e below (T.setTop g) target := by
  obtain ⟨hn, cl, A, hsz, H⟩ := A
  obtain ⟨T', h', X', e', W, st⟩ := stJ X hx hZ eT A (own_in hj hi hsz) hg hs hd
  rw [own_nat hj] at X' W
  exact ⟨T', h', X', e', W, own_Ar.set (hn := hn) A hsz H hi W, st⟩
theorem own_stB {x : Int32} (X : Stand p l e R s m args below meth c T locs cells slots) (hx : p.tables.exec = Jvm.exec) (hZ : Z.Warmed39 s.vm) (eT : T.heap = h) (A : own_Ar Z h a .byte n f) (hj : j.toInt = (i : Int)) (hi : i < n)
    (hg : g.method = m) (hs : g.stack = .int x :: .int j :: .ref a :: rest) (hd : decode c.code g.pc = .ok (.bastore, 1)) :
    ∃ T' h', Stand p l e R s m args below meth c T' (locs ++ [⟨a, i⟩]) cells slots ∧ T'.heap = h' ∧ Wr h h' a i (.int x.toInt8.toInt32) ∧ own_Ar Z h' a .byte n (own_set f i (.int x.toInt8.toInt32)) ∧ ∀ target, Steps p.tables e below (T'.setTop { g with pc := g.pc + 1, stack := rest }) target → Steps p.tables e below (T.setTop g) target := by
  obtain ⟨hn, cl, A, hsz, H⟩ := A
  obtain ⟨T', h', X', e', W, st⟩ := stB X hx hZ eT A (own_in hj hi hsz) hg hs hd
  rw [own_nat hj] at X' W
  exact ⟨T', h', X', e', W, own_Ar.set (hn := hn) A hsz H hi W, st⟩
theorem own_stC {x : Int32} (X : Stand p l e R s m args below meth c T locs cells slots) (hx : p.tables.exec = Jvm.exec) (hZ : Z.Warmed39 s.vm) (eT : T.heap = h) (A : own_Ar Z h a .char n f) (hj : j.toInt = (i : Int)) (hi : i < n)
    (hg : g.method = m) (hs : g.stack = .int x :: .int j :: .ref a :: rest) (hd : decode c.code g.pc = .ok (.castore, 1)) :
    ∃ T' h', Stand p l e R s m args below meth c T' (locs ++ [⟨a, i⟩]) cells slots ∧ T'.heap = h' ∧ Wr h h' a i (.int (nar .char x)) ∧ own_Ar Z h' a .char n (own_set f i (.int (nar .char x))) ∧ ∀ target, Steps p.tables e below (T'.setTop { g with pc := g.pc + 1, stack := rest }) target → Steps p.tables e below (T.setTop g) target := by
  obtain ⟨hn, cl, A, hsz, H⟩ := A
  obtain ⟨T', h', X', e', W, st⟩ := stC X hx hZ eT A (own_in hj hi hsz) hg hs hd
  rw [own_nat hj] at X' W
  exact ⟨T', h', X', e', W, own_Ar.set (hn := hn) A hsz H hi W, st⟩
end Steps
theorem own_more {cells' slots' : Nat} (X : Stand p l e R s m args below meth c T locs cells slots) (h1 : cells ≤ cells') (h2 : slots ≤ slots') : Stand p l e R s m args below meth c T locs cells' slots' := { X with same := X.same.mono h1 h2 }
section Start
variable {C nm d : String}
theorem own_refArr {t : Term} (ha : (Jvm.Cond.arrayOf t ty).value args s none s [] = some true) : ∃ (a : Addr) (cl : Cell), Arr s s.heap a cl ty ∧ s.arrayAt? a = some cl ∧ t.eval args s none [] s = some (.ref a) := by
  obtain ⟨a, ev⟩ : ∃ a, t.eval args s none [] s = some (.ref a) := by
    simp only [Cond.value] at ha
    split at ha
    · cases ha
    · split at ha
      · exact ⟨_, by assumption⟩
      · cases ha
      · cases ha
  obtain ⟨cl, A⟩ := Arr.start ev ha
  exact ⟨a, cl, A, IntBox.arrayAt_of A.1 A.2.1 A.2.2, ev⟩
theorem own_exaRef {t : Term} {K : String} (h : (Jvm.Cond.exactly t K).value args s none s [] = some true) : ∃ a, Exa s s.heap a K ∧ t.eval args s none [] s = some (.ref a) := by
  obtain ⟨a', c', cell, k, e1, -⟩ := Cond.exactly_spec (Cond.before_iff.mpr h)
  exact ⟨a', Exa.start e1 h, e1⟩
theorem own_fldOf {t : Term} {v : Value} {O : String} (ev : t.eval args s none [] s = some (.ref a)) (e : (Term.field t O nm d).eval args s none [] s = some v) : Fld s s.heap a O nm d v := by
  simp only [Term.eval, ev, Option.bind_eq_bind, Option.bind_some] at e
  exact Fld.start e
theorem own_fldI {t : Term} {x : Int32} {O : String} (ev : t.eval args s none [] s = some (.ref a)) (h : (Jvm.Cond.eq (.field t O nm d) (.int x)).value args s none s [] = some true) : Fld s s.heap a O nm d (.int x) := by
  cases he : (Term.field t O nm d).eval args s none [] s with
  | none => simp [Cond.value, he] at h
  | some w =>
    have : w = .int x := by
      simp only [Cond.value, he] at h
      rw [show (Term.int x).eval args s none [] s = some (.int x) from rfl] at h
      cases w <;> simp at h
      subst h; rfl
    subst this
    exact own_fldOf ev he
theorem own_isRef {t : Term} (h : (Jvm.Cond.isRef t).value args s none s [] = some true) : ∃ v, t.eval args s none [] s = some v ∧ (v = .null ∨ ∃ b, v = .ref b) := by
  simp only [Cond.value] at h
  cases he : t.eval args s none [] s with
  | none => simp [he] at h
  | some w => rw [he] at h; cases w <;> simp at h <;> simp
theorem own_notZero {t : Term} {x : Int32} (ev : t.eval args s none [] s = some (.int x)) (h : (Jvm.Cond.not (Jvm.Cond.eq t (.int 0))).value args s none s [] = some true) : ¬ x = 0 := by
  intro q
  subst q
  simp [Cond.value, ev, Term.eval] at h
theorem own_ltOf {x y : Int32} {i k : Nat} (h1 : x.toInt = (i : Int)) (h2 : y.toInt = (k : Int)) (h : i < k) : x < y := by
  rw [Int32.lt_iff_toInt_lt, h1, h2]; omega
theorem own_Ar.some {cl : Cell} (A : Arr Z h a cl ty) (hs : cl.slots.size < 2147483648) : own_Ar Z h a ty cl.slots.size (fun k => (cl.slots[k]?).getD .null) :=
  ⟨hs, _, A, rfl, fun i hi => by simp [Array.getElem?_eq_getElem hi]⟩
/-- a static that holds an array, at the start -/
theorem own_staArr (hi : (Jvm.Cond.initialized C).before args s = true) (hl : (Jvm.Cond.laysStatic C nm d).before args s = true) (ha : (Jvm.Cond.arrayOf (.static C nm d) ty).value args s none s [] = some true) :
    ∃ (a : Addr) (cl : Cell), Sta s s.heap C nm d (.ref a) ∧ Arr s s.heap a cl ty ∧ s.arrayAt? a = some cl ∧ (Term.static C nm d).eval args s none [] s = some (.ref a) := by
  obtain ⟨a, ev⟩ : ∃ a, (Term.static C nm d).eval args s none [] s = some (.ref a) := by
    simp only [Cond.value] at ha
    split at ha
    · cases ha
    · split at ha
      · exact ⟨_, by assumption⟩
      · cases ha
      · cases ha
  obtain ⟨cl, A⟩ := Arr.start ev ha
  exact ⟨a, cl, Sta.start ev (Or.inr ⟨hi, hl⟩), A, IntBox.arrayAt_of A.1 A.2.1 A.2.2, ev⟩
/-- an element that the case names -/
theorem own_elemEq {t i b : Term} {x : Int32} {cl : Cell} {jj : Int32} {idx : List Nat} (ev : t.eval args s none idx s = some (.ref a)) (hat : s.arrayAt? a = some cl) (hi : i.eval args s none idx s = some (.int jj)) (hb : b.eval args s none idx s = some (.int x)) (h : (Jvm.Cond.eq (.elem t i) b).value args s none s idx = some true) : ¬ jj < 0 ∧ cl.slots[jj.toNatClampNeg]? = some (.int x) := by
  simp only [Cond.value, hb] at h
  cases he : (Term.elem t i).eval args s none idx s with
  | none => simp [he] at h
  | some w =>
    obtain ⟨a', j', cl', q1, q2, q3, q4, q5⟩ := Term.elem_spec he
    cases ev.symm.trans q1
    cases hi.symm.trans q2
    cases hat.symm.trans q3
    rw [he] at h
    cases w <;> simp at h
    subst h
    exact ⟨fun z => q4 (Or.inl z), q5⟩
theorem own_lenEq {t : Term} {x : Int32} {cl : Cell} (ev : t.eval args s none [] s = some (.ref a)) (hat : s.arrayAt? a = some cl) (h : (Jvm.Cond.eq (.length t) (.int x)).value args s none s [] = some true) : (cl.slots.size : Int) = x.toInt := by
  simp only [Cond.value, Term.eval, ev, hat, Option.bind_eq_bind, Option.bind_some] at h
  by_cases q : cl.slots.size < 2147483648
  · simp [q] at h
    rw [← h]
    exact (Int32.toInt_ofNat_of_lt q).symm
  · simp [q] at h
theorem own_or {A B : Jvm.Cond} {idx : List Nat} (h : (Jvm.Cond.or A B).value args s none s idx = some true) : A.value args s none s idx = some true ∨ B.value args s none s idx = some true := by
  simp only [Cond.value] at h
  split at h
  · exact Or.inr h
  · exact Or.inl h
theorem own_leV {A B : Term} {x y : Int32} {idx : List Nat} (ha : A.eval args s none idx s = some (.int x)) (hb : B.eval args s none idx s = some (.int y)) (h : (Jvm.Cond.le A B).value args s none s idx = some true) : x.toInt ≤ y.toInt := by
  rw [Cond.le_ints ha hb] at h
  exact Int32.le_iff_toInt_le.mp (by simpa using h)
theorem own_ltV {A B : Term} {x y : Int32} {idx : List Nat} (ha : A.eval args s none idx s = some (.int x)) (hb : B.eval args s none idx s = some (.int y)) (h : (Jvm.Cond.lt A B).value args s none s idx = some true) : x.toInt < y.toInt := by
  simp only [Cond.value, ha, hb] at h
  exact Int32.lt_iff_toInt_lt.mp (by simpa using h)
theorem own_idx {k : Nat} (hk : k < 2147483648) : (k.toInt32).toInt = (k : Int) := Int32.toInt_ofNat_of_lt hk
section Elems
variable {t b : Term} {cl : Cell} {x lo hi : Int32} {k : Nat}
theorem own_elemK (ev : ∀ idx, t.eval args s none idx s = some (.ref a)) (hat : s.arrayAt? a = some cl) (hk : k < 2147483648) (hb : b.eval args s none [k] s = some (.int x)) (h : (Jvm.Cond.eq (.elem t (.index 0)) b).value args s none s [k] = some true) : cl.slots[k]? = some (.int x) := by
  have q := (own_elemEq (ev _) hat (Term.index_eval k) hb h).2
  rwa [own_nat (own_idx hk)] at q
theorem own_all1 (ev : ∀ idx, t.eval args s none idx s = some (.ref a)) (hat : s.arrayAt? a = some cl) (hn : cl.slots.size < 2147483648) (h : (Jvm.Cond.all t (.or (.le (.int lo) (.index 0)) (.eq (.elem t (.index 0)) b))).value args s none s [] = some true) (hk : k < cl.slots.size) (h1 : (k : Int) < lo.toInt) (hb : b.eval args s none [k] s = some (.int x)) : cl.slots[k]? = some (.int x) := by
  rcases own_or (Cond.all_elim (ev _) hat h k hk) with q | q
  · have := own_leV rfl (Term.index_eval k) q; rw [own_idx (by omega)] at this; omega
  · exact own_elemK ev hat (by omega) hb q
theorem own_all2 (ev : ∀ idx, t.eval args s none idx s = some (.ref a)) (hat : s.arrayAt? a = some cl) (hn : cl.slots.size < 2147483648) (h : (Jvm.Cond.all t (.or (.lt (.index 0) (.int lo)) (.or (.le (.int hi) (.index 0)) (.eq (.elem t (.index 0)) b)))).value args s none s [] = some true) (hk : k < cl.slots.size) (h1 : lo.toInt ≤ (k : Int)) (h2 : (k : Int) < hi.toInt) (hb : b.eval args s none [k] s = some (.int x)) : cl.slots[k]? = some (.int x) := by
  rcases own_or (Cond.all_elim (ev _) hat h k hk) with q | q
  · have := own_ltV (Term.index_eval k) rfl q; rw [own_idx (by omega)] at this; omega
  · rcases own_or q with q | q
    · have := own_leV rfl (Term.index_eval k) q; rw [own_idx (by omega)] at this; omega
    · exact own_elemK ev hat (by omega) hb q
theorem own_all3 (ev : ∀ idx, t.eval args s none idx s = some (.ref a)) (hat : s.arrayAt? a = some cl) (hn : cl.slots.size < 2147483648) (h : (Jvm.Cond.all t (.or (.lt (.index 0) (.int lo)) (.eq (.elem t (.index 0)) b))).value args s none s [] = some true) (hk : k < cl.slots.size) (h1 : lo.toInt ≤ (k : Int)) (hb : b.eval args s none [k] s = some (.int x)) : cl.slots[k]? = some (.int x) := by
  rcases own_or (Cond.all_elim (ev _) hat h k hk) with q | q
  · have := own_ltV (Term.index_eval k) rfl q; rw [own_idx (by omega)] at this; omega
  · exact own_elemK ev hat (by omega) hb q
theorem own_one (ev : ∀ idx, t.eval args s none idx s = some (.ref a)) (hat : s.arrayAt? a = some cl) (h : (Jvm.Cond.eq (.elem t (.int lo)) (.int x)).value args s none s [] = some true) (hk : lo.toInt = (k : Int)) : cl.slots[k]? = some (.int x) := by
  have q := (own_elemEq (ev _) hat rfl rfl h).2
  rwa [own_nat hk] at q
end Elems
end Start
end OwnArr
section OwnBits
/-- the bit j of a long -/
def own_Bt (x : Int64) (j : Nat) : Prop := x.toBitVec.getLsbD j = true
theorem own_Bt_and (x y : Int64) (j : Nat) : own_Bt (x &&& y) j ↔ own_Bt x j ∧ own_Bt y j := by unfold own_Bt; rw [Int64.toBitVec_and, BitVec.getLsbD_and]; simp
theorem own_Bt_or (x y : Int64) (j : Nat) : own_Bt (x ||| y) j ↔ own_Bt x j ∨ own_Bt y j := by unfold own_Bt; rw [Int64.toBitVec_or, BitVec.getLsbD_or]; simp
theorem own_Bt_lt {x : Int64} {j : Nat} (h : own_Bt x j) : j < 64 := by
  unfold own_Bt at h
  exact Nat.lt_of_not_le fun q => by rw [BitVec.getLsbD_of_ge _ _ q] at h; cases h
theorem own_Bt_zero (x : Int64) : x = 0 ↔ ∀ j, ¬ own_Bt x j := by
  constructor
  · intro h j; subst h; unfold own_Bt; simp
  · intro h
    apply Int64.toBitVec_inj.mp
    apply BitVec.eq_of_getLsbD_eq
    intro i hi
    have := h i
    unfold own_Bt at this
    simpa using this
theorem own_Bt_shl (x s : Int64) {k : Nat} (hs : (s.toBitVec.smod 64).toNat = k) (j : Nat) : own_Bt (x <<< s) j ↔ j < 64 ∧ k ≤ j ∧ own_Bt x (j - k) := by
  unfold own_Bt
  rw [Int64.toBitVec_shiftLeft, BitVec.shiftLeft_eq', BitVec.getLsbD_shiftLeft, hs]
  simp [and_assoc]
theorem own_Bt_s1 (x : Int64) (j : Nat) : own_Bt (x <<< ((1 : Int32) &&& 0x3f).toInt64) j ↔ j < 64 ∧ 1 ≤ j ∧ own_Bt x (j - 1) := own_Bt_shl x _ (by decide) j
theorem own_Bt_s2 (x : Int64) (j : Nat) : own_Bt (x <<< ((2 : Int32) &&& 0x3f).toInt64) j ↔ j < 64 ∧ 2 ≤ j ∧ own_Bt x (j - 2) := own_Bt_shl x _ (by decide) j
def own_upTo (p : Int32) : Int64 := if p < (63 : Int32) then (((1 : Int64) <<< ((p + (1 : Int32)) &&& 0x3f).toInt64) - (1 : Int64)) else (-1 : Int64)
def own_mni (a b : Int32) : Int32 := if b < a then b else a
theorem own_up4 : ∀ m : Fin 4, own_upTo (Int32.ofNat m.1) = Int64.ofNat (2 ^ (m.1 + 1) - 1) := by decide +kernel
theorem own_Bt_nat (w j : Nat) (hw : w < 2 ^ 64) : own_Bt (Int64.ofNat w) j ↔ w.testBit j = true := by
  unfold own_Bt
  rw [show (Int64.ofNat w).toBitVec = BitVec.ofNat 64 w from rfl, BitVec.getLsbD_ofNat]
  simp
  intro h
  exact Nat.lt_of_not_le fun q => by
    have := Nat.testBit_lt_two_pow (Nat.lt_of_lt_of_le hw (Nat.pow_le_pow_right (by decide) q))
    rw [this] at h; cases h
theorem own_Bt_up {m : Nat} (hm : m < 4) (j : Nat) : own_Bt (own_upTo (Int32.ofNat m)) j ↔ j ≤ m := by
  have h4 : 2 ^ (m + 1) ≤ 2 ^ 4 := Nat.pow_le_pow_right (by decide) (by omega)
  rw [own_up4 ⟨m, hm⟩, own_Bt_nat _ _ (by show 2 ^ (m + 1) - 1 < _; omega)]
  show (2 ^ (m + 1) - 1).testBit j = true ↔ _
  rw [Nat.testBit_two_pow_sub_one]
  simp; omega
theorem own_ofN {k : Nat} (h : k < 2147483648) : (Int32.ofNat k).toInt = (k : Int) := Int32.toInt_ofNat_of_lt h
theorem own_succ (k : Nat) : Int32.ofNat k + (1 : Int32) = Int32.ofNat (k + 1) := (Int32.ofNat_add k 1).symm
theorem own_mniN {a b : Nat} (ha : a < 2147483648) (hb : b < 2147483648) : own_mni (Int32.ofNat a) (Int32.ofNat b) = Int32.ofNat (min a b) := by
  unfold own_mni
  by_cases h : b < a
  · rw [if_pos (by rw [Int32.lt_iff_toInt_lt, own_ofN ha, own_ofN hb]; omega), Nat.min_eq_right (by omega)]
  · rw [if_neg (by rw [Int32.lt_iff_toInt_lt, own_ofN ha, own_ofN hb]; omega), Nat.min_eq_left (by omega)]
/-- the first row -/
def own_rc (n k : Nat) : Int64 := own_upTo (own_mni (Int32.ofNat k) (Int32.ofNat n))
def own_R0 (n hb : Nat) (out : Int64) (k : Nat) : Int64 := if hb < k then own_rc n k &&& (own_rc n hb ||| out) else own_rc n k
theorem own_Bt_rc {n k : Nat} (hn : n < 4) (hk : k < 64) (j : Nat) : own_Bt (own_rc n k) j ↔ j ≤ k ∧ j ≤ n := by
  unfold own_rc
  rw [own_mniN (by omega) (by omega), own_Bt_up (by omega)]
  omega
def own_D0 (head : Int) (hb j : Nat) : Nat := if (j : Int) ≤ head ∧ hb < j then 1000 else j
theorem own_Bt_R0 {n hb k : Nat} {out : Int64} {head : Int} (hn : n < 4) (hk : k < 64) (ho : ∀ j, j ≤ n → (own_Bt out j ↔ head < (j : Int))) (j : Nat) : own_Bt (own_R0 n hb out k) j ↔ j ≤ n ∧ own_D0 head hb j ≤ k := by
  unfold own_R0 own_D0
  by_cases h : hb < k
  · rw [if_pos h, own_Bt_and, own_Bt_or, own_Bt_rc hn hk, own_Bt_rc hn (by omega)]
    by_cases hj : j ≤ n
    · rw [ho j hj]
      split <;> omega
    · constructor <;> (intro q; omega)
  · rw [if_neg h, own_Bt_rc hn hk]
    split <;> omega
/-- a further row -/
def own_G (m sw cols out : Int64) (hb : Nat) (ab tw : Nat → Int64) (hv : Int64) : Nat → Int64
  | 0 => m &&& (ab 0 <<< ((1 : Int32) &&& 0x3f).toInt64)
  | d + 1 =>
    let r1 := (((m &&& (ab (d + 1) <<< ((1 : Int32) &&& 0x3f).toInt64)) ||| ab d) ||| (ab d <<< ((1 : Int32) &&& 0x3f).toInt64)) ||| (own_G m sw cols out hb ab tw hv d <<< ((1 : Int32) &&& 0x3f).toInt64)
    let r2 := if sw = 0 then r1 else r1 ||| (sw &&& (tw d <<< ((2 : Int32) &&& 0x3f).toInt64))
    let r3 := r2 &&& cols
    if hb < d + 1 then r3 &&& (hv ||| out) else r3
theorem own_G_hv (m sw cols out : Int64) (hb : Nat) (ab tw : Nat → Int64) (x y : Int64) : ∀ d, d ≤ hb → own_G m sw cols out hb ab tw x d = own_G m sw cols out hb ab tw y d := by
  intro d
  induction d with
  | zero => intro _; rfl
  | succ d ih =>
    intro h
    have h2 : ¬ hb < d + 1 := by omega
    simp only [own_G, ih (by omega), if_neg h2]
/-- the rows' vector for the cost d, the head's vector put in -/
def own_F (m sw cols out : Int64) (hb : Nat) (ab tw : Nat → Int64) (d : Nat) : Int64 := own_G m sw cols out hb ab tw (own_G m sw cols out hb ab tw 0 hb) d
theorem own_F_hb (m sw cols out : Int64) (hb : Nat) (ab tw : Nat → Int64) : own_F m sw cols out hb ab tw hb = own_G m sw cols out hb ab tw 0 hb := own_G_hv _ _ _ _ _ _ _ _ _ _ (Nat.le_refl _)
theorem own_F_succ (m sw cols out : Int64) (hb : Nat) (ab tw : Nat → Int64) (d : Nat) : own_F m sw cols out hb ab tw (d + 1) =
    (let r1 := (((m &&& (ab (d + 1) <<< ((1 : Int32) &&& 0x3f).toInt64)) ||| ab d) ||| (ab d <<< ((1 : Int32) &&& 0x3f).toInt64)) ||| (own_F m sw cols out hb ab tw d <<< ((1 : Int32) &&& 0x3f).toInt64)
    let r2 := if sw = 0 then r1 else r1 ||| (sw &&& (tw d <<< ((2 : Int32) &&& 0x3f).toInt64))
    let r3 := r2 &&& cols
    if hb < d + 1 then r3 &&& (own_F m sw cols out hb ab tw hb ||| out) else r3) := by
  rw [own_F_hb]; rfl
/-- one cell of the table: A: the row above, T: two above, D0: the cell on the left -/
def own_v (M S : Bool) (A0 A1 D0 T2 : Nat) : Nat := min (min (min A1 D0 + 1) (A0 + (if M then 0 else 1))) (if S then T2 + 1 else 5000)
def own_cap (head : Int) (hb v j : Nat) : Nat := if (j : Int) ≤ head ∧ hb < v then 1000 else v
theorem own_v_le (M S : Bool) (A0 A1 D0 T2 : Nat) {d : Nat} (hd : d < 1000) : own_v M S A0 A1 D0 T2 ≤ d ↔ (A1 + 1 ≤ d ∨ D0 + 1 ≤ d ∨ A0 + 1 ≤ d ∨ (M = true ∧ A0 ≤ d) ∨ (S = true ∧ T2 + 1 ≤ d)) := by
  unfold own_v
  cases M <;> cases S <;> simp <;> omega
theorem own_cap_le (head : Int) (hb v j : Nat) {d : Nat} (hd : d < 1000) : own_cap head hb v j ≤ d ↔ v ≤ d ∧ ((j : Int) ≤ head → v ≤ hb) := by
  unfold own_cap
  split <;> omega
theorem own_Bt_F {n hb bd : Nat} {m sw cols out : Int64} {ab tw : Nat → Int64} {head : Int} {M S : Nat → Bool} {A T D : Nat → Nat} (hn : n < 4) (hbd : bd < 64) (ho : ∀ j, j ≤ n → (own_Bt out j ↔ head < (j : Int)))
    (hc : ∀ j, own_Bt cols j ↔ j ≤ n) (hm : ∀ j, own_Bt m j ↔ (1 ≤ j ∧ j ≤ n ∧ M j = true)) (hs : ∀ j, own_Bt sw j ↔ (2 ≤ j ∧ j ≤ n ∧ S j = true))
    (hab : ∀ d, d ≤ bd → ∀ j, own_Bt (ab d) j ↔ j ≤ n ∧ A j ≤ d) (htw : ¬ sw = 0 → ∀ d, d ≤ bd → ∀ j, own_Bt (tw d) j ↔ j ≤ n ∧ T j ≤ d)
    (hD0 : D 0 = own_cap head hb (A 0 + 1) 0)
    (hD : ∀ j, j < n → D (j + 1) = own_cap head hb (own_v (M (j + 1)) (decide (1 ≤ j) && S (j + 1)) (A j) (A (j + 1)) (D j) (T (j - 1))) (j + 1)) :
    ∀ d, d ≤ bd → ∀ j, own_Bt (own_F m sw cols out hb ab tw d) j ↔ j ≤ n ∧ D j ≤ d := by
  intro d
  induction d using Nat.strongRecOn with
  | _ d ih =>
    intro hd j
    have hsw0 : sw = 0 → ∀ j, ¬ (2 ≤ j ∧ j ≤ n ∧ S j = true) := fun e j q => (own_Bt_zero sw).mp e j ((hs j).mpr q)
    cases d with
    | zero =>
      show own_Bt (m &&& (ab 0 <<< ((1 : Int32) &&& 0x3f).toInt64)) j ↔ _
      rw [own_Bt_and, own_Bt_s1, hm, hab 0 (by omega)]
      rcases j with _ | j
      · rw [hD0, own_cap_le _ _ _ _ (by omega)]; omega
      · by_cases hj : j < n
        · have c1 := own_cap_le head hb (own_v (M (j + 1)) (decide (1 ≤ j) && S (j + 1)) (A j) (A (j + 1)) (D j) (T (j - 1))) (j + 1) (d := 0) (by omega)
          rw [← hD j hj] at c1
          have hv0 := own_v_le (M (j + 1)) (decide (1 ≤ j) && S (j + 1)) (A j) (A (j + 1)) (D j) (T (j - 1)) (d := 0) (by omega)
          generalize own_v (M (j + 1)) (decide (1 ≤ j) && S (j + 1)) (A j) (A (j + 1)) (D j) (T (j - 1)) = v at hv0 c1
          rw [c1, show j + 1 - 1 = j from rfl]
          clear hD0 hD hm hs hab htw ho hc ih hsw0
          by_cases hM : M (j + 1) = true
          · simp only [hM, true_and, and_true] at hv0 ⊢; omega
          · simp only [hM, false_and, and_false, Bool.false_eq_true, false_or, or_false, false_iff] at hv0 ⊢; omega
        · constructor <;> (intro q; omega)
    | succ d =>
      have h1 := ih d (by omega) (by omega)
      have h2 : hb ≤ d → ∀ j, own_Bt (own_F m sw cols out hb ab tw hb) j ↔ j ≤ n ∧ D j ≤ hb := fun q => ih hb (by omega) (by omega)
      rw [own_F_succ]
      obtain ⟨r1, hr1⟩ : ∃ r1, r1 = (((m &&& (ab (d + 1) <<< ((1 : Int32) &&& 0x3f).toInt64)) ||| ab d) ||| (ab d <<< ((1 : Int32) &&& 0x3f).toInt64)) ||| (own_F m sw cols out hb ab tw d <<< ((1 : Int32) &&& 0x3f).toInt64) := ⟨_, rfl⟩
      have b1 : own_Bt r1 j ↔ (((1 ≤ j ∧ j ≤ n ∧ M j = true) ∧ (j < 64 ∧ 1 ≤ j ∧ (j - 1 ≤ n ∧ A (j - 1) ≤ d + 1))) ∨ (j ≤ n ∧ A j ≤ d)) ∨ (j < 64 ∧ 1 ≤ j ∧ (j - 1 ≤ n ∧ A (j - 1) ≤ d)) ∨ (j < 64 ∧ 1 ≤ j ∧ (j - 1 ≤ n ∧ D (j - 1) ≤ d)) := by
        rw [hr1, own_Bt_or, own_Bt_or, own_Bt_or, own_Bt_and, own_Bt_s1, own_Bt_s1, own_Bt_s1, hm, hab (d + 1) hd, hab d (by omega), hab d (by omega), h1, or_assoc]
      obtain ⟨r2, hr2⟩ : ∃ r2, r2 = if sw = 0 then r1 else r1 ||| (sw &&& (tw d <<< ((2 : Int32) &&& 0x3f).toInt64)) := ⟨_, rfl⟩
      have b2 : own_Bt r2 j ↔ own_Bt r1 j ∨ ((2 ≤ j ∧ j ≤ n ∧ S j = true) ∧ T (j - 2) ≤ d) := by
        rw [hr2]
        by_cases e : sw = 0
        · rw [if_pos e]
          exact ⟨Or.inl, fun q => q.elim id (fun z => absurd z.1 (hsw0 e j))⟩
        · rw [if_neg e, own_Bt_or, own_Bt_and, own_Bt_s2, hs, htw e d (by omega)]
          constructor
          · rintro (q | ⟨q, q1, q2, q3, q4⟩)
            · exact Or.inl q
            · exact Or.inr ⟨q, q4⟩
          · rintro (q | ⟨q, q4⟩)
            · exact Or.inl q
            · exact Or.inr ⟨q, by omega, by omega, by omega, q4⟩
      simp only [← hr1, ← hr2]
      have b3 : own_Bt (if hb < d + 1 then (r2 &&& cols) &&& (own_F m sw cols out hb ab tw hb ||| out) else (r2 &&& cols)) j ↔ (own_Bt r2 j ∧ j ≤ n) ∧ (hb < d + 1 → (D j ≤ hb ∨ head < (j : Int))) := by
        by_cases q : hb < d + 1
        · rw [if_pos q, own_Bt_and, own_Bt_and, own_Bt_or, hc, h2 (by omega)]
          constructor
          · rintro ⟨⟨z1, z2⟩, z3⟩
            exact ⟨⟨z1, z2⟩, fun _ => z3.elim (fun z => Or.inl z.2) (fun z => Or.inr ((ho j z2).mp z))⟩
          · rintro ⟨⟨z1, z2⟩, z3⟩
            exact ⟨⟨z1, z2⟩, (z3 q).elim (fun z => Or.inl ⟨z2, z⟩) (fun z => Or.inr ((ho j z2).mpr z))⟩
        · rw [if_neg q, own_Bt_and, hc]
          exact ⟨fun z => ⟨z, fun z' => absurd z' q⟩, fun z => z.1⟩
      rw [b3, b2, b1]
      clear b1 b2 b3 hr1 hr2 hm hs hab htw ho hc ih hsw0 h1 h2
      rcases j with _ | j
      · have c1 := own_cap_le head hb (A 0 + 1) 0 (d := d + 1) (by omega)
        rw [← hD0] at c1
        have c2 := fun q : hb < d + 1 => own_cap_le head hb (A 0 + 1) 0 (d := hb) (by omega)
        rw [← hD0] at c2
        clear hD0 hD
        rw [c1]
        by_cases q : hb < d + 1
        · have c3 := c2 q; omega
        · simp only [q, false_implies, and_true]; omega
      · by_cases hj : j < n
        · have c1 := own_cap_le head hb (own_v (M (j + 1)) (decide (1 ≤ j) && S (j + 1)) (A j) (A (j + 1)) (D j) (T (j - 1))) (j + 1) (d := d + 1) (by omega)
          rw [← hD j hj] at c1
          have c2 := fun q : hb < d + 1 => own_cap_le head hb (own_v (M (j + 1)) (decide (1 ≤ j) && S (j + 1)) (A j) (A (j + 1)) (D j) (T (j - 1))) (j + 1) (d := hb) (by omega)
          rw [← hD j hj] at c2
          have hv1 := own_v_le (M (j + 1)) (decide (1 ≤ j) && S (j + 1)) (A j) (A (j + 1)) (D j) (T (j - 1)) (d := d + 1) (by omega)
          have hS : (decide (1 ≤ j) && S (j + 1)) = true ↔ (2 ≤ j + 1 ∧ S (j + 1) = true) := by simp
          rw [hS] at hv1
          clear hD0 hD
          generalize own_v (M (j + 1)) (decide (1 ≤ j) && S (j + 1)) (A j) (A (j + 1)) (D j) (T (j - 1)) = v at hv1 c1 c2
          rw [c1, show j + 1 - 1 = j from rfl, show j + 1 - 2 = j - 1 from rfl]
          by_cases q : hb < d + 1
          · have c3 := c2 q
            clear c2 c1 hS
            by_cases hM : M (j + 1) = true <;> by_cases hS' : S (j + 1) = true <;> simp only [hM, hS', true_and, and_true, false_and, and_false, or_false, false_or, Bool.false_eq_true] at hv1 ⊢ <;> omega
          · clear c2 c1 hS
            simp only [q, false_implies, and_true]
            by_cases hM : M (j + 1) = true <;> by_cases hS' : S (j + 1) = true <;> simp only [hM, hS', true_and, and_true, false_and, and_false, or_false, false_or, Bool.false_eq_true] at hv1 ⊢ <;> omega
        · constructor <;> (intro q; omega)
end OwnBits
section OwnTab
def own_upd {α : Type} (f : Nat → α) (i : Nat) (v : α) : Nat → α := fun k => if k = i then v else f k
/-- the walk through the table of characters -/
def own_find (cp : Nat → Int32) (c : Int32) : Nat → Nat → Nat
  | 0, s => s
  | f + 1, s => if cp s = c ∨ cp s = -1 then s else own_find cp c f ((s + 1) % 128)
def own_sl (cp : Nat → Int32) (c : Int32) : Nat := own_find cp c 8 (c &&& 127).toNatClampNeg
def own_T0 : (Nat → Int32) × (Nat → Int64) := (fun _ => -1, fun _ => 0)
def own_ins (T : (Nat → Int32) × (Nat → Int64)) (j : Int32) (c : Int32) : (Nat → Int32) × (Nat → Int64) :=
  (own_upd T.1 (own_sl T.1 c) c, own_upd T.2 (own_sl T.1 c) (T.2 (own_sl T.1 c) ||| ((1 : Int64) <<< (j &&& 0x3f).toInt64)))
def own_T1 (c1 : Int32) := own_ins own_T0 (1 : Int32) c1
def own_T2 (c1 c2 : Int32) := own_ins (own_T1 c1) ((1 : Int32) + (1 : Int32)) c2
def own_T3 (c1 c2 c3 : Int32) := own_ins (own_T2 c1 c2) (((1 : Int32) + (1 : Int32)) + (1 : Int32)) c3
def own_chr (k : Nat) : Int32 := Int32.ofNat (k % 4 + 128 * (k / 4))
abbrev own_ok (T : (Nat → Int32) × (Nat → Int64)) (c : Int32) (mask : Nat) : Prop := (T.1 (own_sl T.1 c) = c ∨ T.1 (own_sl T.1 c) = -1) ∧ own_sl T.1 c < 128 ∧ T.2 (own_sl T.1 c) = Int64.ofNat mask
def own_b2 (a b : Int32) (w : Nat) : Nat := if a = b then w else 0
theorem own_ok0 : ∀ k : Fin 8, own_ok own_T0 (own_chr k) 0 := by decide +kernel
theorem own_ok1 : ∀ a k : Fin 8, own_ok (own_T1 (own_chr a)) (own_chr k) (own_b2 (own_chr a) (own_chr k) 2) := by decide +kernel
theorem own_ok2 : ∀ a b k : Fin 8, own_ok (own_T2 (own_chr a) (own_chr b)) (own_chr k) (own_b2 (own_chr a) (own_chr k) 2 + own_b2 (own_chr b) (own_chr k) 4) := by decide +kernel
theorem own_ok3 : ∀ a b c k : Fin 8, own_ok (own_T3 (own_chr a) (own_chr b) (own_chr c)) (own_chr k) (own_b2 (own_chr a) (own_chr k) 2 + own_b2 (own_chr b) (own_chr k) 4 + own_b2 (own_chr c) (own_chr k) 8) := by decide +kernel
theorem own_ch8 : ∀ k : Fin 8, (((Int32.ofNat k.1) &&& (3 : Int32)) ||| (((Int32.ofNat k.1) &&& (4 : Int32)) <<< ((5 : Int32) &&& 31))) = own_chr k.1 := by decide +kernel
theorem own_ch (x : Int32) : ∃ k : Fin 8, ((x &&& (3 : Int32)) ||| ((x &&& (4 : Int32)) <<< ((5 : Int32) &&& 31))) = own_chr k.1 := by
  have hm := Jvm.Kit.i32_mask x 7 (k := 3) (by decide) (by decide)
  have e : x &&& 7 = Int32.ofNat (x.toInt % 8).toNat := by
    apply Int32.toInt_inj.mp
    rw [hm, Int32.toInt_ofNat_of_lt (by omega)]; omega
  refine ⟨⟨(x.toInt % 8).toNat, by omega⟩, ?_⟩
  have h := own_ch8 ⟨(x.toInt % 8).toNat, by omega⟩
  dsimp only at h
  rw [← e, Int32.and_assoc, Int32.and_assoc, show (7 : Int32) &&& 3 = 3 from by decide, show (7 : Int32) &&& 4 = 4 from by decide] at h
  exact h
end OwnTab
section OwnMore
theorem own_lc0 (x : Int64) : lcmpW x (0 : Int64) = (0 : Int32) ↔ x = 0 := by
  unfold lcmpW
  by_cases h : x > 0
  · rw [if_pos h]
    constructor
    · intro q; cases q
    · intro q; subst q; exact absurd h (by decide)
  · rw [if_neg h]
    by_cases e : x = 0
    · simp [e]
    · rw [if_neg e]; simp [e]
theorem own_setI (f : Nat → Int32) (i : Nat) (c : Int32) (k : Nat) : own_set (fun k => .int (f k)) i (.int c) k = .int (own_upd f i c k) := by unfold own_set own_upd; split <;> rfl
theorem own_setJ (f : Nat → Int64) (i : Nat) (c : Int64) (k : Nat) : own_set (fun k => .long (f k)) i (.long c) k = .long (own_upd f i c k) := by unfold own_set own_upd; split <;> rfl
def own_r0k (n hb : Nat) (out : Int64) (k x : Nat) : Int64 := if x < k then own_R0 n hb out x else 0
theorem own_setR0 (n hb : Nat) (out : Int64) (k x : Nat) : own_upd (own_r0k n hb out k) k (own_R0 n hb out k) x = own_r0k n hb out (k + 1) x := by
  unfold own_upd own_r0k
  by_cases h : x = k
  · subst h; rw [if_pos rfl, if_pos (by omega)]
  · rw [if_neg h]
    by_cases q : x < k
    · rw [if_pos q, if_pos (by omega)]
    · rw [if_neg q, if_neg (by omega)]
/-- the rows while the row at B is being filled -/
def own_rk (rf : Nat → Int64) (B : Nat) (F : Nat → Int64) (k x : Nat) : Int64 := if B ≤ x ∧ x < B + k then F (x - B) else rf x
theorem own_rk_lt {rf : Nat → Int64} {B : Nat} {F : Nat → Int64} {k x : Nat} (h : x < B) : own_rk rf B F k x = rf x := if_neg (by omega)
theorem own_rk_in {rf : Nat → Int64} {B : Nat} {F : Nat → Int64} {k d : Nat} (h : d < k) : own_rk rf B F k (B + d) = F d := by unfold own_rk; rw [if_pos (by omega), Nat.add_sub_cancel_left]
theorem own_setRk (rf : Nat → Int64) (B : Nat) (F : Nat → Int64) (k x : Nat) : own_upd (own_rk rf B F k) (B + k) (F k) x = own_rk rf B F (k + 1) x := by
  unfold own_upd own_rk
  by_cases h : x = B + k
  · subst h; rw [if_pos rfl, if_pos (by omega), Nat.add_sub_cancel_left]
  · rw [if_neg h]
    by_cases q : B ≤ x ∧ x < B + k
    · rw [if_pos q, if_pos (by omega)]
    · rw [if_neg q, if_neg (by omega)]
theorem own_rk0 (rf : Nat → Int64) (B : Nat) (F : Nat → Int64) (x : Nat) : own_upd rf B (F 0) x = own_rk rf B F 1 x := by
  have h := own_setRk rf B F 0 x
  have e : own_rk rf B F 0 = rf := by funext z; unfold own_rk; rw [if_neg (by omega)]
  rwa [e] at h
theorem own_addI {x y : Int32} {a b : Int} (hx : x.toInt = a) (hy : y.toInt = b) (h1 : -2147483648 ≤ a + b) (h2 : a + b < 2147483648) : (x + y).toInt = a + b := by
  rw [Jvm.Kit.i32_add (by omega) (by omega), hx, hy]
theorem own_subI {x y : Int32} {a b : Int} (hx : x.toInt = a) (hy : y.toInt = b) (h1 : -2147483648 ≤ a - b) (h2 : a - b < 2147483648) : (x - y).toInt = a - b := by
  rw [Jvm.Kit.i32_sub (by omega) (by omega), hx, hy]
theorem own_slot1 {s : Nat} {x : Int32} (h : x.toInt = (s : Int)) (hs : s < 128) : ((x + (1 : Int32)) &&& (127 : Int32)).toInt = (((s + 1) % 128 : Nat) : Int) := by
  rw [Jvm.Kit.i32_mask _ 127 (k := 7) (by decide) (by decide), own_addI h (show (1 : Int32).toInt = 1 from by decide) (by omega) (by omega)]
  omega
theorem own_slot0 (c : Int32) : (c &&& (127 : Int32)).toInt = (((c &&& 127).toNatClampNeg : Nat) : Int) ∧ (c &&& 127).toNatClampNeg < 128 := by
  have h := Jvm.Kit.i32_mask c 127 (k := 7) (by decide) (by decide)
  have q : ¬ (c &&& 127) < 0 := by rw [Int32.lt_iff_toInt_lt]; have : (0 : Int32).toInt = 0 := (by decide); omega
  exact ⟨nat_of q, by have := nat_of q; omega⟩
end OwnMore
section OwnRows
def own_row (head : Int) (hb : Nat) (M S : Nat → Bool) (A T : Nat → Nat) : Nat → Nat
  | 0 => own_cap head hb (A 0 + 1) 0
  | j + 1 => own_cap head hb (own_v (M (j + 1)) (decide (1 ≤ j) && S (j + 1)) (A j) (A (j + 1)) (own_row head hb M S A T j) (T (j - 1))) (j + 1)
theorem own_last4 : ∀ n : Fin 4, ((1 : Int64) <<< ((Int32.ofNat n.1) &&& 0x3f).toInt64) = Int64.ofNat (2 ^ n.1) := by decide +kernel
theorem own_lastZ {n : Nat} (hn : n < 4) (x : Int64) : x &&& ((1 : Int64) <<< ((Int32.ofNat n) &&& 0x3f).toInt64) = 0 ↔ ¬ own_Bt x n := by
  rw [own_last4 ⟨n, hn⟩, own_Bt_zero]
  have hb : ∀ j, own_Bt (Int64.ofNat (2 ^ n)) j ↔ j = n := by
    intro j
    rw [own_Bt_nat _ _ (Nat.pow_lt_pow_right (by decide) (by omega)), Nat.testBit_two_pow]
    simp; exact eq_comm
  constructor
  · intro h q
    exact h n ((own_Bt_and _ _ _).mpr ⟨q, (hb n).mpr rfl⟩)
  · intro h j q
    obtain ⟨q1, q2⟩ := (own_Bt_and _ _ _).mp q
    rw [(hb j).mp q2] at q1
    exact h q1
def own_rD (D bd : Nat) : Int32 := if D ≤ bd then Int32.ofNat D else -1
theorem own_dist {n bd B D : Nat} {rf : Nat → Int64} (hn : n < 4) (hbd : bd ≤ 63) (h : ∀ d, d ≤ bd → (own_Bt (rf (B + d)) n ↔ D ≤ d)) :
    (((rf (B + bd)) &&& ((1 : Int64) <<< ((Int32.ofNat n) &&& 0x3f).toInt64)) = 0 → own_rD D bd = -1) ∧ (¬ ((rf (B + bd)) &&& ((1 : Int64) <<< ((Int32.ofNat n) &&& 0x3f).toInt64)) = 0 → D ≤ bd ∧ ¬ ((rf (B + D)) &&& ((1 : Int64) <<< ((Int32.ofNat n) &&& 0x3f).toInt64)) = 0 ∧ (own_rD D bd).toInt = (D : Int)) ∧ ((∀ k, k < D → k ≤ bd → ((rf (B + k)) &&& ((1 : Int64) <<< ((Int32.ofNat n) &&& 0x3f).toInt64)) = 0)) := by
  refine ⟨fun q => ?_, fun q => ?_, fun k hk hk2 => ?_⟩
  · rw [own_lastZ hn, h bd (Nat.le_refl _)] at q
    exact if_neg q
  · rw [own_lastZ hn, h bd (Nat.le_refl _), Decidable.not_not] at q
    refine ⟨q, ?_, ?_⟩
    · rw [own_lastZ hn, h D q, Decidable.not_not]; exact Nat.le_refl _
    · unfold own_rD; rw [if_pos q]; exact own_ofN (by omega)
  · rw [own_lastZ hn, h k (by omega)]; omega
def own_cpI (d b : Int32) : Int32 := if b < d then -1 else d
theorem own_fin {D bd : Nat} {b : Int32} (hb : b.toInt = (bd : Int)) (hD : D < 2147483648) : own_rD D bd = own_cpI (Int32.ofNat D) b := by
  unfold own_rD own_cpI
  by_cases h : D ≤ bd
  · rw [if_pos h, if_neg (by rw [Int32.lt_iff_toInt_lt, own_ofN hD, hb]; omega)]
  · rw [if_neg h, if_pos (by rw [Int32.lt_iff_toInt_lt, own_ofN hD, hb]; omega)]
/-- the bits of the mask of one character -/
theorem own_Bt_mask {n : Nat} (t : Nat → Int32) (c : Int32) (hn : n < 4) (j : Nat) :
    own_Bt (Int64.ofNat ((if 1 ≤ n then own_b2 (t 1) c 2 else 0) + (if 2 ≤ n then own_b2 (t 2) c 4 else 0) + (if 3 ≤ n then own_b2 (t 3) c 8 else 0))) j ↔ (1 ≤ j ∧ j ≤ n ∧ decide (t j = c) = true) := by
  have w2 : own_b2 (t 1) c 2 = 0 ∨ own_b2 (t 1) c 2 = 2 := by unfold own_b2; split <;> simp
  have w4 : own_b2 (t 2) c 4 = 0 ∨ own_b2 (t 2) c 4 = 4 := by unfold own_b2; split <;> simp
  have w8 : own_b2 (t 3) c 8 = 0 ∨ own_b2 (t 3) c 8 = 8 := by unfold own_b2; split <;> simp
  rw [own_Bt_nat _ _ (by split <;> split <;> split <;> omega)]
  have e1 : own_b2 (t 1) c 2 = if decide (t 1 = c) = true then 2 else 0 := by unfold own_b2; simp
  have e2 : own_b2 (t 2) c 4 = if decide (t 2 = c) = true then 4 else 0 := by unfold own_b2; simp
  have e3 : own_b2 (t 3) c 8 = if decide (t 3 = c) = true then 8 else 0 := by unfold own_b2; simp
  rw [e1, e2, e3]
  have key : ∀ (b1 b2 b3 : Bool) (n : Fin 4) (j : Fin 4), (((if 1 ≤ n.1 then (if b1 = true then 2 else 0) else 0) + (if 2 ≤ n.1 then (if b2 = true then 4 else 0) else 0) + (if 3 ≤ n.1 then (if b3 = true then 8 else 0) else 0)).testBit j.1 = true ↔ (1 ≤ j.1 ∧ j.1 ≤ n.1 ∧ (if j.1 = 1 then b1 else if j.1 = 2 then b2 else b3) = true)) := by decide
  by_cases hj : j < 4
  · rw [key (decide (t 1 = c)) (decide (t 2 = c)) (decide (t 3 = c)) ⟨n, hn⟩ ⟨j, hj⟩]
    have : j = 0 ∨ j = 1 ∨ j = 2 ∨ j = 3 := by omega
    rcases this with rfl | rfl | rfl | rfl <;> simp
  · constructor
    · intro q
      exfalso
      have hlt : ((if 1 ≤ n then (if decide (t 1 = c) = true then 2 else 0) else 0) + (if 2 ≤ n then (if decide (t 2 = c) = true then 4 else 0) else 0) + (if 3 ≤ n then (if decide (t 3 = c) = true then 8 else 0) else 0)) < 2 ^ j := by
        have : 2 ^ 4 ≤ 2 ^ j := Nat.pow_le_pow_right (by decide) (by omega)
        rw [← e1, ← e2, ← e3]
        split <;> split <;> split <;> omega
      rw [Nat.testBit_lt_two_pow hlt] at q
      cases q
    · intro q; omega
theorem own_Bt_neg (j : Nat) (hj : j < 64) : own_Bt (-1 : Int64) j := by
  unfold own_Bt
  rw [show (-1 : Int64).toBitVec = BitVec.allOnes 64 from by decide, BitVec.getLsbD_allOnes]
  exact decide_eq_true hj
theorem own_Bt_cols {n : Nat} (hn : n < 4) (j : Nat) : own_Bt (own_upTo (Int32.ofNat n)) j ↔ j ≤ n := own_Bt_up hn j
theorem own_Bt_sw {n : Nat} {m m' : Int64} {M M' : Nat → Bool} (hn : n < 4) (hm : ∀ j, own_Bt m j ↔ (1 ≤ j ∧ j ≤ n ∧ M j = true)) (hm' : ∀ j, own_Bt m' j ↔ (1 ≤ j ∧ j ≤ n ∧ M' j = true)) (j : Nat) :
    own_Bt ((m <<< ((1 : Int32) &&& 0x3f).toInt64) &&& m') j ↔ (2 ≤ j ∧ j ≤ n ∧ (M (j - 1) && M' j) = true) := by
  rw [own_Bt_and, own_Bt_s1, hm, hm', Bool.and_eq_true]
  constructor
  · rintro ⟨⟨a, b, c, d, e⟩, f, g, h⟩; exact ⟨by omega, g, e, h⟩
  · rintro ⟨a, b, c, d⟩; exact ⟨⟨by omega, by omega, by omega, by omega, c⟩, by omega, b, d⟩
end OwnRows
section OwnM2
section Walk
variable {p : Program} {l : Launch} {e : Env} {R : Room} {s : State} {m : MethodId} {args : Array Value} {below : List Frame} {meth : Method} {c : Code} {T : State} {locs : List Loc} {cells slots : Nat} {Z : State} {a0 : Array Value} {h h' : Heap} {K : State → Outcome → Prop}
variable {a b : Addr} {ty ty' : FieldType} {n n' : Nat} {f f' : Nat → Value}
theorem own_tyNe (A : own_Ar Z h a ty n f) (B : own_Ar Z h b ty' n' f') (q : ty ≠ ty') : a ≠ b := by
  rintro rfl
  obtain ⟨-, c1, ⟨h1, ⟨-, k, h2, comp, h3⟩, -⟩, -⟩ := A
  obtain ⟨-, c2, ⟨g1, ⟨-, k', g2, comp', g3⟩, -⟩, -⟩ := B
  cases h1.symm.trans g1
  cases h2.symm.trans g2
  rw [h3] at g3
  injection g3 with _ g4
  exact q g4
theorem own_aaloadA {j : Int32} {i : Nat} {g : JFrame} {rest : List Value} {v : Value} (X : Stand p l e R s m args below meth c T locs cells slots) (hx : p.tables.exec = Jvm.exec) (hZ : Z.Warmed39 s.vm) (eT : T.heap = h) (A : own_Ar Z h a (.array ty) n f) (hj : j.toInt = (i : Int)) (hi : i < n) (hv : f i = v)
    (hg : g.method = m) (hs : g.stack = .int j :: .ref a :: rest) (hd : decode c.code g.pc = .ok (.aaload, 1)) (k : own_Wp p.tables e below K (T.setTop { g with pc := g.pc + 1, stack := v :: rest })) : own_Wp p.tables e below K (T.setTop g) := by
  obtain ⟨-, cl, A, hsz, H⟩ := A
  exact own_of (X.aaload hx (by rw [eT]; exact A.1) (State.isArrayOf_alike hZ.alike A.2.1) rfl A.2.2 (own_in hj hi hsz) (by rw [own_nat hj, H i hi, hv]) hg hs hd) k
def own_rr (r0 r1 r2 r3 : Addr) : Nat → Addr := fun q => match q with | 0 => r0 | 1 => r1 | 2 => r2 | _ => r3
def own_ff (R0 R1 R2 R3 : Nat → Int32) : Nat → Nat → Int32 := fun q => match q with | 0 => R0 | 1 => R1 | 2 => R2 | _ => R3
theorem own_rows4 {r0 r1 r2 r3 : Addr} {R0 R1 R2 R3 : Nat → Int32} (A0 : own_Ar Z h r0 .int 4 (fun k => .int (R0 k))) (A1 : own_Ar Z h r1 .int 4 (fun k => .int (R1 k))) (A2 : own_Ar Z h r2 .int 4 (fun k => .int (R2 k))) (A3 : own_Ar Z h r3 .int 4 (fun k => .int (R3 k))) :
    ∀ q, q < 4 → own_Ar Z h (own_rr r0 r1 r2 r3 q) .int 4 (fun k => .int (own_ff R0 R1 R2 R3 q k)) := by
  intro q hq
  rcases q with _ | _ | _ | q
  · exact A0
  · exact A1
  · exact A2
  · exact A3
theorem own_grid (X : Stand p l e R s m args below meth c T locs cells slots) (hx : p.tables.exec = Jvm.exec) (hZ : Z.Warmed39 s.vm) {own : String} {index : Nat} (hown : s.vm.findClass own = some m.cls)
    (w1 : (Cond.classLink own index "[[I").before a0 Z = true) (w2 : (Cond.arrayOver (.array .int)).before a0 Z = true) (w3 : (Cond.arrayClass .int).before a0 Z = true) (eT : T.heap = h) {g : JFrame} (hg : g.method = m) (hd : decode c.code g.pc = .ok (.multianewarray index 2, 4)) {rest : List Value} (hs : g.stack = .int (4 : Int32) :: .int (4 : Int32) :: rest)
    (hc : cells + 5 ≤ R.cells) (hl : slots + 20 ≤ R.slots) :
    ∃ (T' : State) (h' : Heap) (d r0 r1 r2 r3 : Addr), Stand p l e R s m args below meth c T' locs (cells + 5) (slots + 20) ∧ T'.heap = h' ∧ Ext h h' ∧ d = h.size ∧ r0 = h.size + 1 ∧ r1 = h.size + 2 ∧ r2 = h.size + 3 ∧ r3 = h.size + 4 ∧ own_Ar Z h' d (.array .int) 4 (fun k => .ref (own_rr r0 r1 r2 r3 k)) ∧
      own_Ar Z h' r0 .int 4 (fun _ => .int (0 : Int32)) ∧ own_Ar Z h' r1 .int 4 (fun _ => .int (0 : Int32)) ∧ own_Ar Z h' r2 .int 4 (fun _ => .int (0 : Int32)) ∧ own_Ar Z h' r3 .int 4 (fun _ => .int (0 : Int32)) ∧
      ∀ target, Steps p.tables e below (T'.setTop { g with pc := g.pc + 4, stack := .ref d :: rest }) target → Steps p.tables e below (T.setTop g) target := by
  obtain ⟨T', h', cA, comp, X', e', E, A, -, -, B, st⟩ := gridM X hx hZ (C := "[I") (ad := "[[I") (ty := .int) hown (by decide) (by decide) w1 w2 w3 eT hg hd hs (by decide) (by decide) (N := 4) (by decide) (xs := [h.size + 1, h.size + 2, h.size + 3, h.size + 4]) (by simp [List.range, List.range.loop]) (cap := 4) (by decide) (by decide) (by decide) (by decide) (by decide) (by omega) (by omega)
  have N : ∀ (j : Nat) (x : Addr), [h.size + 1, h.size + 2, h.size + 3, h.size + 4][j]? = some x → own_Ar Z h' x .int 4 (fun _ => .int (0 : Int32)) := fun j x hj => own_Ar.new (B j x hj).1 (by decide) (by decide)
  refine ⟨T', h', _, _, _, _, _, X', e', E, rfl, rfl, rfl, rfl, rfl, ?_, N 0 _ rfl, N 1 _ rfl, N 2 _ rfl, N 3 _ rfl, st⟩
  obtain ⟨cl, A1, A2, A3, A4, A5, A6⟩ := A
  have hsz : cl.slots.size = 4 := by rw [A3]; decide
  refine ⟨by decide, cl, A1, hsz, fun i hi => ?_⟩
  rw [A5 i (by omega)]
  rcases i with _ | _ | _ | _ | i
  · rfl
  · rfl
  · rfl
  · rfl
  · omega
end Walk
def own_tq (x y z : Int32) : Nat → Int32 := fun j => if j = 0 then 0 else if j = 1 then x else if j = 2 then y else z
theorem own_and3n {x k : Int32} (h : k = x &&& (3 : Int32)) : ∃ n : Nat, n < 4 ∧ k = Int32.ofNat n := by
  have h1 := Jvm.Kit.i32_mask x 3 (k := 2) (by decide) (by decide)
  rw [← h] at h1
  refine ⟨(x.toInt % 2 ^ 2).toNat, by omega, Int32.toInt_inj.mp ?_⟩
  rw [own_ofN (by omega)]; omega
theorem own_n2i {n : Nat} (hn : n < 4) : (Int32.ofNat n + (2 : Int32)).toInt = ((n + 2 : Nat) : Int) := by
  have q := own_addI (own_ofN (k := n) (by omega)) (show (2 : Int32).toInt = 2 from by decide) (by omega) (by omega); omega
theorem own_n2 {n : Nat} (hn : n < 4) : ¬ (Int32.ofNat n + (2 : Int32)) = 0 := by
  intro q
  have h := own_n2i hn
  rw [q] at h
  have l : (0 : Int32).toInt = 0 := by decide
  omega
theorem own_head {x k : Int32} {n : Nat} (hn : n < 4) (h : k = ((x &&& (255 : Int32)) % (Int32.ofNat n + (2 : Int32))) - (1 : Int32)) : -1 ≤ k.toInt ∧ k.toInt ≤ (n : Int) := by
  have h1 := Jvm.Kit.i32_mask x 255 (k := 8) (by decide) (by decide)
  have h2 : ((x &&& (255 : Int32)) % (Int32.ofNat n + (2 : Int32))).toInt = (x.toInt % 2 ^ 8) % ((n + 2 : Nat) : Int) := by
    rw [Jvm.Kit.i32_rem_nonneg (by rw [h1]; omega), h1, own_n2i hn]
  have h3 := Int.emod_nonneg (x.toInt % 2 ^ 8) (show ((n + 2 : Nat) : Int) ≠ 0 by omega)
  have h4 := Int.emod_lt_of_pos (x.toInt % 2 ^ 8) (show (0 : Int) < ((n + 2 : Nat) : Int) by omega)
  have q := own_subI h2 (show (1 : Int32).toInt = 1 from by decide) (by omega) (by omega)
  rw [← h] at q
  omega
theorem own_dpv {n bd : Nat} {bnd : Int32} (hn : n < 4) (hbd : bnd.toInt = (bd : Int)) (h63 : bd ≤ 63) : (own_mni (3 : Int32) (Int32.ofNat n + bnd)).toInt = ((min 3 (n + bd) : Nat) : Int) := by
  have q := own_addI (own_ofN (k := n) (by omega)) hbd (by omega) (by omega)
  have l : (3 : Int32).toInt = 3 := by decide
  unfold own_mni
  by_cases h : Int32.ofNat n + bnd < 3
  · rw [if_pos h, q]
    rw [Int32.lt_iff_toInt_lt, q, l] at h; omega
  · rw [if_neg h, l]
    rw [Int32.lt_iff_toInt_lt, q, l] at h; omega
theorem own_Bt_not (x : Int64) {j : Nat} (hj : j < 64) : own_Bt (x ^^^ (-1 : Int64)) j ↔ ¬ own_Bt x j := by
  unfold own_Bt
  rw [Int64.toBitVec_xor, BitVec.getLsbD_xor, show (-1 : Int64).toBitVec = BitVec.allOnes 64 from by decide, BitVec.getLsbD_allOnes, decide_eq_true hj]
  simp
theorem own_outB {hd : Int32} {n : Nat} (hn : n < 4) (h1 : -1 ≤ hd.toInt) (h2 : hd.toInt ≤ (n : Int)) (j : Nat) (hj : j ≤ n) : own_Bt (if hd < (0 : Int32) then (-1 : Int64) else (own_upTo hd ^^^ (-1 : Int64))) j ↔ hd.toInt < (j : Int) := by
  have l : (0 : Int32).toInt = 0 := by decide
  by_cases q : hd < 0
  · rw [if_pos q]
    rw [Int32.lt_iff_toInt_lt, l] at q
    exact ⟨fun _ => by omega, fun _ => own_Bt_neg j (by omega)⟩
  · rw [if_neg q, own_Bt_not _ (by omega)]
    rw [Int32.lt_iff_toInt_lt, l] at q
    have e : hd = Int32.ofNat hd.toInt.toNat := Int32.toInt_inj.mp (by rw [own_ofN (by omega)]; omega)
    rw [e, own_Bt_up (by omega), own_ofN (by omega)]
    omega
/-- the given reference, cell by cell -/
def own_capI (v j hd hv : Int32) : Int32 := if hd < j then v else if hv < v then (1000 : Int32) else v
theorem own_capI_ok {hd hv : Int32} {ph : Nat} (h2 : hv.toInt = (ph : Int)) {v j : Nat} (hv3 : v < 3000) (hj : j < 10) : own_capI (Int32.ofNat v) (Int32.ofNat j) hd hv = Int32.ofNat (own_cap hd.toInt ph v j) := by
  unfold own_capI own_cap
  by_cases q : hd < Int32.ofNat j
  · rw [if_pos q]
    rw [Int32.lt_iff_toInt_lt, own_ofN (by omega)] at q
    rw [if_neg (by omega)]
  · rw [if_neg q]
    rw [Int32.lt_iff_toInt_lt, own_ofN (by omega)] at q
    by_cases q2 : hv < Int32.ofNat v
    · rw [if_pos q2]
      rw [Int32.lt_iff_toInt_lt, own_ofN (by omega)] at q2
      rw [if_pos (by omega)]; rfl
    · rw [if_neg q2]
      rw [Int32.lt_iff_toInt_lt, own_ofN (by omega)] at q2
      rw [if_neg (by omega)]
def own_c1 (A0 A1 D0 ki tj : Int32) : Int32 := own_mni (own_mni A1 D0 + (1 : Int32)) (A0 + (if ki = tj then (0 : Int32) else (1 : Int32)))
def own_c2 (i j : Nat) (b T2 ki tj kp tp : Int32) : Int32 := if 1 < i ∧ 1 < j ∧ ki = tp ∧ kp = tj then own_mni b (T2 + (1 : Int32)) else b
def own_cI (i j : Nat) (A0 A1 D0 T2 ki tj kp tp hd hv : Int32) : Int32 := own_capI (own_c2 i j (own_c1 A0 A1 D0 ki tj) T2 ki tj kp tp) (Int32.ofNat j) hd hv
theorem own_cI_ok {i j : Nat} {a0 a1 d0 t2 : Nat} {ki tj kp tp hd hv : Int32} {ph : Nat} {M S : Bool} (h2 : hv.toInt = (ph : Int)) (hj : j < 10) (b0 : a0 ≤ 1010) (b1 : a1 ≤ 1010) (b2 : d0 ≤ 1010) (b3 : t2 ≤ 1010) (hM : tj = ki ↔ M = true) (hS : (1 < i ∧ 1 < j ∧ ki = tp ∧ kp = tj) ↔ S = true) :
    own_cI i j (Int32.ofNat a0) (Int32.ofNat a1) (Int32.ofNat d0) (Int32.ofNat t2) ki tj kp tp hd hv = Int32.ofNat (own_cap hd.toInt ph (own_v M S a0 a1 d0 t2) j) := by
  have e1 : own_c1 (Int32.ofNat a0) (Int32.ofNat a1) (Int32.ofNat d0) ki tj = Int32.ofNat (min (min a1 d0 + 1) (a0 + (if M then 0 else 1))) := by
    unfold own_c1
    rw [own_mniN (by omega) (by omega), own_succ]
    by_cases q : ki = tj
    · rw [if_pos q, hM.mp q.symm, if_pos rfl, show (0 : Int32) = Int32.ofNat 0 from rfl, ← Int32.ofNat_add, own_mniN (by omega) (by omega)]
    · rw [if_neg q, if_neg (fun z => q (hM.mpr z).symm), own_succ, own_mniN (by omega) (by omega)]
  have e2 : own_c2 i j (own_c1 (Int32.ofNat a0) (Int32.ofNat a1) (Int32.ofNat d0) ki tj) (Int32.ofNat t2) ki tj kp tp = Int32.ofNat (own_v M S a0 a1 d0 t2) := by
    unfold own_c2 own_v
    have hb : (if M = true then 0 else 1) ≤ 1 := by split <;> omega
    by_cases q : 1 < i ∧ 1 < j ∧ ki = tp ∧ kp = tj
    · rw [if_pos q, hS.mp q, if_pos rfl, e1, own_succ, own_mniN (by omega) (by omega)]
    · rw [if_neg q, e1, if_neg (fun z => q (hS.mpr z)), Nat.min_eq_left (a := min (min a1 d0 + 1) _) (by omega)]
  unfold own_cI
  have hle : own_v M S a0 a1 d0 t2 < 3000 := by unfold own_v; omega
  rw [e2, own_capI_ok h2 hle hj]
theorem own_cap_le1 (head : Int) (ph v j m : Nat) (h : v ≤ 1000 + m) : own_cap head ph v j ≤ 1000 + m := by unfold own_cap; split <;> omega
theorem own_row_le {head : Int} {ph m : Nat} {M S : Nat → Bool} {A T : Nat → Nat} (hA : ∀ j, j ≤ 3 → A j ≤ 1000 + m) (j : Nat) (hj : j ≤ 3) : own_row head ph M S A T j ≤ 1000 + (m + 1) := by
  have hA' := hA j hj
  cases j with
  | zero => exact own_cap_le1 _ _ _ _ _ (by omega)
  | succ j => exact own_cap_le1 _ _ _ _ _ (by unfold own_v; omega)
theorem own_D0_le {head : Int} {ph : Nat} (j : Nat) (hj : j ≤ 3) : own_D0 head ph j ≤ 1000 + 0 := by unfold own_D0; split <;> omega
/-- one cell, in its row -/
theorem own_cell {i j : Nat} {M S : Nat → Bool} {A T : Nat → Nat} {a0 a1 d0 t2 ki tj kp tp hd hv v : Int32} {ph : Nat} (hv' : v = own_cI i (j + 1) a0 a1 d0 t2 ki tj kp tp hd hv) (h2 : hv.toInt = (ph : Int)) (hj : j < 3)
    (e0 : a0 = Int32.ofNat (A j)) (e1 : a1 = Int32.ofNat (A (j + 1))) (e2 : d0 = Int32.ofNat (own_row hd.toInt ph M S A T j)) (e3 : t2 = Int32.ofNat (T (j - 1))) (hA : ∀ j, j ≤ 3 → A j ≤ 1000 + 3) (hT : ∀ j, j ≤ 3 → T j ≤ 1000 + 3)
    (hM : tj = ki ↔ M (j + 1) = true) (hS : (1 < i ∧ 1 < j + 1 ∧ ki = tp ∧ kp = tj) ↔ (decide (1 ≤ j) && S (j + 1)) = true) : v = Int32.ofNat (own_row hd.toInt ph M S A T (j + 1)) := by
  subst e0 e1 e2 e3
  have q1 := hA j (by omega)
  have q2 := hA (j + 1) (by omega)
  have q3 := hT (j - 1) (by omega)
  have q4 := own_row_le (head := hd.toInt) (ph := ph) (M := M) (S := S) (T := T) hA j (by omega)
  rw [hv', own_cI_ok h2 (by omega) (by omega) (by omega) (by omega) (by omega) hM hS]; rfl
def own_M (t k : Nat → Int32) (i j : Nat) : Bool := decide (t j = k i)
def own_S (t k : Nat → Int32) (i j : Nat) : Bool := decide (t (j - 1) = k i) && decide (t j = k (i - 1))
theorem own_MS {t k : Nat → Int32} {i j : Nat} (hi : 1 < i) : (1 < i ∧ 1 < j + 1 ∧ k i = t j ∧ k (i - 1) = t (j + 1)) ↔ (decide (1 ≤ j) && own_S t k i (j + 1)) = true := by
  unfold own_S
  simp only [Bool.and_eq_true, decide_eq_true_eq, Nat.add_sub_cancel]
  constructor
  · rintro ⟨_, a, b, c⟩; exact ⟨by omega, b.symm, c.symm⟩
  · rintro ⟨a, b, c⟩; exact ⟨hi, by omega, b.symm, c.symm⟩
def own_R0r (head : Int) (ph : Nat) : Nat → Nat := own_D0 head ph
def own_R1r (head : Int) (ph : Nat) (t k : Nat → Int32) : Nat → Nat := own_row head ph (own_M t k 1) (fun _ => false) (own_R0r head ph) (own_R0r head ph)
def own_R2r (head : Int) (ph : Nat) (t k : Nat → Int32) : Nat → Nat := own_row head ph (own_M t k 2) (own_S t k 2) (own_R1r head ph t k) (own_R0r head ph)
def own_R3r (head : Int) (ph : Nat) (t k : Nat → Int32) : Nat → Nat := own_row head ph (own_M t k 3) (own_S t k 3) (own_R2r head ph t k) (own_R1r head ph t k)
theorem own_col0 (head : Int) (ph : Nat) (t k : Nat → Int32) : own_R1r head ph t k 0 = own_cap head ph 1 0 ∧ own_R2r head ph t k 0 = own_cap head ph 2 0 ∧ own_R3r head ph t k 0 = own_cap head ph 3 0 := by
  have e1 : own_R1r head ph t k 0 = own_cap head ph (own_D0 head ph 0 + 1) 0 := rfl
  have e2 : own_R2r head ph t k 0 = own_cap head ph (own_R1r head ph t k 0 + 1) 0 := rfl
  have e3 : own_R3r head ph t k 0 = own_cap head ph (own_R2r head ph t k 0 + 1) 0 := rfl
  rw [e3, e2, e1]
  unfold own_cap own_D0
  refine ⟨?_, ?_, ?_⟩
  · repeat' split
    all_goals omega
  · repeat' split
    all_goals omega
  · repeat' split
    all_goals omega
def own_r4 (x0 x1 x2 x3 : Int32) : Nat → Int32 := fun k => match k with | 0 => x0 | 1 => x1 | 2 => x2 | _ => x3
theorem own_r4_ok {x0 x1 x2 x3 : Int32} {D : Nat → Nat} (h0 : x0 = Int32.ofNat (D 0)) (h1 : x1 = Int32.ofNat (D 1)) (h2 : x2 = Int32.ofNat (D 2)) (h3 : x3 = Int32.ofNat (D 3)) (j : Nat) (hj : j ≤ 3) : own_r4 x0 x1 x2 x3 j = Int32.ofNat (D j) := by
  rcases j with _ | _ | _ | _ | j
  · exact h0
  · exact h1
  · exact h2
  · exact h3
  · omega
theorem own_grid16 {hd hv : Int32} {ph : Nat} (h2 : hv.toInt = (ph : Int)) (t k : Nat → Int32) {c00 c01 c02 c03 c10 c11 c12 c13 c20 c21 c22 c23 c30 c31 c32 c33 : Int32}
    (h00 : c00 = own_capI (0 : Int32) (0 : Int32) hd hv) (h01 : c01 = own_capI (1 : Int32) (1 : Int32) hd hv) (h02 : c02 = own_capI (2 : Int32) (2 : Int32) hd hv) (h03 : c03 = own_capI (3 : Int32) (3 : Int32) hd hv)
    (h10 : c10 = own_capI (1 : Int32) (0 : Int32) hd hv) (h20 : c20 = own_capI (2 : Int32) (0 : Int32) hd hv) (h30 : c30 = own_capI (3 : Int32) (0 : Int32) hd hv)
    (h11 : c11 = own_cI 1 1 c00 c01 c10 c00 (k 1) (t 1) (k 0) (t 0) hd hv) (h12 : c12 = own_cI 1 2 c01 c02 c11 c00 (k 1) (t 2) (k 0) (t 1) hd hv) (h13 : c13 = own_cI 1 3 c02 c03 c12 c01 (k 1) (t 3) (k 0) (t 2) hd hv)
    (h21 : c21 = own_cI 2 1 c10 c11 c20 c00 (k 2) (t 1) (k 1) (t 0) hd hv) (h22 : c22 = own_cI 2 2 c11 c12 c21 c00 (k 2) (t 2) (k 1) (t 1) hd hv) (h23 : c23 = own_cI 2 3 c12 c13 c22 c01 (k 2) (t 3) (k 1) (t 2) hd hv)
    (h31 : c31 = own_cI 3 1 c20 c21 c30 c10 (k 3) (t 1) (k 2) (t 0) hd hv) (h32 : c32 = own_cI 3 2 c21 c22 c31 c10 (k 3) (t 2) (k 2) (t 1) hd hv) (h33 : c33 = own_cI 3 3 c22 c23 c32 c11 (k 3) (t 3) (k 2) (t 2) hd hv) :
    (∀ j, j ≤ 3 → own_r4 c10 c11 c12 c13 j = Int32.ofNat (own_R1r hd.toInt ph t k j)) ∧ (∀ j, j ≤ 3 → own_r4 c20 c21 c22 c23 j = Int32.ofNat (own_R2r hd.toInt ph t k j)) ∧ (∀ j, j ≤ 3 → own_r4 c30 c31 c32 c33 j = Int32.ofNat (own_R3r hd.toInt ph t k j)) ∧
    (∀ j, j ≤ 3 → own_R1r hd.toInt ph t k j < 3000) ∧ (∀ j, j ≤ 3 → own_R2r hd.toInt ph t k j < 3000) ∧ (∀ j, j ≤ 3 → own_R3r hd.toInt ph t k j < 3000) := by
  have cp : ∀ v j : Nat, v < 4 → j < 4 → own_capI (Int32.ofNat v) (Int32.ofNat j) hd hv = Int32.ofNat (own_cap hd.toInt ph v j) := fun v j a b => own_capI_ok h2 (by omega) (by omega)
  have d0 : ∀ j, own_cap hd.toInt ph j j = own_R0r hd.toInt ph j := fun j => rfl
  have z00 : c00 = Int32.ofNat (own_R0r hd.toInt ph 0) := h00.trans (cp 0 0 (by omega) (by omega))
  have z01 : c01 = Int32.ofNat (own_R0r hd.toInt ph 1) := h01.trans (cp 1 1 (by omega) (by omega))
  have z02 : c02 = Int32.ofNat (own_R0r hd.toInt ph 2) := h02.trans (cp 2 2 (by omega) (by omega))
  have z03 : c03 = Int32.ofNat (own_R0r hd.toInt ph 3) := h03.trans (cp 3 3 (by omega) (by omega))
  obtain ⟨k1, k2, k3⟩ := own_col0 hd.toInt ph t k
  have z10 : c10 = Int32.ofNat (own_R1r hd.toInt ph t k 0) := by rw [k1]; exact h10.trans (cp 1 0 (by omega) (by omega))
  have z20 : c20 = Int32.ofNat (own_R2r hd.toInt ph t k 0) := by rw [k2]; exact h20.trans (cp 2 0 (by omega) (by omega))
  have z30 : c30 = Int32.ofNat (own_R3r hd.toInt ph t k 0) := by rw [k3]; exact h30.trans (cp 3 0 (by omega) (by omega))
  have b0 : ∀ j, j ≤ 3 → own_R0r hd.toInt ph j ≤ 1000 + 0 := fun j hj => own_D0_le j hj
  have b1 : ∀ j, j ≤ 3 → own_R1r hd.toInt ph t k j ≤ 1000 + 1 := fun j hj => own_row_le b0 j hj
  have b2 : ∀ j, j ≤ 3 → own_R2r hd.toInt ph t k j ≤ 1000 + 2 := fun j hj => own_row_le b1 j hj
  have b3 : ∀ j, j ≤ 3 → own_R3r hd.toInt ph t k j ≤ 1000 + 3 := fun j hj => own_row_le b2 j hj
  have w0 : ∀ j, j ≤ 3 → own_R0r hd.toInt ph j ≤ 1000 + 3 := fun j hj => Nat.le_trans (b0 j hj) (by omega)
  have w1 : ∀ j, j ≤ 3 → own_R1r hd.toInt ph t k j ≤ 1000 + 3 := fun j hj => Nat.le_trans (b1 j hj) (by omega)
  have w2 : ∀ j, j ≤ 3 → own_R2r hd.toInt ph t k j ≤ 1000 + 3 := fun j hj => Nat.le_trans (b2 j hj) (by omega)
  have M : ∀ i j, t j = k i ↔ own_M t k i j = true := fun i j => (decide_eq_true_iff (p := t j = k i)).symm
  have s1 : ∀ j, (1 < 1 ∧ 1 < j + 1 ∧ k 1 = t j ∧ k 0 = t (j + 1)) ↔ (decide (1 ≤ j) && (fun _ : Nat => false) (j + 1)) = true := fun j => ⟨fun q => absurd q.1 (by omega), fun q => by simp at q⟩
  have z11 : c11 = Int32.ofNat (own_R1r hd.toInt ph t k 1) := own_cell (i := 1) (j := 0) h11 h2 (by omega) z00 z01 z10 z00 w0 w0 (M 1 1) (s1 0)
  have z12 : c12 = Int32.ofNat (own_R1r hd.toInt ph t k 2) := own_cell (i := 1) (j := 1) h12 h2 (by omega) z01 z02 z11 z00 w0 w0 (M 1 2) (s1 1)
  have z13 : c13 = Int32.ofNat (own_R1r hd.toInt ph t k 3) := own_cell (i := 1) (j := 2) h13 h2 (by omega) z02 z03 z12 z01 w0 w0 (M 1 3) (s1 2)
  have z21 : c21 = Int32.ofNat (own_R2r hd.toInt ph t k 1) := own_cell (i := 2) (j := 0) h21 h2 (by omega) z10 z11 z20 z00 w1 w0 (M 2 1) (own_MS (j := 0) (by omega))
  have z22 : c22 = Int32.ofNat (own_R2r hd.toInt ph t k 2) := own_cell (i := 2) (j := 1) h22 h2 (by omega) z11 z12 z21 z00 w1 w0 (M 2 2) (own_MS (j := 1) (by omega))
  have z23 : c23 = Int32.ofNat (own_R2r hd.toInt ph t k 3) := own_cell (i := 2) (j := 2) h23 h2 (by omega) z12 z13 z22 z01 w1 w0 (M 2 3) (own_MS (j := 2) (by omega))
  have z31 : c31 = Int32.ofNat (own_R3r hd.toInt ph t k 1) := own_cell (i := 3) (j := 0) h31 h2 (by omega) z20 z21 z30 z10 w2 w1 (M 3 1) (own_MS (j := 0) (by omega))
  have z32 : c32 = Int32.ofNat (own_R3r hd.toInt ph t k 2) := own_cell (i := 3) (j := 1) h32 h2 (by omega) z21 z22 z31 z10 w2 w1 (M 3 2) (own_MS (j := 1) (by omega))
  have z33 : c33 = Int32.ofNat (own_R3r hd.toInt ph t k 3) := own_cell (i := 3) (j := 2) h33 h2 (by omega) z22 z23 z32 z11 w2 w1 (M 3 3) (own_MS (j := 2) (by omega))
  exact ⟨own_r4_ok z10 z11 z12 z13, own_r4_ok z20 z21 z22 z23, own_r4_ok z30 z31 z32 z33, fun j hj => by have := b1 j hj; omega, fun j hj => by have := b2 j hj; omega, fun j hj => by have := b3 j hj; omega⟩
/-- the least of the row -/
theorem own_min4 {n : Nat} (hn : n < 4) {D : Nat → Nat} {rv : Nat → Int32} (hr : ∀ j, j ≤ 3 → rv j = Int32.ofNat (D j)) (hD : ∀ j, j ≤ 3 → D j < 3000) {m1 m2 m3 : Int32} (h1 : m1 = if Int32.ofNat n < (1 : Int32) then rv 0 else own_mni (rv 0) (rv 1)) (h2 : m2 = if Int32.ofNat n < (2 : Int32) then m1 else own_mni m1 (rv 2)) (h3 : m3 = if Int32.ofNat n < (3 : Int32) then m2 else own_mni m2 (rv 3)) :
    ∃ mm : Nat, mm < 3000 ∧ m3 = Int32.ofNat mm ∧ ∀ c, mm ≤ c ↔ ∃ j, j ≤ n ∧ D j ≤ c := by
  have q0 := hD 0 (by omega)
  have q1 := hD 1 (by omega)
  have q2 := hD 2 (by omega)
  have q3 := hD 3 (by omega)
  rw [hr 0 (by omega), hr 1 (by omega), own_mniN (by omega) (by omega)] at h1
  rw [hr 2 (by omega)] at h2
  rw [hr 3 (by omega)] at h3
  have key : ∀ (mm : Nat), (∃ j, j ≤ n ∧ D j = mm) → (∀ j, j ≤ n → mm ≤ D j) → ∀ c, mm ≤ c ↔ ∃ j, j ≤ n ∧ D j ≤ c := by
    rintro mm ⟨j, hj, e⟩ h c
    exact ⟨fun q => ⟨j, hj, by omega⟩, fun ⟨i, hi, q⟩ => Nat.le_trans (h i hi) q⟩
  have : n = 0 ∨ n = 1 ∨ n = 2 ∨ n = 3 := by omega
  rcases this with rfl | rfl | rfl | rfl
  · rw [if_pos (by decide)] at h1 h2 h3
    exact ⟨D 0, by omega, by rw [h3, h2, h1], key _ ⟨0, by omega, rfl⟩ (fun j hj => by obtain rfl : j = 0 := (by omega); exact Nat.le_refl _)⟩
  · rw [if_neg (by decide)] at h1
    rw [if_pos (by decide)] at h2 h3
    refine ⟨min (D 0) (D 1), by omega, by rw [h3, h2, h1], key _ ?_ (fun j hj => ?_)⟩
    · rcases Nat.le_total (D 0) (D 1) with q | q
      · exact ⟨0, by omega, by omega⟩
      · exact ⟨1, by omega, by omega⟩
    · have : j = 0 ∨ j = 1 := by omega
      rcases this with rfl | rfl <;> omega
  · rw [if_neg (by decide)] at h1 h2
    rw [if_pos (by decide)] at h3
    rw [h1, own_mniN (by omega) (by omega)] at h2
    refine ⟨min (min (D 0) (D 1)) (D 2), by omega, by rw [h3, h2], key _ ?_ (fun j hj => ?_)⟩
    · have : min (min (D 0) (D 1)) (D 2) = D 0 ∨ min (min (D 0) (D 1)) (D 2) = D 1 ∨ min (min (D 0) (D 1)) (D 2) = D 2 := by omega
      rcases this with q | q | q
      · exact ⟨0, by omega, by omega⟩
      · exact ⟨1, by omega, by omega⟩
      · exact ⟨2, by omega, by omega⟩
    · have : j = 0 ∨ j = 1 ∨ j = 2 := by omega
      rcases this with rfl | rfl | rfl <;> omega
  · rw [if_neg (by decide)] at h1 h2 h3
    rw [h1, own_mniN (by omega) (by omega)] at h2
    rw [h2, own_mniN (by omega) (by omega)] at h3
    refine ⟨min (min (min (D 0) (D 1)) (D 2)) (D 3), by omega, h3, key _ ?_ (fun j hj => ?_)⟩
    · have : min (min (min (D 0) (D 1)) (D 2)) (D 3) = D 0 ∨ min (min (min (D 0) (D 1)) (D 2)) (D 3) = D 1 ∨ min (min (min (D 0) (D 1)) (D 2)) (D 3) = D 2 ∨ min (min (min (D 0) (D 1)) (D 2)) (D 3) = D 3 := by omega
      rcases this with q | q | q | q
      · exact ⟨0, by omega, by omega⟩
      · exact ⟨1, by omega, by omega⟩
      · exact ⟨2, by omega, by omega⟩
      · exact ⟨3, by omega, by omega⟩
    · have : j = 0 ∨ j = 1 ∨ j = 2 ∨ j = 3 := by omega
      rcases this with rfl | rfl | rfl | rfl <;> omega
theorem own_fillv {n bd : Nat} (hn : n < 4) {D : Nat → Nat} {rv : Nat → Int32} (hr : ∀ j, j ≤ 3 → rv j = Int32.ofNat (D j)) (hD : ∀ j, j ≤ 3 → D j < 3000) {m1 m2 m3 p7 : Int32} (h1 : m1 = if Int32.ofNat n < (1 : Int32) then rv 0 else own_mni (rv 0) (rv 1)) (h2 : m2 = if Int32.ofNat n < (2 : Int32) then m1 else own_mni m1 (rv 2)) (h3 : m3 = if Int32.ofNat n < (3 : Int32) then m2 else own_mni m2 (rv 3))
    {F : Int64} (hF : ∀ j, own_Bt F j ↔ j ≤ n ∧ D j ≤ bd) (hp : p7.toInt = (bd : Int)) : (if F = 0 then (0 : Int32) else 1) = if p7 < m3 then (0 : Int32) else (1 : Int32) := by
  obtain ⟨mm, q1, q2, q3⟩ := own_min4 hn hr hD h1 h2 h3
  have e : p7 < m3 ↔ ¬ mm ≤ bd := by rw [Int32.lt_iff_toInt_lt, hp, q2, own_ofN (by omega)]; omega
  have e2 : F = 0 ↔ ¬ mm ≤ bd := by
    rw [own_Bt_zero, q3]
    exact ⟨fun a ⟨j, hj⟩ => a j ((hF j).mpr hj), fun a j b => a ⟨j, (hF j).mp b⟩⟩
  by_cases q : mm ≤ bd
  · rw [if_neg (fun z => (e2.mp z) q), if_neg (fun z => (e.mp z) q)]
  · rw [if_pos (e2.mpr q), if_pos (e.mpr q)]
/-- the rows' bits -/
theorem own_bits0 {n ph bd : Nat} {out : Int64} {head : Int} (hn : n < 4) (hbd : bd ≤ 63) (ho : ∀ j, j ≤ n → (own_Bt out j ↔ head < (j : Int))) {rf0 : Nat → Int64} (h : rf0 = own_r0k n ph out (bd + 1)) : ∀ d, d ≤ bd → ∀ j, own_Bt (rf0 (0 * (bd + 1) + d)) j ↔ j ≤ n ∧ own_R0r head ph j ≤ d := by
  intro d hd j
  rw [h]
  unfold own_r0k
  rw [if_pos (by omega), Nat.zero_mul, Nat.zero_add, own_Bt_R0 (head := head) hn (by omega) ho]
  exact Iff.rfl
theorem own_bitsIn {rf F : Nat → Int64} {B bd n : Nat} {D : Nat → Nat} (hF : ∀ d, d ≤ bd → ∀ j, own_Bt (F d) j ↔ j ≤ n ∧ D j ≤ d) {rf' : Nat → Int64} (e : rf' = own_rk rf B F (bd + 1)) : ∀ d, d ≤ bd → ∀ j, own_Bt (rf' (B + d)) j ↔ j ≤ n ∧ D j ≤ d := by
  intro d hd j
  rw [e, own_rk_in (by omega)]
  exact hF d hd j
theorem own_bitsLt {rf F : Nat → Int64} {B' B bd n : Nat} {D : Nat → Nat} (hB : B' + bd < B) (h : ∀ d, d ≤ bd → ∀ j, own_Bt (rf (B' + d)) j ↔ j ≤ n ∧ D j ≤ d) {rf' : Nat → Int64} (e : rf' = own_rk rf B F (bd + 1)) : ∀ d, d ≤ bd → ∀ j, own_Bt (rf' (B' + d)) j ↔ j ≤ n ∧ D j ≤ d := by
  intro d hd j
  rw [e, own_rk_lt (by omega)]
  exact h d hd j
theorem own_bitsR1 {n ph bd : Nat} {m1 cols out : Int64} {ab tw : Nat → Int64} {head : Int} {t k : Nat → Int32} (hn : n < 4) (hbd : bd ≤ 63) (ho : ∀ j, j ≤ n → (own_Bt out j ↔ head < (j : Int))) (hc : ∀ j, own_Bt cols j ↔ j ≤ n) (hm : ∀ j, own_Bt m1 j ↔ (1 ≤ j ∧ j ≤ n ∧ decide (t j = k 1) = true))
    (hab : ∀ d, d ≤ bd → ∀ j, own_Bt (ab d) j ↔ j ≤ n ∧ own_R0r head ph j ≤ d) {F : Nat → Int64} (hF : F = own_F m1 0 cols out ph ab tw) : ∀ d, d ≤ bd → ∀ j, own_Bt (F d) j ↔ j ≤ n ∧ own_R1r head ph t k j ≤ d := by
  rw [hF]
  exact own_Bt_F (head := head) (M := own_M t k 1) (S := fun _ => false) (A := own_R0r head ph) (T := own_R0r head ph) (D := own_R1r head ph t k) hn (by omega) ho hc hm (fun j => ⟨fun q => absurd q ((own_Bt_zero 0).mp rfl j), fun q => absurd q.2.2 (by simp)⟩) hab (fun q => absurd rfl q) rfl (fun j hj => rfl)
theorem own_bitsR2 {n ph bd : Nat} {m1 m2 cols out : Int64} {ab tw : Nat → Int64} {head : Int} {t k : Nat → Int32} (hn : n < 4) (hbd : bd ≤ 63) (ho : ∀ j, j ≤ n → (own_Bt out j ↔ head < (j : Int))) (hc : ∀ j, own_Bt cols j ↔ j ≤ n) (hm1 : ∀ j, own_Bt m1 j ↔ (1 ≤ j ∧ j ≤ n ∧ decide (t j = k 1) = true)) (hm2 : ∀ j, own_Bt m2 j ↔ (1 ≤ j ∧ j ≤ n ∧ decide (t j = k 2) = true))
    (hab : ∀ d, d ≤ bd → ∀ j, own_Bt (ab d) j ↔ j ≤ n ∧ own_R1r head ph t k j ≤ d) (htw : ∀ d, d ≤ bd → ∀ j, own_Bt (tw d) j ↔ j ≤ n ∧ own_R0r head ph j ≤ d) {F : Nat → Int64} (hF : F = own_F m2 ((m2 <<< ((1 : Int32) &&& 0x3f).toInt64) &&& m1) cols out ph ab tw) : ∀ d, d ≤ bd → ∀ j, own_Bt (F d) j ↔ j ≤ n ∧ own_R2r head ph t k j ≤ d := by
  rw [hF]
  exact own_Bt_F (head := head) (M := own_M t k 2) (S := own_S t k 2) (A := own_R1r head ph t k) (T := own_R0r head ph) (D := own_R2r head ph t k) hn (by omega) ho hc hm2 (own_Bt_sw (M := fun j => decide (t j = k 2)) (M' := fun j => decide (t j = k 1)) hn hm2 hm1) hab (fun _ => htw) rfl (fun j hj => rfl)
theorem own_bitsR3 {n ph bd : Nat} {m2 m3 cols out : Int64} {ab tw : Nat → Int64} {head : Int} {t k : Nat → Int32} (hn : n < 4) (hbd : bd ≤ 63) (ho : ∀ j, j ≤ n → (own_Bt out j ↔ head < (j : Int))) (hc : ∀ j, own_Bt cols j ↔ j ≤ n) (hm2 : ∀ j, own_Bt m2 j ↔ (1 ≤ j ∧ j ≤ n ∧ decide (t j = k 2) = true)) (hm3 : ∀ j, own_Bt m3 j ↔ (1 ≤ j ∧ j ≤ n ∧ decide (t j = k 3) = true))
    (hab : ∀ d, d ≤ bd → ∀ j, own_Bt (ab d) j ↔ j ≤ n ∧ own_R2r head ph t k j ≤ d) (htw : ∀ d, d ≤ bd → ∀ j, own_Bt (tw d) j ↔ j ≤ n ∧ own_R1r head ph t k j ≤ d) {F : Nat → Int64} (hF : F = own_F m3 ((m3 <<< ((1 : Int32) &&& 0x3f).toInt64) &&& m2) cols out ph ab tw) : ∀ d, d ≤ bd → ∀ j, own_Bt (F d) j ↔ j ≤ n ∧ own_R3r head ph t k j ≤ d := by
  rw [hF]
  exact own_Bt_F (head := head) (M := own_M t k 3) (S := own_S t k 3) (A := own_R2r head ph t k) (T := own_R1r head ph t k) (D := own_R3r head ph t k) hn (by omega) ho hc hm3 (own_Bt_sw (M := fun j => decide (t j = k 3)) (M' := fun j => decide (t j = k 2)) hn hm3 hm2) hab (fun _ => htw) rfl (fun j hj => rfl)
theorem own_pr1 {i : Nat} (h1 : 1 ≤ i) (h2 : i ≤ 3) : (Int32.ofNat i - (1 : Int32)).toInt = ((i - 1 : Nat) : Int) := by
  have q := own_subI (own_ofN (k := i) (by omega)) (show (1 : Int32).toInt = 1 from by decide) (by omega) (by omega); omega
theorem own_pr2 {i : Nat} (h1 : 2 ≤ i) (h2 : i ≤ 3) : (Int32.ofNat i - (2 : Int32)).toInt = ((i - 2 : Nat) : Int) := by
  have q := own_subI (own_ofN (k := i) (by omega)) (show (2 : Int32).toInt = 2 from by decide) (by omega) (by omega); omega
theorem own_1lt {i : Nat} (h : i ≤ 3) : (1 : Int32) < Int32.ofNat i ↔ 1 < i := by
  have l : (1 : Int32).toInt = 1 := by decide
  rw [Int32.lt_iff_toInt_lt, own_ofN (by omega), l]; omega
end OwnM2
section OwnM2b
theorem own_freshNe {o x sz k : Nat} (h : o < sz) (g : x = sz + k) : o ≠ x := by omega
theorem own_apart {x y sz i j : Nat} (gx : x = sz + i) (gy : y = sz + j) (q : i ≠ j) : x ≠ y := by omega
theorem own_geN {n x sz k : Nat} (h : n ≤ sz) (g : x = sz + k) : n ≤ x := by omega
theorem own_ltT {x a b : Int32} (h : x < a) (q : a.toInt ≤ b.toInt) : x < b := by rw [Int32.lt_iff_toInt_lt] at h ⊢; omega
theorem own_geT {x b : Int32} {dp i : Nat} (h : x.toInt = (dp : Int)) (q : ¬ x < b) (e : b.toInt = (i : Int)) : i ≤ dp := by rw [Int32.lt_iff_toInt_lt] at q; omega
theorem own_b63 {x k : Int32} (h : k = x &&& (63 : Int32)) : ∃ b : Nat, k.toInt = (b : Int) ∧ b ≤ 63 := by
  have h1 := Jvm.Kit.i32_mask x 63 (k := 6) (by decide) (by decide)
  rw [← h] at h1
  exact ⟨(x.toInt % 2 ^ 6).toNat, by omega, by omega⟩
def own_tx3 (x y z : Int32) : Nat → Int32 := fun k => match k with | 0 => x | 1 => y | _ => z
end OwnM2b
def own_TT (a b c : Int32) : Nat → (Nat → Int32) × (Nat → Int64) := fun j => match j with | 0 => own_T0 | 1 => own_T1 a | 2 => own_T2 a b | _ => own_T3 a b c
theorem own_jx2 : ((1 : Int32) + (1 : Int32)) = Int32.ofNat 2 := by decide
theorem own_jx3 : (((1 : Int32) + (1 : Int32)) + (1 : Int32)) = Int32.ofNat 3 := by decide
theorem own_tbn {n : Nat} (hn : n < 4) (a b c : Fin 8) : ∃ (CP : Nat → Nat → Int32) (CO : Nat → Nat → Int64) (RF : Nat → Nat), (∀ k, CP 0 k = -1) ∧ (∀ k, CO 0 k = 0) ∧ (∀ j, j < n → own_find (CP j) ((own_tx3 (own_chr a) (own_chr b) (own_chr c)) j) 8 (((own_tx3 (own_chr a) (own_chr b) (own_chr c)) j) &&& 127).toNatClampNeg = RF j) ∧ (∀ j, j < n → (CP j (RF j) = ((own_tx3 (own_chr a) (own_chr b) (own_chr c)) j) ∨ CP j (RF j) = -1) ∧ RF j < 128) ∧ (∀ j, j < n → CP (j + 1) = own_upd (CP j) (RF j) ((own_tx3 (own_chr a) (own_chr b) (own_chr c)) j)) ∧ (∀ j, j < n → CO (j + 1) = own_upd (CO j) (RF j) (CO j (RF j) ||| ((1 : Int64) <<< ((Int32.ofNat (j + 1)) &&& 0x3f).toInt64))) ∧ (∀ k : Fin 8, ∃ RR, own_find (CP n) (own_chr k) 8 ((own_chr k) &&& 127).toNatClampNeg = RR ∧ ((CP n) RR = own_chr k ∨ (CP n) RR = -1) ∧ RR < 128 ∧ ∀ j, own_Bt ((CO n) RR) j ↔ (1 ≤ j ∧ j ≤ n ∧ decide ((own_tq (own_chr a) (own_chr b) (own_chr c)) j = own_chr k) = true)) := by
  refine ⟨fun j => (own_TT (own_chr a) (own_chr b) (own_chr c) j).1, fun j => (own_TT (own_chr a) (own_chr b) (own_chr c) j).2, fun j => own_sl (own_TT (own_chr a) (own_chr b) (own_chr c) j).1 (own_tx3 (own_chr a) (own_chr b) (own_chr c) j), fun _ => rfl, fun _ => rfl, fun _ _ => rfl, fun j hj => ?_, fun j hj => ?_, fun j hj => ?_, fun k => ?_⟩
  · have q : j = 0 ∨ j = 1 ∨ j = 2 := by omega
    rcases q with rfl | rfl | rfl
    · exact ⟨(own_ok0 a).1, (own_ok0 a).2.1⟩
    · exact ⟨(own_ok1 a b).1, (own_ok1 a b).2.1⟩
    · exact ⟨(own_ok2 a b c).1, (own_ok2 a b c).2.1⟩
  · have q : j = 0 ∨ j = 1 ∨ j = 2 := by omega
    rcases q with rfl | rfl | rfl
    · rfl
    · rfl
    · rfl
  · have q : j = 0 ∨ j = 1 ∨ j = 2 := by omega
    rcases q with rfl | rfl | rfl
    · rfl
    · show own_upd _ _ (_ ||| ((1 : Int64) <<< (((1 : Int32) + (1 : Int32)) &&& 0x3f).toInt64)) = _
      rw [own_jx2]; rfl
    · show own_upd _ _ (_ ||| ((1 : Int64) <<< ((((1 : Int32) + (1 : Int32)) + (1 : Int32)) &&& 0x3f).toInt64)) = _
      rw [own_jx3]; rfl
  · have q : n = 0 ∨ n = 1 ∨ n = 2 ∨ n = 3 := by omega
    rcases q with rfl | rfl | rfl | rfl
    · refine ⟨_, rfl, (own_ok0 k).1, (own_ok0 k).2.1, fun j => ?_⟩
      have h := own_Bt_mask (n := 0) (own_tq (own_chr a) (own_chr b) (own_chr c)) (own_chr k) (by decide) j
      have e := (own_ok0 k).2.2
      refine Iff.trans (show own_Bt (own_T0.2 (own_sl own_T0.1 (own_chr k))) j ↔ _ from ?_) h
      rw [e]; simp
    · refine ⟨_, rfl, (own_ok1 a k).1, (own_ok1 a k).2.1, fun j => ?_⟩
      have h := own_Bt_mask (n := 1) (own_tq (own_chr a) (own_chr b) (own_chr c)) (own_chr k) (by decide) j
      have e := (own_ok1 a k).2.2
      refine Iff.trans (show own_Bt ((own_T1 (own_chr a)).2 (own_sl (own_T1 (own_chr a)).1 (own_chr k))) j ↔ _ from ?_) h
      rw [e]; simp [own_tq]
    · refine ⟨_, rfl, (own_ok2 a b k).1, (own_ok2 a b k).2.1, fun j => ?_⟩
      have h := own_Bt_mask (n := 2) (own_tq (own_chr a) (own_chr b) (own_chr c)) (own_chr k) (by decide) j
      have e := (own_ok2 a b k).2.2
      refine Iff.trans (show own_Bt ((own_T2 (own_chr a) (own_chr b)).2 (own_sl (own_T2 (own_chr a) (own_chr b)).1 (own_chr k))) j ↔ _ from ?_) h
      rw [e]; simp [own_tq]
    · refine ⟨_, rfl, (own_ok3 a b c k).1, (own_ok3 a b c k).2.1, fun j => ?_⟩
      have h := own_Bt_mask (n := 3) (own_tq (own_chr a) (own_chr b) (own_chr c)) (own_chr k) (by decide) j
      have e := (own_ok3 a b c k).2.2
      refine Iff.trans (show own_Bt ((own_T3 (own_chr a) (own_chr b) (own_chr c)).2 (own_sl (own_T3 (own_chr a) (own_chr b) (own_chr c)).1 (own_chr k))) j ↔ _ from ?_) h
      rw [e]; simp [own_tq]
theorem d2_0 : decode jdk_29_method_69_code 0 = .ok (.iload_n 0, 1) := by decide +kernel
theorem d2_1 : decode jdk_29_method_69_code 1 = .ok (.iload_n 1, 1) := by decide +kernel
theorem d2_2 : decode jdk_29_method_69_code 2 = .ok (.if_icmp .gt 7, 3) := by decide +kernel
theorem d2_9 : decode jdk_29_method_69_code 9 = .ok (.iload_n 1, 1) := by decide +kernel
theorem d2_10 : decode jdk_29_method_69_code 10 = .ok (.ireturn, 1) := by decide +kernel
theorem d2_5 : decode jdk_29_method_69_code 5 = .ok (.iload_n 0, 1) := by decide +kernel
theorem d2_6 : decode jdk_29_method_69_code 6 = .ok (.goto 4, 3) := by decide +kernel
def Q_rmmin (Z : State) (p1 : Int32) (p2 : Int32) (h0 : Heap) (n0 : Nat) (v : Option Value) (h : Heap) (L : List Loc) : Prop := v = some (.int (own_mni p1 p2)) ∧ Fr n0 L ∧ h = h0
set_option maxRecDepth 65536 in
set_option maxHeartbeats 40000000 in
theorem rmmin (l : Launch) (Z : State) (a0 : Array Value) (hw : ∀ d ∈ tables_1, d.before a0 Z = true) (ws : List Jvm.Cond) (p1 : Int32) (p2 : Int32) (h0 : Heap) (n0 : Nat) (Z0 : n0 ≤ h0.size)  :
    own_Ctr l Z (⟨"java/lang/Math", "min", "(II)I"⟩ : MethodName) jdk_29_method_69_code 2 (some .int) ws ({ frames := 0, cells := 0, slots := 0, locals := 0 } : Room) #[(.int p1), (.int p2)] h0 (Q_rmmin Z p1 p2 h0 n0) := by
  refine own_enter (Jvm.Free.JP.mathPlain rfl (by decide +kernel)) ?_
  intro p e s m below meth c s₁ X0 hx hby hml hrt hlk hZ hown hnm e0
  have N0 := Fr.nil n0
  have Zs := Z0
  rw [show entryFrame m #[(.int p1), (.int p2)] 2 = mkF m 0 #[iv p1, iv p2] [] from by first | (simp [entryFrame, mkF, argsToLocals, Value.category]; done) | rfl]
  show own_Wp _ _ _ _ (s₁.setTop (mkF m 0 #[iv p1, iv p2] []))
  refine own_of (fun tgt kon => XS.iloadN X0.here hx rfl (hb hby d2_0) rfl kon) ?_
  refine own_of (fun tgt kon => XS.iloadN X0.here hx rfl (hb hby d2_1) rfl kon) ?_
  by_cases hc2 : p2 < p1
  · skip
    refine own_of (fun tgt kon => XS.icmpYes X0.here hx rfl (pc0 := 2) (pc' := 9) rfl (hb hby d2_2) rfl (tlt hc2).2.2.1 (by decide) (by decide) kon) ?_
    refine own_of (fun tgt kon => XS.iloadN X0.here hx rfl (hb hby d2_9) rfl kon) ?_
    show own_Wp _ _ _ _ (s₁.setTop (mkF m 10 #[iv p1, iv p2] [(.int p2)]))
    refine own_ret X0 hlk (some (.int p2)) (own_rtI hrt) (fun fs hr => own_retI X0 hx hrt (hb hby d2_10) hr) ?_ (by decide) (by decide)
    rw [e0]
    exact ⟨by unfold own_mni; rw [if_pos hc2], N0, rfl⟩
  · skip
    refine own_of (fun tgt kon => XS.icmpNo X0.here hx rfl (hb hby d2_2) rfl (flt hc2).2.2.1 kon) ?_
    refine own_of (fun tgt kon => XS.iloadN X0.here hx rfl (hb hby d2_5) rfl kon) ?_
    refine own_of (fun tgt kon => XS.goto X0.here hx rfl (pc0 := 6) (pc' := 10) rfl (hb hby d2_6) (by decide) (by decide) kon) ?_
    show own_Wp _ _ _ _ (s₁.setTop (mkF m 10 #[iv p1, iv p2] [(.int p1)]))
    refine own_ret X0 hlk (some (.int p1)) (own_rtI hrt) (fun fs hr => own_retI X0 hx hrt (hb hby d2_10) hr) ?_ (by decide) (by decide)
    rw [e0]
    exact ⟨by unfold own_mni; rw [if_neg hc2], N0, rfl⟩
theorem own_pn0 : plainName "com/example/close_words/closewords/BitRows" = true := by first | (simp [plainName, overriddenIn]; done) | decide +kernel
theorem d5_0 : decode prog_6_method_5_code 0 = .ok (.iload_n 0, 1) := by decide +kernel
theorem d5_1 : decode prog_6_method_5_code 1 = .ok (.bipush 63, 2) := by decide +kernel
theorem d5_3 : decode prog_6_method_5_code 3 = .ok (.if_icmp .lt 9, 3) := by decide +kernel
theorem d5_12 : decode prog_6_method_5_code 12 = .ok (.lconst 1, 1) := by decide +kernel
theorem d5_13 : decode prog_6_method_5_code 13 = .ok (.iload_n 0, 1) := by decide +kernel
theorem d5_14 : decode prog_6_method_5_code 14 = .ok (.iconst 1, 1) := by decide +kernel
theorem d5_15 : decode prog_6_method_5_code 15 = .ok (.iadd, 1) := by decide +kernel
theorem d5_16 : decode prog_6_method_5_code 16 = .ok (.lshl, 1) := by decide +kernel
theorem d5_17 : decode prog_6_method_5_code 17 = .ok (.lconst 1, 1) := by decide +kernel
theorem d5_18 : decode prog_6_method_5_code 18 = .ok (.lsub, 1) := by decide +kernel
theorem d5_19 : decode prog_6_method_5_code 19 = .ok (.lreturn, 1) := by decide +kernel
theorem d5_6 : decode prog_6_method_5_code 6 = .ok (.ldc2_w 32, 3) := by decide +kernel
theorem d5_9 : decode prog_6_method_5_code 9 = .ok (.goto 10, 3) := by decide +kernel
def Q_rmup (Z : State) (p1 : Int32) (h0 : Heap) (n0 : Nat) (v : Option Value) (h : Heap) (L : List Loc) : Prop := v = some (.long (own_upTo p1)) ∧ Fr n0 L ∧ h = h0
set_option maxRecDepth 65536 in
set_option maxHeartbeats 40000000 in
theorem rmup (l : Launch) (Z : State) (a0 : Array Value) (hw : ∀ d ∈ tables_1, d.before a0 Z = true) (ws : List Jvm.Cond) (p1 : Int32) (h0 : Heap) (n0 : Nat) (Z0 : n0 ≤ h0.size)  :
    own_Ctr l Z (⟨"com/example/close_words/closewords/BitRows", "upTo", "(I)J"⟩ : MethodName) prog_6_method_5_code 1 (some .long) ws ({ frames := 0, cells := 0, slots := 0, locals := 0 } : Room) #[(.int p1)] h0 (Q_rmup Z p1 h0 n0) := by
  refine own_enter (plainFor_of_name own_pn0) ?_
  intro p e s m below meth c s₁ X0 hx hby hml hrt hlk hZ hown hnm e0
  have N0 := Fr.nil n0
  have Zs := Z0
  rw [show entryFrame m #[(.int p1)] 1 = mkF m 0 #[iv p1] [] from by first | (simp [entryFrame, mkF, argsToLocals, Value.category]; done) | rfl]
  show own_Wp _ _ _ _ (s₁.setTop (mkF m 0 #[iv p1] []))
  refine own_of (fun tgt kon => XS.iloadN X0.here hx rfl (hb hby d5_0) rfl kon) ?_
  refine own_of (fun tgt kon => XS.bipush X0.here hx rfl (hb hby d5_1) kon) ?_
  by_cases hc3 : p1 < (63 : Int32)
  · skip
    refine own_of (fun tgt kon => XS.icmpYes X0.here hx rfl (pc0 := 3) (pc' := 12) rfl (hb hby d5_3) rfl (tlt hc3).1 (by decide) (by decide) kon) ?_
    refine own_of (fun tgt kon => XS.lconst X0.here hx rfl (hb hby d5_12) kon) ?_
    refine own_of (fun tgt kon => XS.iloadN X0.here hx rfl (hb hby d5_13) rfl kon) ?_
    show own_Wp _ _ _ _ (s₁.setTop (mkF m 14 #[iv p1] [(.int p1), (.long (1 : Int64))]))
    refine own_of (fun tgt kon => XS.iconst X0.here hx rfl (hb hby d5_14) kon) ?_
    refine own_of (fun tgt kon => XS.iadd X0.here hx rfl (hb hby d5_15) rfl kon) ?_
    refine own_of (fun tgt kon => XS.lshl X0.here hx rfl (hb hby d5_16) rfl kon) ?_
    refine own_of (fun tgt kon => XS.lconst X0.here hx rfl (hb hby d5_17) kon) ?_
    refine own_of (fun tgt kon => XS.lsub X0.here hx rfl (hb hby d5_18) rfl kon) ?_
    show own_Wp _ _ _ _ (s₁.setTop (mkF m 19 #[iv p1] [(.long (((1 : Int64) <<< ((p1 + (1 : Int32)) &&& 0x3f).toInt64) - (1 : Int64)))]))
    refine own_ret X0 hlk (some (.long (((1 : Int64) <<< ((p1 + (1 : Int32)) &&& 0x3f).toInt64) - (1 : Int64)))) (own_rtI hrt) (fun fs hr => own_retJ X0 hx hrt (hb hby d5_19) hr) ?_ (by decide) (by decide)
    rw [e0]
    exact ⟨by unfold own_upTo; rw [if_pos hc3], N0, rfl⟩
  · skip
    refine own_of (fun tgt kon => XS.icmpNo X0.here hx rfl (hb hby d5_3) rfl (flt hc3).1 kon) ?_
    refine own_of (X0.ldc2Long hx hown (mvT hZ (ow hw 31 rfl)) (g := (mkF m 6 #[iv p1] [])) rfl (hb hby d5_6)) ?_
    refine own_of (fun tgt kon => XS.goto X0.here hx rfl (pc0 := 9) (pc' := 19) rfl (hb hby d5_9) (by decide) (by decide) kon) ?_
    show own_Wp _ _ _ _ (s₁.setTop (mkF m 19 #[iv p1] [(.long (-1 : Int64))]))
    refine own_ret X0 hlk (some (.long (-1 : Int64))) (own_rtI hrt) (fun fs hr => own_retJ X0 hx hrt (hb hby d5_19) hr) ?_ (by decide) (by decide)
    rw [e0]
    exact ⟨by unfold own_upTo; rw [if_neg hc3], N0, rfl⟩
theorem own_pn1 : plainName "java/util/Arrays" = true := by first | (simp [plainName, overriddenIn]; done) | decide +kernel
theorem d6_0 : decode jdk_65_method_103_code 0 = .ok (.iconst 0, 1) := by decide +kernel
theorem d6_1 : decode jdk_65_method_103_code 1 = .ok (.istore_n 2, 1) := by decide +kernel
theorem d6_2 : decode jdk_65_method_103_code 2 = .ok (.aload_n 0, 1) := by decide +kernel
theorem d6_3 : decode jdk_65_method_103_code 3 = .ok (.arraylength, 1) := by decide +kernel
theorem d6_4 : decode jdk_65_method_103_code 4 = .ok (.istore_n 3, 1) := by decide +kernel
theorem d6_5 : decode jdk_65_method_103_code 5 = .ok (.iload_n 2, 1) := by decide +kernel
theorem d6_6 : decode jdk_65_method_103_code 6 = .ok (.iload_n 3, 1) := by decide +kernel
theorem d6_7 : decode jdk_65_method_103_code 7 = .ok (.if_icmp .ge 13, 3) := by decide +kernel
theorem d6_10 : decode jdk_65_method_103_code 10 = .ok (.aload_n 0, 1) := by decide +kernel
theorem d6_11 : decode jdk_65_method_103_code 11 = .ok (.iload_n 2, 1) := by decide +kernel
theorem d6_12 : decode jdk_65_method_103_code 12 = .ok (.iload_n 1, 1) := by decide +kernel
theorem d6_13 : decode jdk_65_method_103_code 13 = .ok (.iastore, 1) := by decide +kernel
theorem d6_14 : decode jdk_65_method_103_code 14 = .ok (.iinc 2 1, 3) := by decide +kernel
theorem d6_17 : decode jdk_65_method_103_code 17 = .ok (.goto (-12), 3) := by decide +kernel
theorem d6_20 : decode jdk_65_method_103_code 20 = .ok (.return_, 1) := by decide +kernel
def Q_rmaf (Z : State) (a1 : Addr) (p2 : Int32) (f : Nat → Value) (h0 : Heap) (n0 : Nat) (v : Option Value) (h : Heap) (L : List Loc) : Prop := v = none ∧ Fr n0 L ∧ Keep h0 h [a1] ∧ own_Ar Z h a1 .int 128 (fun _ => .int p2)
set_option maxRecDepth 65536 in
set_option maxHeartbeats 40000000 in
theorem rmaf (l : Launch) (Z : State) (a0 : Array Value) (hw : ∀ d ∈ tables_1, d.before a0 Z = true) (ws : List Jvm.Cond) (a1 : Addr) (p2 : Int32) (f : Nat → Value) (h0 : Heap) (n0 : Nat) (Z0 : n0 ≤ h0.size) (V_a1 : own_Ar Z h0 a1 .int 128 f) (g_a1 : n0 ≤ a1) :
    own_Ctr l Z (⟨"java/util/Arrays", "fill", "([II)V"⟩ : MethodName) jdk_65_method_103_code 4 none ws ({ frames := 0, cells := 0, slots := 0, locals := 0 } : Room) #[(.ref a1), (.int p2)] h0 (Q_rmaf Z a1 p2 f h0 n0) := by
  refine own_enter (plainFor_of_name own_pn1) ?_
  intro p e s m below meth c s₁ X0 hx hby hml hrt hlk hZ hown hnm e0
  have N0 := Fr.nil n0
  have Zs := Z0
  have K0 := Keep.refl h0 [a1]
  rw [show entryFrame m #[(.ref a1), (.int p2)] 4 = mkF m 0 #[rv a1, iv p2, uu, uu] [] from by first | (simp [entryFrame, mkF, argsToLocals, Value.category]; done) | rfl]
  show own_Wp _ _ _ _ (s₁.setTop (mkF m 0 #[rv a1, iv p2, uu, uu] []))
  refine own_of (fun tgt kon => XS.iconst X0.here hx rfl (hb hby d6_0) kon) ?_
  refine own_of (fun tgt kon => XS.istoreN X0.here hx rfl (hb hby d6_1) rfl (l' := #[rv a1, iv p2, iv (0 : Int32), uu]) rfl kon) ?_
  refine own_of (fun tgt kon => XS.aloadN X0.here hx rfl (hb hby d6_2) rfl rfl kon) ?_
  refine own_len X0 hx hZ e0 V_a1 (z := (128 : Int32)) (by decide) rfl rfl (hb hby d6_3) ?_
  refine own_of (fun tgt kon => XS.istoreN X0.here hx rfl (hb hby d6_4) rfl (l' := #[rv a1, iv p2, iv (0 : Int32), iv (128 : Int32)]) rfl kon) ?_
  show own_Wp _ _ _ _ (s₁.setTop (mkF m 5 #[rv a1, iv p2, iv (0 : Int32), iv (128 : Int32)] []))
  have J5 : ∀ (nn : Nat) (T1 : State) (lc1 : List Loc) (h1 : Heap) (k : Nat) (gf : Nat → Value), (Stand p l e ({ frames := 0, cells := 0, slots := 0, locals := 0 } : Room) s m #[(.ref a1), (.int p2)] below meth c T1 lc1 0 0) → (T1.heap = h1) → (Fr n0 lc1) → (n0 ≤ h1.size) → (Keep h0 h1 [a1]) → (own_Ar Z h1 a1 .int 128 gf) → (k ≤ 128) → (∀ x, x < k → gf x = .int p2) → (128 - k < nn) → own_Wp p.tables e below (own_K ({ frames := 0, cells := 0, slots := 0, locals := 0 } : Room) s below (Q_rmaf Z a1 p2 f h0 n0)) (T1.setTop (mkF m 5 #[rv a1, iv p2, iv (Int32.ofNat k), iv (128 : Int32)] [])) := by
    clear K0 V_a1 Zs
    intro nn
    induction nn with
    | zero => intro T1 lc1 h1 k gf X1 e1 N1 Zs K0 V_a1 hk hg hmu; exact absurd hmu (Nat.not_lt_zero _)
    | succ nn ih =>
      skip
      intro T1 lc1 h1 k gf X1 e1 N1 Zs K0 V_a1 hk hg hmu
      refine own_of (fun tgt kon => XS.iloadN X1.here hx rfl (hb hby d6_5) rfl kon) ?_
      refine own_of (fun tgt kon => XS.iloadN X1.here hx rfl (hb hby d6_6) rfl kon) ?_
      by_cases hc7 : (Int32.ofNat k) < (128 : Int32)
      · skip
        refine own_of (fun tgt kon => XS.icmpNo X1.here hx rfl (hb hby d6_7) rfl (tlt hc7).2.1 kon) ?_
        show own_Wp _ _ _ _ (T1.setTop (mkF m 10 #[rv a1, iv p2, iv (Int32.ofNat k), iv (128 : Int32)] []))
        have hlt : k < 128 := by
          have q := hc7
          rw [Int32.lt_iff_toInt_lt, own_ofN (by omega)] at q
          have l : (128 : Int32).toInt = 128 := by decide
          omega
        refine own_of (fun tgt kon => XS.aloadN X1.here hx rfl (hb hby d6_10) rfl rfl kon) ?_
        refine own_of (fun tgt kon => XS.iloadN X1.here hx rfl (hb hby d6_11) rfl kon) ?_
        refine own_of (fun tgt kon => XS.iloadN X1.here hx rfl (hb hby d6_12) rfl kon) ?_
        obtain ⟨T2, h2, X2, e2, W2, Aq2, st2⟩ := own_stI X1 hx hZ e1 V_a1 (j := (Int32.ofNat k)) (i := k) (x := p2) (own_ofN (by omega)) hlt (g := (mkF m 13 #[rv a1, iv p2, iv (Int32.ofNat k), iv (128 : Int32)] [(.int p2), (.int (Int32.ofNat k)), (.ref a1)])) rfl rfl (hb hby d6_13)
        refine own_of st2 ?_
        clear st2
        replace Zs := Nat.le_trans Zs (Keep.of_wr W2).1
        replace K0 := K0.wr W2 (Or.inl (List.mem_of_getElem? (i := 0) rfl))
        replace V_a1 := Aq2
        clear Aq2
        have N2 := Fr.snoc X2 N1 g_a1
        refine own_of (fun tgt kon => XS.iinc X2.here hx rfl (hb hby d6_14) rfl (l' := #[rv a1, iv p2, iv ((Int32.ofNat k) + (1 : Int32)), iv (128 : Int32)]) rfl kon) ?_
        show own_Wp _ _ _ _ (T2.setTop (mkF m 17 #[rv a1, iv p2, iv ((Int32.ofNat k) + (1 : Int32)), iv (128 : Int32)] []))
        refine own_of (fun tgt kon => XS.goto X2.here hx rfl (pc0 := 17) (pc' := 5) rfl (hb hby d6_17) (by decide) (by decide) kon) ?_
        show own_Wp _ _ _ _ (T2.setTop (mkF m 5 #[rv a1, iv p2, iv ((Int32.ofNat k) + (1 : Int32)), iv (128 : Int32)] []))
        rw [own_succ]
        exact ih T2 _ _ (k + 1) ((own_set gf k (.int p2))) X2 e2 N2 Zs K0 V_a1 (by omega) (by intro x hx; exact if e : x = k then (by subst e; exact own_set_eq _ _ _) else (by rw [own_set_ne e]; exact hg x (by omega))) (by omega)
      · skip
        refine own_of (fun tgt kon => XS.icmpYes X1.here hx rfl (pc0 := 7) (pc' := 20) rfl (hb hby d6_7) rfl (flt hc7).2.1 (by decide) (by decide) kon) ?_
        show own_Wp _ _ _ _ (T1.setTop (mkF m 20 #[rv a1, iv p2, iv (Int32.ofNat k), iv (128 : Int32)] []))
        refine own_ret X1 hlk none (fun _ => rfl) (fun fs hr => X1.returnOut hx hrt (hb hby d6_20) hr) ?_ (by decide) (by decide)
        rw [e1]
        have hge : ¬ k < 128 := by
          intro q
          apply hc7
          rw [Int32.lt_iff_toInt_lt, own_ofN (by omega)]
          have l : (128 : Int32).toInt = 128 := by decide
          omega
        exact ⟨rfl, N1, K0, V_a1.fn (fun i hi => hg i (by omega))⟩
  show own_Wp _ _ _ _ (s₁.setTop (mkF m 5 #[rv a1, iv p2, iv (0 : Int32), iv (128 : Int32)] []))
  exact J5 _ s₁ _ _ (0) (f) X0 e0 N0 Zs K0 V_a1 (by omega) (by intro x hx; omega) (Nat.lt_succ_self _)
theorem d11_0 : decode prog_6_method_4_code 0 = .ok (.iload_n 1, 1) := by decide +kernel
theorem d11_1 : decode prog_6_method_4_code 1 = .ok (.bipush 127, 2) := by decide +kernel
theorem d11_3 : decode prog_6_method_4_code 3 = .ok (.iand, 1) := by decide +kernel
theorem d11_4 : decode prog_6_method_4_code 4 = .ok (.istore_n 2, 1) := by decide +kernel
theorem d11_5 : decode prog_6_method_4_code 5 = .ok (.aload_n 0, 1) := by decide +kernel
theorem d11_6 : decode prog_6_method_4_code 6 = .ok (.getfield 37, 3) := by decide +kernel
theorem d11_9 : decode prog_6_method_4_code 9 = .ok (.iload_n 2, 1) := by decide +kernel
theorem d11_10 : decode prog_6_method_4_code 10 = .ok (.iaload, 1) := by decide +kernel
theorem d11_11 : decode prog_6_method_4_code 11 = .ok (.iload_n 1, 1) := by decide +kernel
theorem d11_12 : decode prog_6_method_4_code 12 = .ok (.if_icmp .eq 23, 3) := by decide +kernel
theorem d11_35 : decode prog_6_method_4_code 35 = .ok (.iload_n 2, 1) := by decide +kernel
theorem d11_36 : decode prog_6_method_4_code 36 = .ok (.ireturn, 1) := by decide +kernel
theorem d11_15 : decode prog_6_method_4_code 15 = .ok (.aload_n 0, 1) := by decide +kernel
theorem d11_16 : decode prog_6_method_4_code 16 = .ok (.getfield 37, 3) := by decide +kernel
theorem d11_19 : decode prog_6_method_4_code 19 = .ok (.iload_n 2, 1) := by decide +kernel
theorem d11_20 : decode prog_6_method_4_code 20 = .ok (.iaload, 1) := by decide +kernel
theorem d11_21 : decode prog_6_method_4_code 21 = .ok (.iconst (-1), 1) := by decide +kernel
theorem d11_22 : decode prog_6_method_4_code 22 = .ok (.if_icmp .eq 13, 3) := by decide +kernel
theorem d11_25 : decode prog_6_method_4_code 25 = .ok (.iload_n 2, 1) := by decide +kernel
theorem d11_26 : decode prog_6_method_4_code 26 = .ok (.iconst 1, 1) := by decide +kernel
theorem d11_27 : decode prog_6_method_4_code 27 = .ok (.iadd, 1) := by decide +kernel
theorem d11_28 : decode prog_6_method_4_code 28 = .ok (.bipush 127, 2) := by decide +kernel
theorem d11_30 : decode prog_6_method_4_code 30 = .ok (.iand, 1) := by decide +kernel
theorem d11_31 : decode prog_6_method_4_code 31 = .ok (.istore_n 2, 1) := by decide +kernel
theorem d11_32 : decode prog_6_method_4_code 32 = .ok (.goto (-27), 3) := by decide +kernel
def Q_rmslot (Z : State) (a1 : Addr) (p2 : Int32) (ac : Addr) (cp : Nat → Int32) (RR : Nat) (sv : Int32) (h0 : Heap) (n0 : Nat) (v : Option Value) (h : Heap) (L : List Loc) : Prop := v = some (.int sv) ∧ Fr n0 L ∧ h = h0
set_option maxRecDepth 65536 in
set_option maxHeartbeats 40000000 in
theorem rmslot (l : Launch) (Z : State) (a0 : Array Value) (hw : ∀ d ∈ tables_1, d.before a0 Z = true) (ws : List Jvm.Cond) (a1 : Addr) (p2 : Int32) (ac : Addr) (cp : Nat → Int32) (RR : Nat) (sv : Int32) (h0 : Heap) (n0 : Nat) (Z0 : n0 ≤ h0.size) (E_a1 : Exa Z h0 a1 "com/example/close_words/closewords/BitRows") (F_cp : Fld Z h0 a1 "com/example/close_words/closewords/BitRows" "codePoints" "[I" (.ref ac)) (V_ac : own_Ar Z h0 ac .int 128 (fun k => .int (cp k))) (hR0 : own_find cp p2 8 (p2 &&& 127).toNatClampNeg = RR) (hR : cp RR = p2 ∨ cp RR = -1) (hsv : sv.toInt = (RR : Int)) :
    own_Ctr l Z (⟨"com/example/close_words/closewords/BitRows", "slot", "(I)I"⟩ : MethodName) prog_6_method_4_code 3 (some .int) ws ({ frames := 0, cells := 0, slots := 0, locals := 0 } : Room) #[(.ref a1), (.int p2)] h0 (Q_rmslot Z a1 p2 ac cp RR sv h0 n0) := by
  refine own_enter (plainFor_of_name own_pn0) ?_
  intro p e s m below meth c s₁ X0 hx hby hml hrt hlk hZ hown hnm e0
  have N0 := Fr.nil n0
  have Zs := Z0
  rw [show entryFrame m #[(.ref a1), (.int p2)] 3 = mkF m 0 #[rv a1, iv p2, uu] [] from by first | (simp [entryFrame, mkF, argsToLocals, Value.category]; done) | rfl]
  show own_Wp _ _ _ _ (s₁.setTop (mkF m 0 #[rv a1, iv p2, uu] []))
  refine own_of (fun tgt kon => XS.iloadN X0.here hx rfl (hb hby d11_0) rfl kon) ?_
  refine own_of (fun tgt kon => XS.bipush X0.here hx rfl (hb hby d11_1) kon) ?_
  refine own_of (fun tgt kon => XS.iand X0.here hx rfl (hb hby d11_3) rfl kon) ?_
  refine own_of (fun tgt kon => XS.istoreN X0.here hx rfl (hb hby d11_4) rfl (l' := #[rv a1, iv p2, iv (p2 &&& (127 : Int32))]) rfl kon) ?_
  show own_Wp _ _ _ _ (s₁.setTop (mkF m 5 #[rv a1, iv p2, iv (p2 &&& (127 : Int32))] []))
  have J5 : ∀ (nn : Nat) (T1 : State) (lc1 : List Loc) (f : Nat) (sl : Nat) (sI : Int32), (Stand p l e ({ frames := 0, cells := 0, slots := 0, locals := 0 } : Room) s m #[(.ref a1), (.int p2)] below meth c T1 lc1 0 0) → (T1.heap = h0) → (Fr n0 lc1) → (sI.toInt = (sl : Int)) → (sl < 128) → (own_find cp p2 f sl = RR) → (f < nn) → own_Wp p.tables e below (own_K ({ frames := 0, cells := 0, slots := 0, locals := 0 } : Room) s below (Q_rmslot Z a1 p2 ac cp RR sv h0 n0)) (T1.setTop (mkF m 5 #[rv a1, iv p2, iv sI] [])) := by
    intro nn
    induction nn with
    | zero => intro T1 lc1 f sl sI X1 e1 N1 h1 h2 h3 hmu; exact absurd hmu (Nat.not_lt_zero _)
    | succ nn ih =>
      intro T1 lc1 f sl sI X1 e1 N1 h1 h2 h3 hmu
      refine own_of (fun tgt kon => XS.aloadN X1.here hx rfl (hb hby d11_5) rfl rfl kon) ?_
      obtain ⟨T2, X2, e2, st2⟩ := getF X1 hx hZ hown (host := "") (Or.inl (ow hw 34 rfl)) Via.refl e1 F_cp (g := (mkF m 6 #[rv a1, iv p2, iv sI] [(.ref a1)])) rfl rfl (hb hby d11_6)
      refine own_of st2 ?_
      clear st2
      refine own_of (fun tgt kon => XS.iloadN X2.here hx rfl (hb hby d11_9) rfl kon) ?_
      refine own_iaload X2 hx hZ e2 V_ac (j := sI) (i := sl) (v := (cp sl)) h1 h2 rfl rfl rfl (hb hby d11_10) ?_
      refine own_of (fun tgt kon => XS.iloadN X2.here hx rfl (hb hby d11_11) rfl kon) ?_
      show own_Wp _ _ _ _ (T2.setTop (mkF m 12 #[rv a1, iv p2, iv sI] [(.int p2), (.int (cp sl))]))
      by_cases hc12 : (cp sl) = p2
      · skip
        refine own_of (fun tgt kon => XS.icmpYes X2.here hx rfl (pc0 := 12) (pc' := 35) rfl (hb hby d11_12) rfl (teq hc12).1 (by decide) (by decide) kon) ?_
        refine own_of (fun tgt kon => XS.iloadN X2.here hx rfl (hb hby d11_35) rfl kon) ?_
        show own_Wp _ _ _ _ (T2.setTop (mkF m 36 #[rv a1, iv p2, iv sI] [(.int sI)]))
        refine own_ret X2 hlk (some (.int sI)) (own_rtI hrt) (fun fs hr => own_retI X2 hx hrt (hb hby d11_36) hr) ?_ (by decide) (by decide)
        rw [e2]
        have e : sl = RR := by
          rw [← h3]
          rcases f with _ | f'
          · rfl
          · exact (if_pos (Or.inl hc12)).symm
        subst e
        exact ⟨by rw [show sI = sv from Int32.toInt_inj.mp (h1.trans hsv.symm)], N1, rfl⟩
      · skip
        refine own_of (fun tgt kon => XS.icmpNo X2.here hx rfl (hb hby d11_12) rfl (feq hc12).1 kon) ?_
        refine own_of (fun tgt kon => XS.aloadN X2.here hx rfl (hb hby d11_15) rfl rfl kon) ?_
        obtain ⟨T3, X3, e3, st3⟩ := getF X2 hx hZ hown (host := "") (Or.inl (ow hw 34 rfl)) Via.refl e2 F_cp (g := (mkF m 16 #[rv a1, iv p2, iv sI] [(.ref a1)])) rfl rfl (hb hby d11_16)
        refine own_of st3 ?_
        clear st3
        refine own_of (fun tgt kon => XS.iloadN X3.here hx rfl (hb hby d11_19) rfl kon) ?_
        refine own_iaload X3 hx hZ e3 V_ac (j := sI) (i := sl) (v := (cp sl)) h1 h2 rfl rfl rfl (hb hby d11_20) ?_
        show own_Wp _ _ _ _ (T3.setTop (mkF m 21 #[rv a1, iv p2, iv sI] [(.int (cp sl))]))
        refine own_of (fun tgt kon => XS.iconst X3.here hx rfl (hb hby d11_21) kon) ?_
        by_cases hc22 : (cp sl) = (-1 : Int32)
        · skip
          refine own_of (fun tgt kon => XS.icmpYes X3.here hx rfl (pc0 := 22) (pc' := 35) rfl (hb hby d11_22) rfl (teq hc22).1 (by decide) (by decide) kon) ?_
          refine own_of (fun tgt kon => XS.iloadN X3.here hx rfl (hb hby d11_35) rfl kon) ?_
          show own_Wp _ _ _ _ (T3.setTop (mkF m 36 #[rv a1, iv p2, iv sI] [(.int sI)]))
          refine own_ret X3 hlk (some (.int sI)) (own_rtI hrt) (fun fs hr => own_retI X3 hx hrt (hb hby d11_36) hr) ?_ (by decide) (by decide)
          rw [e3]
          have e : sl = RR := by
            rw [← h3]
            rcases f with _ | f'
            · rfl
            · exact (if_pos (Or.inr hc22)).symm
          subst e
          exact ⟨by rw [show sI = sv from Int32.toInt_inj.mp (h1.trans hsv.symm)], N1, rfl⟩
        · skip
          refine own_of (fun tgt kon => XS.icmpNo X3.here hx rfl (hb hby d11_22) rfl (feq hc22).1 kon) ?_
          show own_Wp _ _ _ _ (T3.setTop (mkF m 25 #[rv a1, iv p2, iv sI] []))
          obtain ⟨f, rfl⟩ : ∃ f', f = f' + 1 := by
            rcases f with _ | f'
            · exfalso
              have e : sl = RR := h3
              subst e
              exact hR.elim hc12 hc22
            · exact ⟨f', rfl⟩
          rw [show own_find cp p2 (f + 1) sl = own_find cp p2 f ((sl + 1) % 128) from if_neg (fun q => q.elim hc12 hc22)] at h3
          refine own_of (fun tgt kon => XS.iloadN X3.here hx rfl (hb hby d11_25) rfl kon) ?_
          refine own_of (fun tgt kon => XS.iconst X3.here hx rfl (hb hby d11_26) kon) ?_
          refine own_of (fun tgt kon => XS.iadd X3.here hx rfl (hb hby d11_27) rfl kon) ?_
          refine own_of (fun tgt kon => XS.bipush X3.here hx rfl (hb hby d11_28) kon) ?_
          refine own_of (fun tgt kon => XS.iand X3.here hx rfl (hb hby d11_30) rfl kon) ?_
          show own_Wp _ _ _ _ (T3.setTop (mkF m 31 #[rv a1, iv p2, iv sI] [(.int ((sI + (1 : Int32)) &&& (127 : Int32)))]))
          refine own_of (fun tgt kon => XS.istoreN X3.here hx rfl (hb hby d11_31) rfl (l' := #[rv a1, iv p2, iv ((sI + (1 : Int32)) &&& (127 : Int32))]) rfl kon) ?_
          refine own_of (fun tgt kon => XS.goto X3.here hx rfl (pc0 := 32) (pc' := 5) rfl (hb hby d11_32) (by decide) (by decide) kon) ?_
          show own_Wp _ _ _ _ (T3.setTop (mkF m 5 #[rv a1, iv p2, iv ((sI + (1 : Int32)) &&& (127 : Int32))] []))
          exact ih T3 _ (f) ((sl + 1) % 128) (((sI + (1 : Int32)) &&& (127 : Int32))) X3 e3 N1 (by exact own_slot1 h1 h2) (by omega) (by exact h3) (by omega)
  show own_Wp _ _ _ _ (s₁.setTop (mkF m 5 #[rv a1, iv p2, iv (p2 &&& (127 : Int32))] []))
  exact J5 _ s₁ _ (8) ((p2 &&& 127).toNatClampNeg) ((p2 &&& (127 : Int32))) X0 e0 N0 (by exact (own_slot0 p2).1) (by exact (own_slot0 p2).2) (by exact hR0) (Nat.lt_succ_self _)
theorem d10_0 : decode prog_6_method_2_code 0 = .ok (.aload_n 0, 1) := by decide +kernel
theorem d10_1 : decode prog_6_method_2_code 1 = .ok (.getfield 41, 3) := by decide +kernel
theorem d10_4 : decode prog_6_method_2_code 4 = .ok (.aload_n 0, 1) := by decide +kernel
theorem d10_5 : decode prog_6_method_2_code 5 = .ok (.iload_n 2, 1) := by decide +kernel
theorem d10_6 : decode prog_6_method_2_code 6 = .ok (.invokevirtual 57, 3) := by decide +kernel
theorem own_pd0 : parseMethodDescriptor "(I)I" = some ⟨[.int], some .int⟩ := by decide +kernel
theorem d10_9 : decode prog_6_method_2_code 9 = .ok (.laload, 1) := by decide +kernel
theorem d10_10 : decode prog_6_method_2_code 10 = .ok (.lstore 4, 2) := by decide +kernel
theorem d10_12 : decode prog_6_method_2_code 12 = .ok (.aload_n 0, 1) := by decide +kernel
theorem d10_13 : decode prog_6_method_2_code 13 = .ok (.getfield 48, 3) := by decide +kernel
theorem d10_16 : decode prog_6_method_2_code 16 = .ok (.iload_n 1, 1) := by decide +kernel
theorem d10_17 : decode prog_6_method_2_code 17 = .ok (.lload 4, 2) := by decide +kernel
theorem d10_19 : decode prog_6_method_2_code 19 = .ok (.lastore, 1) := by decide +kernel
theorem d10_20 : decode prog_6_method_2_code 20 = .ok (.iload_n 1, 1) := by decide +kernel
theorem d10_21 : decode prog_6_method_2_code 21 = .ok (.aload_n 0, 1) := by decide +kernel
theorem d10_22 : decode prog_6_method_2_code 22 = .ok (.getfield 18, 3) := by decide +kernel
theorem d10_25 : decode prog_6_method_2_code 25 = .ok (.imul, 1) := by decide +kernel
theorem d10_26 : decode prog_6_method_2_code 26 = .ok (.istore 6, 2) := by decide +kernel
theorem d10_28 : decode prog_6_method_2_code 28 = .ok (.iload 6, 2) := by decide +kernel
theorem d10_30 : decode prog_6_method_2_code 30 = .ok (.aload_n 0, 1) := by decide +kernel
theorem d10_31 : decode prog_6_method_2_code 31 = .ok (.getfield 18, 3) := by decide +kernel
theorem d10_34 : decode prog_6_method_2_code 34 = .ok (.isub, 1) := by decide +kernel
theorem d10_35 : decode prog_6_method_2_code 35 = .ok (.istore 7, 2) := by decide +kernel
theorem d10_37 : decode prog_6_method_2_code 37 = .ok (.iload 7, 2) := by decide +kernel
theorem d10_39 : decode prog_6_method_2_code 39 = .ok (.aload_n 0, 1) := by decide +kernel
theorem d10_40 : decode prog_6_method_2_code 40 = .ok (.getfield 18, 3) := by decide +kernel
theorem d10_43 : decode prog_6_method_2_code 43 = .ok (.isub, 1) := by decide +kernel
theorem d10_44 : decode prog_6_method_2_code 44 = .ok (.istore 8, 2) := by decide +kernel
theorem d10_46 : decode prog_6_method_2_code 46 = .ok (.iload_n 1, 1) := by decide +kernel
theorem d10_47 : decode prog_6_method_2_code 47 = .ok (.iconst 1, 1) := by decide +kernel
theorem d10_48 : decode prog_6_method_2_code 48 = .ok (.if_icmp .le 19, 3) := by decide +kernel
theorem d10_67 : decode prog_6_method_2_code 67 = .ok (.lconst 0, 1) := by decide +kernel
theorem d10_68 : decode prog_6_method_2_code 68 = .ok (.lstore 9, 2) := by decide +kernel
theorem d10_70 : decode prog_6_method_2_code 70 = .ok (.lload 4, 2) := by decide +kernel
theorem d10_72 : decode prog_6_method_2_code 72 = .ok (.aload_n 0, 1) := by decide +kernel
theorem d10_73 : decode prog_6_method_2_code 73 = .ok (.getfield 45, 3) := by decide +kernel
theorem d10_76 : decode prog_6_method_2_code 76 = .ok (.iload 7, 2) := by decide +kernel
theorem d10_78 : decode prog_6_method_2_code 78 = .ok (.laload, 1) := by decide +kernel
theorem d10_79 : decode prog_6_method_2_code 79 = .ok (.iconst 1, 1) := by decide +kernel
theorem d10_80 : decode prog_6_method_2_code 80 = .ok (.lshl, 1) := by decide +kernel
theorem d10_81 : decode prog_6_method_2_code 81 = .ok (.land, 1) := by decide +kernel
theorem d10_82 : decode prog_6_method_2_code 82 = .ok (.lstore 11, 2) := by decide +kernel
theorem d10_84 : decode prog_6_method_2_code 84 = .ok (.aload_n 0, 1) := by decide +kernel
theorem d10_85 : decode prog_6_method_2_code 85 = .ok (.getfield 45, 3) := by decide +kernel
theorem d10_88 : decode prog_6_method_2_code 88 = .ok (.iload 6, 2) := by decide +kernel
theorem d10_90 : decode prog_6_method_2_code 90 = .ok (.lload 11, 2) := by decide +kernel
theorem d10_92 : decode prog_6_method_2_code 92 = .ok (.lastore, 1) := by decide +kernel
theorem d10_93 : decode prog_6_method_2_code 93 = .ok (.iconst 1, 1) := by decide +kernel
theorem d10_94 : decode prog_6_method_2_code 94 = .ok (.istore 13, 2) := by decide +kernel
theorem d10_96 : decode prog_6_method_2_code 96 = .ok (.iload 13, 2) := by decide +kernel
theorem d10_98 : decode prog_6_method_2_code 98 = .ok (.aload_n 0, 1) := by decide +kernel
theorem d10_99 : decode prog_6_method_2_code 99 = .ok (.getfield 18, 3) := by decide +kernel
theorem d10_102 : decode prog_6_method_2_code 102 = .ok (.if_icmp .ge 138, 3) := by decide +kernel
theorem d10_105 : decode prog_6_method_2_code 105 = .ok (.aload_n 0, 1) := by decide +kernel
theorem d10_106 : decode prog_6_method_2_code 106 = .ok (.getfield 45, 3) := by decide +kernel
theorem d10_109 : decode prog_6_method_2_code 109 = .ok (.iload 7, 2) := by decide +kernel
theorem d10_111 : decode prog_6_method_2_code 111 = .ok (.iload 13, 2) := by decide +kernel
theorem d10_113 : decode prog_6_method_2_code 113 = .ok (.iadd, 1) := by decide +kernel
theorem d10_114 : decode prog_6_method_2_code 114 = .ok (.iconst 1, 1) := by decide +kernel
theorem d10_115 : decode prog_6_method_2_code 115 = .ok (.isub, 1) := by decide +kernel
theorem d10_116 : decode prog_6_method_2_code 116 = .ok (.laload, 1) := by decide +kernel
theorem d10_117 : decode prog_6_method_2_code 117 = .ok (.lstore 14, 2) := by decide +kernel
theorem d10_119 : decode prog_6_method_2_code 119 = .ok (.lload 4, 2) := by decide +kernel
theorem d10_121 : decode prog_6_method_2_code 121 = .ok (.aload_n 0, 1) := by decide +kernel
theorem d10_122 : decode prog_6_method_2_code 122 = .ok (.getfield 45, 3) := by decide +kernel
theorem d10_125 : decode prog_6_method_2_code 125 = .ok (.iload 7, 2) := by decide +kernel
theorem d10_127 : decode prog_6_method_2_code 127 = .ok (.iload 13, 2) := by decide +kernel
theorem d10_129 : decode prog_6_method_2_code 129 = .ok (.iadd, 1) := by decide +kernel
theorem d10_130 : decode prog_6_method_2_code 130 = .ok (.laload, 1) := by decide +kernel
theorem d10_131 : decode prog_6_method_2_code 131 = .ok (.iconst 1, 1) := by decide +kernel
theorem d10_132 : decode prog_6_method_2_code 132 = .ok (.lshl, 1) := by decide +kernel
theorem d10_133 : decode prog_6_method_2_code 133 = .ok (.land, 1) := by decide +kernel
theorem d10_134 : decode prog_6_method_2_code 134 = .ok (.lload 14, 2) := by decide +kernel
theorem d10_136 : decode prog_6_method_2_code 136 = .ok (.lor, 1) := by decide +kernel
theorem d10_137 : decode prog_6_method_2_code 137 = .ok (.lload 14, 2) := by decide +kernel
theorem d10_139 : decode prog_6_method_2_code 139 = .ok (.iconst 1, 1) := by decide +kernel
theorem d10_140 : decode prog_6_method_2_code 140 = .ok (.lshl, 1) := by decide +kernel
theorem d10_141 : decode prog_6_method_2_code 141 = .ok (.lor, 1) := by decide +kernel
theorem d10_142 : decode prog_6_method_2_code 142 = .ok (.lload 11, 2) := by decide +kernel
theorem d10_144 : decode prog_6_method_2_code 144 = .ok (.iconst 1, 1) := by decide +kernel
theorem d10_145 : decode prog_6_method_2_code 145 = .ok (.lshl, 1) := by decide +kernel
theorem d10_146 : decode prog_6_method_2_code 146 = .ok (.lor, 1) := by decide +kernel
theorem d10_147 : decode prog_6_method_2_code 147 = .ok (.lstore 16, 2) := by decide +kernel
theorem d10_149 : decode prog_6_method_2_code 149 = .ok (.lload 9, 2) := by decide +kernel
theorem d10_151 : decode prog_6_method_2_code 151 = .ok (.lconst 0, 1) := by decide +kernel
theorem d10_152 : decode prog_6_method_2_code 152 = .ok (.lcmp, 1) := by decide +kernel
theorem d10_153 : decode prog_6_method_2_code 153 = .ok (.ifCond .eq 25, 3) := by decide +kernel
theorem d10_178 : decode prog_6_method_2_code 178 = .ok (.lload 16, 2) := by decide +kernel
theorem d10_180 : decode prog_6_method_2_code 180 = .ok (.aload_n 0, 1) := by decide +kernel
theorem d10_181 : decode prog_6_method_2_code 181 = .ok (.getfield 25, 3) := by decide +kernel
theorem d10_184 : decode prog_6_method_2_code 184 = .ok (.land, 1) := by decide +kernel
theorem d10_185 : decode prog_6_method_2_code 185 = .ok (.lstore 16, 2) := by decide +kernel
theorem d10_187 : decode prog_6_method_2_code 187 = .ok (.iload 13, 2) := by decide +kernel
theorem d10_189 : decode prog_6_method_2_code 189 = .ok (.aload_n 0, 1) := by decide +kernel
theorem d10_190 : decode prog_6_method_2_code 190 = .ok (.getfield 15, 3) := by decide +kernel
theorem d10_218 : decode prog_6_method_2_code 218 = .ok (.aload_n 0, 1) := by decide +kernel
theorem d10_219 : decode prog_6_method_2_code 219 = .ok (.getfield 45, 3) := by decide +kernel
theorem d10_222 : decode prog_6_method_2_code 222 = .ok (.iload 6, 2) := by decide +kernel
theorem d10_224 : decode prog_6_method_2_code 224 = .ok (.iload 13, 2) := by decide +kernel
theorem d10_226 : decode prog_6_method_2_code 226 = .ok (.iadd, 1) := by decide +kernel
theorem d10_227 : decode prog_6_method_2_code 227 = .ok (.lload 16, 2) := by decide +kernel
theorem d10_229 : decode prog_6_method_2_code 229 = .ok (.lastore, 1) := by decide +kernel
theorem d10_230 : decode prog_6_method_2_code 230 = .ok (.lload 16, 2) := by decide +kernel
theorem d10_232 : decode prog_6_method_2_code 232 = .ok (.lstore 11, 2) := by decide +kernel
theorem d10_234 : decode prog_6_method_2_code 234 = .ok (.iinc 13 1, 3) := by decide +kernel
theorem d10_237 : decode prog_6_method_2_code 237 = .ok (.goto (-141), 3) := by decide +kernel
theorem d10_193 : decode prog_6_method_2_code 193 = .ok (.if_icmp .le 25, 3) := by decide +kernel
theorem d10_196 : decode prog_6_method_2_code 196 = .ok (.lload 16, 2) := by decide +kernel
theorem d10_198 : decode prog_6_method_2_code 198 = .ok (.aload_n 0, 1) := by decide +kernel
theorem d10_199 : decode prog_6_method_2_code 199 = .ok (.getfield 45, 3) := by decide +kernel
theorem d10_202 : decode prog_6_method_2_code 202 = .ok (.iload 6, 2) := by decide +kernel
theorem d10_204 : decode prog_6_method_2_code 204 = .ok (.aload_n 0, 1) := by decide +kernel
theorem d10_205 : decode prog_6_method_2_code 205 = .ok (.getfield 15, 3) := by decide +kernel
theorem d10_208 : decode prog_6_method_2_code 208 = .ok (.iadd, 1) := by decide +kernel
theorem d10_209 : decode prog_6_method_2_code 209 = .ok (.laload, 1) := by decide +kernel
theorem d10_210 : decode prog_6_method_2_code 210 = .ok (.aload_n 0, 1) := by decide +kernel
theorem d10_211 : decode prog_6_method_2_code 211 = .ok (.getfield 34, 3) := by decide +kernel
theorem d10_214 : decode prog_6_method_2_code 214 = .ok (.lor, 1) := by decide +kernel
theorem d10_215 : decode prog_6_method_2_code 215 = .ok (.land, 1) := by decide +kernel
theorem d10_216 : decode prog_6_method_2_code 216 = .ok (.lstore 16, 2) := by decide +kernel
theorem d10_240 : decode prog_6_method_2_code 240 = .ok (.lload 11, 2) := by decide +kernel
theorem d10_242 : decode prog_6_method_2_code 242 = .ok (.lconst 0, 1) := by decide +kernel
theorem d10_243 : decode prog_6_method_2_code 243 = .ok (.lcmp, 1) := by decide +kernel
theorem d10_244 : decode prog_6_method_2_code 244 = .ok (.ifCond .eq 7, 3) := by decide +kernel
theorem d10_251 : decode prog_6_method_2_code 251 = .ok (.iconst 0, 1) := by decide +kernel
theorem d10_252 : decode prog_6_method_2_code 252 = .ok (.ireturn, 1) := by decide +kernel
theorem d10_247 : decode prog_6_method_2_code 247 = .ok (.iconst 1, 1) := by decide +kernel
theorem d10_248 : decode prog_6_method_2_code 248 = .ok (.goto 4, 3) := by decide +kernel
def Q_rmro1 (Z : State) (a1 : Addr) (p3 : Int32) (p4 : Int32) (ac : Addr) (ao : Addr) (ar : Addr) (am : Addr) (cp : Nat → Int32) (co : Nat → Int64) (rf : Nat → Int64) (mf : Nat → Int64) (FF : Nat → Int64) (lv : Int32) (p5 : Int32) (cols : Int64) (out : Int64) (bd : Nat) (ph : Nat) (RL : Nat) (ML : Nat) (RR : Nat) (h0 : Heap) (n0 : Nat) (v : Option Value) (h : Heap) (L : List Loc) : Prop := v = some (.int (if FF bd = 0 then 0 else 1)) ∧ Fr n0 L ∧ Keep h0 h [ar, am] ∧ own_Ar Z h ar .long RL (fun y => .long (own_rk rf (1 * (bd + 1)) FF (bd + 1) y)) ∧ own_Ar Z h am .long ML (fun k => .long (own_upd mf 1 (co RR) k))
set_option maxRecDepth 65536 in
set_option maxHeartbeats 40000000 in
theorem rmro1 (l : Launch) (Z : State) (a0 : Array Value) (hw : ∀ d ∈ tables_1, d.before a0 Z = true) (ws : List Jvm.Cond) (a1 : Addr) (p3 : Int32) (p4 : Int32) (ac : Addr) (ao : Addr) (ar : Addr) (am : Addr) (cp : Nat → Int32) (co : Nat → Int64) (rf : Nat → Int64) (mf : Nat → Int64) (FF : Nat → Int64) (lv : Int32) (p5 : Int32) (cols : Int64) (out : Int64) (bd : Nat) (ph : Nat) (RL : Nat) (ML : Nat) (RR : Nat) (h0 : Heap) (n0 : Nat) (Z0 : n0 ≤ h0.size) (E_a1 : Exa Z h0 a1 "com/example/close_words/closewords/BitRows") (F_columnsOf : Fld Z h0 a1 "com/example/close_words/closewords/BitRows" "columnsOf" "[J" (.ref ao)) (F_codePoints : Fld Z h0 a1 "com/example/close_words/closewords/BitRows" "codePoints" "[I" (.ref ac)) (F_matches : Fld Z h0 a1 "com/example/close_words/closewords/BitRows" "matches" "[J" (.ref am)) (F_rows : Fld Z h0 a1 "com/example/close_words/closewords/BitRows" "rows" "[J" (.ref ar)) (F_levels : Fld Z h0 a1 "com/example/close_words/closewords/BitRows" "levels" "I" (.int lv)) (F_columns : Fld Z h0 a1 "com/example/close_words/closewords/BitRows" "columns" "J" (.long cols)) (F_headBound : Fld Z h0 a1 "com/example/close_words/closewords/BitRows" "headBound" "I" (.int p5)) (F_outsideHead : Fld Z h0 a1 "com/example/close_words/closewords/BitRows" "outsideHead" "J" (.long out)) (V_ac : own_Ar Z h0 ac .int 128 (fun k => .int (cp k))) (V_ao : own_Ar Z h0 ao .long 128 (fun k => .long (co k))) (V_ar : own_Ar Z h0 ar .long RL (fun k => .long (rf k))) (V_am : own_Ar Z h0 am .long ML (fun k => .long (mf k))) (ne_a1_ar : a1 ≠ ar) (ne_a1_am : a1 ≠ am) (ne_ac_ar : ac ≠ ar) (ne_ac_am : ac ≠ am) (ne_ao_ar : ao ≠ ar) (ne_ao_am : ao ≠ am) (ne_am_ar : am ≠ ar) (g_ar : n0 ≤ ar) (g_am : n0 ≤ am) (hlv : lv.toInt = ((bd + 1 : Nat) : Int)) (hbd63 : bd ≤ 63) (hhb : p5.toInt = (ph : Int)) (hhb63 : ph ≤ 63) (hRLi : 2 * (bd + 1) ≤ RL) (hMLi : 1 < ML) (hR0 : own_find cp p3 8 (p3 &&& 127).toNatClampNeg = RR) (hR : cp RR = p3 ∨ cp RR = -1) (hRl : RR < 128) (hF0 : FF 0 = ((co RR) &&& ((rf (0 * (bd + 1))) <<< ((1 : Int32) &&& 0x3f).toInt64))) (hFs : ∀ d, FF (d + 1) = (let r1 := ((((co RR) &&& ((rf ((0 * (bd + 1)) + (d + 1))) <<< ((1 : Int32) &&& 0x3f).toInt64)) ||| (rf ((0 * (bd + 1)) + d))) ||| ((rf ((0 * (bd + 1)) + d)) <<< ((1 : Int32) &&& 0x3f).toInt64)) ||| ((FF d) <<< ((1 : Int32) &&& 0x3f).toInt64); let r2 := if (0 : Int64) = 0 then r1 else r1 ||| ((0 : Int64) &&& ((rf ((0 * (bd + 1)) + d)) <<< ((2 : Int32) &&& 0x3f).toInt64)); let r3 := r2 &&& cols; if ph < d + 1 then r3 &&& ((FF ph) ||| out) else r3)) :
    own_Ctr l Z (⟨"com/example/close_words/closewords/BitRows", "fill", "(IIZ)Z"⟩ : MethodName) prog_6_method_2_code 18 (some .boolean) ws ({ frames := 1, cells := 0, slots := 0, locals := 15 } : Room) #[(.ref a1), (.int (1 : Int32)), (.int p3), (.int p4)] h0 (Q_rmro1 Z a1 p3 p4 ac ao ar am cp co rf mf FF lv p5 cols out bd ph RL ML RR h0 n0) := by
  refine own_enter (plainFor_of_name own_pn0) ?_
  intro p e s m below meth c s₁ X0 hx hby hml hrt hlk hZ hown hnm e0
  have N0 := Fr.nil n0
  have Zs := Z0
  have K0 := Keep.refl h0 [ar, am]
  rw [show entryFrame m #[(.ref a1), (.int (1 : Int32)), (.int p3), (.int p4)] 18 = mkF m 0 #[rv a1, iv (1 : Int32), iv p3, iv p4, uu, uu, uu, uu, uu, uu, uu, uu, uu, uu, uu, uu, uu, uu] [] from by first | (simp [entryFrame, mkF, argsToLocals, Value.category]; done) | rfl]
  show own_Wp _ _ _ _ (s₁.setTop (mkF m 0 #[rv a1, iv (1 : Int32), iv p3, iv p4, uu, uu, uu, uu, uu, uu, uu, uu, uu, uu, uu, uu, uu, uu] []))
  refine own_of (fun tgt kon => XS.aloadN X0.here hx rfl (hb hby d10_0) rfl rfl kon) ?_
  obtain ⟨T1, X1, e1, st1⟩ := getF X0 hx hZ hown (host := "") (Or.inl (ow hw 37 rfl)) Via.refl e0 F_columnsOf (g := (mkF m 1 #[rv a1, iv (1 : Int32), iv p3, iv p4, uu, uu, uu, uu, uu, uu, uu, uu, uu, uu, uu, uu, uu, uu] [(.ref a1)])) rfl rfl (hb hby d10_1)
  refine own_of st1 ?_
  clear st1
  refine own_of (fun tgt kon => XS.aloadN X1.here hx rfl (hb hby d10_4) rfl rfl kon) ?_
  refine own_of (fun tgt kon => XS.iloadN X1.here hx rfl (hb hby d10_5) rfl kon) ?_
  refine own_callP X1 hx hZ (y := (⟨"com/example/close_words/closewords/BitRows", "slot", "(I)I"⟩ : MethodName)) (a := a1) (argsL := [(.int p3)]) (rest := [(.ref ao)]) (W := 1) hown (ow hw 64 rfl) (ow hw 65 rfl) (ow hw 10 rfl) (ow hw 66 rfl) (ow hw 11 rfl) (ow hw 67 rfl) (by decide) e1 E_a1 (rmslot l Z a0 hw [] a1 p3 ac cp RR (Int32.ofNat RR) h0 n0 Zs E_a1 F_codePoints V_ac hR0 hR (own_ofN (by omega))) (by decide) (by decide) (by decide) (by decide) rfl (by rw [hml]; rfl) (lenOf own_pd0 rfl) rfl (by show 2 * 0 + _ ≤ _; exact Nat.le_of_eq rfl) (hb hby d10_6) ?_
  rintro T2 L2 _ X2 ⟨rfl, N2q, e2⟩
  have N2 := Fr.app N0 N2q
  show own_Wp _ _ _ _ (T2.setTop (mkF m 9 #[rv a1, iv (1 : Int32), iv p3, iv p4, uu, uu, uu, uu, uu, uu, uu, uu, uu, uu, uu, uu, uu, uu] [(.int (Int32.ofNat RR)), (.ref ao)]))
  refine own_laload X2 hx hZ e2 V_ao (j := (Int32.ofNat RR)) (i := RR) (v := (co RR)) (own_ofN (by omega)) hRl rfl rfl rfl (hb hby d10_9) ?_
  refine own_of (fun tgt kon => XS.lstore X2.here hx rfl (hb hby d10_10) rfl (l' := #[rv a1, iv (1 : Int32), iv p3, iv p4, jv (co RR), ss, uu, uu, uu, uu, uu, uu, uu, uu, uu, uu, uu, uu]) rfl kon) ?_
  refine own_of (fun tgt kon => XS.aloadN X2.here hx rfl (hb hby d10_12) rfl rfl kon) ?_
  obtain ⟨T3, X3, e3, st3⟩ := getF X2 hx hZ hown (host := "") (Or.inl (ow hw 41 rfl)) Via.refl e2 F_matches (g := (mkF m 13 #[rv a1, iv (1 : Int32), iv p3, iv p4, jv (co RR), ss, uu, uu, uu, uu, uu, uu, uu, uu, uu, uu, uu, uu] [(.ref a1)])) rfl rfl (hb hby d10_13)
  refine own_of st3 ?_
  clear st3
  refine own_of (fun tgt kon => XS.iloadN X3.here hx rfl (hb hby d10_16) rfl kon) ?_
  show own_Wp _ _ _ _ (T3.setTop (mkF m 17 #[rv a1, iv (1 : Int32), iv p3, iv p4, jv (co RR), ss, uu, uu, uu, uu, uu, uu, uu, uu, uu, uu, uu, uu] [(.int (1 : Int32)), (.ref am)]))
  refine own_of (fun tgt kon => XS.lload X3.here hx rfl (hb hby d10_17) rfl kon) ?_
  obtain ⟨T4, h4, X4, e4, W4, Aq4, st4⟩ := own_stJ X3 hx hZ e3 V_am (j := (1 : Int32)) (i := 1) (x := (co RR)) (by decide) (by omega) (g := (mkF m 19 #[rv a1, iv (1 : Int32), iv p3, iv p4, jv (co RR), ss, uu, uu, uu, uu, uu, uu, uu, uu, uu, uu, uu, uu] [(.long (co RR)), (.int (1 : Int32)), (.ref am)])) rfl rfl (hb hby d10_19)
  refine own_of st4 ?_
  clear st4
  replace Zs := Nat.le_trans Zs (Keep.of_wr W4).1
  replace K0 := K0.wr W4 (Or.inl (List.mem_of_getElem? (i := 1) rfl))
  replace E_a1 := E_a1.wr W4
  replace F_columnsOf := F_columnsOf.other W4 (Or.inl ne_a1_am)
  replace F_codePoints := F_codePoints.other W4 (Or.inl ne_a1_am)
  replace F_matches := F_matches.other W4 (Or.inl ne_a1_am)
  replace F_rows := F_rows.other W4 (Or.inl ne_a1_am)
  replace F_levels := F_levels.other W4 (Or.inl ne_a1_am)
  replace F_columns := F_columns.other W4 (Or.inl ne_a1_am)
  replace F_headBound := F_headBound.other W4 (Or.inl ne_a1_am)
  replace F_outsideHead := F_outsideHead.other W4 (Or.inl ne_a1_am)
  replace V_ac := V_ac.other W4 ne_ac_am
  replace V_ao := V_ao.other W4 ne_ao_am
  replace V_ar := V_ar.other W4 (Ne.symm ne_am_ar)
  replace V_am := Aq4
  clear Aq4
  replace V_am := V_am.fn (f' := fun k => .long (own_upd mf 1 (co RR) k)) (fun k hk => own_setJ _ _ _ k)
  have N4 := Fr.snoc X4 N2 g_am
  refine own_of (fun tgt kon => XS.iloadN X4.here hx rfl (hb hby d10_20) rfl kon) ?_
  refine own_of (fun tgt kon => XS.aloadN X4.here hx rfl (hb hby d10_21) rfl rfl kon) ?_
  obtain ⟨T5, X5, e5, st5⟩ := getF X4 hx hZ hown (host := "") (Or.inl (ow hw 22 rfl)) Via.refl e4 F_levels (g := (mkF m 22 #[rv a1, iv (1 : Int32), iv p3, iv p4, jv (co RR), ss, uu, uu, uu, uu, uu, uu, uu, uu, uu, uu, uu, uu] [(.ref a1), (.int (1 : Int32))])) rfl rfl (hb hby d10_22)
  refine own_of st5 ?_
  clear st5
  show own_Wp _ _ _ _ (T5.setTop (mkF m 25 #[rv a1, iv (1 : Int32), iv p3, iv p4, jv (co RR), ss, uu, uu, uu, uu, uu, uu, uu, uu, uu, uu, uu, uu] [(.int lv), (.int (1 : Int32))]))
  refine own_of (fun tgt kon => XS.imul X5.here hx rfl (hb hby d10_25) rfl kon) ?_
  show own_Wp _ _ _ _ (T5.setTop (mkF m 26 #[rv a1, iv (1 : Int32), iv p3, iv p4, jv (co RR), ss, uu, uu, uu, uu, uu, uu, uu, uu, uu, uu, uu, uu] [(.int ((1 : Int32) * lv))]))
  obtain ⟨row, h_row⟩ : ∃ q : Int32, q = ((1 : Int32) * lv) := ⟨_, rfl⟩
  rw [← h_row]
  refine own_of (fun tgt kon => XS.istore X5.here hx rfl (hb hby d10_26) rfl (l' := #[rv a1, iv (1 : Int32), iv p3, iv p4, jv (co RR), ss, iv row, uu, uu, uu, uu, uu, uu, uu, uu, uu, uu, uu]) rfl kon) ?_
  show own_Wp _ _ _ _ (T5.setTop (mkF m 28 #[rv a1, iv (1 : Int32), iv p3, iv p4, jv (co RR), ss, iv row, uu, uu, uu, uu, uu, uu, uu, uu, uu, uu, uu] []))
  have t_row : row.toInt = ((1 * (bd + 1) : Nat) : Int) := by
    rw [h_row, Jvm.Kit.i32_mul (by rw [show (1 : Int32).toInt = 1 from by decide, hlv]; omega) (by rw [show (1 : Int32).toInt = 1 from by decide, hlv]; omega), show (1 : Int32).toInt = 1 from by decide, hlv]
    omega
  refine own_of (fun tgt kon => XS.iload X5.here hx rfl (hb hby d10_28) rfl kon) ?_
  refine own_of (fun tgt kon => XS.aloadN X5.here hx rfl (hb hby d10_30) rfl rfl kon) ?_
  obtain ⟨T6, X6, e6, st6⟩ := getF X5 hx hZ hown (host := "") (Or.inl (ow hw 22 rfl)) Via.refl e5 F_levels (g := (mkF m 31 #[rv a1, iv (1 : Int32), iv p3, iv p4, jv (co RR), ss, iv row, uu, uu, uu, uu, uu, uu, uu, uu, uu, uu, uu] [(.ref a1), (.int row)])) rfl rfl (hb hby d10_31)
  refine own_of st6 ?_
  clear st6
  refine own_of (fun tgt kon => XS.isub X6.here hx rfl (hb hby d10_34) rfl kon) ?_
  show own_Wp _ _ _ _ (T6.setTop (mkF m 35 #[rv a1, iv (1 : Int32), iv p3, iv p4, jv (co RR), ss, iv row, uu, uu, uu, uu, uu, uu, uu, uu, uu, uu, uu] [(.int (row - lv))]))
  obtain ⟨abv, h_abv⟩ : ∃ q : Int32, q = (row - lv) := ⟨_, rfl⟩
  rw [← h_abv]
  refine own_of (fun tgt kon => XS.istore X6.here hx rfl (hb hby d10_35) rfl (l' := #[rv a1, iv (1 : Int32), iv p3, iv p4, jv (co RR), ss, iv row, iv abv, uu, uu, uu, uu, uu, uu, uu, uu, uu, uu]) rfl kon) ?_
  show own_Wp _ _ _ _ (T6.setTop (mkF m 37 #[rv a1, iv (1 : Int32), iv p3, iv p4, jv (co RR), ss, iv row, iv abv, uu, uu, uu, uu, uu, uu, uu, uu, uu, uu] []))
  have t_ab : abv.toInt = ((0 * (bd + 1) : Nat) : Int) := by
    rw [h_abv]
    have q := own_subI t_row hlv (by omega) (by omega)
    omega
  refine own_of (fun tgt kon => XS.iload X6.here hx rfl (hb hby d10_37) rfl kon) ?_
  refine own_of (fun tgt kon => XS.aloadN X6.here hx rfl (hb hby d10_39) rfl rfl kon) ?_
  obtain ⟨T7, X7, e7, st7⟩ := getF X6 hx hZ hown (host := "") (Or.inl (ow hw 22 rfl)) Via.refl e6 F_levels (g := (mkF m 40 #[rv a1, iv (1 : Int32), iv p3, iv p4, jv (co RR), ss, iv row, iv abv, uu, uu, uu, uu, uu, uu, uu, uu, uu, uu] [(.ref a1), (.int abv)])) rfl rfl (hb hby d10_40)
  refine own_of st7 ?_
  clear st7
  refine own_of (fun tgt kon => XS.isub X7.here hx rfl (hb hby d10_43) rfl kon) ?_
  show own_Wp _ _ _ _ (T7.setTop (mkF m 44 #[rv a1, iv (1 : Int32), iv p3, iv p4, jv (co RR), ss, iv row, iv abv, uu, uu, uu, uu, uu, uu, uu, uu, uu, uu] [(.int (abv - lv))]))
  obtain ⟨twv, h_twv⟩ : ∃ q : Int32, q = (abv - lv) := ⟨_, rfl⟩
  rw [← h_twv]
  refine own_of (fun tgt kon => XS.istore X7.here hx rfl (hb hby d10_44) rfl (l' := #[rv a1, iv (1 : Int32), iv p3, iv p4, jv (co RR), ss, iv row, iv abv, iv twv, uu, uu, uu, uu, uu, uu, uu, uu, uu]) rfl kon) ?_
  show own_Wp _ _ _ _ (T7.setTop (mkF m 46 #[rv a1, iv (1 : Int32), iv p3, iv p4, jv (co RR), ss, iv row, iv abv, iv twv, uu, uu, uu, uu, uu, uu, uu, uu, uu] []))
  refine own_of (fun tgt kon => XS.iloadN X7.here hx rfl (hb hby d10_46) rfl kon) ?_
  refine own_of (fun tgt kon => XS.iconst X7.here hx rfl (hb hby d10_47) kon) ?_
  have hc48 : ¬ ((1 : Int32) < (1 : Int32)) := by decide
  refine own_of (fun tgt kon => XS.icmpYes X7.here hx rfl (pc0 := 48) (pc' := 67) rfl (hb hby d10_48) rfl (flt hc48).2.2.2 (by decide) (by decide) kon) ?_
  refine own_of (fun tgt kon => XS.lconst X7.here hx rfl (hb hby d10_67) kon) ?_
  refine own_of (fun tgt kon => XS.lstore X7.here hx rfl (hb hby d10_68) rfl (l' := #[rv a1, iv (1 : Int32), iv p3, iv p4, jv (co RR), ss, iv row, iv abv, iv twv, jv (0 : Int64), ss, uu, uu, uu, uu, uu, uu, uu]) rfl kon) ?_
  show own_Wp _ _ _ _ (T7.setTop (mkF m 70 #[rv a1, iv (1 : Int32), iv p3, iv p4, jv (co RR), ss, iv row, iv abv, iv twv, jv (0 : Int64), ss, uu, uu, uu, uu, uu, uu, uu] []))
  refine own_of (fun tgt kon => XS.lload X7.here hx rfl (hb hby d10_70) rfl kon) ?_
  refine own_of (fun tgt kon => XS.aloadN X7.here hx rfl (hb hby d10_72) rfl rfl kon) ?_
  obtain ⟨T8, X8, e8, st8⟩ := getF X7 hx hZ hown (host := "") (Or.inl (ow hw 39 rfl)) Via.refl e7 F_rows (g := (mkF m 73 #[rv a1, iv (1 : Int32), iv p3, iv p4, jv (co RR), ss, iv row, iv abv, iv twv, jv (0 : Int64), ss, uu, uu, uu, uu, uu, uu, uu] [(.ref a1), (.long (co RR))])) rfl rfl (hb hby d10_73)
  refine own_of st8 ?_
  clear st8
  refine own_of (fun tgt kon => XS.iload X8.here hx rfl (hb hby d10_76) rfl kon) ?_
  refine own_laload X8 hx hZ e8 V_ar (j := abv) (i := (0 * (bd + 1))) (v := (rf (0 * (bd + 1)))) t_ab (by omega) rfl rfl rfl (hb hby d10_78) ?_
  show own_Wp _ _ _ _ (T8.setTop (mkF m 79 #[rv a1, iv (1 : Int32), iv p3, iv p4, jv (co RR), ss, iv row, iv abv, iv twv, jv (0 : Int64), ss, uu, uu, uu, uu, uu, uu, uu] [(.long (rf (0 * (bd + 1)))), (.long (co RR))]))
  refine own_of (fun tgt kon => XS.iconst X8.here hx rfl (hb hby d10_79) kon) ?_
  refine own_of (fun tgt kon => XS.lshl X8.here hx rfl (hb hby d10_80) rfl kon) ?_
  refine own_of (fun tgt kon => XS.land X8.here hx rfl (hb hby d10_81) rfl kon) ?_
  refine own_of (fun tgt kon => XS.lstore X8.here hx rfl (hb hby d10_82) rfl (l' := #[rv a1, iv (1 : Int32), iv p3, iv p4, jv (co RR), ss, iv row, iv abv, iv twv, jv (0 : Int64), ss, jv ((co RR) &&& ((rf (0 * (bd + 1))) <<< ((1 : Int32) &&& 0x3f).toInt64)), ss, uu, uu, uu, uu, uu]) rfl kon) ?_
  refine own_of (fun tgt kon => XS.aloadN X8.here hx rfl (hb hby d10_84) rfl rfl kon) ?_
  show own_Wp _ _ _ _ (T8.setTop (mkF m 85 #[rv a1, iv (1 : Int32), iv p3, iv p4, jv (co RR), ss, iv row, iv abv, iv twv, jv (0 : Int64), ss, jv ((co RR) &&& ((rf (0 * (bd + 1))) <<< ((1 : Int32) &&& 0x3f).toInt64)), ss, uu, uu, uu, uu, uu] [(.ref a1)]))
  obtain ⟨T9, X9, e9, st9⟩ := getF X8 hx hZ hown (host := "") (Or.inl (ow hw 39 rfl)) Via.refl e8 F_rows (g := (mkF m 85 #[rv a1, iv (1 : Int32), iv p3, iv p4, jv (co RR), ss, iv row, iv abv, iv twv, jv (0 : Int64), ss, jv ((co RR) &&& ((rf (0 * (bd + 1))) <<< ((1 : Int32) &&& 0x3f).toInt64)), ss, uu, uu, uu, uu, uu] [(.ref a1)])) rfl rfl (hb hby d10_85)
  refine own_of st9 ?_
  clear st9
  refine own_of (fun tgt kon => XS.iload X9.here hx rfl (hb hby d10_88) rfl kon) ?_
  refine own_of (fun tgt kon => XS.lload X9.here hx rfl (hb hby d10_90) rfl kon) ?_
  obtain ⟨T10, h10, X10, e10, W10, Aq10, st10⟩ := own_stJ X9 hx hZ e9 V_ar (j := row) (i := (1 * (bd + 1))) (x := ((co RR) &&& ((rf (0 * (bd + 1))) <<< ((1 : Int32) &&& 0x3f).toInt64))) t_row (by omega) (g := (mkF m 92 #[rv a1, iv (1 : Int32), iv p3, iv p4, jv (co RR), ss, iv row, iv abv, iv twv, jv (0 : Int64), ss, jv ((co RR) &&& ((rf (0 * (bd + 1))) <<< ((1 : Int32) &&& 0x3f).toInt64)), ss, uu, uu, uu, uu, uu] [(.long ((co RR) &&& ((rf (0 * (bd + 1))) <<< ((1 : Int32) &&& 0x3f).toInt64))), (.int row), (.ref ar)])) rfl rfl (hb hby d10_92)
  refine own_of st10 ?_
  clear st10
  replace Zs := Nat.le_trans Zs (Keep.of_wr W10).1
  replace K0 := K0.wr W10 (Or.inl (List.mem_of_getElem? (i := 0) rfl))
  replace E_a1 := E_a1.wr W10
  replace F_columnsOf := F_columnsOf.other W10 (Or.inl ne_a1_ar)
  replace F_codePoints := F_codePoints.other W10 (Or.inl ne_a1_ar)
  replace F_matches := F_matches.other W10 (Or.inl ne_a1_ar)
  replace F_rows := F_rows.other W10 (Or.inl ne_a1_ar)
  replace F_levels := F_levels.other W10 (Or.inl ne_a1_ar)
  replace F_columns := F_columns.other W10 (Or.inl ne_a1_ar)
  replace F_headBound := F_headBound.other W10 (Or.inl ne_a1_ar)
  replace F_outsideHead := F_outsideHead.other W10 (Or.inl ne_a1_ar)
  replace V_ac := V_ac.other W10 ne_ac_ar
  replace V_ao := V_ao.other W10 ne_ao_ar
  replace V_am := V_am.other W10 ne_am_ar
  replace V_ar := Aq10
  clear Aq10
  rw [show ((co RR) &&& ((rf (0 * (bd + 1))) <<< ((1 : Int32) &&& 0x3f).toInt64)) = FF 0 from hF0.symm] at V_ar ⊢
  replace V_ar := V_ar.fn (f' := fun y => .long (own_rk rf (1 * (bd + 1)) FF 1 y)) (fun y hy => (own_setJ _ _ _ y).trans (congrArg Value.long (own_rk0 _ _ _ y)))
  have N10 := Fr.snoc X10 N4 g_ar
  refine own_of (fun tgt kon => XS.iconst X10.here hx rfl (hb hby d10_93) kon) ?_
  show own_Wp _ _ _ _ (T10.setTop (mkF m 94 #[rv a1, iv (1 : Int32), iv p3, iv p4, jv (co RR), ss, iv row, iv abv, iv twv, jv (0 : Int64), ss, jv (FF 0), ss, uu, uu, uu, uu, uu] [(.int (1 : Int32))]))
  refine own_of (fun tgt kon => XS.istore X10.here hx rfl (hb hby d10_94) rfl (l' := #[rv a1, iv (1 : Int32), iv p3, iv p4, jv (co RR), ss, iv row, iv abv, iv twv, jv (0 : Int64), ss, jv (FF 0), ss, iv (1 : Int32), uu, uu, uu, uu]) rfl kon) ?_
  show own_Wp _ _ _ _ (T10.setTop (mkF m 96 #[rv a1, iv (1 : Int32), iv p3, iv p4, jv (co RR), ss, iv row, iv abv, iv twv, jv (0 : Int64), ss, jv (FF 0), ss, iv (1 : Int32), uu, uu, uu, uu] []))
  refine own_of (fun tgt kon => XS.iload X10.here hx rfl (hb hby d10_96) rfl kon) ?_
  refine own_of (fun tgt kon => XS.aloadN X10.here hx rfl (hb hby d10_98) rfl rfl kon) ?_
  obtain ⟨T11, X11, e11, st11⟩ := getF X10 hx hZ hown (host := "") (Or.inl (ow hw 22 rfl)) Via.refl e10 F_levels (g := (mkF m 99 #[rv a1, iv (1 : Int32), iv p3, iv p4, jv (co RR), ss, iv row, iv abv, iv twv, jv (0 : Int64), ss, jv (FF 0), ss, iv (1 : Int32), uu, uu, uu, uu] [(.ref a1), (.int (1 : Int32))])) rfl rfl (hb hby d10_99)
  refine own_of st11 ?_
  clear st11
  by_cases hc102 : (1 : Int32) < lv
  · skip
    refine own_of (fun tgt kon => XS.icmpNo X11.here hx rfl (hb hby d10_102) rfl (tlt hc102).2.1 kon) ?_
    show own_Wp _ _ _ _ (T11.setTop (mkF m 105 #[rv a1, iv (1 : Int32), iv p3, iv p4, jv (co RR), ss, iv row, iv abv, iv twv, jv (0 : Int64), ss, jv (FF 0), ss, iv (1 : Int32), uu, uu, uu, uu] []))
    have hlt : 0 + 1 < bd + 1 := by
      have q := hc102
      rw [Int32.lt_iff_toInt_lt, hlv] at q
      have q2 : (1 : Int32).toInt = ((0 + 1 : Nat) : Int) := by decide
      omega
    have t_d : (1 : Int32).toInt = ((0 + 1 : Nat) : Int) := by decide
    have l1 : (1 : Int32).toInt = 1 := by decide
    refine own_of (fun tgt kon => XS.aloadN X11.here hx rfl (hb hby d10_105) rfl rfl kon) ?_
    obtain ⟨T12, X12, e12, st12⟩ := getF X11 hx hZ hown (host := "") (Or.inl (ow hw 39 rfl)) Via.refl e11 F_rows (g := (mkF m 106 #[rv a1, iv (1 : Int32), iv p3, iv p4, jv (co RR), ss, iv row, iv abv, iv twv, jv (0 : Int64), ss, jv (FF 0), ss, iv (1 : Int32), uu, uu, uu, uu] [(.ref a1)])) rfl rfl (hb hby d10_106)
    refine own_of st12 ?_
    clear st12
    refine own_of (fun tgt kon => XS.iload X12.here hx rfl (hb hby d10_109) rfl kon) ?_
    refine own_of (fun tgt kon => XS.iload X12.here hx rfl (hb hby d10_111) rfl kon) ?_
    refine own_of (fun tgt kon => XS.iadd X12.here hx rfl (hb hby d10_113) rfl kon) ?_
    show own_Wp _ _ _ _ (T12.setTop (mkF m 114 #[rv a1, iv (1 : Int32), iv p3, iv p4, jv (co RR), ss, iv row, iv abv, iv twv, jv (0 : Int64), ss, jv (FF 0), ss, iv (1 : Int32), uu, uu, uu, uu] [(.int (abv + (1 : Int32))), (.ref ar)]))
    refine own_of (fun tgt kon => XS.iconst X12.here hx rfl (hb hby d10_114) kon) ?_
    refine own_of (fun tgt kon => XS.isub X12.here hx rfl (hb hby d10_115) rfl kon) ?_
    refine own_laload X12 hx hZ e12 V_ar (j := ((abv + (1 : Int32)) - (1 : Int32))) (i := ((0 * (bd + 1)) + 0)) (v := (rf ((0 * (bd + 1)) + 0))) (by have q1 := own_addI t_ab t_d (by omega) (by omega); have q2 := own_subI q1 l1 (by omega) (by omega); omega) (by omega) (by show Value.long (own_rk _ _ _ _ _) = _; rw [own_rk_lt (by omega)]) rfl rfl (hb hby d10_116) ?_
    refine own_of (fun tgt kon => XS.lstore X12.here hx rfl (hb hby d10_117) rfl (l' := #[rv a1, iv (1 : Int32), iv p3, iv p4, jv (co RR), ss, iv row, iv abv, iv twv, jv (0 : Int64), ss, jv (FF 0), ss, iv (1 : Int32), jv (rf ((0 * (bd + 1)) + 0)), ss, uu, uu]) rfl kon) ?_
    refine own_of (fun tgt kon => XS.lload X12.here hx rfl (hb hby d10_119) rfl kon) ?_
    show own_Wp _ _ _ _ (T12.setTop (mkF m 121 #[rv a1, iv (1 : Int32), iv p3, iv p4, jv (co RR), ss, iv row, iv abv, iv twv, jv (0 : Int64), ss, jv (FF 0), ss, iv (1 : Int32), jv (rf ((0 * (bd + 1)) + 0)), ss, uu, uu] [(.long (co RR))]))
    refine own_of (fun tgt kon => XS.aloadN X12.here hx rfl (hb hby d10_121) rfl rfl kon) ?_
    obtain ⟨T13, X13, e13, st13⟩ := getF X12 hx hZ hown (host := "") (Or.inl (ow hw 39 rfl)) Via.refl e12 F_rows (g := (mkF m 122 #[rv a1, iv (1 : Int32), iv p3, iv p4, jv (co RR), ss, iv row, iv abv, iv twv, jv (0 : Int64), ss, jv (FF 0), ss, iv (1 : Int32), jv (rf ((0 * (bd + 1)) + 0)), ss, uu, uu] [(.ref a1), (.long (co RR))])) rfl rfl (hb hby d10_122)
    refine own_of st13 ?_
    clear st13
    refine own_of (fun tgt kon => XS.iload X13.here hx rfl (hb hby d10_125) rfl kon) ?_
    refine own_of (fun tgt kon => XS.iload X13.here hx rfl (hb hby d10_127) rfl kon) ?_
    refine own_of (fun tgt kon => XS.iadd X13.here hx rfl (hb hby d10_129) rfl kon) ?_
    show own_Wp _ _ _ _ (T13.setTop (mkF m 130 #[rv a1, iv (1 : Int32), iv p3, iv p4, jv (co RR), ss, iv row, iv abv, iv twv, jv (0 : Int64), ss, jv (FF 0), ss, iv (1 : Int32), jv (rf ((0 * (bd + 1)) + 0)), ss, uu, uu] [(.int (abv + (1 : Int32))), (.ref ar), (.long (co RR))]))
    refine own_laload X13 hx hZ e13 V_ar (j := (abv + (1 : Int32))) (i := ((0 * (bd + 1)) + (0 + 1))) (v := (rf ((0 * (bd + 1)) + (0 + 1)))) (by have q1 := own_addI t_ab t_d (by omega) (by omega); omega) (by omega) (by show Value.long (own_rk _ _ _ _ _) = _; rw [own_rk_lt (by omega)]) rfl rfl (hb hby d10_130) ?_
    refine own_of (fun tgt kon => XS.iconst X13.here hx rfl (hb hby d10_131) kon) ?_
    refine own_of (fun tgt kon => XS.lshl X13.here hx rfl (hb hby d10_132) rfl kon) ?_
    refine own_of (fun tgt kon => XS.land X13.here hx rfl (hb hby d10_133) rfl kon) ?_
    refine own_of (fun tgt kon => XS.lload X13.here hx rfl (hb hby d10_134) rfl kon) ?_
    show own_Wp _ _ _ _ (T13.setTop (mkF m 136 #[rv a1, iv (1 : Int32), iv p3, iv p4, jv (co RR), ss, iv row, iv abv, iv twv, jv (0 : Int64), ss, jv (FF 0), ss, iv (1 : Int32), jv (rf ((0 * (bd + 1)) + 0)), ss, uu, uu] [(.long (rf ((0 * (bd + 1)) + 0))), (.long ((co RR) &&& ((rf ((0 * (bd + 1)) + (0 + 1))) <<< ((1 : Int32) &&& 0x3f).toInt64)))]))
    refine own_of (fun tgt kon => XS.lor X13.here hx rfl (hb hby d10_136) rfl kon) ?_
    refine own_of (fun tgt kon => XS.lload X13.here hx rfl (hb hby d10_137) rfl kon) ?_
    refine own_of (fun tgt kon => XS.iconst X13.here hx rfl (hb hby d10_139) kon) ?_
    refine own_of (fun tgt kon => XS.lshl X13.here hx rfl (hb hby d10_140) rfl kon) ?_
    refine own_of (fun tgt kon => XS.lor X13.here hx rfl (hb hby d10_141) rfl kon) ?_
    show own_Wp _ _ _ _ (T13.setTop (mkF m 142 #[rv a1, iv (1 : Int32), iv p3, iv p4, jv (co RR), ss, iv row, iv abv, iv twv, jv (0 : Int64), ss, jv (FF 0), ss, iv (1 : Int32), jv (rf ((0 * (bd + 1)) + 0)), ss, uu, uu] [(.long ((((co RR) &&& ((rf ((0 * (bd + 1)) + (0 + 1))) <<< ((1 : Int32) &&& 0x3f).toInt64)) ||| (rf ((0 * (bd + 1)) + 0))) ||| ((rf ((0 * (bd + 1)) + 0)) <<< ((1 : Int32) &&& 0x3f).toInt64)))]))
    refine own_of (fun tgt kon => XS.lload X13.here hx rfl (hb hby d10_142) rfl kon) ?_
    refine own_of (fun tgt kon => XS.iconst X13.here hx rfl (hb hby d10_144) kon) ?_
    refine own_of (fun tgt kon => XS.lshl X13.here hx rfl (hb hby d10_145) rfl kon) ?_
    refine own_of (fun tgt kon => XS.lor X13.here hx rfl (hb hby d10_146) rfl kon) ?_
    show own_Wp _ _ _ _ (T13.setTop (mkF m 147 #[rv a1, iv (1 : Int32), iv p3, iv p4, jv (co RR), ss, iv row, iv abv, iv twv, jv (0 : Int64), ss, jv (FF 0), ss, iv (1 : Int32), jv (rf ((0 * (bd + 1)) + 0)), ss, uu, uu] [(.long (((((co RR) &&& ((rf ((0 * (bd + 1)) + (0 + 1))) <<< ((1 : Int32) &&& 0x3f).toInt64)) ||| (rf ((0 * (bd + 1)) + 0))) ||| ((rf ((0 * (bd + 1)) + 0)) <<< ((1 : Int32) &&& 0x3f).toInt64)) ||| ((FF 0) <<< ((1 : Int32) &&& 0x3f).toInt64)))]))
    obtain ⟨r1, h_r1⟩ : ∃ q : Int64, q = (((((co RR) &&& ((rf ((0 * (bd + 1)) + (0 + 1))) <<< ((1 : Int32) &&& 0x3f).toInt64)) ||| (rf ((0 * (bd + 1)) + 0))) ||| ((rf ((0 * (bd + 1)) + 0)) <<< ((1 : Int32) &&& 0x3f).toInt64)) ||| ((FF 0) <<< ((1 : Int32) &&& 0x3f).toInt64)) := ⟨_, rfl⟩
    rw [← h_r1]
    refine own_of (fun tgt kon => XS.lstore X13.here hx rfl (hb hby d10_147) rfl (l' := #[rv a1, iv (1 : Int32), iv p3, iv p4, jv (co RR), ss, iv row, iv abv, iv twv, jv (0 : Int64), ss, jv (FF 0), ss, iv (1 : Int32), jv (rf ((0 * (bd + 1)) + 0)), ss, jv r1, ss]) rfl kon) ?_
    show own_Wp _ _ _ _ (T13.setTop (mkF m 149 #[rv a1, iv (1 : Int32), iv p3, iv p4, jv (co RR), ss, iv row, iv abv, iv twv, jv (0 : Int64), ss, jv (FF 0), ss, iv (1 : Int32), jv (rf ((0 * (bd + 1)) + 0)), ss, jv r1, ss] []))
    refine own_of (fun tgt kon => XS.lload X13.here hx rfl (hb hby d10_149) rfl kon) ?_
    refine own_of (fun tgt kon => XS.lconst X13.here hx rfl (hb hby d10_151) kon) ?_
    refine own_of (fun tgt kon => XS.lcmp X13.here hx rfl (hb hby d10_152) rfl kon) ?_
    show own_Wp _ _ _ _ (T13.setTop (mkF m 153 #[rv a1, iv (1 : Int32), iv p3, iv p4, jv (co RR), ss, iv row, iv abv, iv twv, jv (0 : Int64), ss, jv (FF 0), ss, iv (1 : Int32), jv (rf ((0 * (bd + 1)) + 0)), ss, jv r1, ss] [(.int (lcmpW (0 : Int64) (0 : Int64)))]))
    have hc153 : (lcmpW (0 : Int64) (0 : Int64)) = (0 : Int32) := by decide
    refine own_of (fun tgt kon => XS.ifYes X13.here hx rfl (pc0 := 153) (pc' := 178) rfl (hb hby d10_153) rfl ((if0 _ _).trans (teq hc153).1) (by decide) (by decide) kon) ?_
    refine own_of (fun tgt kon => XS.lload X13.here hx rfl (hb hby d10_178) rfl kon) ?_
    refine own_of (fun tgt kon => XS.aloadN X13.here hx rfl (hb hby d10_180) rfl rfl kon) ?_
    obtain ⟨T14, X14, e14, st14⟩ := getF X13 hx hZ hown (host := "") (Or.inl (ow hw 27 rfl)) Via.refl e13 F_columns (g := (mkF m 181 #[rv a1, iv (1 : Int32), iv p3, iv p4, jv (co RR), ss, iv row, iv abv, iv twv, jv (0 : Int64), ss, jv (FF 0), ss, iv (1 : Int32), jv (rf ((0 * (bd + 1)) + 0)), ss, jv r1, ss] [(.ref a1), (.long r1)])) rfl rfl (hb hby d10_181)
    refine own_of st14 ?_
    clear st14
    refine own_of (fun tgt kon => XS.land X14.here hx rfl (hb hby d10_184) rfl kon) ?_
    show own_Wp _ _ _ _ (T14.setTop (mkF m 185 #[rv a1, iv (1 : Int32), iv p3, iv p4, jv (co RR), ss, iv row, iv abv, iv twv, jv (0 : Int64), ss, jv (FF 0), ss, iv (1 : Int32), jv (rf ((0 * (bd + 1)) + 0)), ss, jv r1, ss] [(.long (r1 &&& cols))]))
    refine own_of (fun tgt kon => XS.lstore X14.here hx rfl (hb hby d10_185) rfl (l' := #[rv a1, iv (1 : Int32), iv p3, iv p4, jv (co RR), ss, iv row, iv abv, iv twv, jv (0 : Int64), ss, jv (FF 0), ss, iv (1 : Int32), jv (rf ((0 * (bd + 1)) + 0)), ss, jv (r1 &&& cols), ss]) rfl kon) ?_
    refine own_of (fun tgt kon => XS.iload X14.here hx rfl (hb hby d10_187) rfl kon) ?_
    refine own_of (fun tgt kon => XS.aloadN X14.here hx rfl (hb hby d10_189) rfl rfl kon) ?_
    obtain ⟨T15, X15, e15, st15⟩ := getF X14 hx hZ hown (host := "") (Or.inl (ow hw 20 rfl)) Via.refl e14 F_headBound (g := (mkF m 190 #[rv a1, iv (1 : Int32), iv p3, iv p4, jv (co RR), ss, iv row, iv abv, iv twv, jv (0 : Int64), ss, jv (FF 0), ss, iv (1 : Int32), jv (rf ((0 * (bd + 1)) + 0)), ss, jv (r1 &&& cols), ss] [(.ref a1), (.int (1 : Int32))])) rfl rfl (hb hby d10_190)
    refine own_of st15 ?_
    clear st15
    show own_Wp _ _ _ _ (T15.setTop (mkF m 193 #[rv a1, iv (1 : Int32), iv p3, iv p4, jv (co RR), ss, iv row, iv abv, iv twv, jv (0 : Int64), ss, jv (FF 0), ss, iv (1 : Int32), jv (rf ((0 * (bd + 1)) + 0)), ss, jv (r1 &&& cols), ss] [(.int p5), (.int (1 : Int32))]))
    have J218 : ∀ (T16 : State) (lc16 : List Loc) (q3 : Int64), (Stand p l e ({ frames := 1, cells := 0, slots := 0, locals := 15 } : Room) s m #[(.ref a1), (.int (1 : Int32)), (.int p3), (.int p4)] below meth c T16 lc16 0 0) → (T16.heap = h10) → (Fr n0 lc16) → (q3 = if ph < 0 + 1 then (r1 &&& cols) &&& ((FF ph) ||| out) else (r1 &&& cols)) → own_Wp p.tables e below (own_K ({ frames := 1, cells := 0, slots := 0, locals := 15 } : Room) s below (Q_rmro1 Z a1 p3 p4 ac ao ar am cp co rf mf FF lv p5 cols out bd ph RL ML RR h0 n0)) (T16.setTop (mkF m 218 #[rv a1, iv (1 : Int32), iv p3, iv p4, jv (co RR), ss, iv row, iv abv, iv twv, jv (0 : Int64), ss, jv (FF 0), ss, iv (1 : Int32), jv (rf ((0 * (bd + 1)) + 0)), ss, jv q3, ss] [])) := by
      intro T16 lc16 q3 X16 e16 N16 h_q3
      refine own_of (fun tgt kon => XS.aloadN X16.here hx rfl (hb hby d10_218) rfl rfl kon) ?_
      obtain ⟨T17, X17, e17, st17⟩ := getF X16 hx hZ hown (host := "") (Or.inl (ow hw 39 rfl)) Via.refl e16 F_rows (g := (mkF m 219 #[rv a1, iv (1 : Int32), iv p3, iv p4, jv (co RR), ss, iv row, iv abv, iv twv, jv (0 : Int64), ss, jv (FF 0), ss, iv (1 : Int32), jv (rf ((0 * (bd + 1)) + 0)), ss, jv q3, ss] [(.ref a1)])) rfl rfl (hb hby d10_219)
      refine own_of st17 ?_
      clear st17
      refine own_of (fun tgt kon => XS.iload X17.here hx rfl (hb hby d10_222) rfl kon) ?_
      refine own_of (fun tgt kon => XS.iload X17.here hx rfl (hb hby d10_224) rfl kon) ?_
      refine own_of (fun tgt kon => XS.iadd X17.here hx rfl (hb hby d10_226) rfl kon) ?_
      show own_Wp _ _ _ _ (T17.setTop (mkF m 227 #[rv a1, iv (1 : Int32), iv p3, iv p4, jv (co RR), ss, iv row, iv abv, iv twv, jv (0 : Int64), ss, jv (FF 0), ss, iv (1 : Int32), jv (rf ((0 * (bd + 1)) + 0)), ss, jv q3, ss] [(.int (row + (1 : Int32))), (.ref ar)]))
      refine own_of (fun tgt kon => XS.lload X17.here hx rfl (hb hby d10_227) rfl kon) ?_
      obtain ⟨T18, h18, X18, e18, W18, Aq18, st18⟩ := own_stJ X17 hx hZ e17 V_ar (j := (row + (1 : Int32))) (i := ((1 * (bd + 1)) + (0 + 1))) (x := q3) (by have q1 := own_addI t_row t_d (by omega) (by omega); omega) (by omega) (g := (mkF m 229 #[rv a1, iv (1 : Int32), iv p3, iv p4, jv (co RR), ss, iv row, iv abv, iv twv, jv (0 : Int64), ss, jv (FF 0), ss, iv (1 : Int32), jv (rf ((0 * (bd + 1)) + 0)), ss, jv q3, ss] [(.long q3), (.int (row + (1 : Int32))), (.ref ar)])) rfl rfl (hb hby d10_229)
      refine own_of st18 ?_
      clear st18
      replace Zs := Nat.le_trans Zs (Keep.of_wr W18).1
      replace K0 := K0.wr W18 (Or.inl (List.mem_of_getElem? (i := 0) rfl))
      replace E_a1 := E_a1.wr W18
      replace F_columnsOf := F_columnsOf.other W18 (Or.inl ne_a1_ar)
      replace F_codePoints := F_codePoints.other W18 (Or.inl ne_a1_ar)
      replace F_matches := F_matches.other W18 (Or.inl ne_a1_ar)
      replace F_rows := F_rows.other W18 (Or.inl ne_a1_ar)
      replace F_levels := F_levels.other W18 (Or.inl ne_a1_ar)
      replace F_columns := F_columns.other W18 (Or.inl ne_a1_ar)
      replace F_headBound := F_headBound.other W18 (Or.inl ne_a1_ar)
      replace F_outsideHead := F_outsideHead.other W18 (Or.inl ne_a1_ar)
      replace V_ac := V_ac.other W18 ne_ac_ar
      replace V_ao := V_ao.other W18 ne_ao_ar
      replace V_am := V_am.other W18 ne_am_ar
      replace V_ar := Aq18
      clear Aq18
      have hst : q3 = FF (0 + 1) := by
        rw [hFs 0]
        dsimp only
        rw [if_pos rfl, h_q3, h_r1]
      rw [hst] at V_ar ⊢
      replace V_ar := V_ar.fn (f' := fun y => .long (own_rk rf (1 * (bd + 1)) FF (0 + 1 + 1) y)) (fun y hy => (own_setJ _ _ _ y).trans (congrArg Value.long (own_setRk _ _ _ _ y)))
      have N18 := Fr.snoc X18 N16 g_ar
      refine own_of (fun tgt kon => XS.lload X18.here hx rfl (hb hby d10_230) rfl kon) ?_
      refine own_of (fun tgt kon => XS.lstore X18.here hx rfl (hb hby d10_232) rfl (l' := #[rv a1, iv (1 : Int32), iv p3, iv p4, jv (co RR), ss, iv row, iv abv, iv twv, jv (0 : Int64), ss, jv (FF (0 + 1)), ss, iv (1 : Int32), jv (rf ((0 * (bd + 1)) + 0)), ss, jv (FF (0 + 1)), ss]) rfl kon) ?_
      refine own_of (fun tgt kon => XS.iinc X18.here hx rfl (hb hby d10_234) rfl (l' := #[rv a1, iv (1 : Int32), iv p3, iv p4, jv (co RR), ss, iv row, iv abv, iv twv, jv (0 : Int64), ss, jv (FF (0 + 1)), ss, iv ((1 : Int32) + (1 : Int32)), jv (rf ((0 * (bd + 1)) + 0)), ss, jv (FF (0 + 1)), ss]) rfl kon) ?_
      show own_Wp _ _ _ _ (T18.setTop (mkF m 237 #[rv a1, iv (1 : Int32), iv p3, iv p4, jv (co RR), ss, iv row, iv abv, iv twv, jv (0 : Int64), ss, jv (FF (0 + 1)), ss, iv ((1 : Int32) + (1 : Int32)), jv (rf ((0 * (bd + 1)) + 0)), ss, jv (FF (0 + 1)), ss] []))
      refine own_of (fun tgt kon => XS.goto X18.here hx rfl (pc0 := 237) (pc' := 96) rfl (hb hby d10_237) (by decide) (by decide) kon) ?_
      show own_Wp _ _ _ _ (T18.setTop (mkF m 96 #[rv a1, iv (1 : Int32), iv p3, iv p4, jv (co RR), ss, iv row, iv abv, iv twv, jv (0 : Int64), ss, jv (FF (0 + 1)), ss, iv ((1 : Int32) + (1 : Int32)), jv (rf ((0 * (bd + 1)) + 0)), ss, jv (FF (0 + 1)), ss] []))
      rw [show ((1 : Int32) + (1 : Int32)) = Int32.ofNat (1 + 1) from rfl]
      have J96 : ∀ (nn : Nat) (T19 : State) (lc19 : List Loc) (h19 : Heap) (k : Nat) (z14 : Int64) (z16 : Int64), (Stand p l e ({ frames := 1, cells := 0, slots := 0, locals := 15 } : Room) s m #[(.ref a1), (.int (1 : Int32)), (.int p3), (.int p4)] below meth c T19 lc19 0 0) → (T19.heap = h19) → (Fr n0 lc19) → (n0 ≤ h19.size) → (Keep h0 h19 [ar, am]) → (Exa Z h19 a1 "com/example/close_words/closewords/BitRows") → (Fld Z h19 a1 "com/example/close_words/closewords/BitRows" "columnsOf" "[J" (.ref ao)) → (Fld Z h19 a1 "com/example/close_words/closewords/BitRows" "codePoints" "[I" (.ref ac)) → (Fld Z h19 a1 "com/example/close_words/closewords/BitRows" "matches" "[J" (.ref am)) → (Fld Z h19 a1 "com/example/close_words/closewords/BitRows" "rows" "[J" (.ref ar)) → (Fld Z h19 a1 "com/example/close_words/closewords/BitRows" "levels" "I" (.int lv)) → (Fld Z h19 a1 "com/example/close_words/closewords/BitRows" "columns" "J" (.long cols)) → (Fld Z h19 a1 "com/example/close_words/closewords/BitRows" "headBound" "I" (.int p5)) → (Fld Z h19 a1 "com/example/close_words/closewords/BitRows" "outsideHead" "J" (.long out)) → (own_Ar Z h19 ac .int 128 (fun k => .int (cp k))) → (own_Ar Z h19 ao .long 128 (fun k => .long (co k))) → (own_Ar Z h19 ar .long RL (fun y => .long (own_rk rf (1 * (bd + 1)) FF (k + 1) y))) → (own_Ar Z h19 am .long ML (fun k => .long (own_upd mf 1 (co RR) k))) → (k + 1 ≤ bd + 1) → (bd + 1 - k < nn) → own_Wp p.tables e below (own_K ({ frames := 1, cells := 0, slots := 0, locals := 15 } : Room) s below (Q_rmro1 Z a1 p3 p4 ac ao ar am cp co rf mf FF lv p5 cols out bd ph RL ML RR h0 n0)) (T19.setTop (mkF m 96 #[rv a1, iv (1 : Int32), iv p3, iv p4, jv (co RR), ss, iv row, iv abv, iv twv, jv (0 : Int64), ss, jv (FF k), ss, iv (Int32.ofNat (k + 1)), jv z14, ss, jv z16, ss] [])) := by
        clear K0 E_a1 F_columnsOf F_codePoints F_matches F_rows F_levels F_columns F_headBound F_outsideHead V_ac V_ao V_ar V_am Zs
        intro nn
        induction nn with
        | zero => intro T19 lc19 h19 k z14 z16 X19 e19 N19 Zs K0 E_a1 F_columnsOf F_codePoints F_matches F_rows F_levels F_columns F_headBound F_outsideHead V_ac V_ao V_ar V_am hk hmu; exact absurd hmu (Nat.not_lt_zero _)
        | succ nn ih =>
          skip
          intro T19 lc19 h19 k z14 z16 X19 e19 N19 Zs K0 E_a1 F_columnsOf F_codePoints F_matches F_rows F_levels F_columns F_headBound F_outsideHead V_ac V_ao V_ar V_am hk hmu
          refine own_of (fun tgt kon => XS.iload X19.here hx rfl (hb hby d10_96) rfl kon) ?_
          refine own_of (fun tgt kon => XS.aloadN X19.here hx rfl (hb hby d10_98) rfl rfl kon) ?_
          obtain ⟨T20, X20, e20, st20⟩ := getF X19 hx hZ hown (host := "") (Or.inl (ow hw 22 rfl)) Via.refl e19 F_levels (g := (mkF m 99 #[rv a1, iv (1 : Int32), iv p3, iv p4, jv (co RR), ss, iv row, iv abv, iv twv, jv (0 : Int64), ss, jv (FF k), ss, iv (Int32.ofNat (k + 1)), jv z14, ss, jv z16, ss] [(.ref a1), (.int (Int32.ofNat (k + 1)))])) rfl rfl (hb hby d10_99)
          refine own_of st20 ?_
          clear st20
          by_cases hc102_2 : (Int32.ofNat (k + 1)) < lv
          · skip
            refine own_of (fun tgt kon => XS.icmpNo X20.here hx rfl (hb hby d10_102) rfl (tlt hc102_2).2.1 kon) ?_
            show own_Wp _ _ _ _ (T20.setTop (mkF m 105 #[rv a1, iv (1 : Int32), iv p3, iv p4, jv (co RR), ss, iv row, iv abv, iv twv, jv (0 : Int64), ss, jv (FF k), ss, iv (Int32.ofNat (k + 1)), jv z14, ss, jv z16, ss] []))
            have hlt : k + 1 < bd + 1 := by
              have q := hc102_2
              rw [Int32.lt_iff_toInt_lt, hlv] at q
              have q2 : (Int32.ofNat (k + 1)).toInt = ((k + 1 : Nat) : Int) := own_ofN (by omega)
              omega
            have t_d : (Int32.ofNat (k + 1)).toInt = ((k + 1 : Nat) : Int) := own_ofN (by omega)
            have l1 : (1 : Int32).toInt = 1 := by decide
            refine own_of (fun tgt kon => XS.aloadN X20.here hx rfl (hb hby d10_105) rfl rfl kon) ?_
            obtain ⟨T21, X21, e21, st21⟩ := getF X20 hx hZ hown (host := "") (Or.inl (ow hw 39 rfl)) Via.refl e20 F_rows (g := (mkF m 106 #[rv a1, iv (1 : Int32), iv p3, iv p4, jv (co RR), ss, iv row, iv abv, iv twv, jv (0 : Int64), ss, jv (FF k), ss, iv (Int32.ofNat (k + 1)), jv z14, ss, jv z16, ss] [(.ref a1)])) rfl rfl (hb hby d10_106)
            refine own_of st21 ?_
            clear st21
            refine own_of (fun tgt kon => XS.iload X21.here hx rfl (hb hby d10_109) rfl kon) ?_
            refine own_of (fun tgt kon => XS.iload X21.here hx rfl (hb hby d10_111) rfl kon) ?_
            refine own_of (fun tgt kon => XS.iadd X21.here hx rfl (hb hby d10_113) rfl kon) ?_
            show own_Wp _ _ _ _ (T21.setTop (mkF m 114 #[rv a1, iv (1 : Int32), iv p3, iv p4, jv (co RR), ss, iv row, iv abv, iv twv, jv (0 : Int64), ss, jv (FF k), ss, iv (Int32.ofNat (k + 1)), jv z14, ss, jv z16, ss] [(.int (abv + (Int32.ofNat (k + 1)))), (.ref ar)]))
            refine own_of (fun tgt kon => XS.iconst X21.here hx rfl (hb hby d10_114) kon) ?_
            refine own_of (fun tgt kon => XS.isub X21.here hx rfl (hb hby d10_115) rfl kon) ?_
            refine own_laload X21 hx hZ e21 V_ar (j := ((abv + (Int32.ofNat (k + 1))) - (1 : Int32))) (i := ((0 * (bd + 1)) + k)) (v := (rf ((0 * (bd + 1)) + k))) (by have q1 := own_addI t_ab t_d (by omega) (by omega); have q2 := own_subI q1 l1 (by omega) (by omega); omega) (by omega) (by show Value.long (own_rk _ _ _ _ _) = _; rw [own_rk_lt (by omega)]) rfl rfl (hb hby d10_116) ?_
            refine own_of (fun tgt kon => XS.lstore X21.here hx rfl (hb hby d10_117) rfl (l' := #[rv a1, iv (1 : Int32), iv p3, iv p4, jv (co RR), ss, iv row, iv abv, iv twv, jv (0 : Int64), ss, jv (FF k), ss, iv (Int32.ofNat (k + 1)), jv (rf ((0 * (bd + 1)) + k)), ss, jv z16, ss]) rfl kon) ?_
            refine own_of (fun tgt kon => XS.lload X21.here hx rfl (hb hby d10_119) rfl kon) ?_
            show own_Wp _ _ _ _ (T21.setTop (mkF m 121 #[rv a1, iv (1 : Int32), iv p3, iv p4, jv (co RR), ss, iv row, iv abv, iv twv, jv (0 : Int64), ss, jv (FF k), ss, iv (Int32.ofNat (k + 1)), jv (rf ((0 * (bd + 1)) + k)), ss, jv z16, ss] [(.long (co RR))]))
            refine own_of (fun tgt kon => XS.aloadN X21.here hx rfl (hb hby d10_121) rfl rfl kon) ?_
            obtain ⟨T22, X22, e22, st22⟩ := getF X21 hx hZ hown (host := "") (Or.inl (ow hw 39 rfl)) Via.refl e21 F_rows (g := (mkF m 122 #[rv a1, iv (1 : Int32), iv p3, iv p4, jv (co RR), ss, iv row, iv abv, iv twv, jv (0 : Int64), ss, jv (FF k), ss, iv (Int32.ofNat (k + 1)), jv (rf ((0 * (bd + 1)) + k)), ss, jv z16, ss] [(.ref a1), (.long (co RR))])) rfl rfl (hb hby d10_122)
            refine own_of st22 ?_
            clear st22
            refine own_of (fun tgt kon => XS.iload X22.here hx rfl (hb hby d10_125) rfl kon) ?_
            refine own_of (fun tgt kon => XS.iload X22.here hx rfl (hb hby d10_127) rfl kon) ?_
            refine own_of (fun tgt kon => XS.iadd X22.here hx rfl (hb hby d10_129) rfl kon) ?_
            show own_Wp _ _ _ _ (T22.setTop (mkF m 130 #[rv a1, iv (1 : Int32), iv p3, iv p4, jv (co RR), ss, iv row, iv abv, iv twv, jv (0 : Int64), ss, jv (FF k), ss, iv (Int32.ofNat (k + 1)), jv (rf ((0 * (bd + 1)) + k)), ss, jv z16, ss] [(.int (abv + (Int32.ofNat (k + 1)))), (.ref ar), (.long (co RR))]))
            refine own_laload X22 hx hZ e22 V_ar (j := (abv + (Int32.ofNat (k + 1)))) (i := ((0 * (bd + 1)) + (k + 1))) (v := (rf ((0 * (bd + 1)) + (k + 1)))) (by have q1 := own_addI t_ab t_d (by omega) (by omega); omega) (by omega) (by show Value.long (own_rk _ _ _ _ _) = _; rw [own_rk_lt (by omega)]) rfl rfl (hb hby d10_130) ?_
            refine own_of (fun tgt kon => XS.iconst X22.here hx rfl (hb hby d10_131) kon) ?_
            refine own_of (fun tgt kon => XS.lshl X22.here hx rfl (hb hby d10_132) rfl kon) ?_
            refine own_of (fun tgt kon => XS.land X22.here hx rfl (hb hby d10_133) rfl kon) ?_
            refine own_of (fun tgt kon => XS.lload X22.here hx rfl (hb hby d10_134) rfl kon) ?_
            show own_Wp _ _ _ _ (T22.setTop (mkF m 136 #[rv a1, iv (1 : Int32), iv p3, iv p4, jv (co RR), ss, iv row, iv abv, iv twv, jv (0 : Int64), ss, jv (FF k), ss, iv (Int32.ofNat (k + 1)), jv (rf ((0 * (bd + 1)) + k)), ss, jv z16, ss] [(.long (rf ((0 * (bd + 1)) + k))), (.long ((co RR) &&& ((rf ((0 * (bd + 1)) + (k + 1))) <<< ((1 : Int32) &&& 0x3f).toInt64)))]))
            refine own_of (fun tgt kon => XS.lor X22.here hx rfl (hb hby d10_136) rfl kon) ?_
            refine own_of (fun tgt kon => XS.lload X22.here hx rfl (hb hby d10_137) rfl kon) ?_
            refine own_of (fun tgt kon => XS.iconst X22.here hx rfl (hb hby d10_139) kon) ?_
            refine own_of (fun tgt kon => XS.lshl X22.here hx rfl (hb hby d10_140) rfl kon) ?_
            refine own_of (fun tgt kon => XS.lor X22.here hx rfl (hb hby d10_141) rfl kon) ?_
            show own_Wp _ _ _ _ (T22.setTop (mkF m 142 #[rv a1, iv (1 : Int32), iv p3, iv p4, jv (co RR), ss, iv row, iv abv, iv twv, jv (0 : Int64), ss, jv (FF k), ss, iv (Int32.ofNat (k + 1)), jv (rf ((0 * (bd + 1)) + k)), ss, jv z16, ss] [(.long ((((co RR) &&& ((rf ((0 * (bd + 1)) + (k + 1))) <<< ((1 : Int32) &&& 0x3f).toInt64)) ||| (rf ((0 * (bd + 1)) + k))) ||| ((rf ((0 * (bd + 1)) + k)) <<< ((1 : Int32) &&& 0x3f).toInt64)))]))
            refine own_of (fun tgt kon => XS.lload X22.here hx rfl (hb hby d10_142) rfl kon) ?_
            refine own_of (fun tgt kon => XS.iconst X22.here hx rfl (hb hby d10_144) kon) ?_
            refine own_of (fun tgt kon => XS.lshl X22.here hx rfl (hb hby d10_145) rfl kon) ?_
            refine own_of (fun tgt kon => XS.lor X22.here hx rfl (hb hby d10_146) rfl kon) ?_
            show own_Wp _ _ _ _ (T22.setTop (mkF m 147 #[rv a1, iv (1 : Int32), iv p3, iv p4, jv (co RR), ss, iv row, iv abv, iv twv, jv (0 : Int64), ss, jv (FF k), ss, iv (Int32.ofNat (k + 1)), jv (rf ((0 * (bd + 1)) + k)), ss, jv z16, ss] [(.long (((((co RR) &&& ((rf ((0 * (bd + 1)) + (k + 1))) <<< ((1 : Int32) &&& 0x3f).toInt64)) ||| (rf ((0 * (bd + 1)) + k))) ||| ((rf ((0 * (bd + 1)) + k)) <<< ((1 : Int32) &&& 0x3f).toInt64)) ||| ((FF k) <<< ((1 : Int32) &&& 0x3f).toInt64)))]))
            obtain ⟨r1_2, h_r1_2⟩ : ∃ q : Int64, q = (((((co RR) &&& ((rf ((0 * (bd + 1)) + (k + 1))) <<< ((1 : Int32) &&& 0x3f).toInt64)) ||| (rf ((0 * (bd + 1)) + k))) ||| ((rf ((0 * (bd + 1)) + k)) <<< ((1 : Int32) &&& 0x3f).toInt64)) ||| ((FF k) <<< ((1 : Int32) &&& 0x3f).toInt64)) := ⟨_, rfl⟩
            rw [← h_r1_2]
            refine own_of (fun tgt kon => XS.lstore X22.here hx rfl (hb hby d10_147) rfl (l' := #[rv a1, iv (1 : Int32), iv p3, iv p4, jv (co RR), ss, iv row, iv abv, iv twv, jv (0 : Int64), ss, jv (FF k), ss, iv (Int32.ofNat (k + 1)), jv (rf ((0 * (bd + 1)) + k)), ss, jv r1_2, ss]) rfl kon) ?_
            show own_Wp _ _ _ _ (T22.setTop (mkF m 149 #[rv a1, iv (1 : Int32), iv p3, iv p4, jv (co RR), ss, iv row, iv abv, iv twv, jv (0 : Int64), ss, jv (FF k), ss, iv (Int32.ofNat (k + 1)), jv (rf ((0 * (bd + 1)) + k)), ss, jv r1_2, ss] []))
            refine own_of (fun tgt kon => XS.lload X22.here hx rfl (hb hby d10_149) rfl kon) ?_
            refine own_of (fun tgt kon => XS.lconst X22.here hx rfl (hb hby d10_151) kon) ?_
            refine own_of (fun tgt kon => XS.lcmp X22.here hx rfl (hb hby d10_152) rfl kon) ?_
            show own_Wp _ _ _ _ (T22.setTop (mkF m 153 #[rv a1, iv (1 : Int32), iv p3, iv p4, jv (co RR), ss, iv row, iv abv, iv twv, jv (0 : Int64), ss, jv (FF k), ss, iv (Int32.ofNat (k + 1)), jv (rf ((0 * (bd + 1)) + k)), ss, jv r1_2, ss] [(.int (lcmpW (0 : Int64) (0 : Int64)))]))
            have hc153_2 : (lcmpW (0 : Int64) (0 : Int64)) = (0 : Int32) := by decide
            refine own_of (fun tgt kon => XS.ifYes X22.here hx rfl (pc0 := 153) (pc' := 178) rfl (hb hby d10_153) rfl ((if0 _ _).trans (teq hc153_2).1) (by decide) (by decide) kon) ?_
            refine own_of (fun tgt kon => XS.lload X22.here hx rfl (hb hby d10_178) rfl kon) ?_
            refine own_of (fun tgt kon => XS.aloadN X22.here hx rfl (hb hby d10_180) rfl rfl kon) ?_
            obtain ⟨T23, X23, e23, st23⟩ := getF X22 hx hZ hown (host := "") (Or.inl (ow hw 27 rfl)) Via.refl e22 F_columns (g := (mkF m 181 #[rv a1, iv (1 : Int32), iv p3, iv p4, jv (co RR), ss, iv row, iv abv, iv twv, jv (0 : Int64), ss, jv (FF k), ss, iv (Int32.ofNat (k + 1)), jv (rf ((0 * (bd + 1)) + k)), ss, jv r1_2, ss] [(.ref a1), (.long r1_2)])) rfl rfl (hb hby d10_181)
            refine own_of st23 ?_
            clear st23
            refine own_of (fun tgt kon => XS.land X23.here hx rfl (hb hby d10_184) rfl kon) ?_
            show own_Wp _ _ _ _ (T23.setTop (mkF m 185 #[rv a1, iv (1 : Int32), iv p3, iv p4, jv (co RR), ss, iv row, iv abv, iv twv, jv (0 : Int64), ss, jv (FF k), ss, iv (Int32.ofNat (k + 1)), jv (rf ((0 * (bd + 1)) + k)), ss, jv r1_2, ss] [(.long (r1_2 &&& cols))]))
            refine own_of (fun tgt kon => XS.lstore X23.here hx rfl (hb hby d10_185) rfl (l' := #[rv a1, iv (1 : Int32), iv p3, iv p4, jv (co RR), ss, iv row, iv abv, iv twv, jv (0 : Int64), ss, jv (FF k), ss, iv (Int32.ofNat (k + 1)), jv (rf ((0 * (bd + 1)) + k)), ss, jv (r1_2 &&& cols), ss]) rfl kon) ?_
            refine own_of (fun tgt kon => XS.iload X23.here hx rfl (hb hby d10_187) rfl kon) ?_
            refine own_of (fun tgt kon => XS.aloadN X23.here hx rfl (hb hby d10_189) rfl rfl kon) ?_
            obtain ⟨T24, X24, e24, st24⟩ := getF X23 hx hZ hown (host := "") (Or.inl (ow hw 20 rfl)) Via.refl e23 F_headBound (g := (mkF m 190 #[rv a1, iv (1 : Int32), iv p3, iv p4, jv (co RR), ss, iv row, iv abv, iv twv, jv (0 : Int64), ss, jv (FF k), ss, iv (Int32.ofNat (k + 1)), jv (rf ((0 * (bd + 1)) + k)), ss, jv (r1_2 &&& cols), ss] [(.ref a1), (.int (Int32.ofNat (k + 1)))])) rfl rfl (hb hby d10_190)
            refine own_of st24 ?_
            clear st24
            show own_Wp _ _ _ _ (T24.setTop (mkF m 193 #[rv a1, iv (1 : Int32), iv p3, iv p4, jv (co RR), ss, iv row, iv abv, iv twv, jv (0 : Int64), ss, jv (FF k), ss, iv (Int32.ofNat (k + 1)), jv (rf ((0 * (bd + 1)) + k)), ss, jv (r1_2 &&& cols), ss] [(.int p5), (.int (Int32.ofNat (k + 1)))]))
            have J218 : ∀ (T25 : State) (lc25 : List Loc) (q3 : Int64), (Stand p l e ({ frames := 1, cells := 0, slots := 0, locals := 15 } : Room) s m #[(.ref a1), (.int (1 : Int32)), (.int p3), (.int p4)] below meth c T25 lc25 0 0) → (T25.heap = h19) → (Fr n0 lc25) → (q3 = if ph < k + 1 then (r1_2 &&& cols) &&& ((FF ph) ||| out) else (r1_2 &&& cols)) → own_Wp p.tables e below (own_K ({ frames := 1, cells := 0, slots := 0, locals := 15 } : Room) s below (Q_rmro1 Z a1 p3 p4 ac ao ar am cp co rf mf FF lv p5 cols out bd ph RL ML RR h0 n0)) (T25.setTop (mkF m 218 #[rv a1, iv (1 : Int32), iv p3, iv p4, jv (co RR), ss, iv row, iv abv, iv twv, jv (0 : Int64), ss, jv (FF k), ss, iv (Int32.ofNat (k + 1)), jv (rf ((0 * (bd + 1)) + k)), ss, jv q3, ss] [])) := by
              intro T25 lc25 q3 X25 e25 N25 h_q3
              refine own_of (fun tgt kon => XS.aloadN X25.here hx rfl (hb hby d10_218) rfl rfl kon) ?_
              obtain ⟨T26, X26, e26, st26⟩ := getF X25 hx hZ hown (host := "") (Or.inl (ow hw 39 rfl)) Via.refl e25 F_rows (g := (mkF m 219 #[rv a1, iv (1 : Int32), iv p3, iv p4, jv (co RR), ss, iv row, iv abv, iv twv, jv (0 : Int64), ss, jv (FF k), ss, iv (Int32.ofNat (k + 1)), jv (rf ((0 * (bd + 1)) + k)), ss, jv q3, ss] [(.ref a1)])) rfl rfl (hb hby d10_219)
              refine own_of st26 ?_
              clear st26
              refine own_of (fun tgt kon => XS.iload X26.here hx rfl (hb hby d10_222) rfl kon) ?_
              refine own_of (fun tgt kon => XS.iload X26.here hx rfl (hb hby d10_224) rfl kon) ?_
              refine own_of (fun tgt kon => XS.iadd X26.here hx rfl (hb hby d10_226) rfl kon) ?_
              show own_Wp _ _ _ _ (T26.setTop (mkF m 227 #[rv a1, iv (1 : Int32), iv p3, iv p4, jv (co RR), ss, iv row, iv abv, iv twv, jv (0 : Int64), ss, jv (FF k), ss, iv (Int32.ofNat (k + 1)), jv (rf ((0 * (bd + 1)) + k)), ss, jv q3, ss] [(.int (row + (Int32.ofNat (k + 1)))), (.ref ar)]))
              refine own_of (fun tgt kon => XS.lload X26.here hx rfl (hb hby d10_227) rfl kon) ?_
              obtain ⟨T27, h27, X27, e27, W27, Aq27, st27⟩ := own_stJ X26 hx hZ e26 V_ar (j := (row + (Int32.ofNat (k + 1)))) (i := ((1 * (bd + 1)) + (k + 1))) (x := q3) (by have q1 := own_addI t_row t_d (by omega) (by omega); omega) (by omega) (g := (mkF m 229 #[rv a1, iv (1 : Int32), iv p3, iv p4, jv (co RR), ss, iv row, iv abv, iv twv, jv (0 : Int64), ss, jv (FF k), ss, iv (Int32.ofNat (k + 1)), jv (rf ((0 * (bd + 1)) + k)), ss, jv q3, ss] [(.long q3), (.int (row + (Int32.ofNat (k + 1)))), (.ref ar)])) rfl rfl (hb hby d10_229)
              refine own_of st27 ?_
              clear st27
              replace Zs := Nat.le_trans Zs (Keep.of_wr W27).1
              replace K0 := K0.wr W27 (Or.inl (List.mem_of_getElem? (i := 0) rfl))
              replace E_a1 := E_a1.wr W27
              replace F_columnsOf := F_columnsOf.other W27 (Or.inl ne_a1_ar)
              replace F_codePoints := F_codePoints.other W27 (Or.inl ne_a1_ar)
              replace F_matches := F_matches.other W27 (Or.inl ne_a1_ar)
              replace F_rows := F_rows.other W27 (Or.inl ne_a1_ar)
              replace F_levels := F_levels.other W27 (Or.inl ne_a1_ar)
              replace F_columns := F_columns.other W27 (Or.inl ne_a1_ar)
              replace F_headBound := F_headBound.other W27 (Or.inl ne_a1_ar)
              replace F_outsideHead := F_outsideHead.other W27 (Or.inl ne_a1_ar)
              replace V_ac := V_ac.other W27 ne_ac_ar
              replace V_ao := V_ao.other W27 ne_ao_ar
              replace V_am := V_am.other W27 ne_am_ar
              replace V_ar := Aq27
              clear Aq27
              have hst : q3 = FF (k + 1) := by
                rw [hFs k]
                dsimp only
                rw [if_pos rfl, h_q3, h_r1_2]
              rw [hst] at V_ar ⊢
              replace V_ar := V_ar.fn (f' := fun y => .long (own_rk rf (1 * (bd + 1)) FF (k + 1 + 1) y)) (fun y hy => (own_setJ _ _ _ y).trans (congrArg Value.long (own_setRk _ _ _ _ y)))
              have N27 := Fr.snoc X27 N25 g_ar
              refine own_of (fun tgt kon => XS.lload X27.here hx rfl (hb hby d10_230) rfl kon) ?_
              refine own_of (fun tgt kon => XS.lstore X27.here hx rfl (hb hby d10_232) rfl (l' := #[rv a1, iv (1 : Int32), iv p3, iv p4, jv (co RR), ss, iv row, iv abv, iv twv, jv (0 : Int64), ss, jv (FF (k + 1)), ss, iv (Int32.ofNat (k + 1)), jv (rf ((0 * (bd + 1)) + k)), ss, jv (FF (k + 1)), ss]) rfl kon) ?_
              refine own_of (fun tgt kon => XS.iinc X27.here hx rfl (hb hby d10_234) rfl (l' := #[rv a1, iv (1 : Int32), iv p3, iv p4, jv (co RR), ss, iv row, iv abv, iv twv, jv (0 : Int64), ss, jv (FF (k + 1)), ss, iv ((Int32.ofNat (k + 1)) + (1 : Int32)), jv (rf ((0 * (bd + 1)) + k)), ss, jv (FF (k + 1)), ss]) rfl kon) ?_
              show own_Wp _ _ _ _ (T27.setTop (mkF m 237 #[rv a1, iv (1 : Int32), iv p3, iv p4, jv (co RR), ss, iv row, iv abv, iv twv, jv (0 : Int64), ss, jv (FF (k + 1)), ss, iv ((Int32.ofNat (k + 1)) + (1 : Int32)), jv (rf ((0 * (bd + 1)) + k)), ss, jv (FF (k + 1)), ss] []))
              refine own_of (fun tgt kon => XS.goto X27.here hx rfl (pc0 := 237) (pc' := 96) rfl (hb hby d10_237) (by decide) (by decide) kon) ?_
              show own_Wp _ _ _ _ (T27.setTop (mkF m 96 #[rv a1, iv (1 : Int32), iv p3, iv p4, jv (co RR), ss, iv row, iv abv, iv twv, jv (0 : Int64), ss, jv (FF (k + 1)), ss, iv ((Int32.ofNat (k + 1)) + (1 : Int32)), jv (rf ((0 * (bd + 1)) + k)), ss, jv (FF (k + 1)), ss] []))
              rw [own_succ]
              exact ih T27 _ _ (k + 1) ((rf ((0 * (bd + 1)) + k))) ((FF (k + 1))) X27 e27 N27 Zs K0 E_a1 F_columnsOf F_codePoints F_matches F_rows F_levels F_columns F_headBound F_outsideHead V_ac V_ao V_ar V_am (by omega) (by omega)
            show own_Wp _ _ _ _ (T24.setTop (mkF m 193 #[rv a1, iv (1 : Int32), iv p3, iv p4, jv (co RR), ss, iv row, iv abv, iv twv, jv (0 : Int64), ss, jv (FF k), ss, iv (Int32.ofNat (k + 1)), jv (rf ((0 * (bd + 1)) + k)), ss, jv (r1_2 &&& cols), ss] [(.int p5), (.int (Int32.ofNat (k + 1)))]))
            by_cases hc193 : p5 < (Int32.ofNat (k + 1))
            · skip
              refine own_of (fun tgt kon => XS.icmpNo X24.here hx rfl (hb hby d10_193) rfl (tlt hc193).2.2.2 kon) ?_
              show own_Wp _ _ _ _ (T24.setTop (mkF m 196 #[rv a1, iv (1 : Int32), iv p3, iv p4, jv (co RR), ss, iv row, iv abv, iv twv, jv (0 : Int64), ss, jv (FF k), ss, iv (Int32.ofNat (k + 1)), jv (rf ((0 * (bd + 1)) + k)), ss, jv (r1_2 &&& cols), ss] []))
              have hlb : ph < k + 1 := by
                have q := hc193
                rw [Int32.lt_iff_toInt_lt, hhb, t_d] at q
                omega
              refine own_of (fun tgt kon => XS.lload X24.here hx rfl (hb hby d10_196) rfl kon) ?_
              refine own_of (fun tgt kon => XS.aloadN X24.here hx rfl (hb hby d10_198) rfl rfl kon) ?_
              obtain ⟨T28, X28, e28, st28⟩ := getF X24 hx hZ hown (host := "") (Or.inl (ow hw 39 rfl)) Via.refl e24 F_rows (g := (mkF m 199 #[rv a1, iv (1 : Int32), iv p3, iv p4, jv (co RR), ss, iv row, iv abv, iv twv, jv (0 : Int64), ss, jv (FF k), ss, iv (Int32.ofNat (k + 1)), jv (rf ((0 * (bd + 1)) + k)), ss, jv (r1_2 &&& cols), ss] [(.ref a1), (.long (r1_2 &&& cols))])) rfl rfl (hb hby d10_199)
              refine own_of st28 ?_
              clear st28
              refine own_of (fun tgt kon => XS.iload X28.here hx rfl (hb hby d10_202) rfl kon) ?_
              refine own_of (fun tgt kon => XS.aloadN X28.here hx rfl (hb hby d10_204) rfl rfl kon) ?_
              show own_Wp _ _ _ _ (T28.setTop (mkF m 205 #[rv a1, iv (1 : Int32), iv p3, iv p4, jv (co RR), ss, iv row, iv abv, iv twv, jv (0 : Int64), ss, jv (FF k), ss, iv (Int32.ofNat (k + 1)), jv (rf ((0 * (bd + 1)) + k)), ss, jv (r1_2 &&& cols), ss] [(.ref a1), (.int row), (.ref ar), (.long (r1_2 &&& cols))]))
              obtain ⟨T29, X29, e29, st29⟩ := getF X28 hx hZ hown (host := "") (Or.inl (ow hw 20 rfl)) Via.refl e28 F_headBound (g := (mkF m 205 #[rv a1, iv (1 : Int32), iv p3, iv p4, jv (co RR), ss, iv row, iv abv, iv twv, jv (0 : Int64), ss, jv (FF k), ss, iv (Int32.ofNat (k + 1)), jv (rf ((0 * (bd + 1)) + k)), ss, jv (r1_2 &&& cols), ss] [(.ref a1), (.int row), (.ref ar), (.long (r1_2 &&& cols))])) rfl rfl (hb hby d10_205)
              refine own_of st29 ?_
              clear st29
              refine own_of (fun tgt kon => XS.iadd X29.here hx rfl (hb hby d10_208) rfl kon) ?_
              refine own_laload X29 hx hZ e29 V_ar (j := (row + p5)) (i := ((1 * (bd + 1)) + ph)) (v := (FF ph)) (by have q1 := own_addI t_row hhb (by omega) (by omega); omega) (by omega) (by show Value.long (own_rk _ _ _ _ _) = _; rw [own_rk_in (by omega)]) rfl rfl (hb hby d10_209) ?_
              refine own_of (fun tgt kon => XS.aloadN X29.here hx rfl (hb hby d10_210) rfl rfl kon) ?_
              obtain ⟨T30, X30, e30, st30⟩ := getF X29 hx hZ hown (host := "") (Or.inl (ow hw 32 rfl)) Via.refl e29 F_outsideHead (g := (mkF m 211 #[rv a1, iv (1 : Int32), iv p3, iv p4, jv (co RR), ss, iv row, iv abv, iv twv, jv (0 : Int64), ss, jv (FF k), ss, iv (Int32.ofNat (k + 1)), jv (rf ((0 * (bd + 1)) + k)), ss, jv (r1_2 &&& cols), ss] [(.ref a1), (.long (FF ph)), (.long (r1_2 &&& cols))])) rfl rfl (hb hby d10_211)
              refine own_of st30 ?_
              clear st30
              show own_Wp _ _ _ _ (T30.setTop (mkF m 214 #[rv a1, iv (1 : Int32), iv p3, iv p4, jv (co RR), ss, iv row, iv abv, iv twv, jv (0 : Int64), ss, jv (FF k), ss, iv (Int32.ofNat (k + 1)), jv (rf ((0 * (bd + 1)) + k)), ss, jv (r1_2 &&& cols), ss] [(.long out), (.long (FF ph)), (.long (r1_2 &&& cols))]))
              refine own_of (fun tgt kon => XS.lor X30.here hx rfl (hb hby d10_214) rfl kon) ?_
              refine own_of (fun tgt kon => XS.land X30.here hx rfl (hb hby d10_215) rfl kon) ?_
              refine own_of (fun tgt kon => XS.lstore X30.here hx rfl (hb hby d10_216) rfl (l' := #[rv a1, iv (1 : Int32), iv p3, iv p4, jv (co RR), ss, iv row, iv abv, iv twv, jv (0 : Int64), ss, jv (FF k), ss, iv (Int32.ofNat (k + 1)), jv (rf ((0 * (bd + 1)) + k)), ss, jv ((r1_2 &&& cols) &&& ((FF ph) ||| out)), ss]) rfl kon) ?_
              show own_Wp _ _ _ _ (T30.setTop (mkF m 218 #[rv a1, iv (1 : Int32), iv p3, iv p4, jv (co RR), ss, iv row, iv abv, iv twv, jv (0 : Int64), ss, jv (FF k), ss, iv (Int32.ofNat (k + 1)), jv (rf ((0 * (bd + 1)) + k)), ss, jv ((r1_2 &&& cols) &&& ((FF ph) ||| out)), ss] []))
              exact J218 T30 _ (((r1_2 &&& cols) &&& ((FF ph) ||| out))) X30 e30 N19 (by exact (if_pos hlb).symm)
            · skip
              refine own_of (fun tgt kon => XS.icmpYes X24.here hx rfl (pc0 := 193) (pc' := 218) rfl (hb hby d10_193) rfl (flt hc193).2.2.2 (by decide) (by decide) kon) ?_
              show own_Wp _ _ _ _ (T24.setTop (mkF m 218 #[rv a1, iv (1 : Int32), iv p3, iv p4, jv (co RR), ss, iv row, iv abv, iv twv, jv (0 : Int64), ss, jv (FF k), ss, iv (Int32.ofNat (k + 1)), jv (rf ((0 * (bd + 1)) + k)), ss, jv (r1_2 &&& cols), ss] []))
              exact J218 T24 _ ((r1_2 &&& cols)) X24 e24 N19 (by exact (if_neg (fun q => hc193 (by rw [Int32.lt_iff_toInt_lt, hhb, t_d]; omega))).symm)
          · skip
            refine own_of (fun tgt kon => XS.icmpYes X20.here hx rfl (pc0 := 102) (pc' := 240) rfl (hb hby d10_102) rfl (flt hc102_2).2.1 (by decide) (by decide) kon) ?_
            refine own_of (fun tgt kon => XS.lload X20.here hx rfl (hb hby d10_240) rfl kon) ?_
            show own_Wp _ _ _ _ (T20.setTop (mkF m 242 #[rv a1, iv (1 : Int32), iv p3, iv p4, jv (co RR), ss, iv row, iv abv, iv twv, jv (0 : Int64), ss, jv (FF k), ss, iv (Int32.ofNat (k + 1)), jv z14, ss, jv z16, ss] [(.long (FF k))]))
            refine own_of (fun tgt kon => XS.lconst X20.here hx rfl (hb hby d10_242) kon) ?_
            refine own_of (fun tgt kon => XS.lcmp X20.here hx rfl (hb hby d10_243) rfl kon) ?_
            by_cases hc244 : (lcmpW (FF k) (0 : Int64)) = (0 : Int32)
            · skip
              refine own_of (fun tgt kon => XS.ifYes X20.here hx rfl (pc0 := 244) (pc' := 251) rfl (hb hby d10_244) rfl ((if0 _ _).trans (teq hc244).1) (by decide) (by decide) kon) ?_
              refine own_of (fun tgt kon => XS.iconst X20.here hx rfl (hb hby d10_251) kon) ?_
              show own_Wp _ _ _ _ (T20.setTop (mkF m 252 #[rv a1, iv (1 : Int32), iv p3, iv p4, jv (co RR), ss, iv row, iv abv, iv twv, jv (0 : Int64), ss, jv (FF k), ss, iv (Int32.ofNat (k + 1)), jv z14, ss, jv z16, ss] [(.int (0 : Int32))]))
              refine own_ret X20 hlk (some (.int (0 : Int32))) (own_rtI hrt) (fun fs hr => retN X20 hx (t := .boolean) hrt (by simp) (hb hby d10_252) hr) ?_ (by decide) (by decide)
              rw [e20]
              have hge : k = bd := by
                have q := hc102_2
                rw [Int32.lt_iff_toInt_lt, hlv, own_ofN (by omega)] at q
                omega
              subst hge
              refine ⟨?_, N19, K0, V_ar, V_am⟩
              rw [if_pos ((own_lc0 _).mp hc244)]
            · skip
              refine own_of (fun tgt kon => XS.ifNo X20.here hx rfl (hb hby d10_244) rfl ((if0 _ _).trans (feq hc244).1) kon) ?_
              refine own_of (fun tgt kon => XS.iconst X20.here hx rfl (hb hby d10_247) kon) ?_
              refine own_of (fun tgt kon => XS.goto X20.here hx rfl (pc0 := 248) (pc' := 252) rfl (hb hby d10_248) (by decide) (by decide) kon) ?_
              show own_Wp _ _ _ _ (T20.setTop (mkF m 252 #[rv a1, iv (1 : Int32), iv p3, iv p4, jv (co RR), ss, iv row, iv abv, iv twv, jv (0 : Int64), ss, jv (FF k), ss, iv (Int32.ofNat (k + 1)), jv z14, ss, jv z16, ss] [(.int (1 : Int32))]))
              refine own_ret X20 hlk (some (.int (1 : Int32))) (own_rtI hrt) (fun fs hr => retN X20 hx (t := .boolean) hrt (by simp) (hb hby d10_252) hr) ?_ (by decide) (by decide)
              rw [e20]
              have hge : k = bd := by
                have q := hc102_2
                rw [Int32.lt_iff_toInt_lt, hlv, own_ofN (by omega)] at q
                omega
              subst hge
              refine ⟨?_, N19, K0, V_ar, V_am⟩
              rw [if_neg (fun q => hc244 ((own_lc0 _).mpr q))]
      show own_Wp _ _ _ _ (T18.setTop (mkF m 96 #[rv a1, iv (1 : Int32), iv p3, iv p4, jv (co RR), ss, iv row, iv abv, iv twv, jv (0 : Int64), ss, jv (FF (0 + 1)), ss, iv (Int32.ofNat (1 + 1)), jv (rf ((0 * (bd + 1)) + 0)), ss, jv (FF (0 + 1)), ss] []))
      exact J96 _ T18 _ _ (1) ((rf ((0 * (bd + 1)) + 0))) ((FF (0 + 1))) X18 e18 N18 Zs K0 E_a1 F_columnsOf F_codePoints F_matches F_rows F_levels F_columns F_headBound F_outsideHead V_ac V_ao V_ar V_am (by omega) (Nat.lt_succ_self _)
    show own_Wp _ _ _ _ (T15.setTop (mkF m 193 #[rv a1, iv (1 : Int32), iv p3, iv p4, jv (co RR), ss, iv row, iv abv, iv twv, jv (0 : Int64), ss, jv (FF 0), ss, iv (1 : Int32), jv (rf ((0 * (bd + 1)) + 0)), ss, jv (r1 &&& cols), ss] [(.int p5), (.int (1 : Int32))]))
    by_cases hc193 : p5 < (1 : Int32)
    · skip
      refine own_of (fun tgt kon => XS.icmpNo X15.here hx rfl (hb hby d10_193) rfl (tlt hc193).2.2.2 kon) ?_
      show own_Wp _ _ _ _ (T15.setTop (mkF m 196 #[rv a1, iv (1 : Int32), iv p3, iv p4, jv (co RR), ss, iv row, iv abv, iv twv, jv (0 : Int64), ss, jv (FF 0), ss, iv (1 : Int32), jv (rf ((0 * (bd + 1)) + 0)), ss, jv (r1 &&& cols), ss] []))
      have hlb : ph < 0 + 1 := by
        have q := hc193
        rw [Int32.lt_iff_toInt_lt, hhb, t_d] at q
        omega
      refine own_of (fun tgt kon => XS.lload X15.here hx rfl (hb hby d10_196) rfl kon) ?_
      refine own_of (fun tgt kon => XS.aloadN X15.here hx rfl (hb hby d10_198) rfl rfl kon) ?_
      obtain ⟨T31, X31, e31, st31⟩ := getF X15 hx hZ hown (host := "") (Or.inl (ow hw 39 rfl)) Via.refl e15 F_rows (g := (mkF m 199 #[rv a1, iv (1 : Int32), iv p3, iv p4, jv (co RR), ss, iv row, iv abv, iv twv, jv (0 : Int64), ss, jv (FF 0), ss, iv (1 : Int32), jv (rf ((0 * (bd + 1)) + 0)), ss, jv (r1 &&& cols), ss] [(.ref a1), (.long (r1 &&& cols))])) rfl rfl (hb hby d10_199)
      refine own_of st31 ?_
      clear st31
      refine own_of (fun tgt kon => XS.iload X31.here hx rfl (hb hby d10_202) rfl kon) ?_
      refine own_of (fun tgt kon => XS.aloadN X31.here hx rfl (hb hby d10_204) rfl rfl kon) ?_
      show own_Wp _ _ _ _ (T31.setTop (mkF m 205 #[rv a1, iv (1 : Int32), iv p3, iv p4, jv (co RR), ss, iv row, iv abv, iv twv, jv (0 : Int64), ss, jv (FF 0), ss, iv (1 : Int32), jv (rf ((0 * (bd + 1)) + 0)), ss, jv (r1 &&& cols), ss] [(.ref a1), (.int row), (.ref ar), (.long (r1 &&& cols))]))
      obtain ⟨T32, X32, e32, st32⟩ := getF X31 hx hZ hown (host := "") (Or.inl (ow hw 20 rfl)) Via.refl e31 F_headBound (g := (mkF m 205 #[rv a1, iv (1 : Int32), iv p3, iv p4, jv (co RR), ss, iv row, iv abv, iv twv, jv (0 : Int64), ss, jv (FF 0), ss, iv (1 : Int32), jv (rf ((0 * (bd + 1)) + 0)), ss, jv (r1 &&& cols), ss] [(.ref a1), (.int row), (.ref ar), (.long (r1 &&& cols))])) rfl rfl (hb hby d10_205)
      refine own_of st32 ?_
      clear st32
      refine own_of (fun tgt kon => XS.iadd X32.here hx rfl (hb hby d10_208) rfl kon) ?_
      refine own_laload X32 hx hZ e32 V_ar (j := (row + p5)) (i := ((1 * (bd + 1)) + ph)) (v := (FF ph)) (by have q1 := own_addI t_row hhb (by omega) (by omega); omega) (by omega) (by show Value.long (own_rk _ _ _ _ _) = _; rw [own_rk_in (by omega)]) rfl rfl (hb hby d10_209) ?_
      refine own_of (fun tgt kon => XS.aloadN X32.here hx rfl (hb hby d10_210) rfl rfl kon) ?_
      obtain ⟨T33, X33, e33, st33⟩ := getF X32 hx hZ hown (host := "") (Or.inl (ow hw 32 rfl)) Via.refl e32 F_outsideHead (g := (mkF m 211 #[rv a1, iv (1 : Int32), iv p3, iv p4, jv (co RR), ss, iv row, iv abv, iv twv, jv (0 : Int64), ss, jv (FF 0), ss, iv (1 : Int32), jv (rf ((0 * (bd + 1)) + 0)), ss, jv (r1 &&& cols), ss] [(.ref a1), (.long (FF ph)), (.long (r1 &&& cols))])) rfl rfl (hb hby d10_211)
      refine own_of st33 ?_
      clear st33
      show own_Wp _ _ _ _ (T33.setTop (mkF m 214 #[rv a1, iv (1 : Int32), iv p3, iv p4, jv (co RR), ss, iv row, iv abv, iv twv, jv (0 : Int64), ss, jv (FF 0), ss, iv (1 : Int32), jv (rf ((0 * (bd + 1)) + 0)), ss, jv (r1 &&& cols), ss] [(.long out), (.long (FF ph)), (.long (r1 &&& cols))]))
      refine own_of (fun tgt kon => XS.lor X33.here hx rfl (hb hby d10_214) rfl kon) ?_
      refine own_of (fun tgt kon => XS.land X33.here hx rfl (hb hby d10_215) rfl kon) ?_
      refine own_of (fun tgt kon => XS.lstore X33.here hx rfl (hb hby d10_216) rfl (l' := #[rv a1, iv (1 : Int32), iv p3, iv p4, jv (co RR), ss, iv row, iv abv, iv twv, jv (0 : Int64), ss, jv (FF 0), ss, iv (1 : Int32), jv (rf ((0 * (bd + 1)) + 0)), ss, jv ((r1 &&& cols) &&& ((FF ph) ||| out)), ss]) rfl kon) ?_
      show own_Wp _ _ _ _ (T33.setTop (mkF m 218 #[rv a1, iv (1 : Int32), iv p3, iv p4, jv (co RR), ss, iv row, iv abv, iv twv, jv (0 : Int64), ss, jv (FF 0), ss, iv (1 : Int32), jv (rf ((0 * (bd + 1)) + 0)), ss, jv ((r1 &&& cols) &&& ((FF ph) ||| out)), ss] []))
      exact J218 T33 _ (((r1 &&& cols) &&& ((FF ph) ||| out))) X33 e33 N10 (by exact (if_pos hlb).symm)
    · skip
      refine own_of (fun tgt kon => XS.icmpYes X15.here hx rfl (pc0 := 193) (pc' := 218) rfl (hb hby d10_193) rfl (flt hc193).2.2.2 (by decide) (by decide) kon) ?_
      show own_Wp _ _ _ _ (T15.setTop (mkF m 218 #[rv a1, iv (1 : Int32), iv p3, iv p4, jv (co RR), ss, iv row, iv abv, iv twv, jv (0 : Int64), ss, jv (FF 0), ss, iv (1 : Int32), jv (rf ((0 * (bd + 1)) + 0)), ss, jv (r1 &&& cols), ss] []))
      exact J218 T15 _ ((r1 &&& cols)) X15 e15 N10 (by exact (if_neg (fun q => hc193 (by rw [Int32.lt_iff_toInt_lt, hhb, t_d]; omega))).symm)
  · skip
    refine own_of (fun tgt kon => XS.icmpYes X11.here hx rfl (pc0 := 102) (pc' := 240) rfl (hb hby d10_102) rfl (flt hc102).2.1 (by decide) (by decide) kon) ?_
    refine own_of (fun tgt kon => XS.lload X11.here hx rfl (hb hby d10_240) rfl kon) ?_
    show own_Wp _ _ _ _ (T11.setTop (mkF m 242 #[rv a1, iv (1 : Int32), iv p3, iv p4, jv (co RR), ss, iv row, iv abv, iv twv, jv (0 : Int64), ss, jv (FF 0), ss, iv (1 : Int32), uu, uu, uu, uu] [(.long (FF 0))]))
    refine own_of (fun tgt kon => XS.lconst X11.here hx rfl (hb hby d10_242) kon) ?_
    refine own_of (fun tgt kon => XS.lcmp X11.here hx rfl (hb hby d10_243) rfl kon) ?_
    by_cases hc244 : (lcmpW (FF 0) (0 : Int64)) = (0 : Int32)
    · skip
      refine own_of (fun tgt kon => XS.ifYes X11.here hx rfl (pc0 := 244) (pc' := 251) rfl (hb hby d10_244) rfl ((if0 _ _).trans (teq hc244).1) (by decide) (by decide) kon) ?_
      refine own_of (fun tgt kon => XS.iconst X11.here hx rfl (hb hby d10_251) kon) ?_
      show own_Wp _ _ _ _ (T11.setTop (mkF m 252 #[rv a1, iv (1 : Int32), iv p3, iv p4, jv (co RR), ss, iv row, iv abv, iv twv, jv (0 : Int64), ss, jv (FF 0), ss, iv (1 : Int32), uu, uu, uu, uu] [(.int (0 : Int32))]))
      refine own_ret X11 hlk (some (.int (0 : Int32))) (own_rtI hrt) (fun fs hr => retN X11 hx (t := .boolean) hrt (by simp) (hb hby d10_252) hr) ?_ (by decide) (by decide)
      rw [e11]
      have hge : bd = 0 := by
        have q := hc102
        rw [Int32.lt_iff_toInt_lt, hlv, show (1 : Int32).toInt = 1 from by decide] at q
        omega
      subst hge
      refine ⟨?_, N10, K0, V_ar, V_am⟩
      rw [if_pos ((own_lc0 _).mp hc244)]
    · skip
      refine own_of (fun tgt kon => XS.ifNo X11.here hx rfl (hb hby d10_244) rfl ((if0 _ _).trans (feq hc244).1) kon) ?_
      refine own_of (fun tgt kon => XS.iconst X11.here hx rfl (hb hby d10_247) kon) ?_
      refine own_of (fun tgt kon => XS.goto X11.here hx rfl (pc0 := 248) (pc' := 252) rfl (hb hby d10_248) (by decide) (by decide) kon) ?_
      show own_Wp _ _ _ _ (T11.setTop (mkF m 252 #[rv a1, iv (1 : Int32), iv p3, iv p4, jv (co RR), ss, iv row, iv abv, iv twv, jv (0 : Int64), ss, jv (FF 0), ss, iv (1 : Int32), uu, uu, uu, uu] [(.int (1 : Int32))]))
      refine own_ret X11 hlk (some (.int (1 : Int32))) (own_rtI hrt) (fun fs hr => retN X11 hx (t := .boolean) hrt (by simp) (hb hby d10_252) hr) ?_ (by decide) (by decide)
      rw [e11]
      have hge : bd = 0 := by
        have q := hc102
        rw [Int32.lt_iff_toInt_lt, hlv, show (1 : Int32).toInt = 1 from by decide] at q
        omega
      subst hge
      refine ⟨?_, N10, K0, V_ar, V_am⟩
      rw [if_neg (fun q => hc244 ((own_lc0 _).mpr q))]
theorem d10_51 : decode prog_6_method_2_code 51 = .ok (.lload 4, 2) := by decide +kernel
theorem d10_53 : decode prog_6_method_2_code 53 = .ok (.iconst 1, 1) := by decide +kernel
theorem d10_54 : decode prog_6_method_2_code 54 = .ok (.lshl, 1) := by decide +kernel
theorem d10_55 : decode prog_6_method_2_code 55 = .ok (.aload_n 0, 1) := by decide +kernel
theorem d10_56 : decode prog_6_method_2_code 56 = .ok (.getfield 48, 3) := by decide +kernel
theorem d10_59 : decode prog_6_method_2_code 59 = .ok (.iload_n 1, 1) := by decide +kernel
theorem d10_60 : decode prog_6_method_2_code 60 = .ok (.iconst 1, 1) := by decide +kernel
theorem d10_61 : decode prog_6_method_2_code 61 = .ok (.isub, 1) := by decide +kernel
theorem d10_62 : decode prog_6_method_2_code 62 = .ok (.laload, 1) := by decide +kernel
theorem d10_63 : decode prog_6_method_2_code 63 = .ok (.land, 1) := by decide +kernel
theorem d10_64 : decode prog_6_method_2_code 64 = .ok (.goto 4, 3) := by decide +kernel
theorem d10_156 : decode prog_6_method_2_code 156 = .ok (.lload 16, 2) := by decide +kernel
theorem d10_158 : decode prog_6_method_2_code 158 = .ok (.lload 9, 2) := by decide +kernel
theorem d10_160 : decode prog_6_method_2_code 160 = .ok (.aload_n 0, 1) := by decide +kernel
theorem d10_161 : decode prog_6_method_2_code 161 = .ok (.getfield 45, 3) := by decide +kernel
theorem d10_164 : decode prog_6_method_2_code 164 = .ok (.iload 8, 2) := by decide +kernel
theorem d10_166 : decode prog_6_method_2_code 166 = .ok (.iload 13, 2) := by decide +kernel
theorem d10_168 : decode prog_6_method_2_code 168 = .ok (.iadd, 1) := by decide +kernel
theorem d10_169 : decode prog_6_method_2_code 169 = .ok (.iconst 1, 1) := by decide +kernel
theorem d10_170 : decode prog_6_method_2_code 170 = .ok (.isub, 1) := by decide +kernel
theorem d10_171 : decode prog_6_method_2_code 171 = .ok (.laload, 1) := by decide +kernel
theorem d10_172 : decode prog_6_method_2_code 172 = .ok (.iconst 2, 1) := by decide +kernel
theorem d10_173 : decode prog_6_method_2_code 173 = .ok (.lshl, 1) := by decide +kernel
theorem d10_174 : decode prog_6_method_2_code 174 = .ok (.land, 1) := by decide +kernel
theorem d10_175 : decode prog_6_method_2_code 175 = .ok (.lor, 1) := by decide +kernel
theorem d10_176 : decode prog_6_method_2_code 176 = .ok (.lstore 16, 2) := by decide +kernel
def Q_rmro2 (Z : State) (a1 : Addr) (p3 : Int32) (p4 : Int32) (ac : Addr) (ao : Addr) (ar : Addr) (am : Addr) (cp : Nat → Int32) (co : Nat → Int64) (rf : Nat → Int64) (mf : Nat → Int64) (FF : Nat → Int64) (lv : Int32) (p5 : Int32) (cols : Int64) (out : Int64) (bd : Nat) (ph : Nat) (RL : Nat) (ML : Nat) (RR : Nat) (h0 : Heap) (n0 : Nat) (v : Option Value) (h : Heap) (L : List Loc) : Prop := v = some (.int (if FF bd = 0 then 0 else 1)) ∧ Fr n0 L ∧ Keep h0 h [ar, am] ∧ own_Ar Z h ar .long RL (fun y => .long (own_rk rf (2 * (bd + 1)) FF (bd + 1) y)) ∧ own_Ar Z h am .long ML (fun k => .long (own_upd mf 2 (co RR) k))
set_option maxRecDepth 65536 in
set_option maxHeartbeats 40000000 in
theorem rmro2 (l : Launch) (Z : State) (a0 : Array Value) (hw : ∀ d ∈ tables_1, d.before a0 Z = true) (ws : List Jvm.Cond) (a1 : Addr) (p3 : Int32) (p4 : Int32) (ac : Addr) (ao : Addr) (ar : Addr) (am : Addr) (cp : Nat → Int32) (co : Nat → Int64) (rf : Nat → Int64) (mf : Nat → Int64) (FF : Nat → Int64) (lv : Int32) (p5 : Int32) (cols : Int64) (out : Int64) (bd : Nat) (ph : Nat) (RL : Nat) (ML : Nat) (RR : Nat) (h0 : Heap) (n0 : Nat) (Z0 : n0 ≤ h0.size) (E_a1 : Exa Z h0 a1 "com/example/close_words/closewords/BitRows") (F_columnsOf : Fld Z h0 a1 "com/example/close_words/closewords/BitRows" "columnsOf" "[J" (.ref ao)) (F_codePoints : Fld Z h0 a1 "com/example/close_words/closewords/BitRows" "codePoints" "[I" (.ref ac)) (F_matches : Fld Z h0 a1 "com/example/close_words/closewords/BitRows" "matches" "[J" (.ref am)) (F_rows : Fld Z h0 a1 "com/example/close_words/closewords/BitRows" "rows" "[J" (.ref ar)) (F_levels : Fld Z h0 a1 "com/example/close_words/closewords/BitRows" "levels" "I" (.int lv)) (F_columns : Fld Z h0 a1 "com/example/close_words/closewords/BitRows" "columns" "J" (.long cols)) (F_headBound : Fld Z h0 a1 "com/example/close_words/closewords/BitRows" "headBound" "I" (.int p5)) (F_outsideHead : Fld Z h0 a1 "com/example/close_words/closewords/BitRows" "outsideHead" "J" (.long out)) (V_ac : own_Ar Z h0 ac .int 128 (fun k => .int (cp k))) (V_ao : own_Ar Z h0 ao .long 128 (fun k => .long (co k))) (V_ar : own_Ar Z h0 ar .long RL (fun k => .long (rf k))) (V_am : own_Ar Z h0 am .long ML (fun k => .long (mf k))) (ne_a1_ar : a1 ≠ ar) (ne_a1_am : a1 ≠ am) (ne_ac_ar : ac ≠ ar) (ne_ac_am : ac ≠ am) (ne_ao_ar : ao ≠ ar) (ne_ao_am : ao ≠ am) (ne_am_ar : am ≠ ar) (g_ar : n0 ≤ ar) (g_am : n0 ≤ am) (hlv : lv.toInt = ((bd + 1 : Nat) : Int)) (hbd63 : bd ≤ 63) (hhb : p5.toInt = (ph : Int)) (hhb63 : ph ≤ 63) (hRLi : 3 * (bd + 1) ≤ RL) (hMLi : 2 < ML) (hR0 : own_find cp p3 8 (p3 &&& 127).toNatClampNeg = RR) (hR : cp RR = p3 ∨ cp RR = -1) (hRl : RR < 128) (hF0 : FF 0 = ((co RR) &&& ((rf (1 * (bd + 1))) <<< ((1 : Int32) &&& 0x3f).toInt64))) (hFs : ∀ d, FF (d + 1) = (let r1 := ((((co RR) &&& ((rf ((1 * (bd + 1)) + (d + 1))) <<< ((1 : Int32) &&& 0x3f).toInt64)) ||| (rf ((1 * (bd + 1)) + d))) ||| ((rf ((1 * (bd + 1)) + d)) <<< ((1 : Int32) &&& 0x3f).toInt64)) ||| ((FF d) <<< ((1 : Int32) &&& 0x3f).toInt64); let r2 := if (((co RR) <<< ((1 : Int32) &&& 0x3f).toInt64) &&& (mf 1)) = 0 then r1 else r1 ||| ((((co RR) <<< ((1 : Int32) &&& 0x3f).toInt64) &&& (mf 1)) &&& ((rf ((0 * (bd + 1)) + d)) <<< ((2 : Int32) &&& 0x3f).toInt64)); let r3 := r2 &&& cols; if ph < d + 1 then r3 &&& ((FF ph) ||| out) else r3)) :
    own_Ctr l Z (⟨"com/example/close_words/closewords/BitRows", "fill", "(IIZ)Z"⟩ : MethodName) prog_6_method_2_code 18 (some .boolean) ws ({ frames := 1, cells := 0, slots := 0, locals := 15 } : Room) #[(.ref a1), (.int (2 : Int32)), (.int p3), (.int p4)] h0 (Q_rmro2 Z a1 p3 p4 ac ao ar am cp co rf mf FF lv p5 cols out bd ph RL ML RR h0 n0) := by
  refine own_enter (plainFor_of_name own_pn0) ?_
  intro p e s m below meth c s₁ X0 hx hby hml hrt hlk hZ hown hnm e0
  have N0 := Fr.nil n0
  have Zs := Z0
  have K0 := Keep.refl h0 [ar, am]
  rw [show entryFrame m #[(.ref a1), (.int (2 : Int32)), (.int p3), (.int p4)] 18 = mkF m 0 #[rv a1, iv (2 : Int32), iv p3, iv p4, uu, uu, uu, uu, uu, uu, uu, uu, uu, uu, uu, uu, uu, uu] [] from by first | (simp [entryFrame, mkF, argsToLocals, Value.category]; done) | rfl]
  show own_Wp _ _ _ _ (s₁.setTop (mkF m 0 #[rv a1, iv (2 : Int32), iv p3, iv p4, uu, uu, uu, uu, uu, uu, uu, uu, uu, uu, uu, uu, uu, uu] []))
  refine own_of (fun tgt kon => XS.aloadN X0.here hx rfl (hb hby d10_0) rfl rfl kon) ?_
  obtain ⟨T1, X1, e1, st1⟩ := getF X0 hx hZ hown (host := "") (Or.inl (ow hw 37 rfl)) Via.refl e0 F_columnsOf (g := (mkF m 1 #[rv a1, iv (2 : Int32), iv p3, iv p4, uu, uu, uu, uu, uu, uu, uu, uu, uu, uu, uu, uu, uu, uu] [(.ref a1)])) rfl rfl (hb hby d10_1)
  refine own_of st1 ?_
  clear st1
  refine own_of (fun tgt kon => XS.aloadN X1.here hx rfl (hb hby d10_4) rfl rfl kon) ?_
  refine own_of (fun tgt kon => XS.iloadN X1.here hx rfl (hb hby d10_5) rfl kon) ?_
  refine own_callP X1 hx hZ (y := (⟨"com/example/close_words/closewords/BitRows", "slot", "(I)I"⟩ : MethodName)) (a := a1) (argsL := [(.int p3)]) (rest := [(.ref ao)]) (W := 1) hown (ow hw 64 rfl) (ow hw 65 rfl) (ow hw 10 rfl) (ow hw 66 rfl) (ow hw 11 rfl) (ow hw 67 rfl) (by decide) e1 E_a1 (rmslot l Z a0 hw [] a1 p3 ac cp RR (Int32.ofNat RR) h0 n0 Zs E_a1 F_codePoints V_ac hR0 hR (own_ofN (by omega))) (by decide) (by decide) (by decide) (by decide) rfl (by rw [hml]; rfl) (lenOf own_pd0 rfl) rfl (by show 2 * 0 + _ ≤ _; exact Nat.le_of_eq rfl) (hb hby d10_6) ?_
  rintro T2 L2 _ X2 ⟨rfl, N2q, e2⟩
  have N2 := Fr.app N0 N2q
  show own_Wp _ _ _ _ (T2.setTop (mkF m 9 #[rv a1, iv (2 : Int32), iv p3, iv p4, uu, uu, uu, uu, uu, uu, uu, uu, uu, uu, uu, uu, uu, uu] [(.int (Int32.ofNat RR)), (.ref ao)]))
  refine own_laload X2 hx hZ e2 V_ao (j := (Int32.ofNat RR)) (i := RR) (v := (co RR)) (own_ofN (by omega)) hRl rfl rfl rfl (hb hby d10_9) ?_
  refine own_of (fun tgt kon => XS.lstore X2.here hx rfl (hb hby d10_10) rfl (l' := #[rv a1, iv (2 : Int32), iv p3, iv p4, jv (co RR), ss, uu, uu, uu, uu, uu, uu, uu, uu, uu, uu, uu, uu]) rfl kon) ?_
  refine own_of (fun tgt kon => XS.aloadN X2.here hx rfl (hb hby d10_12) rfl rfl kon) ?_
  obtain ⟨T3, X3, e3, st3⟩ := getF X2 hx hZ hown (host := "") (Or.inl (ow hw 41 rfl)) Via.refl e2 F_matches (g := (mkF m 13 #[rv a1, iv (2 : Int32), iv p3, iv p4, jv (co RR), ss, uu, uu, uu, uu, uu, uu, uu, uu, uu, uu, uu, uu] [(.ref a1)])) rfl rfl (hb hby d10_13)
  refine own_of st3 ?_
  clear st3
  refine own_of (fun tgt kon => XS.iloadN X3.here hx rfl (hb hby d10_16) rfl kon) ?_
  show own_Wp _ _ _ _ (T3.setTop (mkF m 17 #[rv a1, iv (2 : Int32), iv p3, iv p4, jv (co RR), ss, uu, uu, uu, uu, uu, uu, uu, uu, uu, uu, uu, uu] [(.int (2 : Int32)), (.ref am)]))
  refine own_of (fun tgt kon => XS.lload X3.here hx rfl (hb hby d10_17) rfl kon) ?_
  obtain ⟨T4, h4, X4, e4, W4, Aq4, st4⟩ := own_stJ X3 hx hZ e3 V_am (j := (2 : Int32)) (i := 2) (x := (co RR)) (by decide) (by omega) (g := (mkF m 19 #[rv a1, iv (2 : Int32), iv p3, iv p4, jv (co RR), ss, uu, uu, uu, uu, uu, uu, uu, uu, uu, uu, uu, uu] [(.long (co RR)), (.int (2 : Int32)), (.ref am)])) rfl rfl (hb hby d10_19)
  refine own_of st4 ?_
  clear st4
  replace Zs := Nat.le_trans Zs (Keep.of_wr W4).1
  replace K0 := K0.wr W4 (Or.inl (List.mem_of_getElem? (i := 1) rfl))
  replace E_a1 := E_a1.wr W4
  replace F_columnsOf := F_columnsOf.other W4 (Or.inl ne_a1_am)
  replace F_codePoints := F_codePoints.other W4 (Or.inl ne_a1_am)
  replace F_matches := F_matches.other W4 (Or.inl ne_a1_am)
  replace F_rows := F_rows.other W4 (Or.inl ne_a1_am)
  replace F_levels := F_levels.other W4 (Or.inl ne_a1_am)
  replace F_columns := F_columns.other W4 (Or.inl ne_a1_am)
  replace F_headBound := F_headBound.other W4 (Or.inl ne_a1_am)
  replace F_outsideHead := F_outsideHead.other W4 (Or.inl ne_a1_am)
  replace V_ac := V_ac.other W4 ne_ac_am
  replace V_ao := V_ao.other W4 ne_ao_am
  replace V_ar := V_ar.other W4 (Ne.symm ne_am_ar)
  replace V_am := Aq4
  clear Aq4
  replace V_am := V_am.fn (f' := fun k => .long (own_upd mf 2 (co RR) k)) (fun k hk => own_setJ _ _ _ k)
  have N4 := Fr.snoc X4 N2 g_am
  refine own_of (fun tgt kon => XS.iloadN X4.here hx rfl (hb hby d10_20) rfl kon) ?_
  refine own_of (fun tgt kon => XS.aloadN X4.here hx rfl (hb hby d10_21) rfl rfl kon) ?_
  obtain ⟨T5, X5, e5, st5⟩ := getF X4 hx hZ hown (host := "") (Or.inl (ow hw 22 rfl)) Via.refl e4 F_levels (g := (mkF m 22 #[rv a1, iv (2 : Int32), iv p3, iv p4, jv (co RR), ss, uu, uu, uu, uu, uu, uu, uu, uu, uu, uu, uu, uu] [(.ref a1), (.int (2 : Int32))])) rfl rfl (hb hby d10_22)
  refine own_of st5 ?_
  clear st5
  show own_Wp _ _ _ _ (T5.setTop (mkF m 25 #[rv a1, iv (2 : Int32), iv p3, iv p4, jv (co RR), ss, uu, uu, uu, uu, uu, uu, uu, uu, uu, uu, uu, uu] [(.int lv), (.int (2 : Int32))]))
  refine own_of (fun tgt kon => XS.imul X5.here hx rfl (hb hby d10_25) rfl kon) ?_
  show own_Wp _ _ _ _ (T5.setTop (mkF m 26 #[rv a1, iv (2 : Int32), iv p3, iv p4, jv (co RR), ss, uu, uu, uu, uu, uu, uu, uu, uu, uu, uu, uu, uu] [(.int ((2 : Int32) * lv))]))
  obtain ⟨row, h_row⟩ : ∃ q : Int32, q = ((2 : Int32) * lv) := ⟨_, rfl⟩
  rw [← h_row]
  refine own_of (fun tgt kon => XS.istore X5.here hx rfl (hb hby d10_26) rfl (l' := #[rv a1, iv (2 : Int32), iv p3, iv p4, jv (co RR), ss, iv row, uu, uu, uu, uu, uu, uu, uu, uu, uu, uu, uu]) rfl kon) ?_
  show own_Wp _ _ _ _ (T5.setTop (mkF m 28 #[rv a1, iv (2 : Int32), iv p3, iv p4, jv (co RR), ss, iv row, uu, uu, uu, uu, uu, uu, uu, uu, uu, uu, uu] []))
  have t_row : row.toInt = ((2 * (bd + 1) : Nat) : Int) := by
    rw [h_row, Jvm.Kit.i32_mul (by rw [show (2 : Int32).toInt = 2 from by decide, hlv]; omega) (by rw [show (2 : Int32).toInt = 2 from by decide, hlv]; omega), show (2 : Int32).toInt = 2 from by decide, hlv]
    omega
  refine own_of (fun tgt kon => XS.iload X5.here hx rfl (hb hby d10_28) rfl kon) ?_
  refine own_of (fun tgt kon => XS.aloadN X5.here hx rfl (hb hby d10_30) rfl rfl kon) ?_
  obtain ⟨T6, X6, e6, st6⟩ := getF X5 hx hZ hown (host := "") (Or.inl (ow hw 22 rfl)) Via.refl e5 F_levels (g := (mkF m 31 #[rv a1, iv (2 : Int32), iv p3, iv p4, jv (co RR), ss, iv row, uu, uu, uu, uu, uu, uu, uu, uu, uu, uu, uu] [(.ref a1), (.int row)])) rfl rfl (hb hby d10_31)
  refine own_of st6 ?_
  clear st6
  refine own_of (fun tgt kon => XS.isub X6.here hx rfl (hb hby d10_34) rfl kon) ?_
  show own_Wp _ _ _ _ (T6.setTop (mkF m 35 #[rv a1, iv (2 : Int32), iv p3, iv p4, jv (co RR), ss, iv row, uu, uu, uu, uu, uu, uu, uu, uu, uu, uu, uu] [(.int (row - lv))]))
  obtain ⟨abv, h_abv⟩ : ∃ q : Int32, q = (row - lv) := ⟨_, rfl⟩
  rw [← h_abv]
  refine own_of (fun tgt kon => XS.istore X6.here hx rfl (hb hby d10_35) rfl (l' := #[rv a1, iv (2 : Int32), iv p3, iv p4, jv (co RR), ss, iv row, iv abv, uu, uu, uu, uu, uu, uu, uu, uu, uu, uu]) rfl kon) ?_
  show own_Wp _ _ _ _ (T6.setTop (mkF m 37 #[rv a1, iv (2 : Int32), iv p3, iv p4, jv (co RR), ss, iv row, iv abv, uu, uu, uu, uu, uu, uu, uu, uu, uu, uu] []))
  have t_ab : abv.toInt = ((1 * (bd + 1) : Nat) : Int) := by
    rw [h_abv]
    have q := own_subI t_row hlv (by omega) (by omega)
    omega
  refine own_of (fun tgt kon => XS.iload X6.here hx rfl (hb hby d10_37) rfl kon) ?_
  refine own_of (fun tgt kon => XS.aloadN X6.here hx rfl (hb hby d10_39) rfl rfl kon) ?_
  obtain ⟨T7, X7, e7, st7⟩ := getF X6 hx hZ hown (host := "") (Or.inl (ow hw 22 rfl)) Via.refl e6 F_levels (g := (mkF m 40 #[rv a1, iv (2 : Int32), iv p3, iv p4, jv (co RR), ss, iv row, iv abv, uu, uu, uu, uu, uu, uu, uu, uu, uu, uu] [(.ref a1), (.int abv)])) rfl rfl (hb hby d10_40)
  refine own_of st7 ?_
  clear st7
  refine own_of (fun tgt kon => XS.isub X7.here hx rfl (hb hby d10_43) rfl kon) ?_
  show own_Wp _ _ _ _ (T7.setTop (mkF m 44 #[rv a1, iv (2 : Int32), iv p3, iv p4, jv (co RR), ss, iv row, iv abv, uu, uu, uu, uu, uu, uu, uu, uu, uu, uu] [(.int (abv - lv))]))
  obtain ⟨twv, h_twv⟩ : ∃ q : Int32, q = (abv - lv) := ⟨_, rfl⟩
  rw [← h_twv]
  refine own_of (fun tgt kon => XS.istore X7.here hx rfl (hb hby d10_44) rfl (l' := #[rv a1, iv (2 : Int32), iv p3, iv p4, jv (co RR), ss, iv row, iv abv, iv twv, uu, uu, uu, uu, uu, uu, uu, uu, uu]) rfl kon) ?_
  show own_Wp _ _ _ _ (T7.setTop (mkF m 46 #[rv a1, iv (2 : Int32), iv p3, iv p4, jv (co RR), ss, iv row, iv abv, iv twv, uu, uu, uu, uu, uu, uu, uu, uu, uu] []))
  have t_tw : twv.toInt = ((0 * (bd + 1) : Nat) : Int) := by
    rw [h_twv]
    have q := own_subI t_ab hlv (by omega) (by omega)
    omega
  refine own_of (fun tgt kon => XS.iloadN X7.here hx rfl (hb hby d10_46) rfl kon) ?_
  refine own_of (fun tgt kon => XS.iconst X7.here hx rfl (hb hby d10_47) kon) ?_
  have hc48 : (1 : Int32) < (2 : Int32) := by decide
  refine own_of (fun tgt kon => XS.icmpNo X7.here hx rfl (hb hby d10_48) rfl (tlt hc48).2.2.2 kon) ?_
  refine own_of (fun tgt kon => XS.lload X7.here hx rfl (hb hby d10_51) rfl kon) ?_
  refine own_of (fun tgt kon => XS.iconst X7.here hx rfl (hb hby d10_53) kon) ?_
  show own_Wp _ _ _ _ (T7.setTop (mkF m 54 #[rv a1, iv (2 : Int32), iv p3, iv p4, jv (co RR), ss, iv row, iv abv, iv twv, uu, uu, uu, uu, uu, uu, uu, uu, uu] [(.int (1 : Int32)), (.long (co RR))]))
  refine own_of (fun tgt kon => XS.lshl X7.here hx rfl (hb hby d10_54) rfl kon) ?_
  refine own_of (fun tgt kon => XS.aloadN X7.here hx rfl (hb hby d10_55) rfl rfl kon) ?_
  obtain ⟨T8, X8, e8, st8⟩ := getF X7 hx hZ hown (host := "") (Or.inl (ow hw 41 rfl)) Via.refl e7 F_matches (g := (mkF m 56 #[rv a1, iv (2 : Int32), iv p3, iv p4, jv (co RR), ss, iv row, iv abv, iv twv, uu, uu, uu, uu, uu, uu, uu, uu, uu] [(.ref a1), (.long ((co RR) <<< ((1 : Int32) &&& 0x3f).toInt64))])) rfl rfl (hb hby d10_56)
  refine own_of st8 ?_
  clear st8
  refine own_of (fun tgt kon => XS.iloadN X8.here hx rfl (hb hby d10_59) rfl kon) ?_
  refine own_of (fun tgt kon => XS.iconst X8.here hx rfl (hb hby d10_60) kon) ?_
  show own_Wp _ _ _ _ (T8.setTop (mkF m 61 #[rv a1, iv (2 : Int32), iv p3, iv p4, jv (co RR), ss, iv row, iv abv, iv twv, uu, uu, uu, uu, uu, uu, uu, uu, uu] [(.int (1 : Int32)), (.int (2 : Int32)), (.ref am), (.long ((co RR) <<< ((1 : Int32) &&& 0x3f).toInt64))]))
  refine own_of (fun tgt kon => XS.isub X8.here hx rfl (hb hby d10_61) rfl kon) ?_
  refine own_laload X8 hx hZ e8 V_am (j := ((2 : Int32) - (1 : Int32))) (i := 1) (v := (mf 1)) (by decide) (by omega) (by show Value.long (own_upd mf 2 _ 1) = _; rfl) rfl rfl (hb hby d10_62) ?_
  refine own_of (fun tgt kon => XS.land X8.here hx rfl (hb hby d10_63) rfl kon) ?_
  refine own_of (fun tgt kon => XS.goto X8.here hx rfl (pc0 := 64) (pc' := 68) rfl (hb hby d10_64) (by decide) (by decide) kon) ?_
  refine own_of (fun tgt kon => XS.lstore X8.here hx rfl (hb hby d10_68) rfl (l' := #[rv a1, iv (2 : Int32), iv p3, iv p4, jv (co RR), ss, iv row, iv abv, iv twv, jv (((co RR) <<< ((1 : Int32) &&& 0x3f).toInt64) &&& (mf 1)), ss, uu, uu, uu, uu, uu, uu, uu]) rfl kon) ?_
  show own_Wp _ _ _ _ (T8.setTop (mkF m 70 #[rv a1, iv (2 : Int32), iv p3, iv p4, jv (co RR), ss, iv row, iv abv, iv twv, jv (((co RR) <<< ((1 : Int32) &&& 0x3f).toInt64) &&& (mf 1)), ss, uu, uu, uu, uu, uu, uu, uu] []))
  refine own_of (fun tgt kon => XS.lload X8.here hx rfl (hb hby d10_70) rfl kon) ?_
  refine own_of (fun tgt kon => XS.aloadN X8.here hx rfl (hb hby d10_72) rfl rfl kon) ?_
  obtain ⟨T9, X9, e9, st9⟩ := getF X8 hx hZ hown (host := "") (Or.inl (ow hw 39 rfl)) Via.refl e8 F_rows (g := (mkF m 73 #[rv a1, iv (2 : Int32), iv p3, iv p4, jv (co RR), ss, iv row, iv abv, iv twv, jv (((co RR) <<< ((1 : Int32) &&& 0x3f).toInt64) &&& (mf 1)), ss, uu, uu, uu, uu, uu, uu, uu] [(.ref a1), (.long (co RR))])) rfl rfl (hb hby d10_73)
  refine own_of st9 ?_
  clear st9
  refine own_of (fun tgt kon => XS.iload X9.here hx rfl (hb hby d10_76) rfl kon) ?_
  refine own_laload X9 hx hZ e9 V_ar (j := abv) (i := (1 * (bd + 1))) (v := (rf (1 * (bd + 1)))) t_ab (by omega) rfl rfl rfl (hb hby d10_78) ?_
  show own_Wp _ _ _ _ (T9.setTop (mkF m 79 #[rv a1, iv (2 : Int32), iv p3, iv p4, jv (co RR), ss, iv row, iv abv, iv twv, jv (((co RR) <<< ((1 : Int32) &&& 0x3f).toInt64) &&& (mf 1)), ss, uu, uu, uu, uu, uu, uu, uu] [(.long (rf (1 * (bd + 1)))), (.long (co RR))]))
  refine own_of (fun tgt kon => XS.iconst X9.here hx rfl (hb hby d10_79) kon) ?_
  refine own_of (fun tgt kon => XS.lshl X9.here hx rfl (hb hby d10_80) rfl kon) ?_
  refine own_of (fun tgt kon => XS.land X9.here hx rfl (hb hby d10_81) rfl kon) ?_
  refine own_of (fun tgt kon => XS.lstore X9.here hx rfl (hb hby d10_82) rfl (l' := #[rv a1, iv (2 : Int32), iv p3, iv p4, jv (co RR), ss, iv row, iv abv, iv twv, jv (((co RR) <<< ((1 : Int32) &&& 0x3f).toInt64) &&& (mf 1)), ss, jv ((co RR) &&& ((rf (1 * (bd + 1))) <<< ((1 : Int32) &&& 0x3f).toInt64)), ss, uu, uu, uu, uu, uu]) rfl kon) ?_
  refine own_of (fun tgt kon => XS.aloadN X9.here hx rfl (hb hby d10_84) rfl rfl kon) ?_
  show own_Wp _ _ _ _ (T9.setTop (mkF m 85 #[rv a1, iv (2 : Int32), iv p3, iv p4, jv (co RR), ss, iv row, iv abv, iv twv, jv (((co RR) <<< ((1 : Int32) &&& 0x3f).toInt64) &&& (mf 1)), ss, jv ((co RR) &&& ((rf (1 * (bd + 1))) <<< ((1 : Int32) &&& 0x3f).toInt64)), ss, uu, uu, uu, uu, uu] [(.ref a1)]))
  obtain ⟨T10, X10, e10, st10⟩ := getF X9 hx hZ hown (host := "") (Or.inl (ow hw 39 rfl)) Via.refl e9 F_rows (g := (mkF m 85 #[rv a1, iv (2 : Int32), iv p3, iv p4, jv (co RR), ss, iv row, iv abv, iv twv, jv (((co RR) <<< ((1 : Int32) &&& 0x3f).toInt64) &&& (mf 1)), ss, jv ((co RR) &&& ((rf (1 * (bd + 1))) <<< ((1 : Int32) &&& 0x3f).toInt64)), ss, uu, uu, uu, uu, uu] [(.ref a1)])) rfl rfl (hb hby d10_85)
  refine own_of st10 ?_
  clear st10
  refine own_of (fun tgt kon => XS.iload X10.here hx rfl (hb hby d10_88) rfl kon) ?_
  refine own_of (fun tgt kon => XS.lload X10.here hx rfl (hb hby d10_90) rfl kon) ?_
  obtain ⟨T11, h11, X11, e11, W11, Aq11, st11⟩ := own_stJ X10 hx hZ e10 V_ar (j := row) (i := (2 * (bd + 1))) (x := ((co RR) &&& ((rf (1 * (bd + 1))) <<< ((1 : Int32) &&& 0x3f).toInt64))) t_row (by omega) (g := (mkF m 92 #[rv a1, iv (2 : Int32), iv p3, iv p4, jv (co RR), ss, iv row, iv abv, iv twv, jv (((co RR) <<< ((1 : Int32) &&& 0x3f).toInt64) &&& (mf 1)), ss, jv ((co RR) &&& ((rf (1 * (bd + 1))) <<< ((1 : Int32) &&& 0x3f).toInt64)), ss, uu, uu, uu, uu, uu] [(.long ((co RR) &&& ((rf (1 * (bd + 1))) <<< ((1 : Int32) &&& 0x3f).toInt64))), (.int row), (.ref ar)])) rfl rfl (hb hby d10_92)
  refine own_of st11 ?_
  clear st11
  replace Zs := Nat.le_trans Zs (Keep.of_wr W11).1
  replace K0 := K0.wr W11 (Or.inl (List.mem_of_getElem? (i := 0) rfl))
  replace E_a1 := E_a1.wr W11
  replace F_columnsOf := F_columnsOf.other W11 (Or.inl ne_a1_ar)
  replace F_codePoints := F_codePoints.other W11 (Or.inl ne_a1_ar)
  replace F_matches := F_matches.other W11 (Or.inl ne_a1_ar)
  replace F_rows := F_rows.other W11 (Or.inl ne_a1_ar)
  replace F_levels := F_levels.other W11 (Or.inl ne_a1_ar)
  replace F_columns := F_columns.other W11 (Or.inl ne_a1_ar)
  replace F_headBound := F_headBound.other W11 (Or.inl ne_a1_ar)
  replace F_outsideHead := F_outsideHead.other W11 (Or.inl ne_a1_ar)
  replace V_ac := V_ac.other W11 ne_ac_ar
  replace V_ao := V_ao.other W11 ne_ao_ar
  replace V_am := V_am.other W11 ne_am_ar
  replace V_ar := Aq11
  clear Aq11
  rw [show ((co RR) &&& ((rf (1 * (bd + 1))) <<< ((1 : Int32) &&& 0x3f).toInt64)) = FF 0 from hF0.symm] at V_ar ⊢
  replace V_ar := V_ar.fn (f' := fun y => .long (own_rk rf (2 * (bd + 1)) FF 1 y)) (fun y hy => (own_setJ _ _ _ y).trans (congrArg Value.long (own_rk0 _ _ _ y)))
  have N11 := Fr.snoc X11 N4 g_ar
  refine own_of (fun tgt kon => XS.iconst X11.here hx rfl (hb hby d10_93) kon) ?_
  show own_Wp _ _ _ _ (T11.setTop (mkF m 94 #[rv a1, iv (2 : Int32), iv p3, iv p4, jv (co RR), ss, iv row, iv abv, iv twv, jv (((co RR) <<< ((1 : Int32) &&& 0x3f).toInt64) &&& (mf 1)), ss, jv (FF 0), ss, uu, uu, uu, uu, uu] [(.int (1 : Int32))]))
  refine own_of (fun tgt kon => XS.istore X11.here hx rfl (hb hby d10_94) rfl (l' := #[rv a1, iv (2 : Int32), iv p3, iv p4, jv (co RR), ss, iv row, iv abv, iv twv, jv (((co RR) <<< ((1 : Int32) &&& 0x3f).toInt64) &&& (mf 1)), ss, jv (FF 0), ss, iv (1 : Int32), uu, uu, uu, uu]) rfl kon) ?_
  show own_Wp _ _ _ _ (T11.setTop (mkF m 96 #[rv a1, iv (2 : Int32), iv p3, iv p4, jv (co RR), ss, iv row, iv abv, iv twv, jv (((co RR) <<< ((1 : Int32) &&& 0x3f).toInt64) &&& (mf 1)), ss, jv (FF 0), ss, iv (1 : Int32), uu, uu, uu, uu] []))
  refine own_of (fun tgt kon => XS.iload X11.here hx rfl (hb hby d10_96) rfl kon) ?_
  refine own_of (fun tgt kon => XS.aloadN X11.here hx rfl (hb hby d10_98) rfl rfl kon) ?_
  obtain ⟨T12, X12, e12, st12⟩ := getF X11 hx hZ hown (host := "") (Or.inl (ow hw 22 rfl)) Via.refl e11 F_levels (g := (mkF m 99 #[rv a1, iv (2 : Int32), iv p3, iv p4, jv (co RR), ss, iv row, iv abv, iv twv, jv (((co RR) <<< ((1 : Int32) &&& 0x3f).toInt64) &&& (mf 1)), ss, jv (FF 0), ss, iv (1 : Int32), uu, uu, uu, uu] [(.ref a1), (.int (1 : Int32))])) rfl rfl (hb hby d10_99)
  refine own_of st12 ?_
  clear st12
  by_cases hc102 : (1 : Int32) < lv
  · skip
    refine own_of (fun tgt kon => XS.icmpNo X12.here hx rfl (hb hby d10_102) rfl (tlt hc102).2.1 kon) ?_
    show own_Wp _ _ _ _ (T12.setTop (mkF m 105 #[rv a1, iv (2 : Int32), iv p3, iv p4, jv (co RR), ss, iv row, iv abv, iv twv, jv (((co RR) <<< ((1 : Int32) &&& 0x3f).toInt64) &&& (mf 1)), ss, jv (FF 0), ss, iv (1 : Int32), uu, uu, uu, uu] []))
    have hlt : 0 + 1 < bd + 1 := by
      have q := hc102
      rw [Int32.lt_iff_toInt_lt, hlv] at q
      have q2 : (1 : Int32).toInt = ((0 + 1 : Nat) : Int) := by decide
      omega
    have t_d : (1 : Int32).toInt = ((0 + 1 : Nat) : Int) := by decide
    have l1 : (1 : Int32).toInt = 1 := by decide
    refine own_of (fun tgt kon => XS.aloadN X12.here hx rfl (hb hby d10_105) rfl rfl kon) ?_
    obtain ⟨T13, X13, e13, st13⟩ := getF X12 hx hZ hown (host := "") (Or.inl (ow hw 39 rfl)) Via.refl e12 F_rows (g := (mkF m 106 #[rv a1, iv (2 : Int32), iv p3, iv p4, jv (co RR), ss, iv row, iv abv, iv twv, jv (((co RR) <<< ((1 : Int32) &&& 0x3f).toInt64) &&& (mf 1)), ss, jv (FF 0), ss, iv (1 : Int32), uu, uu, uu, uu] [(.ref a1)])) rfl rfl (hb hby d10_106)
    refine own_of st13 ?_
    clear st13
    refine own_of (fun tgt kon => XS.iload X13.here hx rfl (hb hby d10_109) rfl kon) ?_
    refine own_of (fun tgt kon => XS.iload X13.here hx rfl (hb hby d10_111) rfl kon) ?_
    refine own_of (fun tgt kon => XS.iadd X13.here hx rfl (hb hby d10_113) rfl kon) ?_
    show own_Wp _ _ _ _ (T13.setTop (mkF m 114 #[rv a1, iv (2 : Int32), iv p3, iv p4, jv (co RR), ss, iv row, iv abv, iv twv, jv (((co RR) <<< ((1 : Int32) &&& 0x3f).toInt64) &&& (mf 1)), ss, jv (FF 0), ss, iv (1 : Int32), uu, uu, uu, uu] [(.int (abv + (1 : Int32))), (.ref ar)]))
    refine own_of (fun tgt kon => XS.iconst X13.here hx rfl (hb hby d10_114) kon) ?_
    refine own_of (fun tgt kon => XS.isub X13.here hx rfl (hb hby d10_115) rfl kon) ?_
    refine own_laload X13 hx hZ e13 V_ar (j := ((abv + (1 : Int32)) - (1 : Int32))) (i := ((1 * (bd + 1)) + 0)) (v := (rf ((1 * (bd + 1)) + 0))) (by have q1 := own_addI t_ab t_d (by omega) (by omega); have q2 := own_subI q1 l1 (by omega) (by omega); omega) (by omega) (by show Value.long (own_rk _ _ _ _ _) = _; rw [own_rk_lt (by omega)]) rfl rfl (hb hby d10_116) ?_
    refine own_of (fun tgt kon => XS.lstore X13.here hx rfl (hb hby d10_117) rfl (l' := #[rv a1, iv (2 : Int32), iv p3, iv p4, jv (co RR), ss, iv row, iv abv, iv twv, jv (((co RR) <<< ((1 : Int32) &&& 0x3f).toInt64) &&& (mf 1)), ss, jv (FF 0), ss, iv (1 : Int32), jv (rf ((1 * (bd + 1)) + 0)), ss, uu, uu]) rfl kon) ?_
    refine own_of (fun tgt kon => XS.lload X13.here hx rfl (hb hby d10_119) rfl kon) ?_
    show own_Wp _ _ _ _ (T13.setTop (mkF m 121 #[rv a1, iv (2 : Int32), iv p3, iv p4, jv (co RR), ss, iv row, iv abv, iv twv, jv (((co RR) <<< ((1 : Int32) &&& 0x3f).toInt64) &&& (mf 1)), ss, jv (FF 0), ss, iv (1 : Int32), jv (rf ((1 * (bd + 1)) + 0)), ss, uu, uu] [(.long (co RR))]))
    refine own_of (fun tgt kon => XS.aloadN X13.here hx rfl (hb hby d10_121) rfl rfl kon) ?_
    obtain ⟨T14, X14, e14, st14⟩ := getF X13 hx hZ hown (host := "") (Or.inl (ow hw 39 rfl)) Via.refl e13 F_rows (g := (mkF m 122 #[rv a1, iv (2 : Int32), iv p3, iv p4, jv (co RR), ss, iv row, iv abv, iv twv, jv (((co RR) <<< ((1 : Int32) &&& 0x3f).toInt64) &&& (mf 1)), ss, jv (FF 0), ss, iv (1 : Int32), jv (rf ((1 * (bd + 1)) + 0)), ss, uu, uu] [(.ref a1), (.long (co RR))])) rfl rfl (hb hby d10_122)
    refine own_of st14 ?_
    clear st14
    refine own_of (fun tgt kon => XS.iload X14.here hx rfl (hb hby d10_125) rfl kon) ?_
    refine own_of (fun tgt kon => XS.iload X14.here hx rfl (hb hby d10_127) rfl kon) ?_
    refine own_of (fun tgt kon => XS.iadd X14.here hx rfl (hb hby d10_129) rfl kon) ?_
    show own_Wp _ _ _ _ (T14.setTop (mkF m 130 #[rv a1, iv (2 : Int32), iv p3, iv p4, jv (co RR), ss, iv row, iv abv, iv twv, jv (((co RR) <<< ((1 : Int32) &&& 0x3f).toInt64) &&& (mf 1)), ss, jv (FF 0), ss, iv (1 : Int32), jv (rf ((1 * (bd + 1)) + 0)), ss, uu, uu] [(.int (abv + (1 : Int32))), (.ref ar), (.long (co RR))]))
    refine own_laload X14 hx hZ e14 V_ar (j := (abv + (1 : Int32))) (i := ((1 * (bd + 1)) + (0 + 1))) (v := (rf ((1 * (bd + 1)) + (0 + 1)))) (by have q1 := own_addI t_ab t_d (by omega) (by omega); omega) (by omega) (by show Value.long (own_rk _ _ _ _ _) = _; rw [own_rk_lt (by omega)]) rfl rfl (hb hby d10_130) ?_
    refine own_of (fun tgt kon => XS.iconst X14.here hx rfl (hb hby d10_131) kon) ?_
    refine own_of (fun tgt kon => XS.lshl X14.here hx rfl (hb hby d10_132) rfl kon) ?_
    refine own_of (fun tgt kon => XS.land X14.here hx rfl (hb hby d10_133) rfl kon) ?_
    refine own_of (fun tgt kon => XS.lload X14.here hx rfl (hb hby d10_134) rfl kon) ?_
    show own_Wp _ _ _ _ (T14.setTop (mkF m 136 #[rv a1, iv (2 : Int32), iv p3, iv p4, jv (co RR), ss, iv row, iv abv, iv twv, jv (((co RR) <<< ((1 : Int32) &&& 0x3f).toInt64) &&& (mf 1)), ss, jv (FF 0), ss, iv (1 : Int32), jv (rf ((1 * (bd + 1)) + 0)), ss, uu, uu] [(.long (rf ((1 * (bd + 1)) + 0))), (.long ((co RR) &&& ((rf ((1 * (bd + 1)) + (0 + 1))) <<< ((1 : Int32) &&& 0x3f).toInt64)))]))
    refine own_of (fun tgt kon => XS.lor X14.here hx rfl (hb hby d10_136) rfl kon) ?_
    refine own_of (fun tgt kon => XS.lload X14.here hx rfl (hb hby d10_137) rfl kon) ?_
    refine own_of (fun tgt kon => XS.iconst X14.here hx rfl (hb hby d10_139) kon) ?_
    refine own_of (fun tgt kon => XS.lshl X14.here hx rfl (hb hby d10_140) rfl kon) ?_
    refine own_of (fun tgt kon => XS.lor X14.here hx rfl (hb hby d10_141) rfl kon) ?_
    show own_Wp _ _ _ _ (T14.setTop (mkF m 142 #[rv a1, iv (2 : Int32), iv p3, iv p4, jv (co RR), ss, iv row, iv abv, iv twv, jv (((co RR) <<< ((1 : Int32) &&& 0x3f).toInt64) &&& (mf 1)), ss, jv (FF 0), ss, iv (1 : Int32), jv (rf ((1 * (bd + 1)) + 0)), ss, uu, uu] [(.long ((((co RR) &&& ((rf ((1 * (bd + 1)) + (0 + 1))) <<< ((1 : Int32) &&& 0x3f).toInt64)) ||| (rf ((1 * (bd + 1)) + 0))) ||| ((rf ((1 * (bd + 1)) + 0)) <<< ((1 : Int32) &&& 0x3f).toInt64)))]))
    refine own_of (fun tgt kon => XS.lload X14.here hx rfl (hb hby d10_142) rfl kon) ?_
    refine own_of (fun tgt kon => XS.iconst X14.here hx rfl (hb hby d10_144) kon) ?_
    refine own_of (fun tgt kon => XS.lshl X14.here hx rfl (hb hby d10_145) rfl kon) ?_
    refine own_of (fun tgt kon => XS.lor X14.here hx rfl (hb hby d10_146) rfl kon) ?_
    show own_Wp _ _ _ _ (T14.setTop (mkF m 147 #[rv a1, iv (2 : Int32), iv p3, iv p4, jv (co RR), ss, iv row, iv abv, iv twv, jv (((co RR) <<< ((1 : Int32) &&& 0x3f).toInt64) &&& (mf 1)), ss, jv (FF 0), ss, iv (1 : Int32), jv (rf ((1 * (bd + 1)) + 0)), ss, uu, uu] [(.long (((((co RR) &&& ((rf ((1 * (bd + 1)) + (0 + 1))) <<< ((1 : Int32) &&& 0x3f).toInt64)) ||| (rf ((1 * (bd + 1)) + 0))) ||| ((rf ((1 * (bd + 1)) + 0)) <<< ((1 : Int32) &&& 0x3f).toInt64)) ||| ((FF 0) <<< ((1 : Int32) &&& 0x3f).toInt64)))]))
    obtain ⟨r1, h_r1⟩ : ∃ q : Int64, q = (((((co RR) &&& ((rf ((1 * (bd + 1)) + (0 + 1))) <<< ((1 : Int32) &&& 0x3f).toInt64)) ||| (rf ((1 * (bd + 1)) + 0))) ||| ((rf ((1 * (bd + 1)) + 0)) <<< ((1 : Int32) &&& 0x3f).toInt64)) ||| ((FF 0) <<< ((1 : Int32) &&& 0x3f).toInt64)) := ⟨_, rfl⟩
    rw [← h_r1]
    refine own_of (fun tgt kon => XS.lstore X14.here hx rfl (hb hby d10_147) rfl (l' := #[rv a1, iv (2 : Int32), iv p3, iv p4, jv (co RR), ss, iv row, iv abv, iv twv, jv (((co RR) <<< ((1 : Int32) &&& 0x3f).toInt64) &&& (mf 1)), ss, jv (FF 0), ss, iv (1 : Int32), jv (rf ((1 * (bd + 1)) + 0)), ss, jv r1, ss]) rfl kon) ?_
    show own_Wp _ _ _ _ (T14.setTop (mkF m 149 #[rv a1, iv (2 : Int32), iv p3, iv p4, jv (co RR), ss, iv row, iv abv, iv twv, jv (((co RR) <<< ((1 : Int32) &&& 0x3f).toInt64) &&& (mf 1)), ss, jv (FF 0), ss, iv (1 : Int32), jv (rf ((1 * (bd + 1)) + 0)), ss, jv r1, ss] []))
    refine own_of (fun tgt kon => XS.lload X14.here hx rfl (hb hby d10_149) rfl kon) ?_
    refine own_of (fun tgt kon => XS.lconst X14.here hx rfl (hb hby d10_151) kon) ?_
    refine own_of (fun tgt kon => XS.lcmp X14.here hx rfl (hb hby d10_152) rfl kon) ?_
    show own_Wp _ _ _ _ (T14.setTop (mkF m 153 #[rv a1, iv (2 : Int32), iv p3, iv p4, jv (co RR), ss, iv row, iv abv, iv twv, jv (((co RR) <<< ((1 : Int32) &&& 0x3f).toInt64) &&& (mf 1)), ss, jv (FF 0), ss, iv (1 : Int32), jv (rf ((1 * (bd + 1)) + 0)), ss, jv r1, ss] [(.int (lcmpW (((co RR) <<< ((1 : Int32) &&& 0x3f).toInt64) &&& (mf 1)) (0 : Int64)))]))
    have J178 : ∀ (T15 : State) (lc15 : List Loc) (q2 : Int64), (Stand p l e ({ frames := 1, cells := 0, slots := 0, locals := 15 } : Room) s m #[(.ref a1), (.int (2 : Int32)), (.int p3), (.int p4)] below meth c T15 lc15 0 0) → (T15.heap = h11) → (Fr n0 lc15) → (q2 = if (((co RR) <<< ((1 : Int32) &&& 0x3f).toInt64) &&& (mf 1)) = 0 then r1 else r1 ||| ((((co RR) <<< ((1 : Int32) &&& 0x3f).toInt64) &&& (mf 1)) &&& ((rf ((0 * (bd + 1)) + 0)) <<< ((2 : Int32) &&& 0x3f).toInt64))) → own_Wp p.tables e below (own_K ({ frames := 1, cells := 0, slots := 0, locals := 15 } : Room) s below (Q_rmro2 Z a1 p3 p4 ac ao ar am cp co rf mf FF lv p5 cols out bd ph RL ML RR h0 n0)) (T15.setTop (mkF m 178 #[rv a1, iv (2 : Int32), iv p3, iv p4, jv (co RR), ss, iv row, iv abv, iv twv, jv (((co RR) <<< ((1 : Int32) &&& 0x3f).toInt64) &&& (mf 1)), ss, jv (FF 0), ss, iv (1 : Int32), jv (rf ((1 * (bd + 1)) + 0)), ss, jv q2, ss] [])) := by
      intro T15 lc15 q2 X15 e15 N15 h_q2
      refine own_of (fun tgt kon => XS.lload X15.here hx rfl (hb hby d10_178) rfl kon) ?_
      refine own_of (fun tgt kon => XS.aloadN X15.here hx rfl (hb hby d10_180) rfl rfl kon) ?_
      obtain ⟨T16, X16, e16, st16⟩ := getF X15 hx hZ hown (host := "") (Or.inl (ow hw 27 rfl)) Via.refl e15 F_columns (g := (mkF m 181 #[rv a1, iv (2 : Int32), iv p3, iv p4, jv (co RR), ss, iv row, iv abv, iv twv, jv (((co RR) <<< ((1 : Int32) &&& 0x3f).toInt64) &&& (mf 1)), ss, jv (FF 0), ss, iv (1 : Int32), jv (rf ((1 * (bd + 1)) + 0)), ss, jv q2, ss] [(.ref a1), (.long q2)])) rfl rfl (hb hby d10_181)
      refine own_of st16 ?_
      clear st16
      refine own_of (fun tgt kon => XS.land X16.here hx rfl (hb hby d10_184) rfl kon) ?_
      refine own_of (fun tgt kon => XS.lstore X16.here hx rfl (hb hby d10_185) rfl (l' := #[rv a1, iv (2 : Int32), iv p3, iv p4, jv (co RR), ss, iv row, iv abv, iv twv, jv (((co RR) <<< ((1 : Int32) &&& 0x3f).toInt64) &&& (mf 1)), ss, jv (FF 0), ss, iv (1 : Int32), jv (rf ((1 * (bd + 1)) + 0)), ss, jv (q2 &&& cols), ss]) rfl kon) ?_
      show own_Wp _ _ _ _ (T16.setTop (mkF m 187 #[rv a1, iv (2 : Int32), iv p3, iv p4, jv (co RR), ss, iv row, iv abv, iv twv, jv (((co RR) <<< ((1 : Int32) &&& 0x3f).toInt64) &&& (mf 1)), ss, jv (FF 0), ss, iv (1 : Int32), jv (rf ((1 * (bd + 1)) + 0)), ss, jv (q2 &&& cols), ss] []))
      refine own_of (fun tgt kon => XS.iload X16.here hx rfl (hb hby d10_187) rfl kon) ?_
      refine own_of (fun tgt kon => XS.aloadN X16.here hx rfl (hb hby d10_189) rfl rfl kon) ?_
      obtain ⟨T17, X17, e17, st17⟩ := getF X16 hx hZ hown (host := "") (Or.inl (ow hw 20 rfl)) Via.refl e16 F_headBound (g := (mkF m 190 #[rv a1, iv (2 : Int32), iv p3, iv p4, jv (co RR), ss, iv row, iv abv, iv twv, jv (((co RR) <<< ((1 : Int32) &&& 0x3f).toInt64) &&& (mf 1)), ss, jv (FF 0), ss, iv (1 : Int32), jv (rf ((1 * (bd + 1)) + 0)), ss, jv (q2 &&& cols), ss] [(.ref a1), (.int (1 : Int32))])) rfl rfl (hb hby d10_190)
      refine own_of st17 ?_
      clear st17
      show own_Wp _ _ _ _ (T17.setTop (mkF m 193 #[rv a1, iv (2 : Int32), iv p3, iv p4, jv (co RR), ss, iv row, iv abv, iv twv, jv (((co RR) <<< ((1 : Int32) &&& 0x3f).toInt64) &&& (mf 1)), ss, jv (FF 0), ss, iv (1 : Int32), jv (rf ((1 * (bd + 1)) + 0)), ss, jv (q2 &&& cols), ss] [(.int p5), (.int (1 : Int32))]))
      have J218 : ∀ (T18 : State) (lc18 : List Loc) (q3 : Int64), (Stand p l e ({ frames := 1, cells := 0, slots := 0, locals := 15 } : Room) s m #[(.ref a1), (.int (2 : Int32)), (.int p3), (.int p4)] below meth c T18 lc18 0 0) → (T18.heap = h11) → (Fr n0 lc18) → (q3 = if ph < 0 + 1 then (q2 &&& cols) &&& ((FF ph) ||| out) else (q2 &&& cols)) → own_Wp p.tables e below (own_K ({ frames := 1, cells := 0, slots := 0, locals := 15 } : Room) s below (Q_rmro2 Z a1 p3 p4 ac ao ar am cp co rf mf FF lv p5 cols out bd ph RL ML RR h0 n0)) (T18.setTop (mkF m 218 #[rv a1, iv (2 : Int32), iv p3, iv p4, jv (co RR), ss, iv row, iv abv, iv twv, jv (((co RR) <<< ((1 : Int32) &&& 0x3f).toInt64) &&& (mf 1)), ss, jv (FF 0), ss, iv (1 : Int32), jv (rf ((1 * (bd + 1)) + 0)), ss, jv q3, ss] [])) := by
        intro T18 lc18 q3 X18 e18 N18 h_q3
        refine own_of (fun tgt kon => XS.aloadN X18.here hx rfl (hb hby d10_218) rfl rfl kon) ?_
        obtain ⟨T19, X19, e19, st19⟩ := getF X18 hx hZ hown (host := "") (Or.inl (ow hw 39 rfl)) Via.refl e18 F_rows (g := (mkF m 219 #[rv a1, iv (2 : Int32), iv p3, iv p4, jv (co RR), ss, iv row, iv abv, iv twv, jv (((co RR) <<< ((1 : Int32) &&& 0x3f).toInt64) &&& (mf 1)), ss, jv (FF 0), ss, iv (1 : Int32), jv (rf ((1 * (bd + 1)) + 0)), ss, jv q3, ss] [(.ref a1)])) rfl rfl (hb hby d10_219)
        refine own_of st19 ?_
        clear st19
        refine own_of (fun tgt kon => XS.iload X19.here hx rfl (hb hby d10_222) rfl kon) ?_
        refine own_of (fun tgt kon => XS.iload X19.here hx rfl (hb hby d10_224) rfl kon) ?_
        refine own_of (fun tgt kon => XS.iadd X19.here hx rfl (hb hby d10_226) rfl kon) ?_
        show own_Wp _ _ _ _ (T19.setTop (mkF m 227 #[rv a1, iv (2 : Int32), iv p3, iv p4, jv (co RR), ss, iv row, iv abv, iv twv, jv (((co RR) <<< ((1 : Int32) &&& 0x3f).toInt64) &&& (mf 1)), ss, jv (FF 0), ss, iv (1 : Int32), jv (rf ((1 * (bd + 1)) + 0)), ss, jv q3, ss] [(.int (row + (1 : Int32))), (.ref ar)]))
        refine own_of (fun tgt kon => XS.lload X19.here hx rfl (hb hby d10_227) rfl kon) ?_
        obtain ⟨T20, h20, X20, e20, W20, Aq20, st20⟩ := own_stJ X19 hx hZ e19 V_ar (j := (row + (1 : Int32))) (i := ((2 * (bd + 1)) + (0 + 1))) (x := q3) (by have q1 := own_addI t_row t_d (by omega) (by omega); omega) (by omega) (g := (mkF m 229 #[rv a1, iv (2 : Int32), iv p3, iv p4, jv (co RR), ss, iv row, iv abv, iv twv, jv (((co RR) <<< ((1 : Int32) &&& 0x3f).toInt64) &&& (mf 1)), ss, jv (FF 0), ss, iv (1 : Int32), jv (rf ((1 * (bd + 1)) + 0)), ss, jv q3, ss] [(.long q3), (.int (row + (1 : Int32))), (.ref ar)])) rfl rfl (hb hby d10_229)
        refine own_of st20 ?_
        clear st20
        replace Zs := Nat.le_trans Zs (Keep.of_wr W20).1
        replace K0 := K0.wr W20 (Or.inl (List.mem_of_getElem? (i := 0) rfl))
        replace E_a1 := E_a1.wr W20
        replace F_columnsOf := F_columnsOf.other W20 (Or.inl ne_a1_ar)
        replace F_codePoints := F_codePoints.other W20 (Or.inl ne_a1_ar)
        replace F_matches := F_matches.other W20 (Or.inl ne_a1_ar)
        replace F_rows := F_rows.other W20 (Or.inl ne_a1_ar)
        replace F_levels := F_levels.other W20 (Or.inl ne_a1_ar)
        replace F_columns := F_columns.other W20 (Or.inl ne_a1_ar)
        replace F_headBound := F_headBound.other W20 (Or.inl ne_a1_ar)
        replace F_outsideHead := F_outsideHead.other W20 (Or.inl ne_a1_ar)
        replace V_ac := V_ac.other W20 ne_ac_ar
        replace V_ao := V_ao.other W20 ne_ao_ar
        replace V_am := V_am.other W20 ne_am_ar
        replace V_ar := Aq20
        clear Aq20
        have hst : q3 = FF (0 + 1) := by
          rw [hFs 0]
          dsimp only
          rw [h_q3, h_q2, h_r1]
        rw [hst] at V_ar ⊢
        replace V_ar := V_ar.fn (f' := fun y => .long (own_rk rf (2 * (bd + 1)) FF (0 + 1 + 1) y)) (fun y hy => (own_setJ _ _ _ y).trans (congrArg Value.long (own_setRk _ _ _ _ y)))
        have N20 := Fr.snoc X20 N18 g_ar
        refine own_of (fun tgt kon => XS.lload X20.here hx rfl (hb hby d10_230) rfl kon) ?_
        refine own_of (fun tgt kon => XS.lstore X20.here hx rfl (hb hby d10_232) rfl (l' := #[rv a1, iv (2 : Int32), iv p3, iv p4, jv (co RR), ss, iv row, iv abv, iv twv, jv (((co RR) <<< ((1 : Int32) &&& 0x3f).toInt64) &&& (mf 1)), ss, jv (FF (0 + 1)), ss, iv (1 : Int32), jv (rf ((1 * (bd + 1)) + 0)), ss, jv (FF (0 + 1)), ss]) rfl kon) ?_
        refine own_of (fun tgt kon => XS.iinc X20.here hx rfl (hb hby d10_234) rfl (l' := #[rv a1, iv (2 : Int32), iv p3, iv p4, jv (co RR), ss, iv row, iv abv, iv twv, jv (((co RR) <<< ((1 : Int32) &&& 0x3f).toInt64) &&& (mf 1)), ss, jv (FF (0 + 1)), ss, iv ((1 : Int32) + (1 : Int32)), jv (rf ((1 * (bd + 1)) + 0)), ss, jv (FF (0 + 1)), ss]) rfl kon) ?_
        show own_Wp _ _ _ _ (T20.setTop (mkF m 237 #[rv a1, iv (2 : Int32), iv p3, iv p4, jv (co RR), ss, iv row, iv abv, iv twv, jv (((co RR) <<< ((1 : Int32) &&& 0x3f).toInt64) &&& (mf 1)), ss, jv (FF (0 + 1)), ss, iv ((1 : Int32) + (1 : Int32)), jv (rf ((1 * (bd + 1)) + 0)), ss, jv (FF (0 + 1)), ss] []))
        refine own_of (fun tgt kon => XS.goto X20.here hx rfl (pc0 := 237) (pc' := 96) rfl (hb hby d10_237) (by decide) (by decide) kon) ?_
        show own_Wp _ _ _ _ (T20.setTop (mkF m 96 #[rv a1, iv (2 : Int32), iv p3, iv p4, jv (co RR), ss, iv row, iv abv, iv twv, jv (((co RR) <<< ((1 : Int32) &&& 0x3f).toInt64) &&& (mf 1)), ss, jv (FF (0 + 1)), ss, iv ((1 : Int32) + (1 : Int32)), jv (rf ((1 * (bd + 1)) + 0)), ss, jv (FF (0 + 1)), ss] []))
        rw [show ((1 : Int32) + (1 : Int32)) = Int32.ofNat (1 + 1) from rfl]
        have J96 : ∀ (nn : Nat) (T21 : State) (lc21 : List Loc) (h21 : Heap) (k : Nat) (z14 : Int64) (z16 : Int64), (Stand p l e ({ frames := 1, cells := 0, slots := 0, locals := 15 } : Room) s m #[(.ref a1), (.int (2 : Int32)), (.int p3), (.int p4)] below meth c T21 lc21 0 0) → (T21.heap = h21) → (Fr n0 lc21) → (n0 ≤ h21.size) → (Keep h0 h21 [ar, am]) → (Exa Z h21 a1 "com/example/close_words/closewords/BitRows") → (Fld Z h21 a1 "com/example/close_words/closewords/BitRows" "columnsOf" "[J" (.ref ao)) → (Fld Z h21 a1 "com/example/close_words/closewords/BitRows" "codePoints" "[I" (.ref ac)) → (Fld Z h21 a1 "com/example/close_words/closewords/BitRows" "matches" "[J" (.ref am)) → (Fld Z h21 a1 "com/example/close_words/closewords/BitRows" "rows" "[J" (.ref ar)) → (Fld Z h21 a1 "com/example/close_words/closewords/BitRows" "levels" "I" (.int lv)) → (Fld Z h21 a1 "com/example/close_words/closewords/BitRows" "columns" "J" (.long cols)) → (Fld Z h21 a1 "com/example/close_words/closewords/BitRows" "headBound" "I" (.int p5)) → (Fld Z h21 a1 "com/example/close_words/closewords/BitRows" "outsideHead" "J" (.long out)) → (own_Ar Z h21 ac .int 128 (fun k => .int (cp k))) → (own_Ar Z h21 ao .long 128 (fun k => .long (co k))) → (own_Ar Z h21 ar .long RL (fun y => .long (own_rk rf (2 * (bd + 1)) FF (k + 1) y))) → (own_Ar Z h21 am .long ML (fun k => .long (own_upd mf 2 (co RR) k))) → (k + 1 ≤ bd + 1) → (bd + 1 - k < nn) → own_Wp p.tables e below (own_K ({ frames := 1, cells := 0, slots := 0, locals := 15 } : Room) s below (Q_rmro2 Z a1 p3 p4 ac ao ar am cp co rf mf FF lv p5 cols out bd ph RL ML RR h0 n0)) (T21.setTop (mkF m 96 #[rv a1, iv (2 : Int32), iv p3, iv p4, jv (co RR), ss, iv row, iv abv, iv twv, jv (((co RR) <<< ((1 : Int32) &&& 0x3f).toInt64) &&& (mf 1)), ss, jv (FF k), ss, iv (Int32.ofNat (k + 1)), jv z14, ss, jv z16, ss] [])) := by
          clear K0 E_a1 F_columnsOf F_codePoints F_matches F_rows F_levels F_columns F_headBound F_outsideHead V_ac V_ao V_ar V_am Zs
          intro nn
          induction nn with
          | zero => intro T21 lc21 h21 k z14 z16 X21 e21 N21 Zs K0 E_a1 F_columnsOf F_codePoints F_matches F_rows F_levels F_columns F_headBound F_outsideHead V_ac V_ao V_ar V_am hk hmu; exact absurd hmu (Nat.not_lt_zero _)
          | succ nn ih =>
            skip
            intro T21 lc21 h21 k z14 z16 X21 e21 N21 Zs K0 E_a1 F_columnsOf F_codePoints F_matches F_rows F_levels F_columns F_headBound F_outsideHead V_ac V_ao V_ar V_am hk hmu
            refine own_of (fun tgt kon => XS.iload X21.here hx rfl (hb hby d10_96) rfl kon) ?_
            refine own_of (fun tgt kon => XS.aloadN X21.here hx rfl (hb hby d10_98) rfl rfl kon) ?_
            obtain ⟨T22, X22, e22, st22⟩ := getF X21 hx hZ hown (host := "") (Or.inl (ow hw 22 rfl)) Via.refl e21 F_levels (g := (mkF m 99 #[rv a1, iv (2 : Int32), iv p3, iv p4, jv (co RR), ss, iv row, iv abv, iv twv, jv (((co RR) <<< ((1 : Int32) &&& 0x3f).toInt64) &&& (mf 1)), ss, jv (FF k), ss, iv (Int32.ofNat (k + 1)), jv z14, ss, jv z16, ss] [(.ref a1), (.int (Int32.ofNat (k + 1)))])) rfl rfl (hb hby d10_99)
            refine own_of st22 ?_
            clear st22
            by_cases hc102_2 : (Int32.ofNat (k + 1)) < lv
            · skip
              refine own_of (fun tgt kon => XS.icmpNo X22.here hx rfl (hb hby d10_102) rfl (tlt hc102_2).2.1 kon) ?_
              show own_Wp _ _ _ _ (T22.setTop (mkF m 105 #[rv a1, iv (2 : Int32), iv p3, iv p4, jv (co RR), ss, iv row, iv abv, iv twv, jv (((co RR) <<< ((1 : Int32) &&& 0x3f).toInt64) &&& (mf 1)), ss, jv (FF k), ss, iv (Int32.ofNat (k + 1)), jv z14, ss, jv z16, ss] []))
              have hlt : k + 1 < bd + 1 := by
                have q := hc102_2
                rw [Int32.lt_iff_toInt_lt, hlv] at q
                have q2 : (Int32.ofNat (k + 1)).toInt = ((k + 1 : Nat) : Int) := own_ofN (by omega)
                omega
              have t_d : (Int32.ofNat (k + 1)).toInt = ((k + 1 : Nat) : Int) := own_ofN (by omega)
              have l1 : (1 : Int32).toInt = 1 := by decide
              refine own_of (fun tgt kon => XS.aloadN X22.here hx rfl (hb hby d10_105) rfl rfl kon) ?_
              obtain ⟨T23, X23, e23, st23⟩ := getF X22 hx hZ hown (host := "") (Or.inl (ow hw 39 rfl)) Via.refl e22 F_rows (g := (mkF m 106 #[rv a1, iv (2 : Int32), iv p3, iv p4, jv (co RR), ss, iv row, iv abv, iv twv, jv (((co RR) <<< ((1 : Int32) &&& 0x3f).toInt64) &&& (mf 1)), ss, jv (FF k), ss, iv (Int32.ofNat (k + 1)), jv z14, ss, jv z16, ss] [(.ref a1)])) rfl rfl (hb hby d10_106)
              refine own_of st23 ?_
              clear st23
              refine own_of (fun tgt kon => XS.iload X23.here hx rfl (hb hby d10_109) rfl kon) ?_
              refine own_of (fun tgt kon => XS.iload X23.here hx rfl (hb hby d10_111) rfl kon) ?_
              refine own_of (fun tgt kon => XS.iadd X23.here hx rfl (hb hby d10_113) rfl kon) ?_
              show own_Wp _ _ _ _ (T23.setTop (mkF m 114 #[rv a1, iv (2 : Int32), iv p3, iv p4, jv (co RR), ss, iv row, iv abv, iv twv, jv (((co RR) <<< ((1 : Int32) &&& 0x3f).toInt64) &&& (mf 1)), ss, jv (FF k), ss, iv (Int32.ofNat (k + 1)), jv z14, ss, jv z16, ss] [(.int (abv + (Int32.ofNat (k + 1)))), (.ref ar)]))
              refine own_of (fun tgt kon => XS.iconst X23.here hx rfl (hb hby d10_114) kon) ?_
              refine own_of (fun tgt kon => XS.isub X23.here hx rfl (hb hby d10_115) rfl kon) ?_
              refine own_laload X23 hx hZ e23 V_ar (j := ((abv + (Int32.ofNat (k + 1))) - (1 : Int32))) (i := ((1 * (bd + 1)) + k)) (v := (rf ((1 * (bd + 1)) + k))) (by have q1 := own_addI t_ab t_d (by omega) (by omega); have q2 := own_subI q1 l1 (by omega) (by omega); omega) (by omega) (by show Value.long (own_rk _ _ _ _ _) = _; rw [own_rk_lt (by omega)]) rfl rfl (hb hby d10_116) ?_
              refine own_of (fun tgt kon => XS.lstore X23.here hx rfl (hb hby d10_117) rfl (l' := #[rv a1, iv (2 : Int32), iv p3, iv p4, jv (co RR), ss, iv row, iv abv, iv twv, jv (((co RR) <<< ((1 : Int32) &&& 0x3f).toInt64) &&& (mf 1)), ss, jv (FF k), ss, iv (Int32.ofNat (k + 1)), jv (rf ((1 * (bd + 1)) + k)), ss, jv z16, ss]) rfl kon) ?_
              refine own_of (fun tgt kon => XS.lload X23.here hx rfl (hb hby d10_119) rfl kon) ?_
              show own_Wp _ _ _ _ (T23.setTop (mkF m 121 #[rv a1, iv (2 : Int32), iv p3, iv p4, jv (co RR), ss, iv row, iv abv, iv twv, jv (((co RR) <<< ((1 : Int32) &&& 0x3f).toInt64) &&& (mf 1)), ss, jv (FF k), ss, iv (Int32.ofNat (k + 1)), jv (rf ((1 * (bd + 1)) + k)), ss, jv z16, ss] [(.long (co RR))]))
              refine own_of (fun tgt kon => XS.aloadN X23.here hx rfl (hb hby d10_121) rfl rfl kon) ?_
              obtain ⟨T24, X24, e24, st24⟩ := getF X23 hx hZ hown (host := "") (Or.inl (ow hw 39 rfl)) Via.refl e23 F_rows (g := (mkF m 122 #[rv a1, iv (2 : Int32), iv p3, iv p4, jv (co RR), ss, iv row, iv abv, iv twv, jv (((co RR) <<< ((1 : Int32) &&& 0x3f).toInt64) &&& (mf 1)), ss, jv (FF k), ss, iv (Int32.ofNat (k + 1)), jv (rf ((1 * (bd + 1)) + k)), ss, jv z16, ss] [(.ref a1), (.long (co RR))])) rfl rfl (hb hby d10_122)
              refine own_of st24 ?_
              clear st24
              refine own_of (fun tgt kon => XS.iload X24.here hx rfl (hb hby d10_125) rfl kon) ?_
              refine own_of (fun tgt kon => XS.iload X24.here hx rfl (hb hby d10_127) rfl kon) ?_
              refine own_of (fun tgt kon => XS.iadd X24.here hx rfl (hb hby d10_129) rfl kon) ?_
              show own_Wp _ _ _ _ (T24.setTop (mkF m 130 #[rv a1, iv (2 : Int32), iv p3, iv p4, jv (co RR), ss, iv row, iv abv, iv twv, jv (((co RR) <<< ((1 : Int32) &&& 0x3f).toInt64) &&& (mf 1)), ss, jv (FF k), ss, iv (Int32.ofNat (k + 1)), jv (rf ((1 * (bd + 1)) + k)), ss, jv z16, ss] [(.int (abv + (Int32.ofNat (k + 1)))), (.ref ar), (.long (co RR))]))
              refine own_laload X24 hx hZ e24 V_ar (j := (abv + (Int32.ofNat (k + 1)))) (i := ((1 * (bd + 1)) + (k + 1))) (v := (rf ((1 * (bd + 1)) + (k + 1)))) (by have q1 := own_addI t_ab t_d (by omega) (by omega); omega) (by omega) (by show Value.long (own_rk _ _ _ _ _) = _; rw [own_rk_lt (by omega)]) rfl rfl (hb hby d10_130) ?_
              refine own_of (fun tgt kon => XS.iconst X24.here hx rfl (hb hby d10_131) kon) ?_
              refine own_of (fun tgt kon => XS.lshl X24.here hx rfl (hb hby d10_132) rfl kon) ?_
              refine own_of (fun tgt kon => XS.land X24.here hx rfl (hb hby d10_133) rfl kon) ?_
              refine own_of (fun tgt kon => XS.lload X24.here hx rfl (hb hby d10_134) rfl kon) ?_
              show own_Wp _ _ _ _ (T24.setTop (mkF m 136 #[rv a1, iv (2 : Int32), iv p3, iv p4, jv (co RR), ss, iv row, iv abv, iv twv, jv (((co RR) <<< ((1 : Int32) &&& 0x3f).toInt64) &&& (mf 1)), ss, jv (FF k), ss, iv (Int32.ofNat (k + 1)), jv (rf ((1 * (bd + 1)) + k)), ss, jv z16, ss] [(.long (rf ((1 * (bd + 1)) + k))), (.long ((co RR) &&& ((rf ((1 * (bd + 1)) + (k + 1))) <<< ((1 : Int32) &&& 0x3f).toInt64)))]))
              refine own_of (fun tgt kon => XS.lor X24.here hx rfl (hb hby d10_136) rfl kon) ?_
              refine own_of (fun tgt kon => XS.lload X24.here hx rfl (hb hby d10_137) rfl kon) ?_
              refine own_of (fun tgt kon => XS.iconst X24.here hx rfl (hb hby d10_139) kon) ?_
              refine own_of (fun tgt kon => XS.lshl X24.here hx rfl (hb hby d10_140) rfl kon) ?_
              refine own_of (fun tgt kon => XS.lor X24.here hx rfl (hb hby d10_141) rfl kon) ?_
              show own_Wp _ _ _ _ (T24.setTop (mkF m 142 #[rv a1, iv (2 : Int32), iv p3, iv p4, jv (co RR), ss, iv row, iv abv, iv twv, jv (((co RR) <<< ((1 : Int32) &&& 0x3f).toInt64) &&& (mf 1)), ss, jv (FF k), ss, iv (Int32.ofNat (k + 1)), jv (rf ((1 * (bd + 1)) + k)), ss, jv z16, ss] [(.long ((((co RR) &&& ((rf ((1 * (bd + 1)) + (k + 1))) <<< ((1 : Int32) &&& 0x3f).toInt64)) ||| (rf ((1 * (bd + 1)) + k))) ||| ((rf ((1 * (bd + 1)) + k)) <<< ((1 : Int32) &&& 0x3f).toInt64)))]))
              refine own_of (fun tgt kon => XS.lload X24.here hx rfl (hb hby d10_142) rfl kon) ?_
              refine own_of (fun tgt kon => XS.iconst X24.here hx rfl (hb hby d10_144) kon) ?_
              refine own_of (fun tgt kon => XS.lshl X24.here hx rfl (hb hby d10_145) rfl kon) ?_
              refine own_of (fun tgt kon => XS.lor X24.here hx rfl (hb hby d10_146) rfl kon) ?_
              show own_Wp _ _ _ _ (T24.setTop (mkF m 147 #[rv a1, iv (2 : Int32), iv p3, iv p4, jv (co RR), ss, iv row, iv abv, iv twv, jv (((co RR) <<< ((1 : Int32) &&& 0x3f).toInt64) &&& (mf 1)), ss, jv (FF k), ss, iv (Int32.ofNat (k + 1)), jv (rf ((1 * (bd + 1)) + k)), ss, jv z16, ss] [(.long (((((co RR) &&& ((rf ((1 * (bd + 1)) + (k + 1))) <<< ((1 : Int32) &&& 0x3f).toInt64)) ||| (rf ((1 * (bd + 1)) + k))) ||| ((rf ((1 * (bd + 1)) + k)) <<< ((1 : Int32) &&& 0x3f).toInt64)) ||| ((FF k) <<< ((1 : Int32) &&& 0x3f).toInt64)))]))
              obtain ⟨r1_2, h_r1_2⟩ : ∃ q : Int64, q = (((((co RR) &&& ((rf ((1 * (bd + 1)) + (k + 1))) <<< ((1 : Int32) &&& 0x3f).toInt64)) ||| (rf ((1 * (bd + 1)) + k))) ||| ((rf ((1 * (bd + 1)) + k)) <<< ((1 : Int32) &&& 0x3f).toInt64)) ||| ((FF k) <<< ((1 : Int32) &&& 0x3f).toInt64)) := ⟨_, rfl⟩
              rw [← h_r1_2]
              refine own_of (fun tgt kon => XS.lstore X24.here hx rfl (hb hby d10_147) rfl (l' := #[rv a1, iv (2 : Int32), iv p3, iv p4, jv (co RR), ss, iv row, iv abv, iv twv, jv (((co RR) <<< ((1 : Int32) &&& 0x3f).toInt64) &&& (mf 1)), ss, jv (FF k), ss, iv (Int32.ofNat (k + 1)), jv (rf ((1 * (bd + 1)) + k)), ss, jv r1_2, ss]) rfl kon) ?_
              show own_Wp _ _ _ _ (T24.setTop (mkF m 149 #[rv a1, iv (2 : Int32), iv p3, iv p4, jv (co RR), ss, iv row, iv abv, iv twv, jv (((co RR) <<< ((1 : Int32) &&& 0x3f).toInt64) &&& (mf 1)), ss, jv (FF k), ss, iv (Int32.ofNat (k + 1)), jv (rf ((1 * (bd + 1)) + k)), ss, jv r1_2, ss] []))
              refine own_of (fun tgt kon => XS.lload X24.here hx rfl (hb hby d10_149) rfl kon) ?_
              refine own_of (fun tgt kon => XS.lconst X24.here hx rfl (hb hby d10_151) kon) ?_
              refine own_of (fun tgt kon => XS.lcmp X24.here hx rfl (hb hby d10_152) rfl kon) ?_
              show own_Wp _ _ _ _ (T24.setTop (mkF m 153 #[rv a1, iv (2 : Int32), iv p3, iv p4, jv (co RR), ss, iv row, iv abv, iv twv, jv (((co RR) <<< ((1 : Int32) &&& 0x3f).toInt64) &&& (mf 1)), ss, jv (FF k), ss, iv (Int32.ofNat (k + 1)), jv (rf ((1 * (bd + 1)) + k)), ss, jv r1_2, ss] [(.int (lcmpW (((co RR) <<< ((1 : Int32) &&& 0x3f).toInt64) &&& (mf 1)) (0 : Int64)))]))
              have J178 : ∀ (T25 : State) (lc25 : List Loc) (q2 : Int64), (Stand p l e ({ frames := 1, cells := 0, slots := 0, locals := 15 } : Room) s m #[(.ref a1), (.int (2 : Int32)), (.int p3), (.int p4)] below meth c T25 lc25 0 0) → (T25.heap = h21) → (Fr n0 lc25) → (q2 = if (((co RR) <<< ((1 : Int32) &&& 0x3f).toInt64) &&& (mf 1)) = 0 then r1_2 else r1_2 ||| ((((co RR) <<< ((1 : Int32) &&& 0x3f).toInt64) &&& (mf 1)) &&& ((rf ((0 * (bd + 1)) + k)) <<< ((2 : Int32) &&& 0x3f).toInt64))) → own_Wp p.tables e below (own_K ({ frames := 1, cells := 0, slots := 0, locals := 15 } : Room) s below (Q_rmro2 Z a1 p3 p4 ac ao ar am cp co rf mf FF lv p5 cols out bd ph RL ML RR h0 n0)) (T25.setTop (mkF m 178 #[rv a1, iv (2 : Int32), iv p3, iv p4, jv (co RR), ss, iv row, iv abv, iv twv, jv (((co RR) <<< ((1 : Int32) &&& 0x3f).toInt64) &&& (mf 1)), ss, jv (FF k), ss, iv (Int32.ofNat (k + 1)), jv (rf ((1 * (bd + 1)) + k)), ss, jv q2, ss] [])) := by
                intro T25 lc25 q2 X25 e25 N25 h_q2
                refine own_of (fun tgt kon => XS.lload X25.here hx rfl (hb hby d10_178) rfl kon) ?_
                refine own_of (fun tgt kon => XS.aloadN X25.here hx rfl (hb hby d10_180) rfl rfl kon) ?_
                obtain ⟨T26, X26, e26, st26⟩ := getF X25 hx hZ hown (host := "") (Or.inl (ow hw 27 rfl)) Via.refl e25 F_columns (g := (mkF m 181 #[rv a1, iv (2 : Int32), iv p3, iv p4, jv (co RR), ss, iv row, iv abv, iv twv, jv (((co RR) <<< ((1 : Int32) &&& 0x3f).toInt64) &&& (mf 1)), ss, jv (FF k), ss, iv (Int32.ofNat (k + 1)), jv (rf ((1 * (bd + 1)) + k)), ss, jv q2, ss] [(.ref a1), (.long q2)])) rfl rfl (hb hby d10_181)
                refine own_of st26 ?_
                clear st26
                refine own_of (fun tgt kon => XS.land X26.here hx rfl (hb hby d10_184) rfl kon) ?_
                refine own_of (fun tgt kon => XS.lstore X26.here hx rfl (hb hby d10_185) rfl (l' := #[rv a1, iv (2 : Int32), iv p3, iv p4, jv (co RR), ss, iv row, iv abv, iv twv, jv (((co RR) <<< ((1 : Int32) &&& 0x3f).toInt64) &&& (mf 1)), ss, jv (FF k), ss, iv (Int32.ofNat (k + 1)), jv (rf ((1 * (bd + 1)) + k)), ss, jv (q2 &&& cols), ss]) rfl kon) ?_
                show own_Wp _ _ _ _ (T26.setTop (mkF m 187 #[rv a1, iv (2 : Int32), iv p3, iv p4, jv (co RR), ss, iv row, iv abv, iv twv, jv (((co RR) <<< ((1 : Int32) &&& 0x3f).toInt64) &&& (mf 1)), ss, jv (FF k), ss, iv (Int32.ofNat (k + 1)), jv (rf ((1 * (bd + 1)) + k)), ss, jv (q2 &&& cols), ss] []))
                refine own_of (fun tgt kon => XS.iload X26.here hx rfl (hb hby d10_187) rfl kon) ?_
                refine own_of (fun tgt kon => XS.aloadN X26.here hx rfl (hb hby d10_189) rfl rfl kon) ?_
                obtain ⟨T27, X27, e27, st27⟩ := getF X26 hx hZ hown (host := "") (Or.inl (ow hw 20 rfl)) Via.refl e26 F_headBound (g := (mkF m 190 #[rv a1, iv (2 : Int32), iv p3, iv p4, jv (co RR), ss, iv row, iv abv, iv twv, jv (((co RR) <<< ((1 : Int32) &&& 0x3f).toInt64) &&& (mf 1)), ss, jv (FF k), ss, iv (Int32.ofNat (k + 1)), jv (rf ((1 * (bd + 1)) + k)), ss, jv (q2 &&& cols), ss] [(.ref a1), (.int (Int32.ofNat (k + 1)))])) rfl rfl (hb hby d10_190)
                refine own_of st27 ?_
                clear st27
                show own_Wp _ _ _ _ (T27.setTop (mkF m 193 #[rv a1, iv (2 : Int32), iv p3, iv p4, jv (co RR), ss, iv row, iv abv, iv twv, jv (((co RR) <<< ((1 : Int32) &&& 0x3f).toInt64) &&& (mf 1)), ss, jv (FF k), ss, iv (Int32.ofNat (k + 1)), jv (rf ((1 * (bd + 1)) + k)), ss, jv (q2 &&& cols), ss] [(.int p5), (.int (Int32.ofNat (k + 1)))]))
                have J218 : ∀ (T28 : State) (lc28 : List Loc) (q3 : Int64), (Stand p l e ({ frames := 1, cells := 0, slots := 0, locals := 15 } : Room) s m #[(.ref a1), (.int (2 : Int32)), (.int p3), (.int p4)] below meth c T28 lc28 0 0) → (T28.heap = h21) → (Fr n0 lc28) → (q3 = if ph < k + 1 then (q2 &&& cols) &&& ((FF ph) ||| out) else (q2 &&& cols)) → own_Wp p.tables e below (own_K ({ frames := 1, cells := 0, slots := 0, locals := 15 } : Room) s below (Q_rmro2 Z a1 p3 p4 ac ao ar am cp co rf mf FF lv p5 cols out bd ph RL ML RR h0 n0)) (T28.setTop (mkF m 218 #[rv a1, iv (2 : Int32), iv p3, iv p4, jv (co RR), ss, iv row, iv abv, iv twv, jv (((co RR) <<< ((1 : Int32) &&& 0x3f).toInt64) &&& (mf 1)), ss, jv (FF k), ss, iv (Int32.ofNat (k + 1)), jv (rf ((1 * (bd + 1)) + k)), ss, jv q3, ss] [])) := by
                  intro T28 lc28 q3 X28 e28 N28 h_q3
                  refine own_of (fun tgt kon => XS.aloadN X28.here hx rfl (hb hby d10_218) rfl rfl kon) ?_
                  obtain ⟨T29, X29, e29, st29⟩ := getF X28 hx hZ hown (host := "") (Or.inl (ow hw 39 rfl)) Via.refl e28 F_rows (g := (mkF m 219 #[rv a1, iv (2 : Int32), iv p3, iv p4, jv (co RR), ss, iv row, iv abv, iv twv, jv (((co RR) <<< ((1 : Int32) &&& 0x3f).toInt64) &&& (mf 1)), ss, jv (FF k), ss, iv (Int32.ofNat (k + 1)), jv (rf ((1 * (bd + 1)) + k)), ss, jv q3, ss] [(.ref a1)])) rfl rfl (hb hby d10_219)
                  refine own_of st29 ?_
                  clear st29
                  refine own_of (fun tgt kon => XS.iload X29.here hx rfl (hb hby d10_222) rfl kon) ?_
                  refine own_of (fun tgt kon => XS.iload X29.here hx rfl (hb hby d10_224) rfl kon) ?_
                  refine own_of (fun tgt kon => XS.iadd X29.here hx rfl (hb hby d10_226) rfl kon) ?_
                  show own_Wp _ _ _ _ (T29.setTop (mkF m 227 #[rv a1, iv (2 : Int32), iv p3, iv p4, jv (co RR), ss, iv row, iv abv, iv twv, jv (((co RR) <<< ((1 : Int32) &&& 0x3f).toInt64) &&& (mf 1)), ss, jv (FF k), ss, iv (Int32.ofNat (k + 1)), jv (rf ((1 * (bd + 1)) + k)), ss, jv q3, ss] [(.int (row + (Int32.ofNat (k + 1)))), (.ref ar)]))
                  refine own_of (fun tgt kon => XS.lload X29.here hx rfl (hb hby d10_227) rfl kon) ?_
                  obtain ⟨T30, h30, X30, e30, W30, Aq30, st30⟩ := own_stJ X29 hx hZ e29 V_ar (j := (row + (Int32.ofNat (k + 1)))) (i := ((2 * (bd + 1)) + (k + 1))) (x := q3) (by have q1 := own_addI t_row t_d (by omega) (by omega); omega) (by omega) (g := (mkF m 229 #[rv a1, iv (2 : Int32), iv p3, iv p4, jv (co RR), ss, iv row, iv abv, iv twv, jv (((co RR) <<< ((1 : Int32) &&& 0x3f).toInt64) &&& (mf 1)), ss, jv (FF k), ss, iv (Int32.ofNat (k + 1)), jv (rf ((1 * (bd + 1)) + k)), ss, jv q3, ss] [(.long q3), (.int (row + (Int32.ofNat (k + 1)))), (.ref ar)])) rfl rfl (hb hby d10_229)
                  refine own_of st30 ?_
                  clear st30
                  replace Zs := Nat.le_trans Zs (Keep.of_wr W30).1
                  replace K0 := K0.wr W30 (Or.inl (List.mem_of_getElem? (i := 0) rfl))
                  replace E_a1 := E_a1.wr W30
                  replace F_columnsOf := F_columnsOf.other W30 (Or.inl ne_a1_ar)
                  replace F_codePoints := F_codePoints.other W30 (Or.inl ne_a1_ar)
                  replace F_matches := F_matches.other W30 (Or.inl ne_a1_ar)
                  replace F_rows := F_rows.other W30 (Or.inl ne_a1_ar)
                  replace F_levels := F_levels.other W30 (Or.inl ne_a1_ar)
                  replace F_columns := F_columns.other W30 (Or.inl ne_a1_ar)
                  replace F_headBound := F_headBound.other W30 (Or.inl ne_a1_ar)
                  replace F_outsideHead := F_outsideHead.other W30 (Or.inl ne_a1_ar)
                  replace V_ac := V_ac.other W30 ne_ac_ar
                  replace V_ao := V_ao.other W30 ne_ao_ar
                  replace V_am := V_am.other W30 ne_am_ar
                  replace V_ar := Aq30
                  clear Aq30
                  have hst : q3 = FF (k + 1) := by
                    rw [hFs k]
                    dsimp only
                    rw [h_q3, h_q2, h_r1_2]
                  rw [hst] at V_ar ⊢
                  replace V_ar := V_ar.fn (f' := fun y => .long (own_rk rf (2 * (bd + 1)) FF (k + 1 + 1) y)) (fun y hy => (own_setJ _ _ _ y).trans (congrArg Value.long (own_setRk _ _ _ _ y)))
                  have N30 := Fr.snoc X30 N28 g_ar
                  refine own_of (fun tgt kon => XS.lload X30.here hx rfl (hb hby d10_230) rfl kon) ?_
                  refine own_of (fun tgt kon => XS.lstore X30.here hx rfl (hb hby d10_232) rfl (l' := #[rv a1, iv (2 : Int32), iv p3, iv p4, jv (co RR), ss, iv row, iv abv, iv twv, jv (((co RR) <<< ((1 : Int32) &&& 0x3f).toInt64) &&& (mf 1)), ss, jv (FF (k + 1)), ss, iv (Int32.ofNat (k + 1)), jv (rf ((1 * (bd + 1)) + k)), ss, jv (FF (k + 1)), ss]) rfl kon) ?_
                  refine own_of (fun tgt kon => XS.iinc X30.here hx rfl (hb hby d10_234) rfl (l' := #[rv a1, iv (2 : Int32), iv p3, iv p4, jv (co RR), ss, iv row, iv abv, iv twv, jv (((co RR) <<< ((1 : Int32) &&& 0x3f).toInt64) &&& (mf 1)), ss, jv (FF (k + 1)), ss, iv ((Int32.ofNat (k + 1)) + (1 : Int32)), jv (rf ((1 * (bd + 1)) + k)), ss, jv (FF (k + 1)), ss]) rfl kon) ?_
                  show own_Wp _ _ _ _ (T30.setTop (mkF m 237 #[rv a1, iv (2 : Int32), iv p3, iv p4, jv (co RR), ss, iv row, iv abv, iv twv, jv (((co RR) <<< ((1 : Int32) &&& 0x3f).toInt64) &&& (mf 1)), ss, jv (FF (k + 1)), ss, iv ((Int32.ofNat (k + 1)) + (1 : Int32)), jv (rf ((1 * (bd + 1)) + k)), ss, jv (FF (k + 1)), ss] []))
                  refine own_of (fun tgt kon => XS.goto X30.here hx rfl (pc0 := 237) (pc' := 96) rfl (hb hby d10_237) (by decide) (by decide) kon) ?_
                  show own_Wp _ _ _ _ (T30.setTop (mkF m 96 #[rv a1, iv (2 : Int32), iv p3, iv p4, jv (co RR), ss, iv row, iv abv, iv twv, jv (((co RR) <<< ((1 : Int32) &&& 0x3f).toInt64) &&& (mf 1)), ss, jv (FF (k + 1)), ss, iv ((Int32.ofNat (k + 1)) + (1 : Int32)), jv (rf ((1 * (bd + 1)) + k)), ss, jv (FF (k + 1)), ss] []))
                  rw [own_succ]
                  exact ih T30 _ _ (k + 1) ((rf ((1 * (bd + 1)) + k))) ((FF (k + 1))) X30 e30 N30 Zs K0 E_a1 F_columnsOf F_codePoints F_matches F_rows F_levels F_columns F_headBound F_outsideHead V_ac V_ao V_ar V_am (by omega) (by omega)
                show own_Wp _ _ _ _ (T27.setTop (mkF m 193 #[rv a1, iv (2 : Int32), iv p3, iv p4, jv (co RR), ss, iv row, iv abv, iv twv, jv (((co RR) <<< ((1 : Int32) &&& 0x3f).toInt64) &&& (mf 1)), ss, jv (FF k), ss, iv (Int32.ofNat (k + 1)), jv (rf ((1 * (bd + 1)) + k)), ss, jv (q2 &&& cols), ss] [(.int p5), (.int (Int32.ofNat (k + 1)))]))
                by_cases hc193 : p5 < (Int32.ofNat (k + 1))
                · skip
                  refine own_of (fun tgt kon => XS.icmpNo X27.here hx rfl (hb hby d10_193) rfl (tlt hc193).2.2.2 kon) ?_
                  show own_Wp _ _ _ _ (T27.setTop (mkF m 196 #[rv a1, iv (2 : Int32), iv p3, iv p4, jv (co RR), ss, iv row, iv abv, iv twv, jv (((co RR) <<< ((1 : Int32) &&& 0x3f).toInt64) &&& (mf 1)), ss, jv (FF k), ss, iv (Int32.ofNat (k + 1)), jv (rf ((1 * (bd + 1)) + k)), ss, jv (q2 &&& cols), ss] []))
                  have hlb : ph < k + 1 := by
                    have q := hc193
                    rw [Int32.lt_iff_toInt_lt, hhb, t_d] at q
                    omega
                  refine own_of (fun tgt kon => XS.lload X27.here hx rfl (hb hby d10_196) rfl kon) ?_
                  refine own_of (fun tgt kon => XS.aloadN X27.here hx rfl (hb hby d10_198) rfl rfl kon) ?_
                  obtain ⟨T31, X31, e31, st31⟩ := getF X27 hx hZ hown (host := "") (Or.inl (ow hw 39 rfl)) Via.refl e27 F_rows (g := (mkF m 199 #[rv a1, iv (2 : Int32), iv p3, iv p4, jv (co RR), ss, iv row, iv abv, iv twv, jv (((co RR) <<< ((1 : Int32) &&& 0x3f).toInt64) &&& (mf 1)), ss, jv (FF k), ss, iv (Int32.ofNat (k + 1)), jv (rf ((1 * (bd + 1)) + k)), ss, jv (q2 &&& cols), ss] [(.ref a1), (.long (q2 &&& cols))])) rfl rfl (hb hby d10_199)
                  refine own_of st31 ?_
                  clear st31
                  refine own_of (fun tgt kon => XS.iload X31.here hx rfl (hb hby d10_202) rfl kon) ?_
                  refine own_of (fun tgt kon => XS.aloadN X31.here hx rfl (hb hby d10_204) rfl rfl kon) ?_
                  show own_Wp _ _ _ _ (T31.setTop (mkF m 205 #[rv a1, iv (2 : Int32), iv p3, iv p4, jv (co RR), ss, iv row, iv abv, iv twv, jv (((co RR) <<< ((1 : Int32) &&& 0x3f).toInt64) &&& (mf 1)), ss, jv (FF k), ss, iv (Int32.ofNat (k + 1)), jv (rf ((1 * (bd + 1)) + k)), ss, jv (q2 &&& cols), ss] [(.ref a1), (.int row), (.ref ar), (.long (q2 &&& cols))]))
                  obtain ⟨T32, X32, e32, st32⟩ := getF X31 hx hZ hown (host := "") (Or.inl (ow hw 20 rfl)) Via.refl e31 F_headBound (g := (mkF m 205 #[rv a1, iv (2 : Int32), iv p3, iv p4, jv (co RR), ss, iv row, iv abv, iv twv, jv (((co RR) <<< ((1 : Int32) &&& 0x3f).toInt64) &&& (mf 1)), ss, jv (FF k), ss, iv (Int32.ofNat (k + 1)), jv (rf ((1 * (bd + 1)) + k)), ss, jv (q2 &&& cols), ss] [(.ref a1), (.int row), (.ref ar), (.long (q2 &&& cols))])) rfl rfl (hb hby d10_205)
                  refine own_of st32 ?_
                  clear st32
                  refine own_of (fun tgt kon => XS.iadd X32.here hx rfl (hb hby d10_208) rfl kon) ?_
                  refine own_laload X32 hx hZ e32 V_ar (j := (row + p5)) (i := ((2 * (bd + 1)) + ph)) (v := (FF ph)) (by have q1 := own_addI t_row hhb (by omega) (by omega); omega) (by omega) (by show Value.long (own_rk _ _ _ _ _) = _; rw [own_rk_in (by omega)]) rfl rfl (hb hby d10_209) ?_
                  refine own_of (fun tgt kon => XS.aloadN X32.here hx rfl (hb hby d10_210) rfl rfl kon) ?_
                  obtain ⟨T33, X33, e33, st33⟩ := getF X32 hx hZ hown (host := "") (Or.inl (ow hw 32 rfl)) Via.refl e32 F_outsideHead (g := (mkF m 211 #[rv a1, iv (2 : Int32), iv p3, iv p4, jv (co RR), ss, iv row, iv abv, iv twv, jv (((co RR) <<< ((1 : Int32) &&& 0x3f).toInt64) &&& (mf 1)), ss, jv (FF k), ss, iv (Int32.ofNat (k + 1)), jv (rf ((1 * (bd + 1)) + k)), ss, jv (q2 &&& cols), ss] [(.ref a1), (.long (FF ph)), (.long (q2 &&& cols))])) rfl rfl (hb hby d10_211)
                  refine own_of st33 ?_
                  clear st33
                  show own_Wp _ _ _ _ (T33.setTop (mkF m 214 #[rv a1, iv (2 : Int32), iv p3, iv p4, jv (co RR), ss, iv row, iv abv, iv twv, jv (((co RR) <<< ((1 : Int32) &&& 0x3f).toInt64) &&& (mf 1)), ss, jv (FF k), ss, iv (Int32.ofNat (k + 1)), jv (rf ((1 * (bd + 1)) + k)), ss, jv (q2 &&& cols), ss] [(.long out), (.long (FF ph)), (.long (q2 &&& cols))]))
                  refine own_of (fun tgt kon => XS.lor X33.here hx rfl (hb hby d10_214) rfl kon) ?_
                  refine own_of (fun tgt kon => XS.land X33.here hx rfl (hb hby d10_215) rfl kon) ?_
                  refine own_of (fun tgt kon => XS.lstore X33.here hx rfl (hb hby d10_216) rfl (l' := #[rv a1, iv (2 : Int32), iv p3, iv p4, jv (co RR), ss, iv row, iv abv, iv twv, jv (((co RR) <<< ((1 : Int32) &&& 0x3f).toInt64) &&& (mf 1)), ss, jv (FF k), ss, iv (Int32.ofNat (k + 1)), jv (rf ((1 * (bd + 1)) + k)), ss, jv ((q2 &&& cols) &&& ((FF ph) ||| out)), ss]) rfl kon) ?_
                  show own_Wp _ _ _ _ (T33.setTop (mkF m 218 #[rv a1, iv (2 : Int32), iv p3, iv p4, jv (co RR), ss, iv row, iv abv, iv twv, jv (((co RR) <<< ((1 : Int32) &&& 0x3f).toInt64) &&& (mf 1)), ss, jv (FF k), ss, iv (Int32.ofNat (k + 1)), jv (rf ((1 * (bd + 1)) + k)), ss, jv ((q2 &&& cols) &&& ((FF ph) ||| out)), ss] []))
                  exact J218 T33 _ (((q2 &&& cols) &&& ((FF ph) ||| out))) X33 e33 N25 (by exact (if_pos hlb).symm)
                · skip
                  refine own_of (fun tgt kon => XS.icmpYes X27.here hx rfl (pc0 := 193) (pc' := 218) rfl (hb hby d10_193) rfl (flt hc193).2.2.2 (by decide) (by decide) kon) ?_
                  show own_Wp _ _ _ _ (T27.setTop (mkF m 218 #[rv a1, iv (2 : Int32), iv p3, iv p4, jv (co RR), ss, iv row, iv abv, iv twv, jv (((co RR) <<< ((1 : Int32) &&& 0x3f).toInt64) &&& (mf 1)), ss, jv (FF k), ss, iv (Int32.ofNat (k + 1)), jv (rf ((1 * (bd + 1)) + k)), ss, jv (q2 &&& cols), ss] []))
                  exact J218 T27 _ ((q2 &&& cols)) X27 e27 N25 (by exact (if_neg (fun q => hc193 (by rw [Int32.lt_iff_toInt_lt, hhb, t_d]; omega))).symm)
              show own_Wp _ _ _ _ (T24.setTop (mkF m 153 #[rv a1, iv (2 : Int32), iv p3, iv p4, jv (co RR), ss, iv row, iv abv, iv twv, jv (((co RR) <<< ((1 : Int32) &&& 0x3f).toInt64) &&& (mf 1)), ss, jv (FF k), ss, iv (Int32.ofNat (k + 1)), jv (rf ((1 * (bd + 1)) + k)), ss, jv r1_2, ss] [(.int (lcmpW (((co RR) <<< ((1 : Int32) &&& 0x3f).toInt64) &&& (mf 1)) (0 : Int64)))]))
              by_cases hc153 : (lcmpW (((co RR) <<< ((1 : Int32) &&& 0x3f).toInt64) &&& (mf 1)) (0 : Int64)) = (0 : Int32)
              · skip
                refine own_of (fun tgt kon => XS.ifYes X24.here hx rfl (pc0 := 153) (pc' := 178) rfl (hb hby d10_153) rfl ((if0 _ _).trans (teq hc153).1) (by decide) (by decide) kon) ?_
                show own_Wp _ _ _ _ (T24.setTop (mkF m 178 #[rv a1, iv (2 : Int32), iv p3, iv p4, jv (co RR), ss, iv row, iv abv, iv twv, jv (((co RR) <<< ((1 : Int32) &&& 0x3f).toInt64) &&& (mf 1)), ss, jv (FF k), ss, iv (Int32.ofNat (k + 1)), jv (rf ((1 * (bd + 1)) + k)), ss, jv r1_2, ss] []))
                exact J178 T24 _ (r1_2) X24 e24 N21 (by exact (if_pos ((own_lc0 _).mp hc153)).symm)
              · skip
                refine own_of (fun tgt kon => XS.ifNo X24.here hx rfl (hb hby d10_153) rfl ((if0 _ _).trans (feq hc153).1) kon) ?_
                refine own_of (fun tgt kon => XS.lload X24.here hx rfl (hb hby d10_156) rfl kon) ?_
                refine own_of (fun tgt kon => XS.lload X24.here hx rfl (hb hby d10_158) rfl kon) ?_
                refine own_of (fun tgt kon => XS.aloadN X24.here hx rfl (hb hby d10_160) rfl rfl kon) ?_
                obtain ⟨T34, X34, e34, st34⟩ := getF X24 hx hZ hown (host := "") (Or.inl (ow hw 39 rfl)) Via.refl e24 F_rows (g := (mkF m 161 #[rv a1, iv (2 : Int32), iv p3, iv p4, jv (co RR), ss, iv row, iv abv, iv twv, jv (((co RR) <<< ((1 : Int32) &&& 0x3f).toInt64) &&& (mf 1)), ss, jv (FF k), ss, iv (Int32.ofNat (k + 1)), jv (rf ((1 * (bd + 1)) + k)), ss, jv r1_2, ss] [(.ref a1), (.long (((co RR) <<< ((1 : Int32) &&& 0x3f).toInt64) &&& (mf 1))), (.long r1_2)])) rfl rfl (hb hby d10_161)
                refine own_of st34 ?_
                clear st34
                show own_Wp _ _ _ _ (T34.setTop (mkF m 164 #[rv a1, iv (2 : Int32), iv p3, iv p4, jv (co RR), ss, iv row, iv abv, iv twv, jv (((co RR) <<< ((1 : Int32) &&& 0x3f).toInt64) &&& (mf 1)), ss, jv (FF k), ss, iv (Int32.ofNat (k + 1)), jv (rf ((1 * (bd + 1)) + k)), ss, jv r1_2, ss] [(.ref ar), (.long (((co RR) <<< ((1 : Int32) &&& 0x3f).toInt64) &&& (mf 1))), (.long r1_2)]))
                refine own_of (fun tgt kon => XS.iload X34.here hx rfl (hb hby d10_164) rfl kon) ?_
                refine own_of (fun tgt kon => XS.iload X34.here hx rfl (hb hby d10_166) rfl kon) ?_
                refine own_of (fun tgt kon => XS.iadd X34.here hx rfl (hb hby d10_168) rfl kon) ?_
                refine own_of (fun tgt kon => XS.iconst X34.here hx rfl (hb hby d10_169) kon) ?_
                refine own_of (fun tgt kon => XS.isub X34.here hx rfl (hb hby d10_170) rfl kon) ?_
                show own_Wp _ _ _ _ (T34.setTop (mkF m 171 #[rv a1, iv (2 : Int32), iv p3, iv p4, jv (co RR), ss, iv row, iv abv, iv twv, jv (((co RR) <<< ((1 : Int32) &&& 0x3f).toInt64) &&& (mf 1)), ss, jv (FF k), ss, iv (Int32.ofNat (k + 1)), jv (rf ((1 * (bd + 1)) + k)), ss, jv r1_2, ss] [(.int ((twv + (Int32.ofNat (k + 1))) - (1 : Int32))), (.ref ar), (.long (((co RR) <<< ((1 : Int32) &&& 0x3f).toInt64) &&& (mf 1))), (.long r1_2)]))
                refine own_laload X34 hx hZ e34 V_ar (j := ((twv + (Int32.ofNat (k + 1))) - (1 : Int32))) (i := ((0 * (bd + 1)) + k)) (v := (rf ((0 * (bd + 1)) + k))) (by have q1 := own_addI t_tw t_d (by omega) (by omega); have q2 := own_subI q1 l1 (by omega) (by omega); omega) (by omega) (by show Value.long (own_rk _ _ _ _ _) = _; rw [own_rk_lt (by omega)]) rfl rfl (hb hby d10_171) ?_
                refine own_of (fun tgt kon => XS.iconst X34.here hx rfl (hb hby d10_172) kon) ?_
                refine own_of (fun tgt kon => XS.lshl X34.here hx rfl (hb hby d10_173) rfl kon) ?_
                refine own_of (fun tgt kon => XS.land X34.here hx rfl (hb hby d10_174) rfl kon) ?_
                refine own_of (fun tgt kon => XS.lor X34.here hx rfl (hb hby d10_175) rfl kon) ?_
                show own_Wp _ _ _ _ (T34.setTop (mkF m 176 #[rv a1, iv (2 : Int32), iv p3, iv p4, jv (co RR), ss, iv row, iv abv, iv twv, jv (((co RR) <<< ((1 : Int32) &&& 0x3f).toInt64) &&& (mf 1)), ss, jv (FF k), ss, iv (Int32.ofNat (k + 1)), jv (rf ((1 * (bd + 1)) + k)), ss, jv r1_2, ss] [(.long (r1_2 ||| ((((co RR) <<< ((1 : Int32) &&& 0x3f).toInt64) &&& (mf 1)) &&& ((rf ((0 * (bd + 1)) + k)) <<< ((2 : Int32) &&& 0x3f).toInt64))))]))
                refine own_of (fun tgt kon => XS.lstore X34.here hx rfl (hb hby d10_176) rfl (l' := #[rv a1, iv (2 : Int32), iv p3, iv p4, jv (co RR), ss, iv row, iv abv, iv twv, jv (((co RR) <<< ((1 : Int32) &&& 0x3f).toInt64) &&& (mf 1)), ss, jv (FF k), ss, iv (Int32.ofNat (k + 1)), jv (rf ((1 * (bd + 1)) + k)), ss, jv (r1_2 ||| ((((co RR) <<< ((1 : Int32) &&& 0x3f).toInt64) &&& (mf 1)) &&& ((rf ((0 * (bd + 1)) + k)) <<< ((2 : Int32) &&& 0x3f).toInt64))), ss]) rfl kon) ?_
                show own_Wp _ _ _ _ (T34.setTop (mkF m 178 #[rv a1, iv (2 : Int32), iv p3, iv p4, jv (co RR), ss, iv row, iv abv, iv twv, jv (((co RR) <<< ((1 : Int32) &&& 0x3f).toInt64) &&& (mf 1)), ss, jv (FF k), ss, iv (Int32.ofNat (k + 1)), jv (rf ((1 * (bd + 1)) + k)), ss, jv (r1_2 ||| ((((co RR) <<< ((1 : Int32) &&& 0x3f).toInt64) &&& (mf 1)) &&& ((rf ((0 * (bd + 1)) + k)) <<< ((2 : Int32) &&& 0x3f).toInt64))), ss] []))
                exact J178 T34 _ ((r1_2 ||| ((((co RR) <<< ((1 : Int32) &&& 0x3f).toInt64) &&& (mf 1)) &&& ((rf ((0 * (bd + 1)) + k)) <<< ((2 : Int32) &&& 0x3f).toInt64)))) X34 e34 N21 (by exact (if_neg (fun q => hc153 ((own_lc0 _).mpr q))).symm)
            · skip
              refine own_of (fun tgt kon => XS.icmpYes X22.here hx rfl (pc0 := 102) (pc' := 240) rfl (hb hby d10_102) rfl (flt hc102_2).2.1 (by decide) (by decide) kon) ?_
              refine own_of (fun tgt kon => XS.lload X22.here hx rfl (hb hby d10_240) rfl kon) ?_
              show own_Wp _ _ _ _ (T22.setTop (mkF m 242 #[rv a1, iv (2 : Int32), iv p3, iv p4, jv (co RR), ss, iv row, iv abv, iv twv, jv (((co RR) <<< ((1 : Int32) &&& 0x3f).toInt64) &&& (mf 1)), ss, jv (FF k), ss, iv (Int32.ofNat (k + 1)), jv z14, ss, jv z16, ss] [(.long (FF k))]))
              refine own_of (fun tgt kon => XS.lconst X22.here hx rfl (hb hby d10_242) kon) ?_
              refine own_of (fun tgt kon => XS.lcmp X22.here hx rfl (hb hby d10_243) rfl kon) ?_
              by_cases hc244 : (lcmpW (FF k) (0 : Int64)) = (0 : Int32)
              · skip
                refine own_of (fun tgt kon => XS.ifYes X22.here hx rfl (pc0 := 244) (pc' := 251) rfl (hb hby d10_244) rfl ((if0 _ _).trans (teq hc244).1) (by decide) (by decide) kon) ?_
                refine own_of (fun tgt kon => XS.iconst X22.here hx rfl (hb hby d10_251) kon) ?_
                show own_Wp _ _ _ _ (T22.setTop (mkF m 252 #[rv a1, iv (2 : Int32), iv p3, iv p4, jv (co RR), ss, iv row, iv abv, iv twv, jv (((co RR) <<< ((1 : Int32) &&& 0x3f).toInt64) &&& (mf 1)), ss, jv (FF k), ss, iv (Int32.ofNat (k + 1)), jv z14, ss, jv z16, ss] [(.int (0 : Int32))]))
                refine own_ret X22 hlk (some (.int (0 : Int32))) (own_rtI hrt) (fun fs hr => retN X22 hx (t := .boolean) hrt (by simp) (hb hby d10_252) hr) ?_ (by decide) (by decide)
                rw [e22]
                have hge : k = bd := by
                  have q := hc102_2
                  rw [Int32.lt_iff_toInt_lt, hlv, own_ofN (by omega)] at q
                  omega
                subst hge
                refine ⟨?_, N21, K0, V_ar, V_am⟩
                rw [if_pos ((own_lc0 _).mp hc244)]
              · skip
                refine own_of (fun tgt kon => XS.ifNo X22.here hx rfl (hb hby d10_244) rfl ((if0 _ _).trans (feq hc244).1) kon) ?_
                refine own_of (fun tgt kon => XS.iconst X22.here hx rfl (hb hby d10_247) kon) ?_
                refine own_of (fun tgt kon => XS.goto X22.here hx rfl (pc0 := 248) (pc' := 252) rfl (hb hby d10_248) (by decide) (by decide) kon) ?_
                show own_Wp _ _ _ _ (T22.setTop (mkF m 252 #[rv a1, iv (2 : Int32), iv p3, iv p4, jv (co RR), ss, iv row, iv abv, iv twv, jv (((co RR) <<< ((1 : Int32) &&& 0x3f).toInt64) &&& (mf 1)), ss, jv (FF k), ss, iv (Int32.ofNat (k + 1)), jv z14, ss, jv z16, ss] [(.int (1 : Int32))]))
                refine own_ret X22 hlk (some (.int (1 : Int32))) (own_rtI hrt) (fun fs hr => retN X22 hx (t := .boolean) hrt (by simp) (hb hby d10_252) hr) ?_ (by decide) (by decide)
                rw [e22]
                have hge : k = bd := by
                  have q := hc102_2
                  rw [Int32.lt_iff_toInt_lt, hlv, own_ofN (by omega)] at q
                  omega
                subst hge
                refine ⟨?_, N21, K0, V_ar, V_am⟩
                rw [if_neg (fun q => hc244 ((own_lc0 _).mpr q))]
        show own_Wp _ _ _ _ (T20.setTop (mkF m 96 #[rv a1, iv (2 : Int32), iv p3, iv p4, jv (co RR), ss, iv row, iv abv, iv twv, jv (((co RR) <<< ((1 : Int32) &&& 0x3f).toInt64) &&& (mf 1)), ss, jv (FF (0 + 1)), ss, iv (Int32.ofNat (1 + 1)), jv (rf ((1 * (bd + 1)) + 0)), ss, jv (FF (0 + 1)), ss] []))
        exact J96 _ T20 _ _ (1) ((rf ((1 * (bd + 1)) + 0))) ((FF (0 + 1))) X20 e20 N20 Zs K0 E_a1 F_columnsOf F_codePoints F_matches F_rows F_levels F_columns F_headBound F_outsideHead V_ac V_ao V_ar V_am (by omega) (Nat.lt_succ_self _)
      show own_Wp _ _ _ _ (T17.setTop (mkF m 193 #[rv a1, iv (2 : Int32), iv p3, iv p4, jv (co RR), ss, iv row, iv abv, iv twv, jv (((co RR) <<< ((1 : Int32) &&& 0x3f).toInt64) &&& (mf 1)), ss, jv (FF 0), ss, iv (1 : Int32), jv (rf ((1 * (bd + 1)) + 0)), ss, jv (q2 &&& cols), ss] [(.int p5), (.int (1 : Int32))]))
      by_cases hc193 : p5 < (1 : Int32)
      · skip
        refine own_of (fun tgt kon => XS.icmpNo X17.here hx rfl (hb hby d10_193) rfl (tlt hc193).2.2.2 kon) ?_
        show own_Wp _ _ _ _ (T17.setTop (mkF m 196 #[rv a1, iv (2 : Int32), iv p3, iv p4, jv (co RR), ss, iv row, iv abv, iv twv, jv (((co RR) <<< ((1 : Int32) &&& 0x3f).toInt64) &&& (mf 1)), ss, jv (FF 0), ss, iv (1 : Int32), jv (rf ((1 * (bd + 1)) + 0)), ss, jv (q2 &&& cols), ss] []))
        have hlb : ph < 0 + 1 := by
          have q := hc193
          rw [Int32.lt_iff_toInt_lt, hhb, t_d] at q
          omega
        refine own_of (fun tgt kon => XS.lload X17.here hx rfl (hb hby d10_196) rfl kon) ?_
        refine own_of (fun tgt kon => XS.aloadN X17.here hx rfl (hb hby d10_198) rfl rfl kon) ?_
        obtain ⟨T35, X35, e35, st35⟩ := getF X17 hx hZ hown (host := "") (Or.inl (ow hw 39 rfl)) Via.refl e17 F_rows (g := (mkF m 199 #[rv a1, iv (2 : Int32), iv p3, iv p4, jv (co RR), ss, iv row, iv abv, iv twv, jv (((co RR) <<< ((1 : Int32) &&& 0x3f).toInt64) &&& (mf 1)), ss, jv (FF 0), ss, iv (1 : Int32), jv (rf ((1 * (bd + 1)) + 0)), ss, jv (q2 &&& cols), ss] [(.ref a1), (.long (q2 &&& cols))])) rfl rfl (hb hby d10_199)
        refine own_of st35 ?_
        clear st35
        refine own_of (fun tgt kon => XS.iload X35.here hx rfl (hb hby d10_202) rfl kon) ?_
        refine own_of (fun tgt kon => XS.aloadN X35.here hx rfl (hb hby d10_204) rfl rfl kon) ?_
        show own_Wp _ _ _ _ (T35.setTop (mkF m 205 #[rv a1, iv (2 : Int32), iv p3, iv p4, jv (co RR), ss, iv row, iv abv, iv twv, jv (((co RR) <<< ((1 : Int32) &&& 0x3f).toInt64) &&& (mf 1)), ss, jv (FF 0), ss, iv (1 : Int32), jv (rf ((1 * (bd + 1)) + 0)), ss, jv (q2 &&& cols), ss] [(.ref a1), (.int row), (.ref ar), (.long (q2 &&& cols))]))
        obtain ⟨T36, X36, e36, st36⟩ := getF X35 hx hZ hown (host := "") (Or.inl (ow hw 20 rfl)) Via.refl e35 F_headBound (g := (mkF m 205 #[rv a1, iv (2 : Int32), iv p3, iv p4, jv (co RR), ss, iv row, iv abv, iv twv, jv (((co RR) <<< ((1 : Int32) &&& 0x3f).toInt64) &&& (mf 1)), ss, jv (FF 0), ss, iv (1 : Int32), jv (rf ((1 * (bd + 1)) + 0)), ss, jv (q2 &&& cols), ss] [(.ref a1), (.int row), (.ref ar), (.long (q2 &&& cols))])) rfl rfl (hb hby d10_205)
        refine own_of st36 ?_
        clear st36
        refine own_of (fun tgt kon => XS.iadd X36.here hx rfl (hb hby d10_208) rfl kon) ?_
        refine own_laload X36 hx hZ e36 V_ar (j := (row + p5)) (i := ((2 * (bd + 1)) + ph)) (v := (FF ph)) (by have q1 := own_addI t_row hhb (by omega) (by omega); omega) (by omega) (by show Value.long (own_rk _ _ _ _ _) = _; rw [own_rk_in (by omega)]) rfl rfl (hb hby d10_209) ?_
        refine own_of (fun tgt kon => XS.aloadN X36.here hx rfl (hb hby d10_210) rfl rfl kon) ?_
        obtain ⟨T37, X37, e37, st37⟩ := getF X36 hx hZ hown (host := "") (Or.inl (ow hw 32 rfl)) Via.refl e36 F_outsideHead (g := (mkF m 211 #[rv a1, iv (2 : Int32), iv p3, iv p4, jv (co RR), ss, iv row, iv abv, iv twv, jv (((co RR) <<< ((1 : Int32) &&& 0x3f).toInt64) &&& (mf 1)), ss, jv (FF 0), ss, iv (1 : Int32), jv (rf ((1 * (bd + 1)) + 0)), ss, jv (q2 &&& cols), ss] [(.ref a1), (.long (FF ph)), (.long (q2 &&& cols))])) rfl rfl (hb hby d10_211)
        refine own_of st37 ?_
        clear st37
        show own_Wp _ _ _ _ (T37.setTop (mkF m 214 #[rv a1, iv (2 : Int32), iv p3, iv p4, jv (co RR), ss, iv row, iv abv, iv twv, jv (((co RR) <<< ((1 : Int32) &&& 0x3f).toInt64) &&& (mf 1)), ss, jv (FF 0), ss, iv (1 : Int32), jv (rf ((1 * (bd + 1)) + 0)), ss, jv (q2 &&& cols), ss] [(.long out), (.long (FF ph)), (.long (q2 &&& cols))]))
        refine own_of (fun tgt kon => XS.lor X37.here hx rfl (hb hby d10_214) rfl kon) ?_
        refine own_of (fun tgt kon => XS.land X37.here hx rfl (hb hby d10_215) rfl kon) ?_
        refine own_of (fun tgt kon => XS.lstore X37.here hx rfl (hb hby d10_216) rfl (l' := #[rv a1, iv (2 : Int32), iv p3, iv p4, jv (co RR), ss, iv row, iv abv, iv twv, jv (((co RR) <<< ((1 : Int32) &&& 0x3f).toInt64) &&& (mf 1)), ss, jv (FF 0), ss, iv (1 : Int32), jv (rf ((1 * (bd + 1)) + 0)), ss, jv ((q2 &&& cols) &&& ((FF ph) ||| out)), ss]) rfl kon) ?_
        show own_Wp _ _ _ _ (T37.setTop (mkF m 218 #[rv a1, iv (2 : Int32), iv p3, iv p4, jv (co RR), ss, iv row, iv abv, iv twv, jv (((co RR) <<< ((1 : Int32) &&& 0x3f).toInt64) &&& (mf 1)), ss, jv (FF 0), ss, iv (1 : Int32), jv (rf ((1 * (bd + 1)) + 0)), ss, jv ((q2 &&& cols) &&& ((FF ph) ||| out)), ss] []))
        exact J218 T37 _ (((q2 &&& cols) &&& ((FF ph) ||| out))) X37 e37 N15 (by exact (if_pos hlb).symm)
      · skip
        refine own_of (fun tgt kon => XS.icmpYes X17.here hx rfl (pc0 := 193) (pc' := 218) rfl (hb hby d10_193) rfl (flt hc193).2.2.2 (by decide) (by decide) kon) ?_
        show own_Wp _ _ _ _ (T17.setTop (mkF m 218 #[rv a1, iv (2 : Int32), iv p3, iv p4, jv (co RR), ss, iv row, iv abv, iv twv, jv (((co RR) <<< ((1 : Int32) &&& 0x3f).toInt64) &&& (mf 1)), ss, jv (FF 0), ss, iv (1 : Int32), jv (rf ((1 * (bd + 1)) + 0)), ss, jv (q2 &&& cols), ss] []))
        exact J218 T17 _ ((q2 &&& cols)) X17 e17 N15 (by exact (if_neg (fun q => hc193 (by rw [Int32.lt_iff_toInt_lt, hhb, t_d]; omega))).symm)
    show own_Wp _ _ _ _ (T14.setTop (mkF m 153 #[rv a1, iv (2 : Int32), iv p3, iv p4, jv (co RR), ss, iv row, iv abv, iv twv, jv (((co RR) <<< ((1 : Int32) &&& 0x3f).toInt64) &&& (mf 1)), ss, jv (FF 0), ss, iv (1 : Int32), jv (rf ((1 * (bd + 1)) + 0)), ss, jv r1, ss] [(.int (lcmpW (((co RR) <<< ((1 : Int32) &&& 0x3f).toInt64) &&& (mf 1)) (0 : Int64)))]))
    by_cases hc153 : (lcmpW (((co RR) <<< ((1 : Int32) &&& 0x3f).toInt64) &&& (mf 1)) (0 : Int64)) = (0 : Int32)
    · skip
      refine own_of (fun tgt kon => XS.ifYes X14.here hx rfl (pc0 := 153) (pc' := 178) rfl (hb hby d10_153) rfl ((if0 _ _).trans (teq hc153).1) (by decide) (by decide) kon) ?_
      show own_Wp _ _ _ _ (T14.setTop (mkF m 178 #[rv a1, iv (2 : Int32), iv p3, iv p4, jv (co RR), ss, iv row, iv abv, iv twv, jv (((co RR) <<< ((1 : Int32) &&& 0x3f).toInt64) &&& (mf 1)), ss, jv (FF 0), ss, iv (1 : Int32), jv (rf ((1 * (bd + 1)) + 0)), ss, jv r1, ss] []))
      exact J178 T14 _ (r1) X14 e14 N11 (by exact (if_pos ((own_lc0 _).mp hc153)).symm)
    · skip
      refine own_of (fun tgt kon => XS.ifNo X14.here hx rfl (hb hby d10_153) rfl ((if0 _ _).trans (feq hc153).1) kon) ?_
      refine own_of (fun tgt kon => XS.lload X14.here hx rfl (hb hby d10_156) rfl kon) ?_
      refine own_of (fun tgt kon => XS.lload X14.here hx rfl (hb hby d10_158) rfl kon) ?_
      refine own_of (fun tgt kon => XS.aloadN X14.here hx rfl (hb hby d10_160) rfl rfl kon) ?_
      obtain ⟨T38, X38, e38, st38⟩ := getF X14 hx hZ hown (host := "") (Or.inl (ow hw 39 rfl)) Via.refl e14 F_rows (g := (mkF m 161 #[rv a1, iv (2 : Int32), iv p3, iv p4, jv (co RR), ss, iv row, iv abv, iv twv, jv (((co RR) <<< ((1 : Int32) &&& 0x3f).toInt64) &&& (mf 1)), ss, jv (FF 0), ss, iv (1 : Int32), jv (rf ((1 * (bd + 1)) + 0)), ss, jv r1, ss] [(.ref a1), (.long (((co RR) <<< ((1 : Int32) &&& 0x3f).toInt64) &&& (mf 1))), (.long r1)])) rfl rfl (hb hby d10_161)
      refine own_of st38 ?_
      clear st38
      show own_Wp _ _ _ _ (T38.setTop (mkF m 164 #[rv a1, iv (2 : Int32), iv p3, iv p4, jv (co RR), ss, iv row, iv abv, iv twv, jv (((co RR) <<< ((1 : Int32) &&& 0x3f).toInt64) &&& (mf 1)), ss, jv (FF 0), ss, iv (1 : Int32), jv (rf ((1 * (bd + 1)) + 0)), ss, jv r1, ss] [(.ref ar), (.long (((co RR) <<< ((1 : Int32) &&& 0x3f).toInt64) &&& (mf 1))), (.long r1)]))
      refine own_of (fun tgt kon => XS.iload X38.here hx rfl (hb hby d10_164) rfl kon) ?_
      refine own_of (fun tgt kon => XS.iload X38.here hx rfl (hb hby d10_166) rfl kon) ?_
      refine own_of (fun tgt kon => XS.iadd X38.here hx rfl (hb hby d10_168) rfl kon) ?_
      refine own_of (fun tgt kon => XS.iconst X38.here hx rfl (hb hby d10_169) kon) ?_
      refine own_of (fun tgt kon => XS.isub X38.here hx rfl (hb hby d10_170) rfl kon) ?_
      show own_Wp _ _ _ _ (T38.setTop (mkF m 171 #[rv a1, iv (2 : Int32), iv p3, iv p4, jv (co RR), ss, iv row, iv abv, iv twv, jv (((co RR) <<< ((1 : Int32) &&& 0x3f).toInt64) &&& (mf 1)), ss, jv (FF 0), ss, iv (1 : Int32), jv (rf ((1 * (bd + 1)) + 0)), ss, jv r1, ss] [(.int ((twv + (1 : Int32)) - (1 : Int32))), (.ref ar), (.long (((co RR) <<< ((1 : Int32) &&& 0x3f).toInt64) &&& (mf 1))), (.long r1)]))
      refine own_laload X38 hx hZ e38 V_ar (j := ((twv + (1 : Int32)) - (1 : Int32))) (i := ((0 * (bd + 1)) + 0)) (v := (rf ((0 * (bd + 1)) + 0))) (by have q1 := own_addI t_tw t_d (by omega) (by omega); have q2 := own_subI q1 l1 (by omega) (by omega); omega) (by omega) (by show Value.long (own_rk _ _ _ _ _) = _; rw [own_rk_lt (by omega)]) rfl rfl (hb hby d10_171) ?_
      refine own_of (fun tgt kon => XS.iconst X38.here hx rfl (hb hby d10_172) kon) ?_
      refine own_of (fun tgt kon => XS.lshl X38.here hx rfl (hb hby d10_173) rfl kon) ?_
      refine own_of (fun tgt kon => XS.land X38.here hx rfl (hb hby d10_174) rfl kon) ?_
      refine own_of (fun tgt kon => XS.lor X38.here hx rfl (hb hby d10_175) rfl kon) ?_
      show own_Wp _ _ _ _ (T38.setTop (mkF m 176 #[rv a1, iv (2 : Int32), iv p3, iv p4, jv (co RR), ss, iv row, iv abv, iv twv, jv (((co RR) <<< ((1 : Int32) &&& 0x3f).toInt64) &&& (mf 1)), ss, jv (FF 0), ss, iv (1 : Int32), jv (rf ((1 * (bd + 1)) + 0)), ss, jv r1, ss] [(.long (r1 ||| ((((co RR) <<< ((1 : Int32) &&& 0x3f).toInt64) &&& (mf 1)) &&& ((rf ((0 * (bd + 1)) + 0)) <<< ((2 : Int32) &&& 0x3f).toInt64))))]))
      refine own_of (fun tgt kon => XS.lstore X38.here hx rfl (hb hby d10_176) rfl (l' := #[rv a1, iv (2 : Int32), iv p3, iv p4, jv (co RR), ss, iv row, iv abv, iv twv, jv (((co RR) <<< ((1 : Int32) &&& 0x3f).toInt64) &&& (mf 1)), ss, jv (FF 0), ss, iv (1 : Int32), jv (rf ((1 * (bd + 1)) + 0)), ss, jv (r1 ||| ((((co RR) <<< ((1 : Int32) &&& 0x3f).toInt64) &&& (mf 1)) &&& ((rf ((0 * (bd + 1)) + 0)) <<< ((2 : Int32) &&& 0x3f).toInt64))), ss]) rfl kon) ?_
      show own_Wp _ _ _ _ (T38.setTop (mkF m 178 #[rv a1, iv (2 : Int32), iv p3, iv p4, jv (co RR), ss, iv row, iv abv, iv twv, jv (((co RR) <<< ((1 : Int32) &&& 0x3f).toInt64) &&& (mf 1)), ss, jv (FF 0), ss, iv (1 : Int32), jv (rf ((1 * (bd + 1)) + 0)), ss, jv (r1 ||| ((((co RR) <<< ((1 : Int32) &&& 0x3f).toInt64) &&& (mf 1)) &&& ((rf ((0 * (bd + 1)) + 0)) <<< ((2 : Int32) &&& 0x3f).toInt64))), ss] []))
      exact J178 T38 _ ((r1 ||| ((((co RR) <<< ((1 : Int32) &&& 0x3f).toInt64) &&& (mf 1)) &&& ((rf ((0 * (bd + 1)) + 0)) <<< ((2 : Int32) &&& 0x3f).toInt64)))) X38 e38 N11 (by exact (if_neg (fun q => hc153 ((own_lc0 _).mpr q))).symm)
  · skip
    refine own_of (fun tgt kon => XS.icmpYes X12.here hx rfl (pc0 := 102) (pc' := 240) rfl (hb hby d10_102) rfl (flt hc102).2.1 (by decide) (by decide) kon) ?_
    refine own_of (fun tgt kon => XS.lload X12.here hx rfl (hb hby d10_240) rfl kon) ?_
    show own_Wp _ _ _ _ (T12.setTop (mkF m 242 #[rv a1, iv (2 : Int32), iv p3, iv p4, jv (co RR), ss, iv row, iv abv, iv twv, jv (((co RR) <<< ((1 : Int32) &&& 0x3f).toInt64) &&& (mf 1)), ss, jv (FF 0), ss, iv (1 : Int32), uu, uu, uu, uu] [(.long (FF 0))]))
    refine own_of (fun tgt kon => XS.lconst X12.here hx rfl (hb hby d10_242) kon) ?_
    refine own_of (fun tgt kon => XS.lcmp X12.here hx rfl (hb hby d10_243) rfl kon) ?_
    by_cases hc244 : (lcmpW (FF 0) (0 : Int64)) = (0 : Int32)
    · skip
      refine own_of (fun tgt kon => XS.ifYes X12.here hx rfl (pc0 := 244) (pc' := 251) rfl (hb hby d10_244) rfl ((if0 _ _).trans (teq hc244).1) (by decide) (by decide) kon) ?_
      refine own_of (fun tgt kon => XS.iconst X12.here hx rfl (hb hby d10_251) kon) ?_
      show own_Wp _ _ _ _ (T12.setTop (mkF m 252 #[rv a1, iv (2 : Int32), iv p3, iv p4, jv (co RR), ss, iv row, iv abv, iv twv, jv (((co RR) <<< ((1 : Int32) &&& 0x3f).toInt64) &&& (mf 1)), ss, jv (FF 0), ss, iv (1 : Int32), uu, uu, uu, uu] [(.int (0 : Int32))]))
      refine own_ret X12 hlk (some (.int (0 : Int32))) (own_rtI hrt) (fun fs hr => retN X12 hx (t := .boolean) hrt (by simp) (hb hby d10_252) hr) ?_ (by decide) (by decide)
      rw [e12]
      have hge : bd = 0 := by
        have q := hc102
        rw [Int32.lt_iff_toInt_lt, hlv, show (1 : Int32).toInt = 1 from by decide] at q
        omega
      subst hge
      refine ⟨?_, N11, K0, V_ar, V_am⟩
      rw [if_pos ((own_lc0 _).mp hc244)]
    · skip
      refine own_of (fun tgt kon => XS.ifNo X12.here hx rfl (hb hby d10_244) rfl ((if0 _ _).trans (feq hc244).1) kon) ?_
      refine own_of (fun tgt kon => XS.iconst X12.here hx rfl (hb hby d10_247) kon) ?_
      refine own_of (fun tgt kon => XS.goto X12.here hx rfl (pc0 := 248) (pc' := 252) rfl (hb hby d10_248) (by decide) (by decide) kon) ?_
      show own_Wp _ _ _ _ (T12.setTop (mkF m 252 #[rv a1, iv (2 : Int32), iv p3, iv p4, jv (co RR), ss, iv row, iv abv, iv twv, jv (((co RR) <<< ((1 : Int32) &&& 0x3f).toInt64) &&& (mf 1)), ss, jv (FF 0), ss, iv (1 : Int32), uu, uu, uu, uu] [(.int (1 : Int32))]))
      refine own_ret X12 hlk (some (.int (1 : Int32))) (own_rtI hrt) (fun fs hr => retN X12 hx (t := .boolean) hrt (by simp) (hb hby d10_252) hr) ?_ (by decide) (by decide)
      rw [e12]
      have hge : bd = 0 := by
        have q := hc102
        rw [Int32.lt_iff_toInt_lt, hlv, show (1 : Int32).toInt = 1 from by decide] at q
        omega
      subst hge
      refine ⟨?_, N11, K0, V_ar, V_am⟩
      rw [if_neg (fun q => hc244 ((own_lc0 _).mpr q))]
def Q_rmro3 (Z : State) (a1 : Addr) (p3 : Int32) (p4 : Int32) (ac : Addr) (ao : Addr) (ar : Addr) (am : Addr) (cp : Nat → Int32) (co : Nat → Int64) (rf : Nat → Int64) (mf : Nat → Int64) (FF : Nat → Int64) (lv : Int32) (p5 : Int32) (cols : Int64) (out : Int64) (bd : Nat) (ph : Nat) (RL : Nat) (ML : Nat) (RR : Nat) (h0 : Heap) (n0 : Nat) (v : Option Value) (h : Heap) (L : List Loc) : Prop := v = some (.int (if FF bd = 0 then 0 else 1)) ∧ Fr n0 L ∧ Keep h0 h [ar, am] ∧ own_Ar Z h ar .long RL (fun y => .long (own_rk rf (3 * (bd + 1)) FF (bd + 1) y)) ∧ own_Ar Z h am .long ML (fun k => .long (own_upd mf 3 (co RR) k))
set_option maxRecDepth 65536 in
set_option maxHeartbeats 40000000 in
theorem rmro3 (l : Launch) (Z : State) (a0 : Array Value) (hw : ∀ d ∈ tables_1, d.before a0 Z = true) (ws : List Jvm.Cond) (a1 : Addr) (p3 : Int32) (p4 : Int32) (ac : Addr) (ao : Addr) (ar : Addr) (am : Addr) (cp : Nat → Int32) (co : Nat → Int64) (rf : Nat → Int64) (mf : Nat → Int64) (FF : Nat → Int64) (lv : Int32) (p5 : Int32) (cols : Int64) (out : Int64) (bd : Nat) (ph : Nat) (RL : Nat) (ML : Nat) (RR : Nat) (h0 : Heap) (n0 : Nat) (Z0 : n0 ≤ h0.size) (E_a1 : Exa Z h0 a1 "com/example/close_words/closewords/BitRows") (F_columnsOf : Fld Z h0 a1 "com/example/close_words/closewords/BitRows" "columnsOf" "[J" (.ref ao)) (F_codePoints : Fld Z h0 a1 "com/example/close_words/closewords/BitRows" "codePoints" "[I" (.ref ac)) (F_matches : Fld Z h0 a1 "com/example/close_words/closewords/BitRows" "matches" "[J" (.ref am)) (F_rows : Fld Z h0 a1 "com/example/close_words/closewords/BitRows" "rows" "[J" (.ref ar)) (F_levels : Fld Z h0 a1 "com/example/close_words/closewords/BitRows" "levels" "I" (.int lv)) (F_columns : Fld Z h0 a1 "com/example/close_words/closewords/BitRows" "columns" "J" (.long cols)) (F_headBound : Fld Z h0 a1 "com/example/close_words/closewords/BitRows" "headBound" "I" (.int p5)) (F_outsideHead : Fld Z h0 a1 "com/example/close_words/closewords/BitRows" "outsideHead" "J" (.long out)) (V_ac : own_Ar Z h0 ac .int 128 (fun k => .int (cp k))) (V_ao : own_Ar Z h0 ao .long 128 (fun k => .long (co k))) (V_ar : own_Ar Z h0 ar .long RL (fun k => .long (rf k))) (V_am : own_Ar Z h0 am .long ML (fun k => .long (mf k))) (ne_a1_ar : a1 ≠ ar) (ne_a1_am : a1 ≠ am) (ne_ac_ar : ac ≠ ar) (ne_ac_am : ac ≠ am) (ne_ao_ar : ao ≠ ar) (ne_ao_am : ao ≠ am) (ne_am_ar : am ≠ ar) (g_ar : n0 ≤ ar) (g_am : n0 ≤ am) (hlv : lv.toInt = ((bd + 1 : Nat) : Int)) (hbd63 : bd ≤ 63) (hhb : p5.toInt = (ph : Int)) (hhb63 : ph ≤ 63) (hRLi : 4 * (bd + 1) ≤ RL) (hMLi : 3 < ML) (hR0 : own_find cp p3 8 (p3 &&& 127).toNatClampNeg = RR) (hR : cp RR = p3 ∨ cp RR = -1) (hRl : RR < 128) (hF0 : FF 0 = ((co RR) &&& ((rf (2 * (bd + 1))) <<< ((1 : Int32) &&& 0x3f).toInt64))) (hFs : ∀ d, FF (d + 1) = (let r1 := ((((co RR) &&& ((rf ((2 * (bd + 1)) + (d + 1))) <<< ((1 : Int32) &&& 0x3f).toInt64)) ||| (rf ((2 * (bd + 1)) + d))) ||| ((rf ((2 * (bd + 1)) + d)) <<< ((1 : Int32) &&& 0x3f).toInt64)) ||| ((FF d) <<< ((1 : Int32) &&& 0x3f).toInt64); let r2 := if (((co RR) <<< ((1 : Int32) &&& 0x3f).toInt64) &&& (mf 2)) = 0 then r1 else r1 ||| ((((co RR) <<< ((1 : Int32) &&& 0x3f).toInt64) &&& (mf 2)) &&& ((rf ((1 * (bd + 1)) + d)) <<< ((2 : Int32) &&& 0x3f).toInt64)); let r3 := r2 &&& cols; if ph < d + 1 then r3 &&& ((FF ph) ||| out) else r3)) :
    own_Ctr l Z (⟨"com/example/close_words/closewords/BitRows", "fill", "(IIZ)Z"⟩ : MethodName) prog_6_method_2_code 18 (some .boolean) ws ({ frames := 1, cells := 0, slots := 0, locals := 15 } : Room) #[(.ref a1), (.int (3 : Int32)), (.int p3), (.int p4)] h0 (Q_rmro3 Z a1 p3 p4 ac ao ar am cp co rf mf FF lv p5 cols out bd ph RL ML RR h0 n0) := by
  refine own_enter (plainFor_of_name own_pn0) ?_
  intro p e s m below meth c s₁ X0 hx hby hml hrt hlk hZ hown hnm e0
  have N0 := Fr.nil n0
  have Zs := Z0
  have K0 := Keep.refl h0 [ar, am]
  rw [show entryFrame m #[(.ref a1), (.int (3 : Int32)), (.int p3), (.int p4)] 18 = mkF m 0 #[rv a1, iv (3 : Int32), iv p3, iv p4, uu, uu, uu, uu, uu, uu, uu, uu, uu, uu, uu, uu, uu, uu] [] from by first | (simp [entryFrame, mkF, argsToLocals, Value.category]; done) | rfl]
  show own_Wp _ _ _ _ (s₁.setTop (mkF m 0 #[rv a1, iv (3 : Int32), iv p3, iv p4, uu, uu, uu, uu, uu, uu, uu, uu, uu, uu, uu, uu, uu, uu] []))
  refine own_of (fun tgt kon => XS.aloadN X0.here hx rfl (hb hby d10_0) rfl rfl kon) ?_
  obtain ⟨T1, X1, e1, st1⟩ := getF X0 hx hZ hown (host := "") (Or.inl (ow hw 37 rfl)) Via.refl e0 F_columnsOf (g := (mkF m 1 #[rv a1, iv (3 : Int32), iv p3, iv p4, uu, uu, uu, uu, uu, uu, uu, uu, uu, uu, uu, uu, uu, uu] [(.ref a1)])) rfl rfl (hb hby d10_1)
  refine own_of st1 ?_
  clear st1
  refine own_of (fun tgt kon => XS.aloadN X1.here hx rfl (hb hby d10_4) rfl rfl kon) ?_
  refine own_of (fun tgt kon => XS.iloadN X1.here hx rfl (hb hby d10_5) rfl kon) ?_
  refine own_callP X1 hx hZ (y := (⟨"com/example/close_words/closewords/BitRows", "slot", "(I)I"⟩ : MethodName)) (a := a1) (argsL := [(.int p3)]) (rest := [(.ref ao)]) (W := 1) hown (ow hw 64 rfl) (ow hw 65 rfl) (ow hw 10 rfl) (ow hw 66 rfl) (ow hw 11 rfl) (ow hw 67 rfl) (by decide) e1 E_a1 (rmslot l Z a0 hw [] a1 p3 ac cp RR (Int32.ofNat RR) h0 n0 Zs E_a1 F_codePoints V_ac hR0 hR (own_ofN (by omega))) (by decide) (by decide) (by decide) (by decide) rfl (by rw [hml]; rfl) (lenOf own_pd0 rfl) rfl (by show 2 * 0 + _ ≤ _; exact Nat.le_of_eq rfl) (hb hby d10_6) ?_
  rintro T2 L2 _ X2 ⟨rfl, N2q, e2⟩
  have N2 := Fr.app N0 N2q
  show own_Wp _ _ _ _ (T2.setTop (mkF m 9 #[rv a1, iv (3 : Int32), iv p3, iv p4, uu, uu, uu, uu, uu, uu, uu, uu, uu, uu, uu, uu, uu, uu] [(.int (Int32.ofNat RR)), (.ref ao)]))
  refine own_laload X2 hx hZ e2 V_ao (j := (Int32.ofNat RR)) (i := RR) (v := (co RR)) (own_ofN (by omega)) hRl rfl rfl rfl (hb hby d10_9) ?_
  refine own_of (fun tgt kon => XS.lstore X2.here hx rfl (hb hby d10_10) rfl (l' := #[rv a1, iv (3 : Int32), iv p3, iv p4, jv (co RR), ss, uu, uu, uu, uu, uu, uu, uu, uu, uu, uu, uu, uu]) rfl kon) ?_
  refine own_of (fun tgt kon => XS.aloadN X2.here hx rfl (hb hby d10_12) rfl rfl kon) ?_
  obtain ⟨T3, X3, e3, st3⟩ := getF X2 hx hZ hown (host := "") (Or.inl (ow hw 41 rfl)) Via.refl e2 F_matches (g := (mkF m 13 #[rv a1, iv (3 : Int32), iv p3, iv p4, jv (co RR), ss, uu, uu, uu, uu, uu, uu, uu, uu, uu, uu, uu, uu] [(.ref a1)])) rfl rfl (hb hby d10_13)
  refine own_of st3 ?_
  clear st3
  refine own_of (fun tgt kon => XS.iloadN X3.here hx rfl (hb hby d10_16) rfl kon) ?_
  show own_Wp _ _ _ _ (T3.setTop (mkF m 17 #[rv a1, iv (3 : Int32), iv p3, iv p4, jv (co RR), ss, uu, uu, uu, uu, uu, uu, uu, uu, uu, uu, uu, uu] [(.int (3 : Int32)), (.ref am)]))
  refine own_of (fun tgt kon => XS.lload X3.here hx rfl (hb hby d10_17) rfl kon) ?_
  obtain ⟨T4, h4, X4, e4, W4, Aq4, st4⟩ := own_stJ X3 hx hZ e3 V_am (j := (3 : Int32)) (i := 3) (x := (co RR)) (by decide) (by omega) (g := (mkF m 19 #[rv a1, iv (3 : Int32), iv p3, iv p4, jv (co RR), ss, uu, uu, uu, uu, uu, uu, uu, uu, uu, uu, uu, uu] [(.long (co RR)), (.int (3 : Int32)), (.ref am)])) rfl rfl (hb hby d10_19)
  refine own_of st4 ?_
  clear st4
  replace Zs := Nat.le_trans Zs (Keep.of_wr W4).1
  replace K0 := K0.wr W4 (Or.inl (List.mem_of_getElem? (i := 1) rfl))
  replace E_a1 := E_a1.wr W4
  replace F_columnsOf := F_columnsOf.other W4 (Or.inl ne_a1_am)
  replace F_codePoints := F_codePoints.other W4 (Or.inl ne_a1_am)
  replace F_matches := F_matches.other W4 (Or.inl ne_a1_am)
  replace F_rows := F_rows.other W4 (Or.inl ne_a1_am)
  replace F_levels := F_levels.other W4 (Or.inl ne_a1_am)
  replace F_columns := F_columns.other W4 (Or.inl ne_a1_am)
  replace F_headBound := F_headBound.other W4 (Or.inl ne_a1_am)
  replace F_outsideHead := F_outsideHead.other W4 (Or.inl ne_a1_am)
  replace V_ac := V_ac.other W4 ne_ac_am
  replace V_ao := V_ao.other W4 ne_ao_am
  replace V_ar := V_ar.other W4 (Ne.symm ne_am_ar)
  replace V_am := Aq4
  clear Aq4
  replace V_am := V_am.fn (f' := fun k => .long (own_upd mf 3 (co RR) k)) (fun k hk => own_setJ _ _ _ k)
  have N4 := Fr.snoc X4 N2 g_am
  refine own_of (fun tgt kon => XS.iloadN X4.here hx rfl (hb hby d10_20) rfl kon) ?_
  refine own_of (fun tgt kon => XS.aloadN X4.here hx rfl (hb hby d10_21) rfl rfl kon) ?_
  obtain ⟨T5, X5, e5, st5⟩ := getF X4 hx hZ hown (host := "") (Or.inl (ow hw 22 rfl)) Via.refl e4 F_levels (g := (mkF m 22 #[rv a1, iv (3 : Int32), iv p3, iv p4, jv (co RR), ss, uu, uu, uu, uu, uu, uu, uu, uu, uu, uu, uu, uu] [(.ref a1), (.int (3 : Int32))])) rfl rfl (hb hby d10_22)
  refine own_of st5 ?_
  clear st5
  show own_Wp _ _ _ _ (T5.setTop (mkF m 25 #[rv a1, iv (3 : Int32), iv p3, iv p4, jv (co RR), ss, uu, uu, uu, uu, uu, uu, uu, uu, uu, uu, uu, uu] [(.int lv), (.int (3 : Int32))]))
  refine own_of (fun tgt kon => XS.imul X5.here hx rfl (hb hby d10_25) rfl kon) ?_
  show own_Wp _ _ _ _ (T5.setTop (mkF m 26 #[rv a1, iv (3 : Int32), iv p3, iv p4, jv (co RR), ss, uu, uu, uu, uu, uu, uu, uu, uu, uu, uu, uu, uu] [(.int ((3 : Int32) * lv))]))
  obtain ⟨row, h_row⟩ : ∃ q : Int32, q = ((3 : Int32) * lv) := ⟨_, rfl⟩
  rw [← h_row]
  refine own_of (fun tgt kon => XS.istore X5.here hx rfl (hb hby d10_26) rfl (l' := #[rv a1, iv (3 : Int32), iv p3, iv p4, jv (co RR), ss, iv row, uu, uu, uu, uu, uu, uu, uu, uu, uu, uu, uu]) rfl kon) ?_
  show own_Wp _ _ _ _ (T5.setTop (mkF m 28 #[rv a1, iv (3 : Int32), iv p3, iv p4, jv (co RR), ss, iv row, uu, uu, uu, uu, uu, uu, uu, uu, uu, uu, uu] []))
  have t_row : row.toInt = ((3 * (bd + 1) : Nat) : Int) := by
    rw [h_row, Jvm.Kit.i32_mul (by rw [show (3 : Int32).toInt = 3 from by decide, hlv]; omega) (by rw [show (3 : Int32).toInt = 3 from by decide, hlv]; omega), show (3 : Int32).toInt = 3 from by decide, hlv]
    omega
  refine own_of (fun tgt kon => XS.iload X5.here hx rfl (hb hby d10_28) rfl kon) ?_
  refine own_of (fun tgt kon => XS.aloadN X5.here hx rfl (hb hby d10_30) rfl rfl kon) ?_
  obtain ⟨T6, X6, e6, st6⟩ := getF X5 hx hZ hown (host := "") (Or.inl (ow hw 22 rfl)) Via.refl e5 F_levels (g := (mkF m 31 #[rv a1, iv (3 : Int32), iv p3, iv p4, jv (co RR), ss, iv row, uu, uu, uu, uu, uu, uu, uu, uu, uu, uu, uu] [(.ref a1), (.int row)])) rfl rfl (hb hby d10_31)
  refine own_of st6 ?_
  clear st6
  refine own_of (fun tgt kon => XS.isub X6.here hx rfl (hb hby d10_34) rfl kon) ?_
  show own_Wp _ _ _ _ (T6.setTop (mkF m 35 #[rv a1, iv (3 : Int32), iv p3, iv p4, jv (co RR), ss, iv row, uu, uu, uu, uu, uu, uu, uu, uu, uu, uu, uu] [(.int (row - lv))]))
  obtain ⟨abv, h_abv⟩ : ∃ q : Int32, q = (row - lv) := ⟨_, rfl⟩
  rw [← h_abv]
  refine own_of (fun tgt kon => XS.istore X6.here hx rfl (hb hby d10_35) rfl (l' := #[rv a1, iv (3 : Int32), iv p3, iv p4, jv (co RR), ss, iv row, iv abv, uu, uu, uu, uu, uu, uu, uu, uu, uu, uu]) rfl kon) ?_
  show own_Wp _ _ _ _ (T6.setTop (mkF m 37 #[rv a1, iv (3 : Int32), iv p3, iv p4, jv (co RR), ss, iv row, iv abv, uu, uu, uu, uu, uu, uu, uu, uu, uu, uu] []))
  have t_ab : abv.toInt = ((2 * (bd + 1) : Nat) : Int) := by
    rw [h_abv]
    have q := own_subI t_row hlv (by omega) (by omega)
    omega
  refine own_of (fun tgt kon => XS.iload X6.here hx rfl (hb hby d10_37) rfl kon) ?_
  refine own_of (fun tgt kon => XS.aloadN X6.here hx rfl (hb hby d10_39) rfl rfl kon) ?_
  obtain ⟨T7, X7, e7, st7⟩ := getF X6 hx hZ hown (host := "") (Or.inl (ow hw 22 rfl)) Via.refl e6 F_levels (g := (mkF m 40 #[rv a1, iv (3 : Int32), iv p3, iv p4, jv (co RR), ss, iv row, iv abv, uu, uu, uu, uu, uu, uu, uu, uu, uu, uu] [(.ref a1), (.int abv)])) rfl rfl (hb hby d10_40)
  refine own_of st7 ?_
  clear st7
  refine own_of (fun tgt kon => XS.isub X7.here hx rfl (hb hby d10_43) rfl kon) ?_
  show own_Wp _ _ _ _ (T7.setTop (mkF m 44 #[rv a1, iv (3 : Int32), iv p3, iv p4, jv (co RR), ss, iv row, iv abv, uu, uu, uu, uu, uu, uu, uu, uu, uu, uu] [(.int (abv - lv))]))
  obtain ⟨twv, h_twv⟩ : ∃ q : Int32, q = (abv - lv) := ⟨_, rfl⟩
  rw [← h_twv]
  refine own_of (fun tgt kon => XS.istore X7.here hx rfl (hb hby d10_44) rfl (l' := #[rv a1, iv (3 : Int32), iv p3, iv p4, jv (co RR), ss, iv row, iv abv, iv twv, uu, uu, uu, uu, uu, uu, uu, uu, uu]) rfl kon) ?_
  show own_Wp _ _ _ _ (T7.setTop (mkF m 46 #[rv a1, iv (3 : Int32), iv p3, iv p4, jv (co RR), ss, iv row, iv abv, iv twv, uu, uu, uu, uu, uu, uu, uu, uu, uu] []))
  have t_tw : twv.toInt = ((1 * (bd + 1) : Nat) : Int) := by
    rw [h_twv]
    have q := own_subI t_ab hlv (by omega) (by omega)
    omega
  refine own_of (fun tgt kon => XS.iloadN X7.here hx rfl (hb hby d10_46) rfl kon) ?_
  refine own_of (fun tgt kon => XS.iconst X7.here hx rfl (hb hby d10_47) kon) ?_
  have hc48 : (1 : Int32) < (3 : Int32) := by decide
  refine own_of (fun tgt kon => XS.icmpNo X7.here hx rfl (hb hby d10_48) rfl (tlt hc48).2.2.2 kon) ?_
  refine own_of (fun tgt kon => XS.lload X7.here hx rfl (hb hby d10_51) rfl kon) ?_
  refine own_of (fun tgt kon => XS.iconst X7.here hx rfl (hb hby d10_53) kon) ?_
  show own_Wp _ _ _ _ (T7.setTop (mkF m 54 #[rv a1, iv (3 : Int32), iv p3, iv p4, jv (co RR), ss, iv row, iv abv, iv twv, uu, uu, uu, uu, uu, uu, uu, uu, uu] [(.int (1 : Int32)), (.long (co RR))]))
  refine own_of (fun tgt kon => XS.lshl X7.here hx rfl (hb hby d10_54) rfl kon) ?_
  refine own_of (fun tgt kon => XS.aloadN X7.here hx rfl (hb hby d10_55) rfl rfl kon) ?_
  obtain ⟨T8, X8, e8, st8⟩ := getF X7 hx hZ hown (host := "") (Or.inl (ow hw 41 rfl)) Via.refl e7 F_matches (g := (mkF m 56 #[rv a1, iv (3 : Int32), iv p3, iv p4, jv (co RR), ss, iv row, iv abv, iv twv, uu, uu, uu, uu, uu, uu, uu, uu, uu] [(.ref a1), (.long ((co RR) <<< ((1 : Int32) &&& 0x3f).toInt64))])) rfl rfl (hb hby d10_56)
  refine own_of st8 ?_
  clear st8
  refine own_of (fun tgt kon => XS.iloadN X8.here hx rfl (hb hby d10_59) rfl kon) ?_
  refine own_of (fun tgt kon => XS.iconst X8.here hx rfl (hb hby d10_60) kon) ?_
  show own_Wp _ _ _ _ (T8.setTop (mkF m 61 #[rv a1, iv (3 : Int32), iv p3, iv p4, jv (co RR), ss, iv row, iv abv, iv twv, uu, uu, uu, uu, uu, uu, uu, uu, uu] [(.int (1 : Int32)), (.int (3 : Int32)), (.ref am), (.long ((co RR) <<< ((1 : Int32) &&& 0x3f).toInt64))]))
  refine own_of (fun tgt kon => XS.isub X8.here hx rfl (hb hby d10_61) rfl kon) ?_
  refine own_laload X8 hx hZ e8 V_am (j := ((3 : Int32) - (1 : Int32))) (i := 2) (v := (mf 2)) (by decide) (by omega) (by show Value.long (own_upd mf 3 _ 2) = _; rfl) rfl rfl (hb hby d10_62) ?_
  refine own_of (fun tgt kon => XS.land X8.here hx rfl (hb hby d10_63) rfl kon) ?_
  refine own_of (fun tgt kon => XS.goto X8.here hx rfl (pc0 := 64) (pc' := 68) rfl (hb hby d10_64) (by decide) (by decide) kon) ?_
  refine own_of (fun tgt kon => XS.lstore X8.here hx rfl (hb hby d10_68) rfl (l' := #[rv a1, iv (3 : Int32), iv p3, iv p4, jv (co RR), ss, iv row, iv abv, iv twv, jv (((co RR) <<< ((1 : Int32) &&& 0x3f).toInt64) &&& (mf 2)), ss, uu, uu, uu, uu, uu, uu, uu]) rfl kon) ?_
  show own_Wp _ _ _ _ (T8.setTop (mkF m 70 #[rv a1, iv (3 : Int32), iv p3, iv p4, jv (co RR), ss, iv row, iv abv, iv twv, jv (((co RR) <<< ((1 : Int32) &&& 0x3f).toInt64) &&& (mf 2)), ss, uu, uu, uu, uu, uu, uu, uu] []))
  refine own_of (fun tgt kon => XS.lload X8.here hx rfl (hb hby d10_70) rfl kon) ?_
  refine own_of (fun tgt kon => XS.aloadN X8.here hx rfl (hb hby d10_72) rfl rfl kon) ?_
  obtain ⟨T9, X9, e9, st9⟩ := getF X8 hx hZ hown (host := "") (Or.inl (ow hw 39 rfl)) Via.refl e8 F_rows (g := (mkF m 73 #[rv a1, iv (3 : Int32), iv p3, iv p4, jv (co RR), ss, iv row, iv abv, iv twv, jv (((co RR) <<< ((1 : Int32) &&& 0x3f).toInt64) &&& (mf 2)), ss, uu, uu, uu, uu, uu, uu, uu] [(.ref a1), (.long (co RR))])) rfl rfl (hb hby d10_73)
  refine own_of st9 ?_
  clear st9
  refine own_of (fun tgt kon => XS.iload X9.here hx rfl (hb hby d10_76) rfl kon) ?_
  refine own_laload X9 hx hZ e9 V_ar (j := abv) (i := (2 * (bd + 1))) (v := (rf (2 * (bd + 1)))) t_ab (by omega) rfl rfl rfl (hb hby d10_78) ?_
  show own_Wp _ _ _ _ (T9.setTop (mkF m 79 #[rv a1, iv (3 : Int32), iv p3, iv p4, jv (co RR), ss, iv row, iv abv, iv twv, jv (((co RR) <<< ((1 : Int32) &&& 0x3f).toInt64) &&& (mf 2)), ss, uu, uu, uu, uu, uu, uu, uu] [(.long (rf (2 * (bd + 1)))), (.long (co RR))]))
  refine own_of (fun tgt kon => XS.iconst X9.here hx rfl (hb hby d10_79) kon) ?_
  refine own_of (fun tgt kon => XS.lshl X9.here hx rfl (hb hby d10_80) rfl kon) ?_
  refine own_of (fun tgt kon => XS.land X9.here hx rfl (hb hby d10_81) rfl kon) ?_
  refine own_of (fun tgt kon => XS.lstore X9.here hx rfl (hb hby d10_82) rfl (l' := #[rv a1, iv (3 : Int32), iv p3, iv p4, jv (co RR), ss, iv row, iv abv, iv twv, jv (((co RR) <<< ((1 : Int32) &&& 0x3f).toInt64) &&& (mf 2)), ss, jv ((co RR) &&& ((rf (2 * (bd + 1))) <<< ((1 : Int32) &&& 0x3f).toInt64)), ss, uu, uu, uu, uu, uu]) rfl kon) ?_
  refine own_of (fun tgt kon => XS.aloadN X9.here hx rfl (hb hby d10_84) rfl rfl kon) ?_
  show own_Wp _ _ _ _ (T9.setTop (mkF m 85 #[rv a1, iv (3 : Int32), iv p3, iv p4, jv (co RR), ss, iv row, iv abv, iv twv, jv (((co RR) <<< ((1 : Int32) &&& 0x3f).toInt64) &&& (mf 2)), ss, jv ((co RR) &&& ((rf (2 * (bd + 1))) <<< ((1 : Int32) &&& 0x3f).toInt64)), ss, uu, uu, uu, uu, uu] [(.ref a1)]))
  obtain ⟨T10, X10, e10, st10⟩ := getF X9 hx hZ hown (host := "") (Or.inl (ow hw 39 rfl)) Via.refl e9 F_rows (g := (mkF m 85 #[rv a1, iv (3 : Int32), iv p3, iv p4, jv (co RR), ss, iv row, iv abv, iv twv, jv (((co RR) <<< ((1 : Int32) &&& 0x3f).toInt64) &&& (mf 2)), ss, jv ((co RR) &&& ((rf (2 * (bd + 1))) <<< ((1 : Int32) &&& 0x3f).toInt64)), ss, uu, uu, uu, uu, uu] [(.ref a1)])) rfl rfl (hb hby d10_85)
  refine own_of st10 ?_
  clear st10
  refine own_of (fun tgt kon => XS.iload X10.here hx rfl (hb hby d10_88) rfl kon) ?_
  refine own_of (fun tgt kon => XS.lload X10.here hx rfl (hb hby d10_90) rfl kon) ?_
  obtain ⟨T11, h11, X11, e11, W11, Aq11, st11⟩ := own_stJ X10 hx hZ e10 V_ar (j := row) (i := (3 * (bd + 1))) (x := ((co RR) &&& ((rf (2 * (bd + 1))) <<< ((1 : Int32) &&& 0x3f).toInt64))) t_row (by omega) (g := (mkF m 92 #[rv a1, iv (3 : Int32), iv p3, iv p4, jv (co RR), ss, iv row, iv abv, iv twv, jv (((co RR) <<< ((1 : Int32) &&& 0x3f).toInt64) &&& (mf 2)), ss, jv ((co RR) &&& ((rf (2 * (bd + 1))) <<< ((1 : Int32) &&& 0x3f).toInt64)), ss, uu, uu, uu, uu, uu] [(.long ((co RR) &&& ((rf (2 * (bd + 1))) <<< ((1 : Int32) &&& 0x3f).toInt64))), (.int row), (.ref ar)])) rfl rfl (hb hby d10_92)
  refine own_of st11 ?_
  clear st11
  replace Zs := Nat.le_trans Zs (Keep.of_wr W11).1
  replace K0 := K0.wr W11 (Or.inl (List.mem_of_getElem? (i := 0) rfl))
  replace E_a1 := E_a1.wr W11
  replace F_columnsOf := F_columnsOf.other W11 (Or.inl ne_a1_ar)
  replace F_codePoints := F_codePoints.other W11 (Or.inl ne_a1_ar)
  replace F_matches := F_matches.other W11 (Or.inl ne_a1_ar)
  replace F_rows := F_rows.other W11 (Or.inl ne_a1_ar)
  replace F_levels := F_levels.other W11 (Or.inl ne_a1_ar)
  replace F_columns := F_columns.other W11 (Or.inl ne_a1_ar)
  replace F_headBound := F_headBound.other W11 (Or.inl ne_a1_ar)
  replace F_outsideHead := F_outsideHead.other W11 (Or.inl ne_a1_ar)
  replace V_ac := V_ac.other W11 ne_ac_ar
  replace V_ao := V_ao.other W11 ne_ao_ar
  replace V_am := V_am.other W11 ne_am_ar
  replace V_ar := Aq11
  clear Aq11
  rw [show ((co RR) &&& ((rf (2 * (bd + 1))) <<< ((1 : Int32) &&& 0x3f).toInt64)) = FF 0 from hF0.symm] at V_ar ⊢
  replace V_ar := V_ar.fn (f' := fun y => .long (own_rk rf (3 * (bd + 1)) FF 1 y)) (fun y hy => (own_setJ _ _ _ y).trans (congrArg Value.long (own_rk0 _ _ _ y)))
  have N11 := Fr.snoc X11 N4 g_ar
  refine own_of (fun tgt kon => XS.iconst X11.here hx rfl (hb hby d10_93) kon) ?_
  show own_Wp _ _ _ _ (T11.setTop (mkF m 94 #[rv a1, iv (3 : Int32), iv p3, iv p4, jv (co RR), ss, iv row, iv abv, iv twv, jv (((co RR) <<< ((1 : Int32) &&& 0x3f).toInt64) &&& (mf 2)), ss, jv (FF 0), ss, uu, uu, uu, uu, uu] [(.int (1 : Int32))]))
  refine own_of (fun tgt kon => XS.istore X11.here hx rfl (hb hby d10_94) rfl (l' := #[rv a1, iv (3 : Int32), iv p3, iv p4, jv (co RR), ss, iv row, iv abv, iv twv, jv (((co RR) <<< ((1 : Int32) &&& 0x3f).toInt64) &&& (mf 2)), ss, jv (FF 0), ss, iv (1 : Int32), uu, uu, uu, uu]) rfl kon) ?_
  show own_Wp _ _ _ _ (T11.setTop (mkF m 96 #[rv a1, iv (3 : Int32), iv p3, iv p4, jv (co RR), ss, iv row, iv abv, iv twv, jv (((co RR) <<< ((1 : Int32) &&& 0x3f).toInt64) &&& (mf 2)), ss, jv (FF 0), ss, iv (1 : Int32), uu, uu, uu, uu] []))
  refine own_of (fun tgt kon => XS.iload X11.here hx rfl (hb hby d10_96) rfl kon) ?_
  refine own_of (fun tgt kon => XS.aloadN X11.here hx rfl (hb hby d10_98) rfl rfl kon) ?_
  obtain ⟨T12, X12, e12, st12⟩ := getF X11 hx hZ hown (host := "") (Or.inl (ow hw 22 rfl)) Via.refl e11 F_levels (g := (mkF m 99 #[rv a1, iv (3 : Int32), iv p3, iv p4, jv (co RR), ss, iv row, iv abv, iv twv, jv (((co RR) <<< ((1 : Int32) &&& 0x3f).toInt64) &&& (mf 2)), ss, jv (FF 0), ss, iv (1 : Int32), uu, uu, uu, uu] [(.ref a1), (.int (1 : Int32))])) rfl rfl (hb hby d10_99)
  refine own_of st12 ?_
  clear st12
  by_cases hc102 : (1 : Int32) < lv
  · skip
    refine own_of (fun tgt kon => XS.icmpNo X12.here hx rfl (hb hby d10_102) rfl (tlt hc102).2.1 kon) ?_
    show own_Wp _ _ _ _ (T12.setTop (mkF m 105 #[rv a1, iv (3 : Int32), iv p3, iv p4, jv (co RR), ss, iv row, iv abv, iv twv, jv (((co RR) <<< ((1 : Int32) &&& 0x3f).toInt64) &&& (mf 2)), ss, jv (FF 0), ss, iv (1 : Int32), uu, uu, uu, uu] []))
    have hlt : 0 + 1 < bd + 1 := by
      have q := hc102
      rw [Int32.lt_iff_toInt_lt, hlv] at q
      have q2 : (1 : Int32).toInt = ((0 + 1 : Nat) : Int) := by decide
      omega
    have t_d : (1 : Int32).toInt = ((0 + 1 : Nat) : Int) := by decide
    have l1 : (1 : Int32).toInt = 1 := by decide
    refine own_of (fun tgt kon => XS.aloadN X12.here hx rfl (hb hby d10_105) rfl rfl kon) ?_
    obtain ⟨T13, X13, e13, st13⟩ := getF X12 hx hZ hown (host := "") (Or.inl (ow hw 39 rfl)) Via.refl e12 F_rows (g := (mkF m 106 #[rv a1, iv (3 : Int32), iv p3, iv p4, jv (co RR), ss, iv row, iv abv, iv twv, jv (((co RR) <<< ((1 : Int32) &&& 0x3f).toInt64) &&& (mf 2)), ss, jv (FF 0), ss, iv (1 : Int32), uu, uu, uu, uu] [(.ref a1)])) rfl rfl (hb hby d10_106)
    refine own_of st13 ?_
    clear st13
    refine own_of (fun tgt kon => XS.iload X13.here hx rfl (hb hby d10_109) rfl kon) ?_
    refine own_of (fun tgt kon => XS.iload X13.here hx rfl (hb hby d10_111) rfl kon) ?_
    refine own_of (fun tgt kon => XS.iadd X13.here hx rfl (hb hby d10_113) rfl kon) ?_
    show own_Wp _ _ _ _ (T13.setTop (mkF m 114 #[rv a1, iv (3 : Int32), iv p3, iv p4, jv (co RR), ss, iv row, iv abv, iv twv, jv (((co RR) <<< ((1 : Int32) &&& 0x3f).toInt64) &&& (mf 2)), ss, jv (FF 0), ss, iv (1 : Int32), uu, uu, uu, uu] [(.int (abv + (1 : Int32))), (.ref ar)]))
    refine own_of (fun tgt kon => XS.iconst X13.here hx rfl (hb hby d10_114) kon) ?_
    refine own_of (fun tgt kon => XS.isub X13.here hx rfl (hb hby d10_115) rfl kon) ?_
    refine own_laload X13 hx hZ e13 V_ar (j := ((abv + (1 : Int32)) - (1 : Int32))) (i := ((2 * (bd + 1)) + 0)) (v := (rf ((2 * (bd + 1)) + 0))) (by have q1 := own_addI t_ab t_d (by omega) (by omega); have q2 := own_subI q1 l1 (by omega) (by omega); omega) (by omega) (by show Value.long (own_rk _ _ _ _ _) = _; rw [own_rk_lt (by omega)]) rfl rfl (hb hby d10_116) ?_
    refine own_of (fun tgt kon => XS.lstore X13.here hx rfl (hb hby d10_117) rfl (l' := #[rv a1, iv (3 : Int32), iv p3, iv p4, jv (co RR), ss, iv row, iv abv, iv twv, jv (((co RR) <<< ((1 : Int32) &&& 0x3f).toInt64) &&& (mf 2)), ss, jv (FF 0), ss, iv (1 : Int32), jv (rf ((2 * (bd + 1)) + 0)), ss, uu, uu]) rfl kon) ?_
    refine own_of (fun tgt kon => XS.lload X13.here hx rfl (hb hby d10_119) rfl kon) ?_
    show own_Wp _ _ _ _ (T13.setTop (mkF m 121 #[rv a1, iv (3 : Int32), iv p3, iv p4, jv (co RR), ss, iv row, iv abv, iv twv, jv (((co RR) <<< ((1 : Int32) &&& 0x3f).toInt64) &&& (mf 2)), ss, jv (FF 0), ss, iv (1 : Int32), jv (rf ((2 * (bd + 1)) + 0)), ss, uu, uu] [(.long (co RR))]))
    refine own_of (fun tgt kon => XS.aloadN X13.here hx rfl (hb hby d10_121) rfl rfl kon) ?_
    obtain ⟨T14, X14, e14, st14⟩ := getF X13 hx hZ hown (host := "") (Or.inl (ow hw 39 rfl)) Via.refl e13 F_rows (g := (mkF m 122 #[rv a1, iv (3 : Int32), iv p3, iv p4, jv (co RR), ss, iv row, iv abv, iv twv, jv (((co RR) <<< ((1 : Int32) &&& 0x3f).toInt64) &&& (mf 2)), ss, jv (FF 0), ss, iv (1 : Int32), jv (rf ((2 * (bd + 1)) + 0)), ss, uu, uu] [(.ref a1), (.long (co RR))])) rfl rfl (hb hby d10_122)
    refine own_of st14 ?_
    clear st14
    refine own_of (fun tgt kon => XS.iload X14.here hx rfl (hb hby d10_125) rfl kon) ?_
    refine own_of (fun tgt kon => XS.iload X14.here hx rfl (hb hby d10_127) rfl kon) ?_
    refine own_of (fun tgt kon => XS.iadd X14.here hx rfl (hb hby d10_129) rfl kon) ?_
    show own_Wp _ _ _ _ (T14.setTop (mkF m 130 #[rv a1, iv (3 : Int32), iv p3, iv p4, jv (co RR), ss, iv row, iv abv, iv twv, jv (((co RR) <<< ((1 : Int32) &&& 0x3f).toInt64) &&& (mf 2)), ss, jv (FF 0), ss, iv (1 : Int32), jv (rf ((2 * (bd + 1)) + 0)), ss, uu, uu] [(.int (abv + (1 : Int32))), (.ref ar), (.long (co RR))]))
    refine own_laload X14 hx hZ e14 V_ar (j := (abv + (1 : Int32))) (i := ((2 * (bd + 1)) + (0 + 1))) (v := (rf ((2 * (bd + 1)) + (0 + 1)))) (by have q1 := own_addI t_ab t_d (by omega) (by omega); omega) (by omega) (by show Value.long (own_rk _ _ _ _ _) = _; rw [own_rk_lt (by omega)]) rfl rfl (hb hby d10_130) ?_
    refine own_of (fun tgt kon => XS.iconst X14.here hx rfl (hb hby d10_131) kon) ?_
    refine own_of (fun tgt kon => XS.lshl X14.here hx rfl (hb hby d10_132) rfl kon) ?_
    refine own_of (fun tgt kon => XS.land X14.here hx rfl (hb hby d10_133) rfl kon) ?_
    refine own_of (fun tgt kon => XS.lload X14.here hx rfl (hb hby d10_134) rfl kon) ?_
    show own_Wp _ _ _ _ (T14.setTop (mkF m 136 #[rv a1, iv (3 : Int32), iv p3, iv p4, jv (co RR), ss, iv row, iv abv, iv twv, jv (((co RR) <<< ((1 : Int32) &&& 0x3f).toInt64) &&& (mf 2)), ss, jv (FF 0), ss, iv (1 : Int32), jv (rf ((2 * (bd + 1)) + 0)), ss, uu, uu] [(.long (rf ((2 * (bd + 1)) + 0))), (.long ((co RR) &&& ((rf ((2 * (bd + 1)) + (0 + 1))) <<< ((1 : Int32) &&& 0x3f).toInt64)))]))
    refine own_of (fun tgt kon => XS.lor X14.here hx rfl (hb hby d10_136) rfl kon) ?_
    refine own_of (fun tgt kon => XS.lload X14.here hx rfl (hb hby d10_137) rfl kon) ?_
    refine own_of (fun tgt kon => XS.iconst X14.here hx rfl (hb hby d10_139) kon) ?_
    refine own_of (fun tgt kon => XS.lshl X14.here hx rfl (hb hby d10_140) rfl kon) ?_
    refine own_of (fun tgt kon => XS.lor X14.here hx rfl (hb hby d10_141) rfl kon) ?_
    show own_Wp _ _ _ _ (T14.setTop (mkF m 142 #[rv a1, iv (3 : Int32), iv p3, iv p4, jv (co RR), ss, iv row, iv abv, iv twv, jv (((co RR) <<< ((1 : Int32) &&& 0x3f).toInt64) &&& (mf 2)), ss, jv (FF 0), ss, iv (1 : Int32), jv (rf ((2 * (bd + 1)) + 0)), ss, uu, uu] [(.long ((((co RR) &&& ((rf ((2 * (bd + 1)) + (0 + 1))) <<< ((1 : Int32) &&& 0x3f).toInt64)) ||| (rf ((2 * (bd + 1)) + 0))) ||| ((rf ((2 * (bd + 1)) + 0)) <<< ((1 : Int32) &&& 0x3f).toInt64)))]))
    refine own_of (fun tgt kon => XS.lload X14.here hx rfl (hb hby d10_142) rfl kon) ?_
    refine own_of (fun tgt kon => XS.iconst X14.here hx rfl (hb hby d10_144) kon) ?_
    refine own_of (fun tgt kon => XS.lshl X14.here hx rfl (hb hby d10_145) rfl kon) ?_
    refine own_of (fun tgt kon => XS.lor X14.here hx rfl (hb hby d10_146) rfl kon) ?_
    show own_Wp _ _ _ _ (T14.setTop (mkF m 147 #[rv a1, iv (3 : Int32), iv p3, iv p4, jv (co RR), ss, iv row, iv abv, iv twv, jv (((co RR) <<< ((1 : Int32) &&& 0x3f).toInt64) &&& (mf 2)), ss, jv (FF 0), ss, iv (1 : Int32), jv (rf ((2 * (bd + 1)) + 0)), ss, uu, uu] [(.long (((((co RR) &&& ((rf ((2 * (bd + 1)) + (0 + 1))) <<< ((1 : Int32) &&& 0x3f).toInt64)) ||| (rf ((2 * (bd + 1)) + 0))) ||| ((rf ((2 * (bd + 1)) + 0)) <<< ((1 : Int32) &&& 0x3f).toInt64)) ||| ((FF 0) <<< ((1 : Int32) &&& 0x3f).toInt64)))]))
    obtain ⟨r1, h_r1⟩ : ∃ q : Int64, q = (((((co RR) &&& ((rf ((2 * (bd + 1)) + (0 + 1))) <<< ((1 : Int32) &&& 0x3f).toInt64)) ||| (rf ((2 * (bd + 1)) + 0))) ||| ((rf ((2 * (bd + 1)) + 0)) <<< ((1 : Int32) &&& 0x3f).toInt64)) ||| ((FF 0) <<< ((1 : Int32) &&& 0x3f).toInt64)) := ⟨_, rfl⟩
    rw [← h_r1]
    refine own_of (fun tgt kon => XS.lstore X14.here hx rfl (hb hby d10_147) rfl (l' := #[rv a1, iv (3 : Int32), iv p3, iv p4, jv (co RR), ss, iv row, iv abv, iv twv, jv (((co RR) <<< ((1 : Int32) &&& 0x3f).toInt64) &&& (mf 2)), ss, jv (FF 0), ss, iv (1 : Int32), jv (rf ((2 * (bd + 1)) + 0)), ss, jv r1, ss]) rfl kon) ?_
    show own_Wp _ _ _ _ (T14.setTop (mkF m 149 #[rv a1, iv (3 : Int32), iv p3, iv p4, jv (co RR), ss, iv row, iv abv, iv twv, jv (((co RR) <<< ((1 : Int32) &&& 0x3f).toInt64) &&& (mf 2)), ss, jv (FF 0), ss, iv (1 : Int32), jv (rf ((2 * (bd + 1)) + 0)), ss, jv r1, ss] []))
    refine own_of (fun tgt kon => XS.lload X14.here hx rfl (hb hby d10_149) rfl kon) ?_
    refine own_of (fun tgt kon => XS.lconst X14.here hx rfl (hb hby d10_151) kon) ?_
    refine own_of (fun tgt kon => XS.lcmp X14.here hx rfl (hb hby d10_152) rfl kon) ?_
    show own_Wp _ _ _ _ (T14.setTop (mkF m 153 #[rv a1, iv (3 : Int32), iv p3, iv p4, jv (co RR), ss, iv row, iv abv, iv twv, jv (((co RR) <<< ((1 : Int32) &&& 0x3f).toInt64) &&& (mf 2)), ss, jv (FF 0), ss, iv (1 : Int32), jv (rf ((2 * (bd + 1)) + 0)), ss, jv r1, ss] [(.int (lcmpW (((co RR) <<< ((1 : Int32) &&& 0x3f).toInt64) &&& (mf 2)) (0 : Int64)))]))
    have J178 : ∀ (T15 : State) (lc15 : List Loc) (q2 : Int64), (Stand p l e ({ frames := 1, cells := 0, slots := 0, locals := 15 } : Room) s m #[(.ref a1), (.int (3 : Int32)), (.int p3), (.int p4)] below meth c T15 lc15 0 0) → (T15.heap = h11) → (Fr n0 lc15) → (q2 = if (((co RR) <<< ((1 : Int32) &&& 0x3f).toInt64) &&& (mf 2)) = 0 then r1 else r1 ||| ((((co RR) <<< ((1 : Int32) &&& 0x3f).toInt64) &&& (mf 2)) &&& ((rf ((1 * (bd + 1)) + 0)) <<< ((2 : Int32) &&& 0x3f).toInt64))) → own_Wp p.tables e below (own_K ({ frames := 1, cells := 0, slots := 0, locals := 15 } : Room) s below (Q_rmro3 Z a1 p3 p4 ac ao ar am cp co rf mf FF lv p5 cols out bd ph RL ML RR h0 n0)) (T15.setTop (mkF m 178 #[rv a1, iv (3 : Int32), iv p3, iv p4, jv (co RR), ss, iv row, iv abv, iv twv, jv (((co RR) <<< ((1 : Int32) &&& 0x3f).toInt64) &&& (mf 2)), ss, jv (FF 0), ss, iv (1 : Int32), jv (rf ((2 * (bd + 1)) + 0)), ss, jv q2, ss] [])) := by
      intro T15 lc15 q2 X15 e15 N15 h_q2
      refine own_of (fun tgt kon => XS.lload X15.here hx rfl (hb hby d10_178) rfl kon) ?_
      refine own_of (fun tgt kon => XS.aloadN X15.here hx rfl (hb hby d10_180) rfl rfl kon) ?_
      obtain ⟨T16, X16, e16, st16⟩ := getF X15 hx hZ hown (host := "") (Or.inl (ow hw 27 rfl)) Via.refl e15 F_columns (g := (mkF m 181 #[rv a1, iv (3 : Int32), iv p3, iv p4, jv (co RR), ss, iv row, iv abv, iv twv, jv (((co RR) <<< ((1 : Int32) &&& 0x3f).toInt64) &&& (mf 2)), ss, jv (FF 0), ss, iv (1 : Int32), jv (rf ((2 * (bd + 1)) + 0)), ss, jv q2, ss] [(.ref a1), (.long q2)])) rfl rfl (hb hby d10_181)
      refine own_of st16 ?_
      clear st16
      refine own_of (fun tgt kon => XS.land X16.here hx rfl (hb hby d10_184) rfl kon) ?_
      refine own_of (fun tgt kon => XS.lstore X16.here hx rfl (hb hby d10_185) rfl (l' := #[rv a1, iv (3 : Int32), iv p3, iv p4, jv (co RR), ss, iv row, iv abv, iv twv, jv (((co RR) <<< ((1 : Int32) &&& 0x3f).toInt64) &&& (mf 2)), ss, jv (FF 0), ss, iv (1 : Int32), jv (rf ((2 * (bd + 1)) + 0)), ss, jv (q2 &&& cols), ss]) rfl kon) ?_
      show own_Wp _ _ _ _ (T16.setTop (mkF m 187 #[rv a1, iv (3 : Int32), iv p3, iv p4, jv (co RR), ss, iv row, iv abv, iv twv, jv (((co RR) <<< ((1 : Int32) &&& 0x3f).toInt64) &&& (mf 2)), ss, jv (FF 0), ss, iv (1 : Int32), jv (rf ((2 * (bd + 1)) + 0)), ss, jv (q2 &&& cols), ss] []))
      refine own_of (fun tgt kon => XS.iload X16.here hx rfl (hb hby d10_187) rfl kon) ?_
      refine own_of (fun tgt kon => XS.aloadN X16.here hx rfl (hb hby d10_189) rfl rfl kon) ?_
      obtain ⟨T17, X17, e17, st17⟩ := getF X16 hx hZ hown (host := "") (Or.inl (ow hw 20 rfl)) Via.refl e16 F_headBound (g := (mkF m 190 #[rv a1, iv (3 : Int32), iv p3, iv p4, jv (co RR), ss, iv row, iv abv, iv twv, jv (((co RR) <<< ((1 : Int32) &&& 0x3f).toInt64) &&& (mf 2)), ss, jv (FF 0), ss, iv (1 : Int32), jv (rf ((2 * (bd + 1)) + 0)), ss, jv (q2 &&& cols), ss] [(.ref a1), (.int (1 : Int32))])) rfl rfl (hb hby d10_190)
      refine own_of st17 ?_
      clear st17
      show own_Wp _ _ _ _ (T17.setTop (mkF m 193 #[rv a1, iv (3 : Int32), iv p3, iv p4, jv (co RR), ss, iv row, iv abv, iv twv, jv (((co RR) <<< ((1 : Int32) &&& 0x3f).toInt64) &&& (mf 2)), ss, jv (FF 0), ss, iv (1 : Int32), jv (rf ((2 * (bd + 1)) + 0)), ss, jv (q2 &&& cols), ss] [(.int p5), (.int (1 : Int32))]))
      have J218 : ∀ (T18 : State) (lc18 : List Loc) (q3 : Int64), (Stand p l e ({ frames := 1, cells := 0, slots := 0, locals := 15 } : Room) s m #[(.ref a1), (.int (3 : Int32)), (.int p3), (.int p4)] below meth c T18 lc18 0 0) → (T18.heap = h11) → (Fr n0 lc18) → (q3 = if ph < 0 + 1 then (q2 &&& cols) &&& ((FF ph) ||| out) else (q2 &&& cols)) → own_Wp p.tables e below (own_K ({ frames := 1, cells := 0, slots := 0, locals := 15 } : Room) s below (Q_rmro3 Z a1 p3 p4 ac ao ar am cp co rf mf FF lv p5 cols out bd ph RL ML RR h0 n0)) (T18.setTop (mkF m 218 #[rv a1, iv (3 : Int32), iv p3, iv p4, jv (co RR), ss, iv row, iv abv, iv twv, jv (((co RR) <<< ((1 : Int32) &&& 0x3f).toInt64) &&& (mf 2)), ss, jv (FF 0), ss, iv (1 : Int32), jv (rf ((2 * (bd + 1)) + 0)), ss, jv q3, ss] [])) := by
        intro T18 lc18 q3 X18 e18 N18 h_q3
        refine own_of (fun tgt kon => XS.aloadN X18.here hx rfl (hb hby d10_218) rfl rfl kon) ?_
        obtain ⟨T19, X19, e19, st19⟩ := getF X18 hx hZ hown (host := "") (Or.inl (ow hw 39 rfl)) Via.refl e18 F_rows (g := (mkF m 219 #[rv a1, iv (3 : Int32), iv p3, iv p4, jv (co RR), ss, iv row, iv abv, iv twv, jv (((co RR) <<< ((1 : Int32) &&& 0x3f).toInt64) &&& (mf 2)), ss, jv (FF 0), ss, iv (1 : Int32), jv (rf ((2 * (bd + 1)) + 0)), ss, jv q3, ss] [(.ref a1)])) rfl rfl (hb hby d10_219)
        refine own_of st19 ?_
        clear st19
        refine own_of (fun tgt kon => XS.iload X19.here hx rfl (hb hby d10_222) rfl kon) ?_
        refine own_of (fun tgt kon => XS.iload X19.here hx rfl (hb hby d10_224) rfl kon) ?_
        refine own_of (fun tgt kon => XS.iadd X19.here hx rfl (hb hby d10_226) rfl kon) ?_
        show own_Wp _ _ _ _ (T19.setTop (mkF m 227 #[rv a1, iv (3 : Int32), iv p3, iv p4, jv (co RR), ss, iv row, iv abv, iv twv, jv (((co RR) <<< ((1 : Int32) &&& 0x3f).toInt64) &&& (mf 2)), ss, jv (FF 0), ss, iv (1 : Int32), jv (rf ((2 * (bd + 1)) + 0)), ss, jv q3, ss] [(.int (row + (1 : Int32))), (.ref ar)]))
        refine own_of (fun tgt kon => XS.lload X19.here hx rfl (hb hby d10_227) rfl kon) ?_
        obtain ⟨T20, h20, X20, e20, W20, Aq20, st20⟩ := own_stJ X19 hx hZ e19 V_ar (j := (row + (1 : Int32))) (i := ((3 * (bd + 1)) + (0 + 1))) (x := q3) (by have q1 := own_addI t_row t_d (by omega) (by omega); omega) (by omega) (g := (mkF m 229 #[rv a1, iv (3 : Int32), iv p3, iv p4, jv (co RR), ss, iv row, iv abv, iv twv, jv (((co RR) <<< ((1 : Int32) &&& 0x3f).toInt64) &&& (mf 2)), ss, jv (FF 0), ss, iv (1 : Int32), jv (rf ((2 * (bd + 1)) + 0)), ss, jv q3, ss] [(.long q3), (.int (row + (1 : Int32))), (.ref ar)])) rfl rfl (hb hby d10_229)
        refine own_of st20 ?_
        clear st20
        replace Zs := Nat.le_trans Zs (Keep.of_wr W20).1
        replace K0 := K0.wr W20 (Or.inl (List.mem_of_getElem? (i := 0) rfl))
        replace E_a1 := E_a1.wr W20
        replace F_columnsOf := F_columnsOf.other W20 (Or.inl ne_a1_ar)
        replace F_codePoints := F_codePoints.other W20 (Or.inl ne_a1_ar)
        replace F_matches := F_matches.other W20 (Or.inl ne_a1_ar)
        replace F_rows := F_rows.other W20 (Or.inl ne_a1_ar)
        replace F_levels := F_levels.other W20 (Or.inl ne_a1_ar)
        replace F_columns := F_columns.other W20 (Or.inl ne_a1_ar)
        replace F_headBound := F_headBound.other W20 (Or.inl ne_a1_ar)
        replace F_outsideHead := F_outsideHead.other W20 (Or.inl ne_a1_ar)
        replace V_ac := V_ac.other W20 ne_ac_ar
        replace V_ao := V_ao.other W20 ne_ao_ar
        replace V_am := V_am.other W20 ne_am_ar
        replace V_ar := Aq20
        clear Aq20
        have hst : q3 = FF (0 + 1) := by
          rw [hFs 0]
          dsimp only
          rw [h_q3, h_q2, h_r1]
        rw [hst] at V_ar ⊢
        replace V_ar := V_ar.fn (f' := fun y => .long (own_rk rf (3 * (bd + 1)) FF (0 + 1 + 1) y)) (fun y hy => (own_setJ _ _ _ y).trans (congrArg Value.long (own_setRk _ _ _ _ y)))
        have N20 := Fr.snoc X20 N18 g_ar
        refine own_of (fun tgt kon => XS.lload X20.here hx rfl (hb hby d10_230) rfl kon) ?_
        refine own_of (fun tgt kon => XS.lstore X20.here hx rfl (hb hby d10_232) rfl (l' := #[rv a1, iv (3 : Int32), iv p3, iv p4, jv (co RR), ss, iv row, iv abv, iv twv, jv (((co RR) <<< ((1 : Int32) &&& 0x3f).toInt64) &&& (mf 2)), ss, jv (FF (0 + 1)), ss, iv (1 : Int32), jv (rf ((2 * (bd + 1)) + 0)), ss, jv (FF (0 + 1)), ss]) rfl kon) ?_
        refine own_of (fun tgt kon => XS.iinc X20.here hx rfl (hb hby d10_234) rfl (l' := #[rv a1, iv (3 : Int32), iv p3, iv p4, jv (co RR), ss, iv row, iv abv, iv twv, jv (((co RR) <<< ((1 : Int32) &&& 0x3f).toInt64) &&& (mf 2)), ss, jv (FF (0 + 1)), ss, iv ((1 : Int32) + (1 : Int32)), jv (rf ((2 * (bd + 1)) + 0)), ss, jv (FF (0 + 1)), ss]) rfl kon) ?_
        show own_Wp _ _ _ _ (T20.setTop (mkF m 237 #[rv a1, iv (3 : Int32), iv p3, iv p4, jv (co RR), ss, iv row, iv abv, iv twv, jv (((co RR) <<< ((1 : Int32) &&& 0x3f).toInt64) &&& (mf 2)), ss, jv (FF (0 + 1)), ss, iv ((1 : Int32) + (1 : Int32)), jv (rf ((2 * (bd + 1)) + 0)), ss, jv (FF (0 + 1)), ss] []))
        refine own_of (fun tgt kon => XS.goto X20.here hx rfl (pc0 := 237) (pc' := 96) rfl (hb hby d10_237) (by decide) (by decide) kon) ?_
        show own_Wp _ _ _ _ (T20.setTop (mkF m 96 #[rv a1, iv (3 : Int32), iv p3, iv p4, jv (co RR), ss, iv row, iv abv, iv twv, jv (((co RR) <<< ((1 : Int32) &&& 0x3f).toInt64) &&& (mf 2)), ss, jv (FF (0 + 1)), ss, iv ((1 : Int32) + (1 : Int32)), jv (rf ((2 * (bd + 1)) + 0)), ss, jv (FF (0 + 1)), ss] []))
        rw [show ((1 : Int32) + (1 : Int32)) = Int32.ofNat (1 + 1) from rfl]
        have J96 : ∀ (nn : Nat) (T21 : State) (lc21 : List Loc) (h21 : Heap) (k : Nat) (z14 : Int64) (z16 : Int64), (Stand p l e ({ frames := 1, cells := 0, slots := 0, locals := 15 } : Room) s m #[(.ref a1), (.int (3 : Int32)), (.int p3), (.int p4)] below meth c T21 lc21 0 0) → (T21.heap = h21) → (Fr n0 lc21) → (n0 ≤ h21.size) → (Keep h0 h21 [ar, am]) → (Exa Z h21 a1 "com/example/close_words/closewords/BitRows") → (Fld Z h21 a1 "com/example/close_words/closewords/BitRows" "columnsOf" "[J" (.ref ao)) → (Fld Z h21 a1 "com/example/close_words/closewords/BitRows" "codePoints" "[I" (.ref ac)) → (Fld Z h21 a1 "com/example/close_words/closewords/BitRows" "matches" "[J" (.ref am)) → (Fld Z h21 a1 "com/example/close_words/closewords/BitRows" "rows" "[J" (.ref ar)) → (Fld Z h21 a1 "com/example/close_words/closewords/BitRows" "levels" "I" (.int lv)) → (Fld Z h21 a1 "com/example/close_words/closewords/BitRows" "columns" "J" (.long cols)) → (Fld Z h21 a1 "com/example/close_words/closewords/BitRows" "headBound" "I" (.int p5)) → (Fld Z h21 a1 "com/example/close_words/closewords/BitRows" "outsideHead" "J" (.long out)) → (own_Ar Z h21 ac .int 128 (fun k => .int (cp k))) → (own_Ar Z h21 ao .long 128 (fun k => .long (co k))) → (own_Ar Z h21 ar .long RL (fun y => .long (own_rk rf (3 * (bd + 1)) FF (k + 1) y))) → (own_Ar Z h21 am .long ML (fun k => .long (own_upd mf 3 (co RR) k))) → (k + 1 ≤ bd + 1) → (bd + 1 - k < nn) → own_Wp p.tables e below (own_K ({ frames := 1, cells := 0, slots := 0, locals := 15 } : Room) s below (Q_rmro3 Z a1 p3 p4 ac ao ar am cp co rf mf FF lv p5 cols out bd ph RL ML RR h0 n0)) (T21.setTop (mkF m 96 #[rv a1, iv (3 : Int32), iv p3, iv p4, jv (co RR), ss, iv row, iv abv, iv twv, jv (((co RR) <<< ((1 : Int32) &&& 0x3f).toInt64) &&& (mf 2)), ss, jv (FF k), ss, iv (Int32.ofNat (k + 1)), jv z14, ss, jv z16, ss] [])) := by
          clear K0 E_a1 F_columnsOf F_codePoints F_matches F_rows F_levels F_columns F_headBound F_outsideHead V_ac V_ao V_ar V_am Zs
          intro nn
          induction nn with
          | zero => intro T21 lc21 h21 k z14 z16 X21 e21 N21 Zs K0 E_a1 F_columnsOf F_codePoints F_matches F_rows F_levels F_columns F_headBound F_outsideHead V_ac V_ao V_ar V_am hk hmu; exact absurd hmu (Nat.not_lt_zero _)
          | succ nn ih =>
            skip
            intro T21 lc21 h21 k z14 z16 X21 e21 N21 Zs K0 E_a1 F_columnsOf F_codePoints F_matches F_rows F_levels F_columns F_headBound F_outsideHead V_ac V_ao V_ar V_am hk hmu
            refine own_of (fun tgt kon => XS.iload X21.here hx rfl (hb hby d10_96) rfl kon) ?_
            refine own_of (fun tgt kon => XS.aloadN X21.here hx rfl (hb hby d10_98) rfl rfl kon) ?_
            obtain ⟨T22, X22, e22, st22⟩ := getF X21 hx hZ hown (host := "") (Or.inl (ow hw 22 rfl)) Via.refl e21 F_levels (g := (mkF m 99 #[rv a1, iv (3 : Int32), iv p3, iv p4, jv (co RR), ss, iv row, iv abv, iv twv, jv (((co RR) <<< ((1 : Int32) &&& 0x3f).toInt64) &&& (mf 2)), ss, jv (FF k), ss, iv (Int32.ofNat (k + 1)), jv z14, ss, jv z16, ss] [(.ref a1), (.int (Int32.ofNat (k + 1)))])) rfl rfl (hb hby d10_99)
            refine own_of st22 ?_
            clear st22
            by_cases hc102_2 : (Int32.ofNat (k + 1)) < lv
            · skip
              refine own_of (fun tgt kon => XS.icmpNo X22.here hx rfl (hb hby d10_102) rfl (tlt hc102_2).2.1 kon) ?_
              show own_Wp _ _ _ _ (T22.setTop (mkF m 105 #[rv a1, iv (3 : Int32), iv p3, iv p4, jv (co RR), ss, iv row, iv abv, iv twv, jv (((co RR) <<< ((1 : Int32) &&& 0x3f).toInt64) &&& (mf 2)), ss, jv (FF k), ss, iv (Int32.ofNat (k + 1)), jv z14, ss, jv z16, ss] []))
              have hlt : k + 1 < bd + 1 := by
                have q := hc102_2
                rw [Int32.lt_iff_toInt_lt, hlv] at q
                have q2 : (Int32.ofNat (k + 1)).toInt = ((k + 1 : Nat) : Int) := own_ofN (by omega)
                omega
              have t_d : (Int32.ofNat (k + 1)).toInt = ((k + 1 : Nat) : Int) := own_ofN (by omega)
              have l1 : (1 : Int32).toInt = 1 := by decide
              refine own_of (fun tgt kon => XS.aloadN X22.here hx rfl (hb hby d10_105) rfl rfl kon) ?_
              obtain ⟨T23, X23, e23, st23⟩ := getF X22 hx hZ hown (host := "") (Or.inl (ow hw 39 rfl)) Via.refl e22 F_rows (g := (mkF m 106 #[rv a1, iv (3 : Int32), iv p3, iv p4, jv (co RR), ss, iv row, iv abv, iv twv, jv (((co RR) <<< ((1 : Int32) &&& 0x3f).toInt64) &&& (mf 2)), ss, jv (FF k), ss, iv (Int32.ofNat (k + 1)), jv z14, ss, jv z16, ss] [(.ref a1)])) rfl rfl (hb hby d10_106)
              refine own_of st23 ?_
              clear st23
              refine own_of (fun tgt kon => XS.iload X23.here hx rfl (hb hby d10_109) rfl kon) ?_
              refine own_of (fun tgt kon => XS.iload X23.here hx rfl (hb hby d10_111) rfl kon) ?_
              refine own_of (fun tgt kon => XS.iadd X23.here hx rfl (hb hby d10_113) rfl kon) ?_
              show own_Wp _ _ _ _ (T23.setTop (mkF m 114 #[rv a1, iv (3 : Int32), iv p3, iv p4, jv (co RR), ss, iv row, iv abv, iv twv, jv (((co RR) <<< ((1 : Int32) &&& 0x3f).toInt64) &&& (mf 2)), ss, jv (FF k), ss, iv (Int32.ofNat (k + 1)), jv z14, ss, jv z16, ss] [(.int (abv + (Int32.ofNat (k + 1)))), (.ref ar)]))
              refine own_of (fun tgt kon => XS.iconst X23.here hx rfl (hb hby d10_114) kon) ?_
              refine own_of (fun tgt kon => XS.isub X23.here hx rfl (hb hby d10_115) rfl kon) ?_
              refine own_laload X23 hx hZ e23 V_ar (j := ((abv + (Int32.ofNat (k + 1))) - (1 : Int32))) (i := ((2 * (bd + 1)) + k)) (v := (rf ((2 * (bd + 1)) + k))) (by have q1 := own_addI t_ab t_d (by omega) (by omega); have q2 := own_subI q1 l1 (by omega) (by omega); omega) (by omega) (by show Value.long (own_rk _ _ _ _ _) = _; rw [own_rk_lt (by omega)]) rfl rfl (hb hby d10_116) ?_
              refine own_of (fun tgt kon => XS.lstore X23.here hx rfl (hb hby d10_117) rfl (l' := #[rv a1, iv (3 : Int32), iv p3, iv p4, jv (co RR), ss, iv row, iv abv, iv twv, jv (((co RR) <<< ((1 : Int32) &&& 0x3f).toInt64) &&& (mf 2)), ss, jv (FF k), ss, iv (Int32.ofNat (k + 1)), jv (rf ((2 * (bd + 1)) + k)), ss, jv z16, ss]) rfl kon) ?_
              refine own_of (fun tgt kon => XS.lload X23.here hx rfl (hb hby d10_119) rfl kon) ?_
              show own_Wp _ _ _ _ (T23.setTop (mkF m 121 #[rv a1, iv (3 : Int32), iv p3, iv p4, jv (co RR), ss, iv row, iv abv, iv twv, jv (((co RR) <<< ((1 : Int32) &&& 0x3f).toInt64) &&& (mf 2)), ss, jv (FF k), ss, iv (Int32.ofNat (k + 1)), jv (rf ((2 * (bd + 1)) + k)), ss, jv z16, ss] [(.long (co RR))]))
              refine own_of (fun tgt kon => XS.aloadN X23.here hx rfl (hb hby d10_121) rfl rfl kon) ?_
              obtain ⟨T24, X24, e24, st24⟩ := getF X23 hx hZ hown (host := "") (Or.inl (ow hw 39 rfl)) Via.refl e23 F_rows (g := (mkF m 122 #[rv a1, iv (3 : Int32), iv p3, iv p4, jv (co RR), ss, iv row, iv abv, iv twv, jv (((co RR) <<< ((1 : Int32) &&& 0x3f).toInt64) &&& (mf 2)), ss, jv (FF k), ss, iv (Int32.ofNat (k + 1)), jv (rf ((2 * (bd + 1)) + k)), ss, jv z16, ss] [(.ref a1), (.long (co RR))])) rfl rfl (hb hby d10_122)
              refine own_of st24 ?_
              clear st24
              refine own_of (fun tgt kon => XS.iload X24.here hx rfl (hb hby d10_125) rfl kon) ?_
              refine own_of (fun tgt kon => XS.iload X24.here hx rfl (hb hby d10_127) rfl kon) ?_
              refine own_of (fun tgt kon => XS.iadd X24.here hx rfl (hb hby d10_129) rfl kon) ?_
              show own_Wp _ _ _ _ (T24.setTop (mkF m 130 #[rv a1, iv (3 : Int32), iv p3, iv p4, jv (co RR), ss, iv row, iv abv, iv twv, jv (((co RR) <<< ((1 : Int32) &&& 0x3f).toInt64) &&& (mf 2)), ss, jv (FF k), ss, iv (Int32.ofNat (k + 1)), jv (rf ((2 * (bd + 1)) + k)), ss, jv z16, ss] [(.int (abv + (Int32.ofNat (k + 1)))), (.ref ar), (.long (co RR))]))
              refine own_laload X24 hx hZ e24 V_ar (j := (abv + (Int32.ofNat (k + 1)))) (i := ((2 * (bd + 1)) + (k + 1))) (v := (rf ((2 * (bd + 1)) + (k + 1)))) (by have q1 := own_addI t_ab t_d (by omega) (by omega); omega) (by omega) (by show Value.long (own_rk _ _ _ _ _) = _; rw [own_rk_lt (by omega)]) rfl rfl (hb hby d10_130) ?_
              refine own_of (fun tgt kon => XS.iconst X24.here hx rfl (hb hby d10_131) kon) ?_
              refine own_of (fun tgt kon => XS.lshl X24.here hx rfl (hb hby d10_132) rfl kon) ?_
              refine own_of (fun tgt kon => XS.land X24.here hx rfl (hb hby d10_133) rfl kon) ?_
              refine own_of (fun tgt kon => XS.lload X24.here hx rfl (hb hby d10_134) rfl kon) ?_
              show own_Wp _ _ _ _ (T24.setTop (mkF m 136 #[rv a1, iv (3 : Int32), iv p3, iv p4, jv (co RR), ss, iv row, iv abv, iv twv, jv (((co RR) <<< ((1 : Int32) &&& 0x3f).toInt64) &&& (mf 2)), ss, jv (FF k), ss, iv (Int32.ofNat (k + 1)), jv (rf ((2 * (bd + 1)) + k)), ss, jv z16, ss] [(.long (rf ((2 * (bd + 1)) + k))), (.long ((co RR) &&& ((rf ((2 * (bd + 1)) + (k + 1))) <<< ((1 : Int32) &&& 0x3f).toInt64)))]))
              refine own_of (fun tgt kon => XS.lor X24.here hx rfl (hb hby d10_136) rfl kon) ?_
              refine own_of (fun tgt kon => XS.lload X24.here hx rfl (hb hby d10_137) rfl kon) ?_
              refine own_of (fun tgt kon => XS.iconst X24.here hx rfl (hb hby d10_139) kon) ?_
              refine own_of (fun tgt kon => XS.lshl X24.here hx rfl (hb hby d10_140) rfl kon) ?_
              refine own_of (fun tgt kon => XS.lor X24.here hx rfl (hb hby d10_141) rfl kon) ?_
              show own_Wp _ _ _ _ (T24.setTop (mkF m 142 #[rv a1, iv (3 : Int32), iv p3, iv p4, jv (co RR), ss, iv row, iv abv, iv twv, jv (((co RR) <<< ((1 : Int32) &&& 0x3f).toInt64) &&& (mf 2)), ss, jv (FF k), ss, iv (Int32.ofNat (k + 1)), jv (rf ((2 * (bd + 1)) + k)), ss, jv z16, ss] [(.long ((((co RR) &&& ((rf ((2 * (bd + 1)) + (k + 1))) <<< ((1 : Int32) &&& 0x3f).toInt64)) ||| (rf ((2 * (bd + 1)) + k))) ||| ((rf ((2 * (bd + 1)) + k)) <<< ((1 : Int32) &&& 0x3f).toInt64)))]))
              refine own_of (fun tgt kon => XS.lload X24.here hx rfl (hb hby d10_142) rfl kon) ?_
              refine own_of (fun tgt kon => XS.iconst X24.here hx rfl (hb hby d10_144) kon) ?_
              refine own_of (fun tgt kon => XS.lshl X24.here hx rfl (hb hby d10_145) rfl kon) ?_
              refine own_of (fun tgt kon => XS.lor X24.here hx rfl (hb hby d10_146) rfl kon) ?_
              show own_Wp _ _ _ _ (T24.setTop (mkF m 147 #[rv a1, iv (3 : Int32), iv p3, iv p4, jv (co RR), ss, iv row, iv abv, iv twv, jv (((co RR) <<< ((1 : Int32) &&& 0x3f).toInt64) &&& (mf 2)), ss, jv (FF k), ss, iv (Int32.ofNat (k + 1)), jv (rf ((2 * (bd + 1)) + k)), ss, jv z16, ss] [(.long (((((co RR) &&& ((rf ((2 * (bd + 1)) + (k + 1))) <<< ((1 : Int32) &&& 0x3f).toInt64)) ||| (rf ((2 * (bd + 1)) + k))) ||| ((rf ((2 * (bd + 1)) + k)) <<< ((1 : Int32) &&& 0x3f).toInt64)) ||| ((FF k) <<< ((1 : Int32) &&& 0x3f).toInt64)))]))
              obtain ⟨r1_2, h_r1_2⟩ : ∃ q : Int64, q = (((((co RR) &&& ((rf ((2 * (bd + 1)) + (k + 1))) <<< ((1 : Int32) &&& 0x3f).toInt64)) ||| (rf ((2 * (bd + 1)) + k))) ||| ((rf ((2 * (bd + 1)) + k)) <<< ((1 : Int32) &&& 0x3f).toInt64)) ||| ((FF k) <<< ((1 : Int32) &&& 0x3f).toInt64)) := ⟨_, rfl⟩
              rw [← h_r1_2]
              refine own_of (fun tgt kon => XS.lstore X24.here hx rfl (hb hby d10_147) rfl (l' := #[rv a1, iv (3 : Int32), iv p3, iv p4, jv (co RR), ss, iv row, iv abv, iv twv, jv (((co RR) <<< ((1 : Int32) &&& 0x3f).toInt64) &&& (mf 2)), ss, jv (FF k), ss, iv (Int32.ofNat (k + 1)), jv (rf ((2 * (bd + 1)) + k)), ss, jv r1_2, ss]) rfl kon) ?_
              show own_Wp _ _ _ _ (T24.setTop (mkF m 149 #[rv a1, iv (3 : Int32), iv p3, iv p4, jv (co RR), ss, iv row, iv abv, iv twv, jv (((co RR) <<< ((1 : Int32) &&& 0x3f).toInt64) &&& (mf 2)), ss, jv (FF k), ss, iv (Int32.ofNat (k + 1)), jv (rf ((2 * (bd + 1)) + k)), ss, jv r1_2, ss] []))
              refine own_of (fun tgt kon => XS.lload X24.here hx rfl (hb hby d10_149) rfl kon) ?_
              refine own_of (fun tgt kon => XS.lconst X24.here hx rfl (hb hby d10_151) kon) ?_
              refine own_of (fun tgt kon => XS.lcmp X24.here hx rfl (hb hby d10_152) rfl kon) ?_
              show own_Wp _ _ _ _ (T24.setTop (mkF m 153 #[rv a1, iv (3 : Int32), iv p3, iv p4, jv (co RR), ss, iv row, iv abv, iv twv, jv (((co RR) <<< ((1 : Int32) &&& 0x3f).toInt64) &&& (mf 2)), ss, jv (FF k), ss, iv (Int32.ofNat (k + 1)), jv (rf ((2 * (bd + 1)) + k)), ss, jv r1_2, ss] [(.int (lcmpW (((co RR) <<< ((1 : Int32) &&& 0x3f).toInt64) &&& (mf 2)) (0 : Int64)))]))
              have J178 : ∀ (T25 : State) (lc25 : List Loc) (q2 : Int64), (Stand p l e ({ frames := 1, cells := 0, slots := 0, locals := 15 } : Room) s m #[(.ref a1), (.int (3 : Int32)), (.int p3), (.int p4)] below meth c T25 lc25 0 0) → (T25.heap = h21) → (Fr n0 lc25) → (q2 = if (((co RR) <<< ((1 : Int32) &&& 0x3f).toInt64) &&& (mf 2)) = 0 then r1_2 else r1_2 ||| ((((co RR) <<< ((1 : Int32) &&& 0x3f).toInt64) &&& (mf 2)) &&& ((rf ((1 * (bd + 1)) + k)) <<< ((2 : Int32) &&& 0x3f).toInt64))) → own_Wp p.tables e below (own_K ({ frames := 1, cells := 0, slots := 0, locals := 15 } : Room) s below (Q_rmro3 Z a1 p3 p4 ac ao ar am cp co rf mf FF lv p5 cols out bd ph RL ML RR h0 n0)) (T25.setTop (mkF m 178 #[rv a1, iv (3 : Int32), iv p3, iv p4, jv (co RR), ss, iv row, iv abv, iv twv, jv (((co RR) <<< ((1 : Int32) &&& 0x3f).toInt64) &&& (mf 2)), ss, jv (FF k), ss, iv (Int32.ofNat (k + 1)), jv (rf ((2 * (bd + 1)) + k)), ss, jv q2, ss] [])) := by
                intro T25 lc25 q2 X25 e25 N25 h_q2
                refine own_of (fun tgt kon => XS.lload X25.here hx rfl (hb hby d10_178) rfl kon) ?_
                refine own_of (fun tgt kon => XS.aloadN X25.here hx rfl (hb hby d10_180) rfl rfl kon) ?_
                obtain ⟨T26, X26, e26, st26⟩ := getF X25 hx hZ hown (host := "") (Or.inl (ow hw 27 rfl)) Via.refl e25 F_columns (g := (mkF m 181 #[rv a1, iv (3 : Int32), iv p3, iv p4, jv (co RR), ss, iv row, iv abv, iv twv, jv (((co RR) <<< ((1 : Int32) &&& 0x3f).toInt64) &&& (mf 2)), ss, jv (FF k), ss, iv (Int32.ofNat (k + 1)), jv (rf ((2 * (bd + 1)) + k)), ss, jv q2, ss] [(.ref a1), (.long q2)])) rfl rfl (hb hby d10_181)
                refine own_of st26 ?_
                clear st26
                refine own_of (fun tgt kon => XS.land X26.here hx rfl (hb hby d10_184) rfl kon) ?_
                refine own_of (fun tgt kon => XS.lstore X26.here hx rfl (hb hby d10_185) rfl (l' := #[rv a1, iv (3 : Int32), iv p3, iv p4, jv (co RR), ss, iv row, iv abv, iv twv, jv (((co RR) <<< ((1 : Int32) &&& 0x3f).toInt64) &&& (mf 2)), ss, jv (FF k), ss, iv (Int32.ofNat (k + 1)), jv (rf ((2 * (bd + 1)) + k)), ss, jv (q2 &&& cols), ss]) rfl kon) ?_
                show own_Wp _ _ _ _ (T26.setTop (mkF m 187 #[rv a1, iv (3 : Int32), iv p3, iv p4, jv (co RR), ss, iv row, iv abv, iv twv, jv (((co RR) <<< ((1 : Int32) &&& 0x3f).toInt64) &&& (mf 2)), ss, jv (FF k), ss, iv (Int32.ofNat (k + 1)), jv (rf ((2 * (bd + 1)) + k)), ss, jv (q2 &&& cols), ss] []))
                refine own_of (fun tgt kon => XS.iload X26.here hx rfl (hb hby d10_187) rfl kon) ?_
                refine own_of (fun tgt kon => XS.aloadN X26.here hx rfl (hb hby d10_189) rfl rfl kon) ?_
                obtain ⟨T27, X27, e27, st27⟩ := getF X26 hx hZ hown (host := "") (Or.inl (ow hw 20 rfl)) Via.refl e26 F_headBound (g := (mkF m 190 #[rv a1, iv (3 : Int32), iv p3, iv p4, jv (co RR), ss, iv row, iv abv, iv twv, jv (((co RR) <<< ((1 : Int32) &&& 0x3f).toInt64) &&& (mf 2)), ss, jv (FF k), ss, iv (Int32.ofNat (k + 1)), jv (rf ((2 * (bd + 1)) + k)), ss, jv (q2 &&& cols), ss] [(.ref a1), (.int (Int32.ofNat (k + 1)))])) rfl rfl (hb hby d10_190)
                refine own_of st27 ?_
                clear st27
                show own_Wp _ _ _ _ (T27.setTop (mkF m 193 #[rv a1, iv (3 : Int32), iv p3, iv p4, jv (co RR), ss, iv row, iv abv, iv twv, jv (((co RR) <<< ((1 : Int32) &&& 0x3f).toInt64) &&& (mf 2)), ss, jv (FF k), ss, iv (Int32.ofNat (k + 1)), jv (rf ((2 * (bd + 1)) + k)), ss, jv (q2 &&& cols), ss] [(.int p5), (.int (Int32.ofNat (k + 1)))]))
                have J218 : ∀ (T28 : State) (lc28 : List Loc) (q3 : Int64), (Stand p l e ({ frames := 1, cells := 0, slots := 0, locals := 15 } : Room) s m #[(.ref a1), (.int (3 : Int32)), (.int p3), (.int p4)] below meth c T28 lc28 0 0) → (T28.heap = h21) → (Fr n0 lc28) → (q3 = if ph < k + 1 then (q2 &&& cols) &&& ((FF ph) ||| out) else (q2 &&& cols)) → own_Wp p.tables e below (own_K ({ frames := 1, cells := 0, slots := 0, locals := 15 } : Room) s below (Q_rmro3 Z a1 p3 p4 ac ao ar am cp co rf mf FF lv p5 cols out bd ph RL ML RR h0 n0)) (T28.setTop (mkF m 218 #[rv a1, iv (3 : Int32), iv p3, iv p4, jv (co RR), ss, iv row, iv abv, iv twv, jv (((co RR) <<< ((1 : Int32) &&& 0x3f).toInt64) &&& (mf 2)), ss, jv (FF k), ss, iv (Int32.ofNat (k + 1)), jv (rf ((2 * (bd + 1)) + k)), ss, jv q3, ss] [])) := by
                  intro T28 lc28 q3 X28 e28 N28 h_q3
                  refine own_of (fun tgt kon => XS.aloadN X28.here hx rfl (hb hby d10_218) rfl rfl kon) ?_
                  obtain ⟨T29, X29, e29, st29⟩ := getF X28 hx hZ hown (host := "") (Or.inl (ow hw 39 rfl)) Via.refl e28 F_rows (g := (mkF m 219 #[rv a1, iv (3 : Int32), iv p3, iv p4, jv (co RR), ss, iv row, iv abv, iv twv, jv (((co RR) <<< ((1 : Int32) &&& 0x3f).toInt64) &&& (mf 2)), ss, jv (FF k), ss, iv (Int32.ofNat (k + 1)), jv (rf ((2 * (bd + 1)) + k)), ss, jv q3, ss] [(.ref a1)])) rfl rfl (hb hby d10_219)
                  refine own_of st29 ?_
                  clear st29
                  refine own_of (fun tgt kon => XS.iload X29.here hx rfl (hb hby d10_222) rfl kon) ?_
                  refine own_of (fun tgt kon => XS.iload X29.here hx rfl (hb hby d10_224) rfl kon) ?_
                  refine own_of (fun tgt kon => XS.iadd X29.here hx rfl (hb hby d10_226) rfl kon) ?_
                  show own_Wp _ _ _ _ (T29.setTop (mkF m 227 #[rv a1, iv (3 : Int32), iv p3, iv p4, jv (co RR), ss, iv row, iv abv, iv twv, jv (((co RR) <<< ((1 : Int32) &&& 0x3f).toInt64) &&& (mf 2)), ss, jv (FF k), ss, iv (Int32.ofNat (k + 1)), jv (rf ((2 * (bd + 1)) + k)), ss, jv q3, ss] [(.int (row + (Int32.ofNat (k + 1)))), (.ref ar)]))
                  refine own_of (fun tgt kon => XS.lload X29.here hx rfl (hb hby d10_227) rfl kon) ?_
                  obtain ⟨T30, h30, X30, e30, W30, Aq30, st30⟩ := own_stJ X29 hx hZ e29 V_ar (j := (row + (Int32.ofNat (k + 1)))) (i := ((3 * (bd + 1)) + (k + 1))) (x := q3) (by have q1 := own_addI t_row t_d (by omega) (by omega); omega) (by omega) (g := (mkF m 229 #[rv a1, iv (3 : Int32), iv p3, iv p4, jv (co RR), ss, iv row, iv abv, iv twv, jv (((co RR) <<< ((1 : Int32) &&& 0x3f).toInt64) &&& (mf 2)), ss, jv (FF k), ss, iv (Int32.ofNat (k + 1)), jv (rf ((2 * (bd + 1)) + k)), ss, jv q3, ss] [(.long q3), (.int (row + (Int32.ofNat (k + 1)))), (.ref ar)])) rfl rfl (hb hby d10_229)
                  refine own_of st30 ?_
                  clear st30
                  replace Zs := Nat.le_trans Zs (Keep.of_wr W30).1
                  replace K0 := K0.wr W30 (Or.inl (List.mem_of_getElem? (i := 0) rfl))
                  replace E_a1 := E_a1.wr W30
                  replace F_columnsOf := F_columnsOf.other W30 (Or.inl ne_a1_ar)
                  replace F_codePoints := F_codePoints.other W30 (Or.inl ne_a1_ar)
                  replace F_matches := F_matches.other W30 (Or.inl ne_a1_ar)
                  replace F_rows := F_rows.other W30 (Or.inl ne_a1_ar)
                  replace F_levels := F_levels.other W30 (Or.inl ne_a1_ar)
                  replace F_columns := F_columns.other W30 (Or.inl ne_a1_ar)
                  replace F_headBound := F_headBound.other W30 (Or.inl ne_a1_ar)
                  replace F_outsideHead := F_outsideHead.other W30 (Or.inl ne_a1_ar)
                  replace V_ac := V_ac.other W30 ne_ac_ar
                  replace V_ao := V_ao.other W30 ne_ao_ar
                  replace V_am := V_am.other W30 ne_am_ar
                  replace V_ar := Aq30
                  clear Aq30
                  have hst : q3 = FF (k + 1) := by
                    rw [hFs k]
                    dsimp only
                    rw [h_q3, h_q2, h_r1_2]
                  rw [hst] at V_ar ⊢
                  replace V_ar := V_ar.fn (f' := fun y => .long (own_rk rf (3 * (bd + 1)) FF (k + 1 + 1) y)) (fun y hy => (own_setJ _ _ _ y).trans (congrArg Value.long (own_setRk _ _ _ _ y)))
                  have N30 := Fr.snoc X30 N28 g_ar
                  refine own_of (fun tgt kon => XS.lload X30.here hx rfl (hb hby d10_230) rfl kon) ?_
                  refine own_of (fun tgt kon => XS.lstore X30.here hx rfl (hb hby d10_232) rfl (l' := #[rv a1, iv (3 : Int32), iv p3, iv p4, jv (co RR), ss, iv row, iv abv, iv twv, jv (((co RR) <<< ((1 : Int32) &&& 0x3f).toInt64) &&& (mf 2)), ss, jv (FF (k + 1)), ss, iv (Int32.ofNat (k + 1)), jv (rf ((2 * (bd + 1)) + k)), ss, jv (FF (k + 1)), ss]) rfl kon) ?_
                  refine own_of (fun tgt kon => XS.iinc X30.here hx rfl (hb hby d10_234) rfl (l' := #[rv a1, iv (3 : Int32), iv p3, iv p4, jv (co RR), ss, iv row, iv abv, iv twv, jv (((co RR) <<< ((1 : Int32) &&& 0x3f).toInt64) &&& (mf 2)), ss, jv (FF (k + 1)), ss, iv ((Int32.ofNat (k + 1)) + (1 : Int32)), jv (rf ((2 * (bd + 1)) + k)), ss, jv (FF (k + 1)), ss]) rfl kon) ?_
                  show own_Wp _ _ _ _ (T30.setTop (mkF m 237 #[rv a1, iv (3 : Int32), iv p3, iv p4, jv (co RR), ss, iv row, iv abv, iv twv, jv (((co RR) <<< ((1 : Int32) &&& 0x3f).toInt64) &&& (mf 2)), ss, jv (FF (k + 1)), ss, iv ((Int32.ofNat (k + 1)) + (1 : Int32)), jv (rf ((2 * (bd + 1)) + k)), ss, jv (FF (k + 1)), ss] []))
                  refine own_of (fun tgt kon => XS.goto X30.here hx rfl (pc0 := 237) (pc' := 96) rfl (hb hby d10_237) (by decide) (by decide) kon) ?_
                  show own_Wp _ _ _ _ (T30.setTop (mkF m 96 #[rv a1, iv (3 : Int32), iv p3, iv p4, jv (co RR), ss, iv row, iv abv, iv twv, jv (((co RR) <<< ((1 : Int32) &&& 0x3f).toInt64) &&& (mf 2)), ss, jv (FF (k + 1)), ss, iv ((Int32.ofNat (k + 1)) + (1 : Int32)), jv (rf ((2 * (bd + 1)) + k)), ss, jv (FF (k + 1)), ss] []))
                  rw [own_succ]
                  exact ih T30 _ _ (k + 1) ((rf ((2 * (bd + 1)) + k))) ((FF (k + 1))) X30 e30 N30 Zs K0 E_a1 F_columnsOf F_codePoints F_matches F_rows F_levels F_columns F_headBound F_outsideHead V_ac V_ao V_ar V_am (by omega) (by omega)
                show own_Wp _ _ _ _ (T27.setTop (mkF m 193 #[rv a1, iv (3 : Int32), iv p3, iv p4, jv (co RR), ss, iv row, iv abv, iv twv, jv (((co RR) <<< ((1 : Int32) &&& 0x3f).toInt64) &&& (mf 2)), ss, jv (FF k), ss, iv (Int32.ofNat (k + 1)), jv (rf ((2 * (bd + 1)) + k)), ss, jv (q2 &&& cols), ss] [(.int p5), (.int (Int32.ofNat (k + 1)))]))
                by_cases hc193 : p5 < (Int32.ofNat (k + 1))
                · skip
                  refine own_of (fun tgt kon => XS.icmpNo X27.here hx rfl (hb hby d10_193) rfl (tlt hc193).2.2.2 kon) ?_
                  show own_Wp _ _ _ _ (T27.setTop (mkF m 196 #[rv a1, iv (3 : Int32), iv p3, iv p4, jv (co RR), ss, iv row, iv abv, iv twv, jv (((co RR) <<< ((1 : Int32) &&& 0x3f).toInt64) &&& (mf 2)), ss, jv (FF k), ss, iv (Int32.ofNat (k + 1)), jv (rf ((2 * (bd + 1)) + k)), ss, jv (q2 &&& cols), ss] []))
                  have hlb : ph < k + 1 := by
                    have q := hc193
                    rw [Int32.lt_iff_toInt_lt, hhb, t_d] at q
                    omega
                  refine own_of (fun tgt kon => XS.lload X27.here hx rfl (hb hby d10_196) rfl kon) ?_
                  refine own_of (fun tgt kon => XS.aloadN X27.here hx rfl (hb hby d10_198) rfl rfl kon) ?_
                  obtain ⟨T31, X31, e31, st31⟩ := getF X27 hx hZ hown (host := "") (Or.inl (ow hw 39 rfl)) Via.refl e27 F_rows (g := (mkF m 199 #[rv a1, iv (3 : Int32), iv p3, iv p4, jv (co RR), ss, iv row, iv abv, iv twv, jv (((co RR) <<< ((1 : Int32) &&& 0x3f).toInt64) &&& (mf 2)), ss, jv (FF k), ss, iv (Int32.ofNat (k + 1)), jv (rf ((2 * (bd + 1)) + k)), ss, jv (q2 &&& cols), ss] [(.ref a1), (.long (q2 &&& cols))])) rfl rfl (hb hby d10_199)
                  refine own_of st31 ?_
                  clear st31
                  refine own_of (fun tgt kon => XS.iload X31.here hx rfl (hb hby d10_202) rfl kon) ?_
                  refine own_of (fun tgt kon => XS.aloadN X31.here hx rfl (hb hby d10_204) rfl rfl kon) ?_
                  show own_Wp _ _ _ _ (T31.setTop (mkF m 205 #[rv a1, iv (3 : Int32), iv p3, iv p4, jv (co RR), ss, iv row, iv abv, iv twv, jv (((co RR) <<< ((1 : Int32) &&& 0x3f).toInt64) &&& (mf 2)), ss, jv (FF k), ss, iv (Int32.ofNat (k + 1)), jv (rf ((2 * (bd + 1)) + k)), ss, jv (q2 &&& cols), ss] [(.ref a1), (.int row), (.ref ar), (.long (q2 &&& cols))]))
                  obtain ⟨T32, X32, e32, st32⟩ := getF X31 hx hZ hown (host := "") (Or.inl (ow hw 20 rfl)) Via.refl e31 F_headBound (g := (mkF m 205 #[rv a1, iv (3 : Int32), iv p3, iv p4, jv (co RR), ss, iv row, iv abv, iv twv, jv (((co RR) <<< ((1 : Int32) &&& 0x3f).toInt64) &&& (mf 2)), ss, jv (FF k), ss, iv (Int32.ofNat (k + 1)), jv (rf ((2 * (bd + 1)) + k)), ss, jv (q2 &&& cols), ss] [(.ref a1), (.int row), (.ref ar), (.long (q2 &&& cols))])) rfl rfl (hb hby d10_205)
                  refine own_of st32 ?_
                  clear st32
                  refine own_of (fun tgt kon => XS.iadd X32.here hx rfl (hb hby d10_208) rfl kon) ?_
                  refine own_laload X32 hx hZ e32 V_ar (j := (row + p5)) (i := ((3 * (bd + 1)) + ph)) (v := (FF ph)) (by have q1 := own_addI t_row hhb (by omega) (by omega); omega) (by omega) (by show Value.long (own_rk _ _ _ _ _) = _; rw [own_rk_in (by omega)]) rfl rfl (hb hby d10_209) ?_
                  refine own_of (fun tgt kon => XS.aloadN X32.here hx rfl (hb hby d10_210) rfl rfl kon) ?_
                  obtain ⟨T33, X33, e33, st33⟩ := getF X32 hx hZ hown (host := "") (Or.inl (ow hw 32 rfl)) Via.refl e32 F_outsideHead (g := (mkF m 211 #[rv a1, iv (3 : Int32), iv p3, iv p4, jv (co RR), ss, iv row, iv abv, iv twv, jv (((co RR) <<< ((1 : Int32) &&& 0x3f).toInt64) &&& (mf 2)), ss, jv (FF k), ss, iv (Int32.ofNat (k + 1)), jv (rf ((2 * (bd + 1)) + k)), ss, jv (q2 &&& cols), ss] [(.ref a1), (.long (FF ph)), (.long (q2 &&& cols))])) rfl rfl (hb hby d10_211)
                  refine own_of st33 ?_
                  clear st33
                  show own_Wp _ _ _ _ (T33.setTop (mkF m 214 #[rv a1, iv (3 : Int32), iv p3, iv p4, jv (co RR), ss, iv row, iv abv, iv twv, jv (((co RR) <<< ((1 : Int32) &&& 0x3f).toInt64) &&& (mf 2)), ss, jv (FF k), ss, iv (Int32.ofNat (k + 1)), jv (rf ((2 * (bd + 1)) + k)), ss, jv (q2 &&& cols), ss] [(.long out), (.long (FF ph)), (.long (q2 &&& cols))]))
                  refine own_of (fun tgt kon => XS.lor X33.here hx rfl (hb hby d10_214) rfl kon) ?_
                  refine own_of (fun tgt kon => XS.land X33.here hx rfl (hb hby d10_215) rfl kon) ?_
                  refine own_of (fun tgt kon => XS.lstore X33.here hx rfl (hb hby d10_216) rfl (l' := #[rv a1, iv (3 : Int32), iv p3, iv p4, jv (co RR), ss, iv row, iv abv, iv twv, jv (((co RR) <<< ((1 : Int32) &&& 0x3f).toInt64) &&& (mf 2)), ss, jv (FF k), ss, iv (Int32.ofNat (k + 1)), jv (rf ((2 * (bd + 1)) + k)), ss, jv ((q2 &&& cols) &&& ((FF ph) ||| out)), ss]) rfl kon) ?_
                  show own_Wp _ _ _ _ (T33.setTop (mkF m 218 #[rv a1, iv (3 : Int32), iv p3, iv p4, jv (co RR), ss, iv row, iv abv, iv twv, jv (((co RR) <<< ((1 : Int32) &&& 0x3f).toInt64) &&& (mf 2)), ss, jv (FF k), ss, iv (Int32.ofNat (k + 1)), jv (rf ((2 * (bd + 1)) + k)), ss, jv ((q2 &&& cols) &&& ((FF ph) ||| out)), ss] []))
                  exact J218 T33 _ (((q2 &&& cols) &&& ((FF ph) ||| out))) X33 e33 N25 (by exact (if_pos hlb).symm)
                · skip
                  refine own_of (fun tgt kon => XS.icmpYes X27.here hx rfl (pc0 := 193) (pc' := 218) rfl (hb hby d10_193) rfl (flt hc193).2.2.2 (by decide) (by decide) kon) ?_
                  show own_Wp _ _ _ _ (T27.setTop (mkF m 218 #[rv a1, iv (3 : Int32), iv p3, iv p4, jv (co RR), ss, iv row, iv abv, iv twv, jv (((co RR) <<< ((1 : Int32) &&& 0x3f).toInt64) &&& (mf 2)), ss, jv (FF k), ss, iv (Int32.ofNat (k + 1)), jv (rf ((2 * (bd + 1)) + k)), ss, jv (q2 &&& cols), ss] []))
                  exact J218 T27 _ ((q2 &&& cols)) X27 e27 N25 (by exact (if_neg (fun q => hc193 (by rw [Int32.lt_iff_toInt_lt, hhb, t_d]; omega))).symm)
              show own_Wp _ _ _ _ (T24.setTop (mkF m 153 #[rv a1, iv (3 : Int32), iv p3, iv p4, jv (co RR), ss, iv row, iv abv, iv twv, jv (((co RR) <<< ((1 : Int32) &&& 0x3f).toInt64) &&& (mf 2)), ss, jv (FF k), ss, iv (Int32.ofNat (k + 1)), jv (rf ((2 * (bd + 1)) + k)), ss, jv r1_2, ss] [(.int (lcmpW (((co RR) <<< ((1 : Int32) &&& 0x3f).toInt64) &&& (mf 2)) (0 : Int64)))]))
              by_cases hc153 : (lcmpW (((co RR) <<< ((1 : Int32) &&& 0x3f).toInt64) &&& (mf 2)) (0 : Int64)) = (0 : Int32)
              · skip
                refine own_of (fun tgt kon => XS.ifYes X24.here hx rfl (pc0 := 153) (pc' := 178) rfl (hb hby d10_153) rfl ((if0 _ _).trans (teq hc153).1) (by decide) (by decide) kon) ?_
                show own_Wp _ _ _ _ (T24.setTop (mkF m 178 #[rv a1, iv (3 : Int32), iv p3, iv p4, jv (co RR), ss, iv row, iv abv, iv twv, jv (((co RR) <<< ((1 : Int32) &&& 0x3f).toInt64) &&& (mf 2)), ss, jv (FF k), ss, iv (Int32.ofNat (k + 1)), jv (rf ((2 * (bd + 1)) + k)), ss, jv r1_2, ss] []))
                exact J178 T24 _ (r1_2) X24 e24 N21 (by exact (if_pos ((own_lc0 _).mp hc153)).symm)
              · skip
                refine own_of (fun tgt kon => XS.ifNo X24.here hx rfl (hb hby d10_153) rfl ((if0 _ _).trans (feq hc153).1) kon) ?_
                refine own_of (fun tgt kon => XS.lload X24.here hx rfl (hb hby d10_156) rfl kon) ?_
                refine own_of (fun tgt kon => XS.lload X24.here hx rfl (hb hby d10_158) rfl kon) ?_
                refine own_of (fun tgt kon => XS.aloadN X24.here hx rfl (hb hby d10_160) rfl rfl kon) ?_
                obtain ⟨T34, X34, e34, st34⟩ := getF X24 hx hZ hown (host := "") (Or.inl (ow hw 39 rfl)) Via.refl e24 F_rows (g := (mkF m 161 #[rv a1, iv (3 : Int32), iv p3, iv p4, jv (co RR), ss, iv row, iv abv, iv twv, jv (((co RR) <<< ((1 : Int32) &&& 0x3f).toInt64) &&& (mf 2)), ss, jv (FF k), ss, iv (Int32.ofNat (k + 1)), jv (rf ((2 * (bd + 1)) + k)), ss, jv r1_2, ss] [(.ref a1), (.long (((co RR) <<< ((1 : Int32) &&& 0x3f).toInt64) &&& (mf 2))), (.long r1_2)])) rfl rfl (hb hby d10_161)
                refine own_of st34 ?_
                clear st34
                show own_Wp _ _ _ _ (T34.setTop (mkF m 164 #[rv a1, iv (3 : Int32), iv p3, iv p4, jv (co RR), ss, iv row, iv abv, iv twv, jv (((co RR) <<< ((1 : Int32) &&& 0x3f).toInt64) &&& (mf 2)), ss, jv (FF k), ss, iv (Int32.ofNat (k + 1)), jv (rf ((2 * (bd + 1)) + k)), ss, jv r1_2, ss] [(.ref ar), (.long (((co RR) <<< ((1 : Int32) &&& 0x3f).toInt64) &&& (mf 2))), (.long r1_2)]))
                refine own_of (fun tgt kon => XS.iload X34.here hx rfl (hb hby d10_164) rfl kon) ?_
                refine own_of (fun tgt kon => XS.iload X34.here hx rfl (hb hby d10_166) rfl kon) ?_
                refine own_of (fun tgt kon => XS.iadd X34.here hx rfl (hb hby d10_168) rfl kon) ?_
                refine own_of (fun tgt kon => XS.iconst X34.here hx rfl (hb hby d10_169) kon) ?_
                refine own_of (fun tgt kon => XS.isub X34.here hx rfl (hb hby d10_170) rfl kon) ?_
                show own_Wp _ _ _ _ (T34.setTop (mkF m 171 #[rv a1, iv (3 : Int32), iv p3, iv p4, jv (co RR), ss, iv row, iv abv, iv twv, jv (((co RR) <<< ((1 : Int32) &&& 0x3f).toInt64) &&& (mf 2)), ss, jv (FF k), ss, iv (Int32.ofNat (k + 1)), jv (rf ((2 * (bd + 1)) + k)), ss, jv r1_2, ss] [(.int ((twv + (Int32.ofNat (k + 1))) - (1 : Int32))), (.ref ar), (.long (((co RR) <<< ((1 : Int32) &&& 0x3f).toInt64) &&& (mf 2))), (.long r1_2)]))
                refine own_laload X34 hx hZ e34 V_ar (j := ((twv + (Int32.ofNat (k + 1))) - (1 : Int32))) (i := ((1 * (bd + 1)) + k)) (v := (rf ((1 * (bd + 1)) + k))) (by have q1 := own_addI t_tw t_d (by omega) (by omega); have q2 := own_subI q1 l1 (by omega) (by omega); omega) (by omega) (by show Value.long (own_rk _ _ _ _ _) = _; rw [own_rk_lt (by omega)]) rfl rfl (hb hby d10_171) ?_
                refine own_of (fun tgt kon => XS.iconst X34.here hx rfl (hb hby d10_172) kon) ?_
                refine own_of (fun tgt kon => XS.lshl X34.here hx rfl (hb hby d10_173) rfl kon) ?_
                refine own_of (fun tgt kon => XS.land X34.here hx rfl (hb hby d10_174) rfl kon) ?_
                refine own_of (fun tgt kon => XS.lor X34.here hx rfl (hb hby d10_175) rfl kon) ?_
                show own_Wp _ _ _ _ (T34.setTop (mkF m 176 #[rv a1, iv (3 : Int32), iv p3, iv p4, jv (co RR), ss, iv row, iv abv, iv twv, jv (((co RR) <<< ((1 : Int32) &&& 0x3f).toInt64) &&& (mf 2)), ss, jv (FF k), ss, iv (Int32.ofNat (k + 1)), jv (rf ((2 * (bd + 1)) + k)), ss, jv r1_2, ss] [(.long (r1_2 ||| ((((co RR) <<< ((1 : Int32) &&& 0x3f).toInt64) &&& (mf 2)) &&& ((rf ((1 * (bd + 1)) + k)) <<< ((2 : Int32) &&& 0x3f).toInt64))))]))
                refine own_of (fun tgt kon => XS.lstore X34.here hx rfl (hb hby d10_176) rfl (l' := #[rv a1, iv (3 : Int32), iv p3, iv p4, jv (co RR), ss, iv row, iv abv, iv twv, jv (((co RR) <<< ((1 : Int32) &&& 0x3f).toInt64) &&& (mf 2)), ss, jv (FF k), ss, iv (Int32.ofNat (k + 1)), jv (rf ((2 * (bd + 1)) + k)), ss, jv (r1_2 ||| ((((co RR) <<< ((1 : Int32) &&& 0x3f).toInt64) &&& (mf 2)) &&& ((rf ((1 * (bd + 1)) + k)) <<< ((2 : Int32) &&& 0x3f).toInt64))), ss]) rfl kon) ?_
                show own_Wp _ _ _ _ (T34.setTop (mkF m 178 #[rv a1, iv (3 : Int32), iv p3, iv p4, jv (co RR), ss, iv row, iv abv, iv twv, jv (((co RR) <<< ((1 : Int32) &&& 0x3f).toInt64) &&& (mf 2)), ss, jv (FF k), ss, iv (Int32.ofNat (k + 1)), jv (rf ((2 * (bd + 1)) + k)), ss, jv (r1_2 ||| ((((co RR) <<< ((1 : Int32) &&& 0x3f).toInt64) &&& (mf 2)) &&& ((rf ((1 * (bd + 1)) + k)) <<< ((2 : Int32) &&& 0x3f).toInt64))), ss] []))
                exact J178 T34 _ ((r1_2 ||| ((((co RR) <<< ((1 : Int32) &&& 0x3f).toInt64) &&& (mf 2)) &&& ((rf ((1 * (bd + 1)) + k)) <<< ((2 : Int32) &&& 0x3f).toInt64)))) X34 e34 N21 (by exact (if_neg (fun q => hc153 ((own_lc0 _).mpr q))).symm)
            · skip
              refine own_of (fun tgt kon => XS.icmpYes X22.here hx rfl (pc0 := 102) (pc' := 240) rfl (hb hby d10_102) rfl (flt hc102_2).2.1 (by decide) (by decide) kon) ?_
              refine own_of (fun tgt kon => XS.lload X22.here hx rfl (hb hby d10_240) rfl kon) ?_
              show own_Wp _ _ _ _ (T22.setTop (mkF m 242 #[rv a1, iv (3 : Int32), iv p3, iv p4, jv (co RR), ss, iv row, iv abv, iv twv, jv (((co RR) <<< ((1 : Int32) &&& 0x3f).toInt64) &&& (mf 2)), ss, jv (FF k), ss, iv (Int32.ofNat (k + 1)), jv z14, ss, jv z16, ss] [(.long (FF k))]))
              refine own_of (fun tgt kon => XS.lconst X22.here hx rfl (hb hby d10_242) kon) ?_
              refine own_of (fun tgt kon => XS.lcmp X22.here hx rfl (hb hby d10_243) rfl kon) ?_
              by_cases hc244 : (lcmpW (FF k) (0 : Int64)) = (0 : Int32)
              · skip
                refine own_of (fun tgt kon => XS.ifYes X22.here hx rfl (pc0 := 244) (pc' := 251) rfl (hb hby d10_244) rfl ((if0 _ _).trans (teq hc244).1) (by decide) (by decide) kon) ?_
                refine own_of (fun tgt kon => XS.iconst X22.here hx rfl (hb hby d10_251) kon) ?_
                show own_Wp _ _ _ _ (T22.setTop (mkF m 252 #[rv a1, iv (3 : Int32), iv p3, iv p4, jv (co RR), ss, iv row, iv abv, iv twv, jv (((co RR) <<< ((1 : Int32) &&& 0x3f).toInt64) &&& (mf 2)), ss, jv (FF k), ss, iv (Int32.ofNat (k + 1)), jv z14, ss, jv z16, ss] [(.int (0 : Int32))]))
                refine own_ret X22 hlk (some (.int (0 : Int32))) (own_rtI hrt) (fun fs hr => retN X22 hx (t := .boolean) hrt (by simp) (hb hby d10_252) hr) ?_ (by decide) (by decide)
                rw [e22]
                have hge : k = bd := by
                  have q := hc102_2
                  rw [Int32.lt_iff_toInt_lt, hlv, own_ofN (by omega)] at q
                  omega
                subst hge
                refine ⟨?_, N21, K0, V_ar, V_am⟩
                rw [if_pos ((own_lc0 _).mp hc244)]
              · skip
                refine own_of (fun tgt kon => XS.ifNo X22.here hx rfl (hb hby d10_244) rfl ((if0 _ _).trans (feq hc244).1) kon) ?_
                refine own_of (fun tgt kon => XS.iconst X22.here hx rfl (hb hby d10_247) kon) ?_
                refine own_of (fun tgt kon => XS.goto X22.here hx rfl (pc0 := 248) (pc' := 252) rfl (hb hby d10_248) (by decide) (by decide) kon) ?_
                show own_Wp _ _ _ _ (T22.setTop (mkF m 252 #[rv a1, iv (3 : Int32), iv p3, iv p4, jv (co RR), ss, iv row, iv abv, iv twv, jv (((co RR) <<< ((1 : Int32) &&& 0x3f).toInt64) &&& (mf 2)), ss, jv (FF k), ss, iv (Int32.ofNat (k + 1)), jv z14, ss, jv z16, ss] [(.int (1 : Int32))]))
                refine own_ret X22 hlk (some (.int (1 : Int32))) (own_rtI hrt) (fun fs hr => retN X22 hx (t := .boolean) hrt (by simp) (hb hby d10_252) hr) ?_ (by decide) (by decide)
                rw [e22]
                have hge : k = bd := by
                  have q := hc102_2
                  rw [Int32.lt_iff_toInt_lt, hlv, own_ofN (by omega)] at q
                  omega
                subst hge
                refine ⟨?_, N21, K0, V_ar, V_am⟩
                rw [if_neg (fun q => hc244 ((own_lc0 _).mpr q))]
        show own_Wp _ _ _ _ (T20.setTop (mkF m 96 #[rv a1, iv (3 : Int32), iv p3, iv p4, jv (co RR), ss, iv row, iv abv, iv twv, jv (((co RR) <<< ((1 : Int32) &&& 0x3f).toInt64) &&& (mf 2)), ss, jv (FF (0 + 1)), ss, iv (Int32.ofNat (1 + 1)), jv (rf ((2 * (bd + 1)) + 0)), ss, jv (FF (0 + 1)), ss] []))
        exact J96 _ T20 _ _ (1) ((rf ((2 * (bd + 1)) + 0))) ((FF (0 + 1))) X20 e20 N20 Zs K0 E_a1 F_columnsOf F_codePoints F_matches F_rows F_levels F_columns F_headBound F_outsideHead V_ac V_ao V_ar V_am (by omega) (Nat.lt_succ_self _)
      show own_Wp _ _ _ _ (T17.setTop (mkF m 193 #[rv a1, iv (3 : Int32), iv p3, iv p4, jv (co RR), ss, iv row, iv abv, iv twv, jv (((co RR) <<< ((1 : Int32) &&& 0x3f).toInt64) &&& (mf 2)), ss, jv (FF 0), ss, iv (1 : Int32), jv (rf ((2 * (bd + 1)) + 0)), ss, jv (q2 &&& cols), ss] [(.int p5), (.int (1 : Int32))]))
      by_cases hc193 : p5 < (1 : Int32)
      · skip
        refine own_of (fun tgt kon => XS.icmpNo X17.here hx rfl (hb hby d10_193) rfl (tlt hc193).2.2.2 kon) ?_
        show own_Wp _ _ _ _ (T17.setTop (mkF m 196 #[rv a1, iv (3 : Int32), iv p3, iv p4, jv (co RR), ss, iv row, iv abv, iv twv, jv (((co RR) <<< ((1 : Int32) &&& 0x3f).toInt64) &&& (mf 2)), ss, jv (FF 0), ss, iv (1 : Int32), jv (rf ((2 * (bd + 1)) + 0)), ss, jv (q2 &&& cols), ss] []))
        have hlb : ph < 0 + 1 := by
          have q := hc193
          rw [Int32.lt_iff_toInt_lt, hhb, t_d] at q
          omega
        refine own_of (fun tgt kon => XS.lload X17.here hx rfl (hb hby d10_196) rfl kon) ?_
        refine own_of (fun tgt kon => XS.aloadN X17.here hx rfl (hb hby d10_198) rfl rfl kon) ?_
        obtain ⟨T35, X35, e35, st35⟩ := getF X17 hx hZ hown (host := "") (Or.inl (ow hw 39 rfl)) Via.refl e17 F_rows (g := (mkF m 199 #[rv a1, iv (3 : Int32), iv p3, iv p4, jv (co RR), ss, iv row, iv abv, iv twv, jv (((co RR) <<< ((1 : Int32) &&& 0x3f).toInt64) &&& (mf 2)), ss, jv (FF 0), ss, iv (1 : Int32), jv (rf ((2 * (bd + 1)) + 0)), ss, jv (q2 &&& cols), ss] [(.ref a1), (.long (q2 &&& cols))])) rfl rfl (hb hby d10_199)
        refine own_of st35 ?_
        clear st35
        refine own_of (fun tgt kon => XS.iload X35.here hx rfl (hb hby d10_202) rfl kon) ?_
        refine own_of (fun tgt kon => XS.aloadN X35.here hx rfl (hb hby d10_204) rfl rfl kon) ?_
        show own_Wp _ _ _ _ (T35.setTop (mkF m 205 #[rv a1, iv (3 : Int32), iv p3, iv p4, jv (co RR), ss, iv row, iv abv, iv twv, jv (((co RR) <<< ((1 : Int32) &&& 0x3f).toInt64) &&& (mf 2)), ss, jv (FF 0), ss, iv (1 : Int32), jv (rf ((2 * (bd + 1)) + 0)), ss, jv (q2 &&& cols), ss] [(.ref a1), (.int row), (.ref ar), (.long (q2 &&& cols))]))
        obtain ⟨T36, X36, e36, st36⟩ := getF X35 hx hZ hown (host := "") (Or.inl (ow hw 20 rfl)) Via.refl e35 F_headBound (g := (mkF m 205 #[rv a1, iv (3 : Int32), iv p3, iv p4, jv (co RR), ss, iv row, iv abv, iv twv, jv (((co RR) <<< ((1 : Int32) &&& 0x3f).toInt64) &&& (mf 2)), ss, jv (FF 0), ss, iv (1 : Int32), jv (rf ((2 * (bd + 1)) + 0)), ss, jv (q2 &&& cols), ss] [(.ref a1), (.int row), (.ref ar), (.long (q2 &&& cols))])) rfl rfl (hb hby d10_205)
        refine own_of st36 ?_
        clear st36
        refine own_of (fun tgt kon => XS.iadd X36.here hx rfl (hb hby d10_208) rfl kon) ?_
        refine own_laload X36 hx hZ e36 V_ar (j := (row + p5)) (i := ((3 * (bd + 1)) + ph)) (v := (FF ph)) (by have q1 := own_addI t_row hhb (by omega) (by omega); omega) (by omega) (by show Value.long (own_rk _ _ _ _ _) = _; rw [own_rk_in (by omega)]) rfl rfl (hb hby d10_209) ?_
        refine own_of (fun tgt kon => XS.aloadN X36.here hx rfl (hb hby d10_210) rfl rfl kon) ?_
        obtain ⟨T37, X37, e37, st37⟩ := getF X36 hx hZ hown (host := "") (Or.inl (ow hw 32 rfl)) Via.refl e36 F_outsideHead (g := (mkF m 211 #[rv a1, iv (3 : Int32), iv p3, iv p4, jv (co RR), ss, iv row, iv abv, iv twv, jv (((co RR) <<< ((1 : Int32) &&& 0x3f).toInt64) &&& (mf 2)), ss, jv (FF 0), ss, iv (1 : Int32), jv (rf ((2 * (bd + 1)) + 0)), ss, jv (q2 &&& cols), ss] [(.ref a1), (.long (FF ph)), (.long (q2 &&& cols))])) rfl rfl (hb hby d10_211)
        refine own_of st37 ?_
        clear st37
        show own_Wp _ _ _ _ (T37.setTop (mkF m 214 #[rv a1, iv (3 : Int32), iv p3, iv p4, jv (co RR), ss, iv row, iv abv, iv twv, jv (((co RR) <<< ((1 : Int32) &&& 0x3f).toInt64) &&& (mf 2)), ss, jv (FF 0), ss, iv (1 : Int32), jv (rf ((2 * (bd + 1)) + 0)), ss, jv (q2 &&& cols), ss] [(.long out), (.long (FF ph)), (.long (q2 &&& cols))]))
        refine own_of (fun tgt kon => XS.lor X37.here hx rfl (hb hby d10_214) rfl kon) ?_
        refine own_of (fun tgt kon => XS.land X37.here hx rfl (hb hby d10_215) rfl kon) ?_
        refine own_of (fun tgt kon => XS.lstore X37.here hx rfl (hb hby d10_216) rfl (l' := #[rv a1, iv (3 : Int32), iv p3, iv p4, jv (co RR), ss, iv row, iv abv, iv twv, jv (((co RR) <<< ((1 : Int32) &&& 0x3f).toInt64) &&& (mf 2)), ss, jv (FF 0), ss, iv (1 : Int32), jv (rf ((2 * (bd + 1)) + 0)), ss, jv ((q2 &&& cols) &&& ((FF ph) ||| out)), ss]) rfl kon) ?_
        show own_Wp _ _ _ _ (T37.setTop (mkF m 218 #[rv a1, iv (3 : Int32), iv p3, iv p4, jv (co RR), ss, iv row, iv abv, iv twv, jv (((co RR) <<< ((1 : Int32) &&& 0x3f).toInt64) &&& (mf 2)), ss, jv (FF 0), ss, iv (1 : Int32), jv (rf ((2 * (bd + 1)) + 0)), ss, jv ((q2 &&& cols) &&& ((FF ph) ||| out)), ss] []))
        exact J218 T37 _ (((q2 &&& cols) &&& ((FF ph) ||| out))) X37 e37 N15 (by exact (if_pos hlb).symm)
      · skip
        refine own_of (fun tgt kon => XS.icmpYes X17.here hx rfl (pc0 := 193) (pc' := 218) rfl (hb hby d10_193) rfl (flt hc193).2.2.2 (by decide) (by decide) kon) ?_
        show own_Wp _ _ _ _ (T17.setTop (mkF m 218 #[rv a1, iv (3 : Int32), iv p3, iv p4, jv (co RR), ss, iv row, iv abv, iv twv, jv (((co RR) <<< ((1 : Int32) &&& 0x3f).toInt64) &&& (mf 2)), ss, jv (FF 0), ss, iv (1 : Int32), jv (rf ((2 * (bd + 1)) + 0)), ss, jv (q2 &&& cols), ss] []))
        exact J218 T17 _ ((q2 &&& cols)) X17 e17 N15 (by exact (if_neg (fun q => hc193 (by rw [Int32.lt_iff_toInt_lt, hhb, t_d]; omega))).symm)
    show own_Wp _ _ _ _ (T14.setTop (mkF m 153 #[rv a1, iv (3 : Int32), iv p3, iv p4, jv (co RR), ss, iv row, iv abv, iv twv, jv (((co RR) <<< ((1 : Int32) &&& 0x3f).toInt64) &&& (mf 2)), ss, jv (FF 0), ss, iv (1 : Int32), jv (rf ((2 * (bd + 1)) + 0)), ss, jv r1, ss] [(.int (lcmpW (((co RR) <<< ((1 : Int32) &&& 0x3f).toInt64) &&& (mf 2)) (0 : Int64)))]))
    by_cases hc153 : (lcmpW (((co RR) <<< ((1 : Int32) &&& 0x3f).toInt64) &&& (mf 2)) (0 : Int64)) = (0 : Int32)
    · skip
      refine own_of (fun tgt kon => XS.ifYes X14.here hx rfl (pc0 := 153) (pc' := 178) rfl (hb hby d10_153) rfl ((if0 _ _).trans (teq hc153).1) (by decide) (by decide) kon) ?_
      show own_Wp _ _ _ _ (T14.setTop (mkF m 178 #[rv a1, iv (3 : Int32), iv p3, iv p4, jv (co RR), ss, iv row, iv abv, iv twv, jv (((co RR) <<< ((1 : Int32) &&& 0x3f).toInt64) &&& (mf 2)), ss, jv (FF 0), ss, iv (1 : Int32), jv (rf ((2 * (bd + 1)) + 0)), ss, jv r1, ss] []))
      exact J178 T14 _ (r1) X14 e14 N11 (by exact (if_pos ((own_lc0 _).mp hc153)).symm)
    · skip
      refine own_of (fun tgt kon => XS.ifNo X14.here hx rfl (hb hby d10_153) rfl ((if0 _ _).trans (feq hc153).1) kon) ?_
      refine own_of (fun tgt kon => XS.lload X14.here hx rfl (hb hby d10_156) rfl kon) ?_
      refine own_of (fun tgt kon => XS.lload X14.here hx rfl (hb hby d10_158) rfl kon) ?_
      refine own_of (fun tgt kon => XS.aloadN X14.here hx rfl (hb hby d10_160) rfl rfl kon) ?_
      obtain ⟨T38, X38, e38, st38⟩ := getF X14 hx hZ hown (host := "") (Or.inl (ow hw 39 rfl)) Via.refl e14 F_rows (g := (mkF m 161 #[rv a1, iv (3 : Int32), iv p3, iv p4, jv (co RR), ss, iv row, iv abv, iv twv, jv (((co RR) <<< ((1 : Int32) &&& 0x3f).toInt64) &&& (mf 2)), ss, jv (FF 0), ss, iv (1 : Int32), jv (rf ((2 * (bd + 1)) + 0)), ss, jv r1, ss] [(.ref a1), (.long (((co RR) <<< ((1 : Int32) &&& 0x3f).toInt64) &&& (mf 2))), (.long r1)])) rfl rfl (hb hby d10_161)
      refine own_of st38 ?_
      clear st38
      show own_Wp _ _ _ _ (T38.setTop (mkF m 164 #[rv a1, iv (3 : Int32), iv p3, iv p4, jv (co RR), ss, iv row, iv abv, iv twv, jv (((co RR) <<< ((1 : Int32) &&& 0x3f).toInt64) &&& (mf 2)), ss, jv (FF 0), ss, iv (1 : Int32), jv (rf ((2 * (bd + 1)) + 0)), ss, jv r1, ss] [(.ref ar), (.long (((co RR) <<< ((1 : Int32) &&& 0x3f).toInt64) &&& (mf 2))), (.long r1)]))
      refine own_of (fun tgt kon => XS.iload X38.here hx rfl (hb hby d10_164) rfl kon) ?_
      refine own_of (fun tgt kon => XS.iload X38.here hx rfl (hb hby d10_166) rfl kon) ?_
      refine own_of (fun tgt kon => XS.iadd X38.here hx rfl (hb hby d10_168) rfl kon) ?_
      refine own_of (fun tgt kon => XS.iconst X38.here hx rfl (hb hby d10_169) kon) ?_
      refine own_of (fun tgt kon => XS.isub X38.here hx rfl (hb hby d10_170) rfl kon) ?_
      show own_Wp _ _ _ _ (T38.setTop (mkF m 171 #[rv a1, iv (3 : Int32), iv p3, iv p4, jv (co RR), ss, iv row, iv abv, iv twv, jv (((co RR) <<< ((1 : Int32) &&& 0x3f).toInt64) &&& (mf 2)), ss, jv (FF 0), ss, iv (1 : Int32), jv (rf ((2 * (bd + 1)) + 0)), ss, jv r1, ss] [(.int ((twv + (1 : Int32)) - (1 : Int32))), (.ref ar), (.long (((co RR) <<< ((1 : Int32) &&& 0x3f).toInt64) &&& (mf 2))), (.long r1)]))
      refine own_laload X38 hx hZ e38 V_ar (j := ((twv + (1 : Int32)) - (1 : Int32))) (i := ((1 * (bd + 1)) + 0)) (v := (rf ((1 * (bd + 1)) + 0))) (by have q1 := own_addI t_tw t_d (by omega) (by omega); have q2 := own_subI q1 l1 (by omega) (by omega); omega) (by omega) (by show Value.long (own_rk _ _ _ _ _) = _; rw [own_rk_lt (by omega)]) rfl rfl (hb hby d10_171) ?_
      refine own_of (fun tgt kon => XS.iconst X38.here hx rfl (hb hby d10_172) kon) ?_
      refine own_of (fun tgt kon => XS.lshl X38.here hx rfl (hb hby d10_173) rfl kon) ?_
      refine own_of (fun tgt kon => XS.land X38.here hx rfl (hb hby d10_174) rfl kon) ?_
      refine own_of (fun tgt kon => XS.lor X38.here hx rfl (hb hby d10_175) rfl kon) ?_
      show own_Wp _ _ _ _ (T38.setTop (mkF m 176 #[rv a1, iv (3 : Int32), iv p3, iv p4, jv (co RR), ss, iv row, iv abv, iv twv, jv (((co RR) <<< ((1 : Int32) &&& 0x3f).toInt64) &&& (mf 2)), ss, jv (FF 0), ss, iv (1 : Int32), jv (rf ((2 * (bd + 1)) + 0)), ss, jv r1, ss] [(.long (r1 ||| ((((co RR) <<< ((1 : Int32) &&& 0x3f).toInt64) &&& (mf 2)) &&& ((rf ((1 * (bd + 1)) + 0)) <<< ((2 : Int32) &&& 0x3f).toInt64))))]))
      refine own_of (fun tgt kon => XS.lstore X38.here hx rfl (hb hby d10_176) rfl (l' := #[rv a1, iv (3 : Int32), iv p3, iv p4, jv (co RR), ss, iv row, iv abv, iv twv, jv (((co RR) <<< ((1 : Int32) &&& 0x3f).toInt64) &&& (mf 2)), ss, jv (FF 0), ss, iv (1 : Int32), jv (rf ((2 * (bd + 1)) + 0)), ss, jv (r1 ||| ((((co RR) <<< ((1 : Int32) &&& 0x3f).toInt64) &&& (mf 2)) &&& ((rf ((1 * (bd + 1)) + 0)) <<< ((2 : Int32) &&& 0x3f).toInt64))), ss]) rfl kon) ?_
      show own_Wp _ _ _ _ (T38.setTop (mkF m 178 #[rv a1, iv (3 : Int32), iv p3, iv p4, jv (co RR), ss, iv row, iv abv, iv twv, jv (((co RR) <<< ((1 : Int32) &&& 0x3f).toInt64) &&& (mf 2)), ss, jv (FF 0), ss, iv (1 : Int32), jv (rf ((2 * (bd + 1)) + 0)), ss, jv (r1 ||| ((((co RR) <<< ((1 : Int32) &&& 0x3f).toInt64) &&& (mf 2)) &&& ((rf ((1 * (bd + 1)) + 0)) <<< ((2 : Int32) &&& 0x3f).toInt64))), ss] []))
      exact J178 T38 _ ((r1 ||| ((((co RR) <<< ((1 : Int32) &&& 0x3f).toInt64) &&& (mf 2)) &&& ((rf ((1 * (bd + 1)) + 0)) <<< ((2 : Int32) &&& 0x3f).toInt64)))) X38 e38 N11 (by exact (if_neg (fun q => hc153 ((own_lc0 _).mpr q))).symm)
  · skip
    refine own_of (fun tgt kon => XS.icmpYes X12.here hx rfl (pc0 := 102) (pc' := 240) rfl (hb hby d10_102) rfl (flt hc102).2.1 (by decide) (by decide) kon) ?_
    refine own_of (fun tgt kon => XS.lload X12.here hx rfl (hb hby d10_240) rfl kon) ?_
    show own_Wp _ _ _ _ (T12.setTop (mkF m 242 #[rv a1, iv (3 : Int32), iv p3, iv p4, jv (co RR), ss, iv row, iv abv, iv twv, jv (((co RR) <<< ((1 : Int32) &&& 0x3f).toInt64) &&& (mf 2)), ss, jv (FF 0), ss, iv (1 : Int32), uu, uu, uu, uu] [(.long (FF 0))]))
    refine own_of (fun tgt kon => XS.lconst X12.here hx rfl (hb hby d10_242) kon) ?_
    refine own_of (fun tgt kon => XS.lcmp X12.here hx rfl (hb hby d10_243) rfl kon) ?_
    by_cases hc244 : (lcmpW (FF 0) (0 : Int64)) = (0 : Int32)
    · skip
      refine own_of (fun tgt kon => XS.ifYes X12.here hx rfl (pc0 := 244) (pc' := 251) rfl (hb hby d10_244) rfl ((if0 _ _).trans (teq hc244).1) (by decide) (by decide) kon) ?_
      refine own_of (fun tgt kon => XS.iconst X12.here hx rfl (hb hby d10_251) kon) ?_
      show own_Wp _ _ _ _ (T12.setTop (mkF m 252 #[rv a1, iv (3 : Int32), iv p3, iv p4, jv (co RR), ss, iv row, iv abv, iv twv, jv (((co RR) <<< ((1 : Int32) &&& 0x3f).toInt64) &&& (mf 2)), ss, jv (FF 0), ss, iv (1 : Int32), uu, uu, uu, uu] [(.int (0 : Int32))]))
      refine own_ret X12 hlk (some (.int (0 : Int32))) (own_rtI hrt) (fun fs hr => retN X12 hx (t := .boolean) hrt (by simp) (hb hby d10_252) hr) ?_ (by decide) (by decide)
      rw [e12]
      have hge : bd = 0 := by
        have q := hc102
        rw [Int32.lt_iff_toInt_lt, hlv, show (1 : Int32).toInt = 1 from by decide] at q
        omega
      subst hge
      refine ⟨?_, N11, K0, V_ar, V_am⟩
      rw [if_pos ((own_lc0 _).mp hc244)]
    · skip
      refine own_of (fun tgt kon => XS.ifNo X12.here hx rfl (hb hby d10_244) rfl ((if0 _ _).trans (feq hc244).1) kon) ?_
      refine own_of (fun tgt kon => XS.iconst X12.here hx rfl (hb hby d10_247) kon) ?_
      refine own_of (fun tgt kon => XS.goto X12.here hx rfl (pc0 := 248) (pc' := 252) rfl (hb hby d10_248) (by decide) (by decide) kon) ?_
      show own_Wp _ _ _ _ (T12.setTop (mkF m 252 #[rv a1, iv (3 : Int32), iv p3, iv p4, jv (co RR), ss, iv row, iv abv, iv twv, jv (((co RR) <<< ((1 : Int32) &&& 0x3f).toInt64) &&& (mf 2)), ss, jv (FF 0), ss, iv (1 : Int32), uu, uu, uu, uu] [(.int (1 : Int32))]))
      refine own_ret X12 hlk (some (.int (1 : Int32))) (own_rtI hrt) (fun fs hr => retN X12 hx (t := .boolean) hrt (by simp) (hb hby d10_252) hr) ?_ (by decide) (by decide)
      rw [e12]
      have hge : bd = 0 := by
        have q := hc102
        rw [Int32.lt_iff_toInt_lt, hlv, show (1 : Int32).toInt = 1 from by decide] at q
        omega
      subst hge
      refine ⟨?_, N11, K0, V_ar, V_am⟩
      rw [if_neg (fun q => hc244 ((own_lc0 _).mpr q))]
theorem d12_0 : decode prog_6_method_3_code 0 = .ok (.iload_n 1, 1) := by decide +kernel
theorem d12_1 : decode prog_6_method_3_code 1 = .ok (.aload_n 0, 1) := by decide +kernel
theorem d12_2 : decode prog_6_method_3_code 2 = .ok (.getfield 18, 3) := by decide +kernel
theorem d12_5 : decode prog_6_method_3_code 5 = .ok (.imul, 1) := by decide +kernel
theorem d12_6 : decode prog_6_method_3_code 6 = .ok (.istore_n 2, 1) := by decide +kernel
theorem d12_7 : decode prog_6_method_3_code 7 = .ok (.aload_n 0, 1) := by decide +kernel
theorem d12_8 : decode prog_6_method_3_code 8 = .ok (.getfield 45, 3) := by decide +kernel
theorem d12_11 : decode prog_6_method_3_code 11 = .ok (.iload_n 2, 1) := by decide +kernel
theorem d12_12 : decode prog_6_method_3_code 12 = .ok (.aload_n 0, 1) := by decide +kernel
theorem d12_13 : decode prog_6_method_3_code 13 = .ok (.getfield 9, 3) := by decide +kernel
theorem d12_16 : decode prog_6_method_3_code 16 = .ok (.iadd, 1) := by decide +kernel
theorem d12_17 : decode prog_6_method_3_code 17 = .ok (.laload, 1) := by decide +kernel
theorem d12_18 : decode prog_6_method_3_code 18 = .ok (.aload_n 0, 1) := by decide +kernel
theorem d12_19 : decode prog_6_method_3_code 19 = .ok (.getfield 29, 3) := by decide +kernel
theorem d12_22 : decode prog_6_method_3_code 22 = .ok (.land, 1) := by decide +kernel
theorem d12_23 : decode prog_6_method_3_code 23 = .ok (.lconst 0, 1) := by decide +kernel
theorem d12_24 : decode prog_6_method_3_code 24 = .ok (.lcmp, 1) := by decide +kernel
theorem d12_25 : decode prog_6_method_3_code 25 = .ok (.ifCond .ne 5, 3) := by decide +kernel
theorem d12_28 : decode prog_6_method_3_code 28 = .ok (.iconst (-1), 1) := by decide +kernel
theorem d12_29 : decode prog_6_method_3_code 29 = .ok (.ireturn, 1) := by decide +kernel
theorem d12_30 : decode prog_6_method_3_code 30 = .ok (.iconst 0, 1) := by decide +kernel
theorem d12_31 : decode prog_6_method_3_code 31 = .ok (.istore_n 3, 1) := by decide +kernel
theorem d12_32 : decode prog_6_method_3_code 32 = .ok (.aload_n 0, 1) := by decide +kernel
theorem d12_33 : decode prog_6_method_3_code 33 = .ok (.getfield 45, 3) := by decide +kernel
theorem d12_36 : decode prog_6_method_3_code 36 = .ok (.iload_n 2, 1) := by decide +kernel
theorem d12_37 : decode prog_6_method_3_code 37 = .ok (.iload_n 3, 1) := by decide +kernel
theorem d12_38 : decode prog_6_method_3_code 38 = .ok (.iadd, 1) := by decide +kernel
theorem d12_39 : decode prog_6_method_3_code 39 = .ok (.laload, 1) := by decide +kernel
theorem d12_40 : decode prog_6_method_3_code 40 = .ok (.aload_n 0, 1) := by decide +kernel
theorem d12_41 : decode prog_6_method_3_code 41 = .ok (.getfield 29, 3) := by decide +kernel
theorem d12_44 : decode prog_6_method_3_code 44 = .ok (.land, 1) := by decide +kernel
theorem d12_45 : decode prog_6_method_3_code 45 = .ok (.lconst 0, 1) := by decide +kernel
theorem d12_46 : decode prog_6_method_3_code 46 = .ok (.lcmp, 1) := by decide +kernel
theorem d12_47 : decode prog_6_method_3_code 47 = .ok (.ifCond .ne 9, 3) := by decide +kernel
theorem d12_50 : decode prog_6_method_3_code 50 = .ok (.iinc 3 1, 3) := by decide +kernel
theorem d12_53 : decode prog_6_method_3_code 53 = .ok (.goto (-21), 3) := by decide +kernel
theorem d12_56 : decode prog_6_method_3_code 56 = .ok (.iload_n 3, 1) := by decide +kernel
theorem d12_57 : decode prog_6_method_3_code 57 = .ok (.ireturn, 1) := by decide +kernel
def Q_rmdi1 (Z : State) (a1 : Addr) (ar : Addr) (rf : Nat → Int64) (lv : Int32) (p3 : Int32) (last : Int64) (bd : Nat) (RL : Nat) (D : Nat) (r : Int32) (h0 : Heap) (n0 : Nat) (v : Option Value) (h : Heap) (L : List Loc) : Prop := v = some (.int r) ∧ Fr n0 L ∧ h = h0
set_option maxRecDepth 65536 in
set_option maxHeartbeats 40000000 in
theorem rmdi1 (l : Launch) (Z : State) (a0 : Array Value) (hw : ∀ d ∈ tables_1, d.before a0 Z = true) (ws : List Jvm.Cond) (a1 : Addr) (ar : Addr) (rf : Nat → Int64) (lv : Int32) (p3 : Int32) (last : Int64) (bd : Nat) (RL : Nat) (D : Nat) (r : Int32) (h0 : Heap) (n0 : Nat) (Z0 : n0 ≤ h0.size) (F_levels : Fld Z h0 a1 "com/example/close_words/closewords/BitRows" "levels" "I" (.int lv)) (F_rows : Fld Z h0 a1 "com/example/close_words/closewords/BitRows" "rows" "[J" (.ref ar)) (F_bound : Fld Z h0 a1 "com/example/close_words/closewords/BitRows" "bound" "I" (.int p3)) (F_lastColumn : Fld Z h0 a1 "com/example/close_words/closewords/BitRows" "lastColumn" "J" (.long last)) (V_ar : own_Ar Z h0 ar .long RL (fun k => .long (rf k))) (hlv : lv.toInt = ((bd + 1 : Nat) : Int)) (hbd : p3.toInt = (bd : Int)) (hbd63 : bd ≤ 63) (hRLi : 2 * (bd + 1) ≤ RL) (hDz : ((rf ((1 * (bd + 1)) + bd)) &&& last) = 0 → r = -1) (hDn : ¬ ((rf ((1 * (bd + 1)) + bd)) &&& last) = 0 → D ≤ bd ∧ ¬ ((rf ((1 * (bd + 1)) + D)) &&& last) = 0 ∧ r.toInt = (D : Int)) (hDl : ∀ k, k < D → k ≤ bd → ((rf ((1 * (bd + 1)) + k)) &&& last) = 0) :
    own_Ctr l Z (⟨"com/example/close_words/closewords/BitRows", "distance", "(I)I"⟩ : MethodName) prog_6_method_3_code 4 (some .int) ws ({ frames := 0, cells := 0, slots := 0, locals := 0 } : Room) #[(.ref a1), (.int (1 : Int32))] h0 (Q_rmdi1 Z a1 ar rf lv p3 last bd RL D r h0 n0) := by
  refine own_enter (plainFor_of_name own_pn0) ?_
  intro p e s m below meth c s₁ X0 hx hby hml hrt hlk hZ hown hnm e0
  have N0 := Fr.nil n0
  have Zs := Z0
  rw [show entryFrame m #[(.ref a1), (.int (1 : Int32))] 4 = mkF m 0 #[rv a1, iv (1 : Int32), uu, uu] [] from by first | (simp [entryFrame, mkF, argsToLocals, Value.category]; done) | rfl]
  show own_Wp _ _ _ _ (s₁.setTop (mkF m 0 #[rv a1, iv (1 : Int32), uu, uu] []))
  refine own_of (fun tgt kon => XS.iloadN X0.here hx rfl (hb hby d12_0) rfl kon) ?_
  refine own_of (fun tgt kon => XS.aloadN X0.here hx rfl (hb hby d12_1) rfl rfl kon) ?_
  obtain ⟨T1, X1, e1, st1⟩ := getF X0 hx hZ hown (host := "") (Or.inl (ow hw 22 rfl)) Via.refl e0 F_levels (g := (mkF m 2 #[rv a1, iv (1 : Int32), uu, uu] [(.ref a1), (.int (1 : Int32))])) rfl rfl (hb hby d12_2)
  refine own_of st1 ?_
  clear st1
  refine own_of (fun tgt kon => XS.imul X1.here hx rfl (hb hby d12_5) rfl kon) ?_
  show own_Wp _ _ _ _ (T1.setTop (mkF m 6 #[rv a1, iv (1 : Int32), uu, uu] [(.int ((1 : Int32) * lv))]))
  obtain ⟨row, h_row⟩ : ∃ q : Int32, q = ((1 : Int32) * lv) := ⟨_, rfl⟩
  rw [← h_row]
  refine own_of (fun tgt kon => XS.istoreN X1.here hx rfl (hb hby d12_6) rfl (l' := #[rv a1, iv (1 : Int32), iv row, uu]) rfl kon) ?_
  show own_Wp _ _ _ _ (T1.setTop (mkF m 7 #[rv a1, iv (1 : Int32), iv row, uu] []))
  have t_row : row.toInt = ((1 * (bd + 1) : Nat) : Int) := by
    rw [h_row, Jvm.Kit.i32_mul (by rw [show (1 : Int32).toInt = 1 from by decide, hlv]; omega) (by rw [show (1 : Int32).toInt = 1 from by decide, hlv]; omega), show (1 : Int32).toInt = 1 from by decide, hlv]
    omega
  refine own_of (fun tgt kon => XS.aloadN X1.here hx rfl (hb hby d12_7) rfl rfl kon) ?_
  obtain ⟨T2, X2, e2, st2⟩ := getF X1 hx hZ hown (host := "") (Or.inl (ow hw 39 rfl)) Via.refl e1 F_rows (g := (mkF m 8 #[rv a1, iv (1 : Int32), iv row, uu] [(.ref a1)])) rfl rfl (hb hby d12_8)
  refine own_of st2 ?_
  clear st2
  refine own_of (fun tgt kon => XS.iloadN X2.here hx rfl (hb hby d12_11) rfl kon) ?_
  refine own_of (fun tgt kon => XS.aloadN X2.here hx rfl (hb hby d12_12) rfl rfl kon) ?_
  obtain ⟨T3, X3, e3, st3⟩ := getF X2 hx hZ hown (host := "") (Or.inl (ow hw 18 rfl)) Via.refl e2 F_bound (g := (mkF m 13 #[rv a1, iv (1 : Int32), iv row, uu] [(.ref a1), (.int row), (.ref ar)])) rfl rfl (hb hby d12_13)
  refine own_of st3 ?_
  clear st3
  show own_Wp _ _ _ _ (T3.setTop (mkF m 16 #[rv a1, iv (1 : Int32), iv row, uu] [(.int p3), (.int row), (.ref ar)]))
  refine own_of (fun tgt kon => XS.iadd X3.here hx rfl (hb hby d12_16) rfl kon) ?_
  refine own_laload X3 hx hZ e3 V_ar (j := (row + p3)) (i := ((1 * (bd + 1)) + bd)) (v := (rf ((1 * (bd + 1)) + bd))) (by have q1 := own_addI t_row hbd (by omega) (by omega); omega) (by omega) rfl rfl rfl (hb hby d12_17) ?_
  refine own_of (fun tgt kon => XS.aloadN X3.here hx rfl (hb hby d12_18) rfl rfl kon) ?_
  obtain ⟨T4, X4, e4, st4⟩ := getF X3 hx hZ hown (host := "") (Or.inl (ow hw 29 rfl)) Via.refl e3 F_lastColumn (g := (mkF m 19 #[rv a1, iv (1 : Int32), iv row, uu] [(.ref a1), (.long (rf ((1 * (bd + 1)) + bd)))])) rfl rfl (hb hby d12_19)
  refine own_of st4 ?_
  clear st4
  refine own_of (fun tgt kon => XS.land X4.here hx rfl (hb hby d12_22) rfl kon) ?_
  show own_Wp _ _ _ _ (T4.setTop (mkF m 23 #[rv a1, iv (1 : Int32), iv row, uu] [(.long ((rf ((1 * (bd + 1)) + bd)) &&& last))]))
  refine own_of (fun tgt kon => XS.lconst X4.here hx rfl (hb hby d12_23) kon) ?_
  refine own_of (fun tgt kon => XS.lcmp X4.here hx rfl (hb hby d12_24) rfl kon) ?_
  by_cases hc25 : (lcmpW ((rf ((1 * (bd + 1)) + bd)) &&& last) (0 : Int64)) = (0 : Int32)
  · skip
    refine own_of (fun tgt kon => XS.ifNo X4.here hx rfl (hb hby d12_25) rfl ((if0 _ _).trans (teq hc25).2) kon) ?_
    refine own_of (fun tgt kon => XS.iconst X4.here hx rfl (hb hby d12_28) kon) ?_
    show own_Wp _ _ _ _ (T4.setTop (mkF m 29 #[rv a1, iv (1 : Int32), iv row, uu] [(.int (-1 : Int32))]))
    refine own_ret X4 hlk (some (.int (-1 : Int32))) (own_rtI hrt) (fun fs hr => own_retI X4 hx hrt (hb hby d12_29) hr) ?_ (by decide) (by decide)
    rw [e4]
    exact ⟨by rw [hDz ((own_lc0 _).mp hc25)], N0, rfl⟩
  · skip
    refine own_of (fun tgt kon => XS.ifYes X4.here hx rfl (pc0 := 25) (pc' := 30) rfl (hb hby d12_25) rfl ((if0 _ _).trans (feq hc25).2) (by decide) (by decide) kon) ?_
    show own_Wp _ _ _ _ (T4.setTop (mkF m 30 #[rv a1, iv (1 : Int32), iv row, uu] []))
    obtain ⟨hD1, hD2, hD3⟩ := hDn (fun q => hc25 ((own_lc0 _).mpr q))
    refine own_of (fun tgt kon => XS.iconst X4.here hx rfl (hb hby d12_30) kon) ?_
    refine own_of (fun tgt kon => XS.istoreN X4.here hx rfl (hb hby d12_31) rfl (l' := #[rv a1, iv (1 : Int32), iv row, iv (0 : Int32)]) rfl kon) ?_
    show own_Wp _ _ _ _ (T4.setTop (mkF m 32 #[rv a1, iv (1 : Int32), iv row, iv (0 : Int32)] []))
    have J32 : ∀ (nn : Nat) (T5 : State) (lc5 : List Loc) (k : Nat), (Stand p l e ({ frames := 0, cells := 0, slots := 0, locals := 0 } : Room) s m #[(.ref a1), (.int (1 : Int32))] below meth c T5 lc5 0 0) → (T5.heap = h0) → (Fr n0 lc5) → (k ≤ D) → (D - k < nn) → own_Wp p.tables e below (own_K ({ frames := 0, cells := 0, slots := 0, locals := 0 } : Room) s below (Q_rmdi1 Z a1 ar rf lv p3 last bd RL D r h0 n0)) (T5.setTop (mkF m 32 #[rv a1, iv (1 : Int32), iv row, iv (Int32.ofNat k)] [])) := by
      intro nn
      induction nn with
      | zero => intro T5 lc5 k X5 e5 N5 hk hmu; exact absurd hmu (Nat.not_lt_zero _)
      | succ nn ih =>
        intro T5 lc5 k X5 e5 N5 hk hmu
        refine own_of (fun tgt kon => XS.aloadN X5.here hx rfl (hb hby d12_32) rfl rfl kon) ?_
        obtain ⟨T6, X6, e6, st6⟩ := getF X5 hx hZ hown (host := "") (Or.inl (ow hw 39 rfl)) Via.refl e5 F_rows (g := (mkF m 33 #[rv a1, iv (1 : Int32), iv row, iv (Int32.ofNat k)] [(.ref a1)])) rfl rfl (hb hby d12_33)
        refine own_of st6 ?_
        clear st6
        refine own_of (fun tgt kon => XS.iloadN X6.here hx rfl (hb hby d12_36) rfl kon) ?_
        refine own_of (fun tgt kon => XS.iloadN X6.here hx rfl (hb hby d12_37) rfl kon) ?_
        refine own_of (fun tgt kon => XS.iadd X6.here hx rfl (hb hby d12_38) rfl kon) ?_
        show own_Wp _ _ _ _ (T6.setTop (mkF m 39 #[rv a1, iv (1 : Int32), iv row, iv (Int32.ofNat k)] [(.int (row + (Int32.ofNat k))), (.ref ar)]))
        refine own_laload X6 hx hZ e6 V_ar (j := (row + (Int32.ofNat k))) (i := ((1 * (bd + 1)) + k)) (v := (rf ((1 * (bd + 1)) + k))) (by have q1 := own_addI t_row (own_ofN (k := k) (by omega)) (by omega) (by omega); omega) (by omega) rfl rfl rfl (hb hby d12_39) ?_
        refine own_of (fun tgt kon => XS.aloadN X6.here hx rfl (hb hby d12_40) rfl rfl kon) ?_
        obtain ⟨T7, X7, e7, st7⟩ := getF X6 hx hZ hown (host := "") (Or.inl (ow hw 29 rfl)) Via.refl e6 F_lastColumn (g := (mkF m 41 #[rv a1, iv (1 : Int32), iv row, iv (Int32.ofNat k)] [(.ref a1), (.long (rf ((1 * (bd + 1)) + k)))])) rfl rfl (hb hby d12_41)
        refine own_of st7 ?_
        clear st7
        refine own_of (fun tgt kon => XS.land X7.here hx rfl (hb hby d12_44) rfl kon) ?_
        refine own_of (fun tgt kon => XS.lconst X7.here hx rfl (hb hby d12_45) kon) ?_
        show own_Wp _ _ _ _ (T7.setTop (mkF m 46 #[rv a1, iv (1 : Int32), iv row, iv (Int32.ofNat k)] [(.long (0 : Int64)), (.long ((rf ((1 * (bd + 1)) + k)) &&& last))]))
        refine own_of (fun tgt kon => XS.lcmp X7.here hx rfl (hb hby d12_46) rfl kon) ?_
        by_cases hc47 : (lcmpW ((rf ((1 * (bd + 1)) + k)) &&& last) (0 : Int64)) = (0 : Int32)
        · skip
          refine own_of (fun tgt kon => XS.ifNo X7.here hx rfl (hb hby d12_47) rfl ((if0 _ _).trans (teq hc47).2) kon) ?_
          refine own_of (fun tgt kon => XS.iinc X7.here hx rfl (hb hby d12_50) rfl (l' := #[rv a1, iv (1 : Int32), iv row, iv ((Int32.ofNat k) + (1 : Int32))]) rfl kon) ?_
          refine own_of (fun tgt kon => XS.goto X7.here hx rfl (pc0 := 53) (pc' := 32) rfl (hb hby d12_53) (by decide) (by decide) kon) ?_
          show own_Wp _ _ _ _ (T7.setTop (mkF m 32 #[rv a1, iv (1 : Int32), iv row, iv ((Int32.ofNat k) + (1 : Int32))] []))
          have hkD : k ≠ D := by
            intro q
            subst q
            exact hD2 ((own_lc0 _).mp hc47)
          rw [own_succ]
          exact ih T7 _ (k + 1) X7 e7 N5 (by omega) (by omega)
        · skip
          refine own_of (fun tgt kon => XS.ifYes X7.here hx rfl (pc0 := 47) (pc' := 56) rfl (hb hby d12_47) rfl ((if0 _ _).trans (feq hc47).2) (by decide) (by decide) kon) ?_
          refine own_of (fun tgt kon => XS.iloadN X7.here hx rfl (hb hby d12_56) rfl kon) ?_
          show own_Wp _ _ _ _ (T7.setTop (mkF m 57 #[rv a1, iv (1 : Int32), iv row, iv (Int32.ofNat k)] [(.int (Int32.ofNat k))]))
          refine own_ret X7 hlk (some (.int (Int32.ofNat k))) (own_rtI hrt) (fun fs hr => own_retI X7 hx hrt (hb hby d12_57) hr) ?_ (by decide) (by decide)
          rw [e7]
          have e : k = D := by
            apply Decidable.byContradiction
            intro q
            exact hc47 ((own_lc0 _).mpr (hDl k (by omega) (by omega)))
          subst e
          exact ⟨by rw [show r = Int32.ofNat k from Int32.toInt_inj.mp (hD3.trans (own_ofN (by omega)).symm)], N5, rfl⟩
    show own_Wp _ _ _ _ (T4.setTop (mkF m 32 #[rv a1, iv (1 : Int32), iv row, iv (0 : Int32)] []))
    exact J32 _ T4 _ (0) X4 e4 N0 (by omega) (Nat.lt_succ_self _)
def Q_rmdi2 (Z : State) (a1 : Addr) (ar : Addr) (rf : Nat → Int64) (lv : Int32) (p3 : Int32) (last : Int64) (bd : Nat) (RL : Nat) (D : Nat) (r : Int32) (h0 : Heap) (n0 : Nat) (v : Option Value) (h : Heap) (L : List Loc) : Prop := v = some (.int r) ∧ Fr n0 L ∧ h = h0
set_option maxRecDepth 65536 in
set_option maxHeartbeats 40000000 in
theorem rmdi2 (l : Launch) (Z : State) (a0 : Array Value) (hw : ∀ d ∈ tables_1, d.before a0 Z = true) (ws : List Jvm.Cond) (a1 : Addr) (ar : Addr) (rf : Nat → Int64) (lv : Int32) (p3 : Int32) (last : Int64) (bd : Nat) (RL : Nat) (D : Nat) (r : Int32) (h0 : Heap) (n0 : Nat) (Z0 : n0 ≤ h0.size) (F_levels : Fld Z h0 a1 "com/example/close_words/closewords/BitRows" "levels" "I" (.int lv)) (F_rows : Fld Z h0 a1 "com/example/close_words/closewords/BitRows" "rows" "[J" (.ref ar)) (F_bound : Fld Z h0 a1 "com/example/close_words/closewords/BitRows" "bound" "I" (.int p3)) (F_lastColumn : Fld Z h0 a1 "com/example/close_words/closewords/BitRows" "lastColumn" "J" (.long last)) (V_ar : own_Ar Z h0 ar .long RL (fun k => .long (rf k))) (hlv : lv.toInt = ((bd + 1 : Nat) : Int)) (hbd : p3.toInt = (bd : Int)) (hbd63 : bd ≤ 63) (hRLi : 3 * (bd + 1) ≤ RL) (hDz : ((rf ((2 * (bd + 1)) + bd)) &&& last) = 0 → r = -1) (hDn : ¬ ((rf ((2 * (bd + 1)) + bd)) &&& last) = 0 → D ≤ bd ∧ ¬ ((rf ((2 * (bd + 1)) + D)) &&& last) = 0 ∧ r.toInt = (D : Int)) (hDl : ∀ k, k < D → k ≤ bd → ((rf ((2 * (bd + 1)) + k)) &&& last) = 0) :
    own_Ctr l Z (⟨"com/example/close_words/closewords/BitRows", "distance", "(I)I"⟩ : MethodName) prog_6_method_3_code 4 (some .int) ws ({ frames := 0, cells := 0, slots := 0, locals := 0 } : Room) #[(.ref a1), (.int (2 : Int32))] h0 (Q_rmdi2 Z a1 ar rf lv p3 last bd RL D r h0 n0) := by
  refine own_enter (plainFor_of_name own_pn0) ?_
  intro p e s m below meth c s₁ X0 hx hby hml hrt hlk hZ hown hnm e0
  have N0 := Fr.nil n0
  have Zs := Z0
  rw [show entryFrame m #[(.ref a1), (.int (2 : Int32))] 4 = mkF m 0 #[rv a1, iv (2 : Int32), uu, uu] [] from by first | (simp [entryFrame, mkF, argsToLocals, Value.category]; done) | rfl]
  show own_Wp _ _ _ _ (s₁.setTop (mkF m 0 #[rv a1, iv (2 : Int32), uu, uu] []))
  refine own_of (fun tgt kon => XS.iloadN X0.here hx rfl (hb hby d12_0) rfl kon) ?_
  refine own_of (fun tgt kon => XS.aloadN X0.here hx rfl (hb hby d12_1) rfl rfl kon) ?_
  obtain ⟨T1, X1, e1, st1⟩ := getF X0 hx hZ hown (host := "") (Or.inl (ow hw 22 rfl)) Via.refl e0 F_levels (g := (mkF m 2 #[rv a1, iv (2 : Int32), uu, uu] [(.ref a1), (.int (2 : Int32))])) rfl rfl (hb hby d12_2)
  refine own_of st1 ?_
  clear st1
  refine own_of (fun tgt kon => XS.imul X1.here hx rfl (hb hby d12_5) rfl kon) ?_
  show own_Wp _ _ _ _ (T1.setTop (mkF m 6 #[rv a1, iv (2 : Int32), uu, uu] [(.int ((2 : Int32) * lv))]))
  obtain ⟨row, h_row⟩ : ∃ q : Int32, q = ((2 : Int32) * lv) := ⟨_, rfl⟩
  rw [← h_row]
  refine own_of (fun tgt kon => XS.istoreN X1.here hx rfl (hb hby d12_6) rfl (l' := #[rv a1, iv (2 : Int32), iv row, uu]) rfl kon) ?_
  show own_Wp _ _ _ _ (T1.setTop (mkF m 7 #[rv a1, iv (2 : Int32), iv row, uu] []))
  have t_row : row.toInt = ((2 * (bd + 1) : Nat) : Int) := by
    rw [h_row, Jvm.Kit.i32_mul (by rw [show (2 : Int32).toInt = 2 from by decide, hlv]; omega) (by rw [show (2 : Int32).toInt = 2 from by decide, hlv]; omega), show (2 : Int32).toInt = 2 from by decide, hlv]
    omega
  refine own_of (fun tgt kon => XS.aloadN X1.here hx rfl (hb hby d12_7) rfl rfl kon) ?_
  obtain ⟨T2, X2, e2, st2⟩ := getF X1 hx hZ hown (host := "") (Or.inl (ow hw 39 rfl)) Via.refl e1 F_rows (g := (mkF m 8 #[rv a1, iv (2 : Int32), iv row, uu] [(.ref a1)])) rfl rfl (hb hby d12_8)
  refine own_of st2 ?_
  clear st2
  refine own_of (fun tgt kon => XS.iloadN X2.here hx rfl (hb hby d12_11) rfl kon) ?_
  refine own_of (fun tgt kon => XS.aloadN X2.here hx rfl (hb hby d12_12) rfl rfl kon) ?_
  obtain ⟨T3, X3, e3, st3⟩ := getF X2 hx hZ hown (host := "") (Or.inl (ow hw 18 rfl)) Via.refl e2 F_bound (g := (mkF m 13 #[rv a1, iv (2 : Int32), iv row, uu] [(.ref a1), (.int row), (.ref ar)])) rfl rfl (hb hby d12_13)
  refine own_of st3 ?_
  clear st3
  show own_Wp _ _ _ _ (T3.setTop (mkF m 16 #[rv a1, iv (2 : Int32), iv row, uu] [(.int p3), (.int row), (.ref ar)]))
  refine own_of (fun tgt kon => XS.iadd X3.here hx rfl (hb hby d12_16) rfl kon) ?_
  refine own_laload X3 hx hZ e3 V_ar (j := (row + p3)) (i := ((2 * (bd + 1)) + bd)) (v := (rf ((2 * (bd + 1)) + bd))) (by have q1 := own_addI t_row hbd (by omega) (by omega); omega) (by omega) rfl rfl rfl (hb hby d12_17) ?_
  refine own_of (fun tgt kon => XS.aloadN X3.here hx rfl (hb hby d12_18) rfl rfl kon) ?_
  obtain ⟨T4, X4, e4, st4⟩ := getF X3 hx hZ hown (host := "") (Or.inl (ow hw 29 rfl)) Via.refl e3 F_lastColumn (g := (mkF m 19 #[rv a1, iv (2 : Int32), iv row, uu] [(.ref a1), (.long (rf ((2 * (bd + 1)) + bd)))])) rfl rfl (hb hby d12_19)
  refine own_of st4 ?_
  clear st4
  refine own_of (fun tgt kon => XS.land X4.here hx rfl (hb hby d12_22) rfl kon) ?_
  show own_Wp _ _ _ _ (T4.setTop (mkF m 23 #[rv a1, iv (2 : Int32), iv row, uu] [(.long ((rf ((2 * (bd + 1)) + bd)) &&& last))]))
  refine own_of (fun tgt kon => XS.lconst X4.here hx rfl (hb hby d12_23) kon) ?_
  refine own_of (fun tgt kon => XS.lcmp X4.here hx rfl (hb hby d12_24) rfl kon) ?_
  by_cases hc25 : (lcmpW ((rf ((2 * (bd + 1)) + bd)) &&& last) (0 : Int64)) = (0 : Int32)
  · skip
    refine own_of (fun tgt kon => XS.ifNo X4.here hx rfl (hb hby d12_25) rfl ((if0 _ _).trans (teq hc25).2) kon) ?_
    refine own_of (fun tgt kon => XS.iconst X4.here hx rfl (hb hby d12_28) kon) ?_
    show own_Wp _ _ _ _ (T4.setTop (mkF m 29 #[rv a1, iv (2 : Int32), iv row, uu] [(.int (-1 : Int32))]))
    refine own_ret X4 hlk (some (.int (-1 : Int32))) (own_rtI hrt) (fun fs hr => own_retI X4 hx hrt (hb hby d12_29) hr) ?_ (by decide) (by decide)
    rw [e4]
    exact ⟨by rw [hDz ((own_lc0 _).mp hc25)], N0, rfl⟩
  · skip
    refine own_of (fun tgt kon => XS.ifYes X4.here hx rfl (pc0 := 25) (pc' := 30) rfl (hb hby d12_25) rfl ((if0 _ _).trans (feq hc25).2) (by decide) (by decide) kon) ?_
    show own_Wp _ _ _ _ (T4.setTop (mkF m 30 #[rv a1, iv (2 : Int32), iv row, uu] []))
    obtain ⟨hD1, hD2, hD3⟩ := hDn (fun q => hc25 ((own_lc0 _).mpr q))
    refine own_of (fun tgt kon => XS.iconst X4.here hx rfl (hb hby d12_30) kon) ?_
    refine own_of (fun tgt kon => XS.istoreN X4.here hx rfl (hb hby d12_31) rfl (l' := #[rv a1, iv (2 : Int32), iv row, iv (0 : Int32)]) rfl kon) ?_
    show own_Wp _ _ _ _ (T4.setTop (mkF m 32 #[rv a1, iv (2 : Int32), iv row, iv (0 : Int32)] []))
    have J32 : ∀ (nn : Nat) (T5 : State) (lc5 : List Loc) (k : Nat), (Stand p l e ({ frames := 0, cells := 0, slots := 0, locals := 0 } : Room) s m #[(.ref a1), (.int (2 : Int32))] below meth c T5 lc5 0 0) → (T5.heap = h0) → (Fr n0 lc5) → (k ≤ D) → (D - k < nn) → own_Wp p.tables e below (own_K ({ frames := 0, cells := 0, slots := 0, locals := 0 } : Room) s below (Q_rmdi2 Z a1 ar rf lv p3 last bd RL D r h0 n0)) (T5.setTop (mkF m 32 #[rv a1, iv (2 : Int32), iv row, iv (Int32.ofNat k)] [])) := by
      intro nn
      induction nn with
      | zero => intro T5 lc5 k X5 e5 N5 hk hmu; exact absurd hmu (Nat.not_lt_zero _)
      | succ nn ih =>
        intro T5 lc5 k X5 e5 N5 hk hmu
        refine own_of (fun tgt kon => XS.aloadN X5.here hx rfl (hb hby d12_32) rfl rfl kon) ?_
        obtain ⟨T6, X6, e6, st6⟩ := getF X5 hx hZ hown (host := "") (Or.inl (ow hw 39 rfl)) Via.refl e5 F_rows (g := (mkF m 33 #[rv a1, iv (2 : Int32), iv row, iv (Int32.ofNat k)] [(.ref a1)])) rfl rfl (hb hby d12_33)
        refine own_of st6 ?_
        clear st6
        refine own_of (fun tgt kon => XS.iloadN X6.here hx rfl (hb hby d12_36) rfl kon) ?_
        refine own_of (fun tgt kon => XS.iloadN X6.here hx rfl (hb hby d12_37) rfl kon) ?_
        refine own_of (fun tgt kon => XS.iadd X6.here hx rfl (hb hby d12_38) rfl kon) ?_
        show own_Wp _ _ _ _ (T6.setTop (mkF m 39 #[rv a1, iv (2 : Int32), iv row, iv (Int32.ofNat k)] [(.int (row + (Int32.ofNat k))), (.ref ar)]))
        refine own_laload X6 hx hZ e6 V_ar (j := (row + (Int32.ofNat k))) (i := ((2 * (bd + 1)) + k)) (v := (rf ((2 * (bd + 1)) + k))) (by have q1 := own_addI t_row (own_ofN (k := k) (by omega)) (by omega) (by omega); omega) (by omega) rfl rfl rfl (hb hby d12_39) ?_
        refine own_of (fun tgt kon => XS.aloadN X6.here hx rfl (hb hby d12_40) rfl rfl kon) ?_
        obtain ⟨T7, X7, e7, st7⟩ := getF X6 hx hZ hown (host := "") (Or.inl (ow hw 29 rfl)) Via.refl e6 F_lastColumn (g := (mkF m 41 #[rv a1, iv (2 : Int32), iv row, iv (Int32.ofNat k)] [(.ref a1), (.long (rf ((2 * (bd + 1)) + k)))])) rfl rfl (hb hby d12_41)
        refine own_of st7 ?_
        clear st7
        refine own_of (fun tgt kon => XS.land X7.here hx rfl (hb hby d12_44) rfl kon) ?_
        refine own_of (fun tgt kon => XS.lconst X7.here hx rfl (hb hby d12_45) kon) ?_
        show own_Wp _ _ _ _ (T7.setTop (mkF m 46 #[rv a1, iv (2 : Int32), iv row, iv (Int32.ofNat k)] [(.long (0 : Int64)), (.long ((rf ((2 * (bd + 1)) + k)) &&& last))]))
        refine own_of (fun tgt kon => XS.lcmp X7.here hx rfl (hb hby d12_46) rfl kon) ?_
        by_cases hc47 : (lcmpW ((rf ((2 * (bd + 1)) + k)) &&& last) (0 : Int64)) = (0 : Int32)
        · skip
          refine own_of (fun tgt kon => XS.ifNo X7.here hx rfl (hb hby d12_47) rfl ((if0 _ _).trans (teq hc47).2) kon) ?_
          refine own_of (fun tgt kon => XS.iinc X7.here hx rfl (hb hby d12_50) rfl (l' := #[rv a1, iv (2 : Int32), iv row, iv ((Int32.ofNat k) + (1 : Int32))]) rfl kon) ?_
          refine own_of (fun tgt kon => XS.goto X7.here hx rfl (pc0 := 53) (pc' := 32) rfl (hb hby d12_53) (by decide) (by decide) kon) ?_
          show own_Wp _ _ _ _ (T7.setTop (mkF m 32 #[rv a1, iv (2 : Int32), iv row, iv ((Int32.ofNat k) + (1 : Int32))] []))
          have hkD : k ≠ D := by
            intro q
            subst q
            exact hD2 ((own_lc0 _).mp hc47)
          rw [own_succ]
          exact ih T7 _ (k + 1) X7 e7 N5 (by omega) (by omega)
        · skip
          refine own_of (fun tgt kon => XS.ifYes X7.here hx rfl (pc0 := 47) (pc' := 56) rfl (hb hby d12_47) rfl ((if0 _ _).trans (feq hc47).2) (by decide) (by decide) kon) ?_
          refine own_of (fun tgt kon => XS.iloadN X7.here hx rfl (hb hby d12_56) rfl kon) ?_
          show own_Wp _ _ _ _ (T7.setTop (mkF m 57 #[rv a1, iv (2 : Int32), iv row, iv (Int32.ofNat k)] [(.int (Int32.ofNat k))]))
          refine own_ret X7 hlk (some (.int (Int32.ofNat k))) (own_rtI hrt) (fun fs hr => own_retI X7 hx hrt (hb hby d12_57) hr) ?_ (by decide) (by decide)
          rw [e7]
          have e : k = D := by
            apply Decidable.byContradiction
            intro q
            exact hc47 ((own_lc0 _).mpr (hDl k (by omega) (by omega)))
          subst e
          exact ⟨by rw [show r = Int32.ofNat k from Int32.toInt_inj.mp (hD3.trans (own_ofN (by omega)).symm)], N5, rfl⟩
    show own_Wp _ _ _ _ (T4.setTop (mkF m 32 #[rv a1, iv (2 : Int32), iv row, iv (0 : Int32)] []))
    exact J32 _ T4 _ (0) X4 e4 N0 (by omega) (Nat.lt_succ_self _)
def Q_rmdi3 (Z : State) (a1 : Addr) (ar : Addr) (rf : Nat → Int64) (lv : Int32) (p3 : Int32) (last : Int64) (bd : Nat) (RL : Nat) (D : Nat) (r : Int32) (h0 : Heap) (n0 : Nat) (v : Option Value) (h : Heap) (L : List Loc) : Prop := v = some (.int r) ∧ Fr n0 L ∧ h = h0
set_option maxRecDepth 65536 in
set_option maxHeartbeats 40000000 in
theorem rmdi3 (l : Launch) (Z : State) (a0 : Array Value) (hw : ∀ d ∈ tables_1, d.before a0 Z = true) (ws : List Jvm.Cond) (a1 : Addr) (ar : Addr) (rf : Nat → Int64) (lv : Int32) (p3 : Int32) (last : Int64) (bd : Nat) (RL : Nat) (D : Nat) (r : Int32) (h0 : Heap) (n0 : Nat) (Z0 : n0 ≤ h0.size) (F_levels : Fld Z h0 a1 "com/example/close_words/closewords/BitRows" "levels" "I" (.int lv)) (F_rows : Fld Z h0 a1 "com/example/close_words/closewords/BitRows" "rows" "[J" (.ref ar)) (F_bound : Fld Z h0 a1 "com/example/close_words/closewords/BitRows" "bound" "I" (.int p3)) (F_lastColumn : Fld Z h0 a1 "com/example/close_words/closewords/BitRows" "lastColumn" "J" (.long last)) (V_ar : own_Ar Z h0 ar .long RL (fun k => .long (rf k))) (hlv : lv.toInt = ((bd + 1 : Nat) : Int)) (hbd : p3.toInt = (bd : Int)) (hbd63 : bd ≤ 63) (hRLi : 4 * (bd + 1) ≤ RL) (hDz : ((rf ((3 * (bd + 1)) + bd)) &&& last) = 0 → r = -1) (hDn : ¬ ((rf ((3 * (bd + 1)) + bd)) &&& last) = 0 → D ≤ bd ∧ ¬ ((rf ((3 * (bd + 1)) + D)) &&& last) = 0 ∧ r.toInt = (D : Int)) (hDl : ∀ k, k < D → k ≤ bd → ((rf ((3 * (bd + 1)) + k)) &&& last) = 0) :
    own_Ctr l Z (⟨"com/example/close_words/closewords/BitRows", "distance", "(I)I"⟩ : MethodName) prog_6_method_3_code 4 (some .int) ws ({ frames := 0, cells := 0, slots := 0, locals := 0 } : Room) #[(.ref a1), (.int (3 : Int32))] h0 (Q_rmdi3 Z a1 ar rf lv p3 last bd RL D r h0 n0) := by
  refine own_enter (plainFor_of_name own_pn0) ?_
  intro p e s m below meth c s₁ X0 hx hby hml hrt hlk hZ hown hnm e0
  have N0 := Fr.nil n0
  have Zs := Z0
  rw [show entryFrame m #[(.ref a1), (.int (3 : Int32))] 4 = mkF m 0 #[rv a1, iv (3 : Int32), uu, uu] [] from by first | (simp [entryFrame, mkF, argsToLocals, Value.category]; done) | rfl]
  show own_Wp _ _ _ _ (s₁.setTop (mkF m 0 #[rv a1, iv (3 : Int32), uu, uu] []))
  refine own_of (fun tgt kon => XS.iloadN X0.here hx rfl (hb hby d12_0) rfl kon) ?_
  refine own_of (fun tgt kon => XS.aloadN X0.here hx rfl (hb hby d12_1) rfl rfl kon) ?_
  obtain ⟨T1, X1, e1, st1⟩ := getF X0 hx hZ hown (host := "") (Or.inl (ow hw 22 rfl)) Via.refl e0 F_levels (g := (mkF m 2 #[rv a1, iv (3 : Int32), uu, uu] [(.ref a1), (.int (3 : Int32))])) rfl rfl (hb hby d12_2)
  refine own_of st1 ?_
  clear st1
  refine own_of (fun tgt kon => XS.imul X1.here hx rfl (hb hby d12_5) rfl kon) ?_
  show own_Wp _ _ _ _ (T1.setTop (mkF m 6 #[rv a1, iv (3 : Int32), uu, uu] [(.int ((3 : Int32) * lv))]))
  obtain ⟨row, h_row⟩ : ∃ q : Int32, q = ((3 : Int32) * lv) := ⟨_, rfl⟩
  rw [← h_row]
  refine own_of (fun tgt kon => XS.istoreN X1.here hx rfl (hb hby d12_6) rfl (l' := #[rv a1, iv (3 : Int32), iv row, uu]) rfl kon) ?_
  show own_Wp _ _ _ _ (T1.setTop (mkF m 7 #[rv a1, iv (3 : Int32), iv row, uu] []))
  have t_row : row.toInt = ((3 * (bd + 1) : Nat) : Int) := by
    rw [h_row, Jvm.Kit.i32_mul (by rw [show (3 : Int32).toInt = 3 from by decide, hlv]; omega) (by rw [show (3 : Int32).toInt = 3 from by decide, hlv]; omega), show (3 : Int32).toInt = 3 from by decide, hlv]
    omega
  refine own_of (fun tgt kon => XS.aloadN X1.here hx rfl (hb hby d12_7) rfl rfl kon) ?_
  obtain ⟨T2, X2, e2, st2⟩ := getF X1 hx hZ hown (host := "") (Or.inl (ow hw 39 rfl)) Via.refl e1 F_rows (g := (mkF m 8 #[rv a1, iv (3 : Int32), iv row, uu] [(.ref a1)])) rfl rfl (hb hby d12_8)
  refine own_of st2 ?_
  clear st2
  refine own_of (fun tgt kon => XS.iloadN X2.here hx rfl (hb hby d12_11) rfl kon) ?_
  refine own_of (fun tgt kon => XS.aloadN X2.here hx rfl (hb hby d12_12) rfl rfl kon) ?_
  obtain ⟨T3, X3, e3, st3⟩ := getF X2 hx hZ hown (host := "") (Or.inl (ow hw 18 rfl)) Via.refl e2 F_bound (g := (mkF m 13 #[rv a1, iv (3 : Int32), iv row, uu] [(.ref a1), (.int row), (.ref ar)])) rfl rfl (hb hby d12_13)
  refine own_of st3 ?_
  clear st3
  show own_Wp _ _ _ _ (T3.setTop (mkF m 16 #[rv a1, iv (3 : Int32), iv row, uu] [(.int p3), (.int row), (.ref ar)]))
  refine own_of (fun tgt kon => XS.iadd X3.here hx rfl (hb hby d12_16) rfl kon) ?_
  refine own_laload X3 hx hZ e3 V_ar (j := (row + p3)) (i := ((3 * (bd + 1)) + bd)) (v := (rf ((3 * (bd + 1)) + bd))) (by have q1 := own_addI t_row hbd (by omega) (by omega); omega) (by omega) rfl rfl rfl (hb hby d12_17) ?_
  refine own_of (fun tgt kon => XS.aloadN X3.here hx rfl (hb hby d12_18) rfl rfl kon) ?_
  obtain ⟨T4, X4, e4, st4⟩ := getF X3 hx hZ hown (host := "") (Or.inl (ow hw 29 rfl)) Via.refl e3 F_lastColumn (g := (mkF m 19 #[rv a1, iv (3 : Int32), iv row, uu] [(.ref a1), (.long (rf ((3 * (bd + 1)) + bd)))])) rfl rfl (hb hby d12_19)
  refine own_of st4 ?_
  clear st4
  refine own_of (fun tgt kon => XS.land X4.here hx rfl (hb hby d12_22) rfl kon) ?_
  show own_Wp _ _ _ _ (T4.setTop (mkF m 23 #[rv a1, iv (3 : Int32), iv row, uu] [(.long ((rf ((3 * (bd + 1)) + bd)) &&& last))]))
  refine own_of (fun tgt kon => XS.lconst X4.here hx rfl (hb hby d12_23) kon) ?_
  refine own_of (fun tgt kon => XS.lcmp X4.here hx rfl (hb hby d12_24) rfl kon) ?_
  by_cases hc25 : (lcmpW ((rf ((3 * (bd + 1)) + bd)) &&& last) (0 : Int64)) = (0 : Int32)
  · skip
    refine own_of (fun tgt kon => XS.ifNo X4.here hx rfl (hb hby d12_25) rfl ((if0 _ _).trans (teq hc25).2) kon) ?_
    refine own_of (fun tgt kon => XS.iconst X4.here hx rfl (hb hby d12_28) kon) ?_
    show own_Wp _ _ _ _ (T4.setTop (mkF m 29 #[rv a1, iv (3 : Int32), iv row, uu] [(.int (-1 : Int32))]))
    refine own_ret X4 hlk (some (.int (-1 : Int32))) (own_rtI hrt) (fun fs hr => own_retI X4 hx hrt (hb hby d12_29) hr) ?_ (by decide) (by decide)
    rw [e4]
    exact ⟨by rw [hDz ((own_lc0 _).mp hc25)], N0, rfl⟩
  · skip
    refine own_of (fun tgt kon => XS.ifYes X4.here hx rfl (pc0 := 25) (pc' := 30) rfl (hb hby d12_25) rfl ((if0 _ _).trans (feq hc25).2) (by decide) (by decide) kon) ?_
    show own_Wp _ _ _ _ (T4.setTop (mkF m 30 #[rv a1, iv (3 : Int32), iv row, uu] []))
    obtain ⟨hD1, hD2, hD3⟩ := hDn (fun q => hc25 ((own_lc0 _).mpr q))
    refine own_of (fun tgt kon => XS.iconst X4.here hx rfl (hb hby d12_30) kon) ?_
    refine own_of (fun tgt kon => XS.istoreN X4.here hx rfl (hb hby d12_31) rfl (l' := #[rv a1, iv (3 : Int32), iv row, iv (0 : Int32)]) rfl kon) ?_
    show own_Wp _ _ _ _ (T4.setTop (mkF m 32 #[rv a1, iv (3 : Int32), iv row, iv (0 : Int32)] []))
    have J32 : ∀ (nn : Nat) (T5 : State) (lc5 : List Loc) (k : Nat), (Stand p l e ({ frames := 0, cells := 0, slots := 0, locals := 0 } : Room) s m #[(.ref a1), (.int (3 : Int32))] below meth c T5 lc5 0 0) → (T5.heap = h0) → (Fr n0 lc5) → (k ≤ D) → (D - k < nn) → own_Wp p.tables e below (own_K ({ frames := 0, cells := 0, slots := 0, locals := 0 } : Room) s below (Q_rmdi3 Z a1 ar rf lv p3 last bd RL D r h0 n0)) (T5.setTop (mkF m 32 #[rv a1, iv (3 : Int32), iv row, iv (Int32.ofNat k)] [])) := by
      intro nn
      induction nn with
      | zero => intro T5 lc5 k X5 e5 N5 hk hmu; exact absurd hmu (Nat.not_lt_zero _)
      | succ nn ih =>
        intro T5 lc5 k X5 e5 N5 hk hmu
        refine own_of (fun tgt kon => XS.aloadN X5.here hx rfl (hb hby d12_32) rfl rfl kon) ?_
        obtain ⟨T6, X6, e6, st6⟩ := getF X5 hx hZ hown (host := "") (Or.inl (ow hw 39 rfl)) Via.refl e5 F_rows (g := (mkF m 33 #[rv a1, iv (3 : Int32), iv row, iv (Int32.ofNat k)] [(.ref a1)])) rfl rfl (hb hby d12_33)
        refine own_of st6 ?_
        clear st6
        refine own_of (fun tgt kon => XS.iloadN X6.here hx rfl (hb hby d12_36) rfl kon) ?_
        refine own_of (fun tgt kon => XS.iloadN X6.here hx rfl (hb hby d12_37) rfl kon) ?_
        refine own_of (fun tgt kon => XS.iadd X6.here hx rfl (hb hby d12_38) rfl kon) ?_
        show own_Wp _ _ _ _ (T6.setTop (mkF m 39 #[rv a1, iv (3 : Int32), iv row, iv (Int32.ofNat k)] [(.int (row + (Int32.ofNat k))), (.ref ar)]))
        refine own_laload X6 hx hZ e6 V_ar (j := (row + (Int32.ofNat k))) (i := ((3 * (bd + 1)) + k)) (v := (rf ((3 * (bd + 1)) + k))) (by have q1 := own_addI t_row (own_ofN (k := k) (by omega)) (by omega) (by omega); omega) (by omega) rfl rfl rfl (hb hby d12_39) ?_
        refine own_of (fun tgt kon => XS.aloadN X6.here hx rfl (hb hby d12_40) rfl rfl kon) ?_
        obtain ⟨T7, X7, e7, st7⟩ := getF X6 hx hZ hown (host := "") (Or.inl (ow hw 29 rfl)) Via.refl e6 F_lastColumn (g := (mkF m 41 #[rv a1, iv (3 : Int32), iv row, iv (Int32.ofNat k)] [(.ref a1), (.long (rf ((3 * (bd + 1)) + k)))])) rfl rfl (hb hby d12_41)
        refine own_of st7 ?_
        clear st7
        refine own_of (fun tgt kon => XS.land X7.here hx rfl (hb hby d12_44) rfl kon) ?_
        refine own_of (fun tgt kon => XS.lconst X7.here hx rfl (hb hby d12_45) kon) ?_
        show own_Wp _ _ _ _ (T7.setTop (mkF m 46 #[rv a1, iv (3 : Int32), iv row, iv (Int32.ofNat k)] [(.long (0 : Int64)), (.long ((rf ((3 * (bd + 1)) + k)) &&& last))]))
        refine own_of (fun tgt kon => XS.lcmp X7.here hx rfl (hb hby d12_46) rfl kon) ?_
        by_cases hc47 : (lcmpW ((rf ((3 * (bd + 1)) + k)) &&& last) (0 : Int64)) = (0 : Int32)
        · skip
          refine own_of (fun tgt kon => XS.ifNo X7.here hx rfl (hb hby d12_47) rfl ((if0 _ _).trans (teq hc47).2) kon) ?_
          refine own_of (fun tgt kon => XS.iinc X7.here hx rfl (hb hby d12_50) rfl (l' := #[rv a1, iv (3 : Int32), iv row, iv ((Int32.ofNat k) + (1 : Int32))]) rfl kon) ?_
          refine own_of (fun tgt kon => XS.goto X7.here hx rfl (pc0 := 53) (pc' := 32) rfl (hb hby d12_53) (by decide) (by decide) kon) ?_
          show own_Wp _ _ _ _ (T7.setTop (mkF m 32 #[rv a1, iv (3 : Int32), iv row, iv ((Int32.ofNat k) + (1 : Int32))] []))
          have hkD : k ≠ D := by
            intro q
            subst q
            exact hD2 ((own_lc0 _).mp hc47)
          rw [own_succ]
          exact ih T7 _ (k + 1) X7 e7 N5 (by omega) (by omega)
        · skip
          refine own_of (fun tgt kon => XS.ifYes X7.here hx rfl (pc0 := 47) (pc' := 56) rfl (hb hby d12_47) rfl ((if0 _ _).trans (feq hc47).2) (by decide) (by decide) kon) ?_
          refine own_of (fun tgt kon => XS.iloadN X7.here hx rfl (hb hby d12_56) rfl kon) ?_
          show own_Wp _ _ _ _ (T7.setTop (mkF m 57 #[rv a1, iv (3 : Int32), iv row, iv (Int32.ofNat k)] [(.int (Int32.ofNat k))]))
          refine own_ret X7 hlk (some (.int (Int32.ofNat k))) (own_rtI hrt) (fun fs hr => own_retI X7 hx hrt (hb hby d12_57) hr) ?_ (by decide) (by decide)
          rw [e7]
          have e : k = D := by
            apply Decidable.byContradiction
            intro q
            exact hc47 ((own_lc0 _).mpr (hDl k (by omega) (by omega)))
          subst e
          exact ⟨by rw [show r = Int32.ofNat k from Int32.toInt_inj.mp (hD3.trans (own_ofN (by omega)).symm)], N5, rfl⟩
    show own_Wp _ _ _ _ (T4.setTop (mkF m 32 #[rv a1, iv (3 : Int32), iv row, iv (0 : Int32)] []))
    exact J32 _ T4 _ (0) X4 e4 N0 (by omega) (Nat.lt_succ_self _)
theorem d3_0 : decode prog_6_method_1_code 0 = .ok (.aload_n 0, 1) := by decide +kernel
theorem d3_1 : decode prog_6_method_1_code 1 = .ok (.invokespecial 3, 3) := by decide +kernel
theorem d3_4 : decode prog_6_method_1_code 4 = .ok (.aload_n 1, 1) := by decide +kernel
theorem d3_5 : decode prog_6_method_1_code 5 = .ok (.arraylength, 1) := by decide +kernel
theorem d3_6 : decode prog_6_method_1_code 6 = .ok (.istore 6, 2) := by decide +kernel
theorem d3_8 : decode prog_6_method_1_code 8 = .ok (.aload_n 0, 1) := by decide +kernel
theorem d3_9 : decode prog_6_method_1_code 9 = .ok (.iload_n 2, 1) := by decide +kernel
theorem d3_10 : decode prog_6_method_1_code 10 = .ok (.putfield 9, 3) := by decide +kernel
theorem d3_13 : decode prog_6_method_1_code 13 = .ok (.aload_n 0, 1) := by decide +kernel
theorem d3_14 : decode prog_6_method_1_code 14 = .ok (.iload 4, 2) := by decide +kernel
theorem d3_16 : decode prog_6_method_1_code 16 = .ok (.putfield 15, 3) := by decide +kernel
theorem d3_19 : decode prog_6_method_1_code 19 = .ok (.aload_n 0, 1) := by decide +kernel
theorem d3_20 : decode prog_6_method_1_code 20 = .ok (.iload_n 2, 1) := by decide +kernel
theorem d3_21 : decode prog_6_method_1_code 21 = .ok (.iconst 1, 1) := by decide +kernel
theorem d3_22 : decode prog_6_method_1_code 22 = .ok (.iadd, 1) := by decide +kernel
theorem d3_23 : decode prog_6_method_1_code 23 = .ok (.putfield 18, 3) := by decide +kernel
theorem d3_26 : decode prog_6_method_1_code 26 = .ok (.aload_n 0, 1) := by decide +kernel
theorem d3_27 : decode prog_6_method_1_code 27 = .ok (.iload 6, 2) := by decide +kernel
theorem d3_29 : decode prog_6_method_1_code 29 = .ok (.invokestatic 21, 3) := by decide +kernel
theorem own_pd1 : parseMethodDescriptor "(I)J" = some ⟨[.int], some .long⟩ := by decide +kernel
theorem d3_32 : decode prog_6_method_1_code 32 = .ok (.putfield 25, 3) := by decide +kernel
theorem d3_35 : decode prog_6_method_1_code 35 = .ok (.aload_n 0, 1) := by decide +kernel
theorem d3_36 : decode prog_6_method_1_code 36 = .ok (.lconst 1, 1) := by decide +kernel
theorem d3_37 : decode prog_6_method_1_code 37 = .ok (.iload 6, 2) := by decide +kernel
theorem d3_39 : decode prog_6_method_1_code 39 = .ok (.lshl, 1) := by decide +kernel
theorem d3_40 : decode prog_6_method_1_code 40 = .ok (.putfield 29, 3) := by decide +kernel
theorem d3_43 : decode prog_6_method_1_code 43 = .ok (.aload_n 0, 1) := by decide +kernel
theorem d3_44 : decode prog_6_method_1_code 44 = .ok (.iload_n 3, 1) := by decide +kernel
theorem d3_62 : decode prog_6_method_1_code 62 = .ok (.putfield 34, 3) := by decide +kernel
theorem d3_65 : decode prog_6_method_1_code 65 = .ok (.aload_n 0, 1) := by decide +kernel
theorem d3_66 : decode prog_6_method_1_code 66 = .ok (.sipush 128, 3) := by decide +kernel
theorem d3_69 : decode prog_6_method_1_code 69 = .ok (.newarray .int, 2) := by decide +kernel
theorem d3_71 : decode prog_6_method_1_code 71 = .ok (.putfield 37, 3) := by decide +kernel
theorem d3_74 : decode prog_6_method_1_code 74 = .ok (.aload_n 0, 1) := by decide +kernel
theorem d3_75 : decode prog_6_method_1_code 75 = .ok (.sipush 128, 3) := by decide +kernel
theorem d3_78 : decode prog_6_method_1_code 78 = .ok (.newarray .long, 2) := by decide +kernel
theorem d3_80 : decode prog_6_method_1_code 80 = .ok (.putfield 41, 3) := by decide +kernel
theorem d3_83 : decode prog_6_method_1_code 83 = .ok (.aload_n 0, 1) := by decide +kernel
theorem d3_84 : decode prog_6_method_1_code 84 = .ok (.iload 5, 2) := by decide +kernel
theorem d3_86 : decode prog_6_method_1_code 86 = .ok (.iconst 1, 1) := by decide +kernel
theorem d3_87 : decode prog_6_method_1_code 87 = .ok (.iadd, 1) := by decide +kernel
theorem d3_88 : decode prog_6_method_1_code 88 = .ok (.aload_n 0, 1) := by decide +kernel
theorem d3_89 : decode prog_6_method_1_code 89 = .ok (.getfield 18, 3) := by decide +kernel
theorem d3_92 : decode prog_6_method_1_code 92 = .ok (.imul, 1) := by decide +kernel
theorem d3_93 : decode prog_6_method_1_code 93 = .ok (.newarray .long, 2) := by decide +kernel
theorem d3_95 : decode prog_6_method_1_code 95 = .ok (.putfield 45, 3) := by decide +kernel
theorem d3_98 : decode prog_6_method_1_code 98 = .ok (.aload_n 0, 1) := by decide +kernel
theorem d3_99 : decode prog_6_method_1_code 99 = .ok (.iload 5, 2) := by decide +kernel
theorem d3_101 : decode prog_6_method_1_code 101 = .ok (.iconst 1, 1) := by decide +kernel
theorem d3_102 : decode prog_6_method_1_code 102 = .ok (.iadd, 1) := by decide +kernel
theorem d3_103 : decode prog_6_method_1_code 103 = .ok (.newarray .long, 2) := by decide +kernel
theorem d3_105 : decode prog_6_method_1_code 105 = .ok (.putfield 48, 3) := by decide +kernel
theorem d3_108 : decode prog_6_method_1_code 108 = .ok (.aload_n 0, 1) := by decide +kernel
theorem d3_109 : decode prog_6_method_1_code 109 = .ok (.getfield 37, 3) := by decide +kernel
theorem d3_112 : decode prog_6_method_1_code 112 = .ok (.iconst (-1), 1) := by decide +kernel
theorem d3_113 : decode prog_6_method_1_code 113 = .ok (.invokestatic 51, 3) := by decide +kernel
theorem own_pd2 : parseMethodDescriptor "([II)V" = some ⟨[(.array .int), .int], none⟩ := by decide +kernel
theorem d3_116 : decode prog_6_method_1_code 116 = .ok (.iconst 1, 1) := by decide +kernel
theorem d3_117 : decode prog_6_method_1_code 117 = .ok (.istore 7, 2) := by decide +kernel
theorem d3_119 : decode prog_6_method_1_code 119 = .ok (.iload 7, 2) := by decide +kernel
theorem d3_121 : decode prog_6_method_1_code 121 = .ok (.iload 6, 2) := by decide +kernel
theorem d3_123 : decode prog_6_method_1_code 123 = .ok (.if_icmp .gt 48, 3) := by decide +kernel
theorem d3_171 : decode prog_6_method_1_code 171 = .ok (.iconst 0, 1) := by decide +kernel
theorem d3_172 : decode prog_6_method_1_code 172 = .ok (.istore 7, 2) := by decide +kernel
theorem d3_174 : decode prog_6_method_1_code 174 = .ok (.iload 7, 2) := by decide +kernel
theorem d3_176 : decode prog_6_method_1_code 176 = .ok (.iload_n 2, 1) := by decide +kernel
theorem d3_177 : decode prog_6_method_1_code 177 = .ok (.if_icmp .gt 55, 3) := by decide +kernel
theorem d3_232 : decode prog_6_method_1_code 232 = .ok (.return_, 1) := by decide +kernel
theorem d3_180 : decode prog_6_method_1_code 180 = .ok (.iload 7, 2) := by decide +kernel
theorem d3_182 : decode prog_6_method_1_code 182 = .ok (.iload 6, 2) := by decide +kernel
theorem d3_184 : decode prog_6_method_1_code 184 = .ok (.invokestatic 61, 3) := by decide +kernel
theorem own_pd3 : parseMethodDescriptor "(II)I" = some ⟨[.int, .int], some .int⟩ := by decide +kernel
theorem d3_187 : decode prog_6_method_1_code 187 = .ok (.invokestatic 21, 3) := by decide +kernel
theorem d3_190 : decode prog_6_method_1_code 190 = .ok (.lstore 8, 2) := by decide +kernel
theorem d3_192 : decode prog_6_method_1_code 192 = .ok (.aload_n 0, 1) := by decide +kernel
theorem d3_193 : decode prog_6_method_1_code 193 = .ok (.getfield 45, 3) := by decide +kernel
theorem d3_196 : decode prog_6_method_1_code 196 = .ok (.iload 7, 2) := by decide +kernel
theorem d3_198 : decode prog_6_method_1_code 198 = .ok (.iload 7, 2) := by decide +kernel
theorem d3_200 : decode prog_6_method_1_code 200 = .ok (.iload 4, 2) := by decide +kernel
theorem d3_202 : decode prog_6_method_1_code 202 = .ok (.if_icmp .le 21, 3) := by decide +kernel
theorem d3_205 : decode prog_6_method_1_code 205 = .ok (.lload 8, 2) := by decide +kernel
theorem d3_207 : decode prog_6_method_1_code 207 = .ok (.aload_n 0, 1) := by decide +kernel
theorem d3_208 : decode prog_6_method_1_code 208 = .ok (.getfield 45, 3) := by decide +kernel
theorem d3_211 : decode prog_6_method_1_code 211 = .ok (.iload 4, 2) := by decide +kernel
theorem d3_213 : decode prog_6_method_1_code 213 = .ok (.laload, 1) := by decide +kernel
theorem d3_214 : decode prog_6_method_1_code 214 = .ok (.aload_n 0, 1) := by decide +kernel
theorem d3_215 : decode prog_6_method_1_code 215 = .ok (.getfield 34, 3) := by decide +kernel
theorem d3_218 : decode prog_6_method_1_code 218 = .ok (.lor, 1) := by decide +kernel
theorem d3_219 : decode prog_6_method_1_code 219 = .ok (.land, 1) := by decide +kernel
theorem d3_220 : decode prog_6_method_1_code 220 = .ok (.goto 5, 3) := by decide +kernel
theorem d3_225 : decode prog_6_method_1_code 225 = .ok (.lastore, 1) := by decide +kernel
theorem d3_226 : decode prog_6_method_1_code 226 = .ok (.iinc 7 1, 3) := by decide +kernel
theorem d3_229 : decode prog_6_method_1_code 229 = .ok (.goto (-55), 3) := by decide +kernel
theorem d3_223 : decode prog_6_method_1_code 223 = .ok (.lload 8, 2) := by decide +kernel
theorem d3_126 : decode prog_6_method_1_code 126 = .ok (.aload_n 0, 1) := by decide +kernel
theorem d3_127 : decode prog_6_method_1_code 127 = .ok (.aload_n 1, 1) := by decide +kernel
theorem d3_128 : decode prog_6_method_1_code 128 = .ok (.iload 7, 2) := by decide +kernel
theorem d3_130 : decode prog_6_method_1_code 130 = .ok (.iconst 1, 1) := by decide +kernel
theorem d3_131 : decode prog_6_method_1_code 131 = .ok (.isub, 1) := by decide +kernel
theorem d3_132 : decode prog_6_method_1_code 132 = .ok (.iaload, 1) := by decide +kernel
theorem d3_133 : decode prog_6_method_1_code 133 = .ok (.invokevirtual 57, 3) := by decide +kernel
theorem d3_136 : decode prog_6_method_1_code 136 = .ok (.istore 8, 2) := by decide +kernel
theorem d3_138 : decode prog_6_method_1_code 138 = .ok (.aload_n 0, 1) := by decide +kernel
theorem d3_139 : decode prog_6_method_1_code 139 = .ok (.getfield 37, 3) := by decide +kernel
theorem d3_142 : decode prog_6_method_1_code 142 = .ok (.iload 8, 2) := by decide +kernel
theorem d3_144 : decode prog_6_method_1_code 144 = .ok (.aload_n 1, 1) := by decide +kernel
theorem d3_145 : decode prog_6_method_1_code 145 = .ok (.iload 7, 2) := by decide +kernel
theorem d3_147 : decode prog_6_method_1_code 147 = .ok (.iconst 1, 1) := by decide +kernel
theorem d3_148 : decode prog_6_method_1_code 148 = .ok (.isub, 1) := by decide +kernel
theorem d3_149 : decode prog_6_method_1_code 149 = .ok (.iaload, 1) := by decide +kernel
theorem d3_150 : decode prog_6_method_1_code 150 = .ok (.iastore, 1) := by decide +kernel
theorem d3_151 : decode prog_6_method_1_code 151 = .ok (.aload_n 0, 1) := by decide +kernel
theorem d3_152 : decode prog_6_method_1_code 152 = .ok (.getfield 41, 3) := by decide +kernel
theorem d3_155 : decode prog_6_method_1_code 155 = .ok (.iload 8, 2) := by decide +kernel
theorem d3_157 : decode prog_6_method_1_code 157 = .ok (.dup2, 1) := by decide +kernel
theorem d3_158 : decode prog_6_method_1_code 158 = .ok (.laload, 1) := by decide +kernel
theorem d3_159 : decode prog_6_method_1_code 159 = .ok (.lconst 1, 1) := by decide +kernel
theorem d3_160 : decode prog_6_method_1_code 160 = .ok (.iload 7, 2) := by decide +kernel
theorem d3_162 : decode prog_6_method_1_code 162 = .ok (.lshl, 1) := by decide +kernel
theorem d3_163 : decode prog_6_method_1_code 163 = .ok (.lor, 1) := by decide +kernel
theorem d3_164 : decode prog_6_method_1_code 164 = .ok (.lastore, 1) := by decide +kernel
theorem d3_165 : decode prog_6_method_1_code 165 = .ok (.iinc 7 1, 3) := by decide +kernel
theorem d3_168 : decode prog_6_method_1_code 168 = .ok (.goto (-49), 3) := by decide +kernel
theorem d3_45 : decode prog_6_method_1_code 45 = .ok (.ifCond .ge 9, 3) := by decide +kernel
theorem d3_48 : decode prog_6_method_1_code 48 = .ok (.ldc2_w 32, 3) := by decide +kernel
theorem d3_51 : decode prog_6_method_1_code 51 = .ok (.goto 11, 3) := by decide +kernel
theorem d3_54 : decode prog_6_method_1_code 54 = .ok (.iload_n 3, 1) := by decide +kernel
theorem d3_55 : decode prog_6_method_1_code 55 = .ok (.invokestatic 21, 3) := by decide +kernel
theorem d3_58 : decode prog_6_method_1_code 58 = .ok (.ldc2_w 32, 3) := by decide +kernel
theorem d3_61 : decode prog_6_method_1_code 61 = .ok (.lxor, 1) := by decide +kernel
def Q_rmctn (Z : State) (a1 : Addr) (a2 : Addr) (p3 : Int32) (p4 : Int32) (p5 : Int32) (p6 : Int32) (tx : Nat → Int32) (n : Nat) (bd : Nat) (ph : Nat) (dp : Nat) (RL : Nat) (CP : Nat → Nat → Int32) (CO : Nat → Nat → Int64) (RF : Nat → Nat) (h0 : Heap) (n0 : Nat) (v : Option Value) (h : Heap) (L : List Loc) : Prop := v = none ∧ Fr n0 L ∧ Keep h0 h [a1] ∧ Exa Z h a1 "com/example/close_words/closewords/BitRows" ∧ ∃ ac ao ar am : Addr, n0 ≤ ac ∧ n0 ≤ ao ∧ n0 ≤ ar ∧ n0 ≤ am ∧ a1 ≠ ar ∧ a1 ≠ am ∧ ac ≠ ar ∧ ac ≠ am ∧ ao ≠ ar ∧ ao ≠ am ∧ am ≠ ar ∧ Fld Z h a1 "com/example/close_words/closewords/BitRows" "bound" "I" (.int p3) ∧ Fld Z h a1 "com/example/close_words/closewords/BitRows" "headBound" "I" (.int p5) ∧ Fld Z h a1 "com/example/close_words/closewords/BitRows" "levels" "I" (.int (p3 + (1 : Int32))) ∧ Fld Z h a1 "com/example/close_words/closewords/BitRows" "columns" "J" (.long (own_upTo (Int32.ofNat n))) ∧ Fld Z h a1 "com/example/close_words/closewords/BitRows" "lastColumn" "J" (.long ((1 : Int64) <<< ((Int32.ofNat n) &&& 0x3f).toInt64)) ∧ Fld Z h a1 "com/example/close_words/closewords/BitRows" "outsideHead" "J" (.long (if p4 < (0 : Int32) then (-1 : Int64) else (own_upTo p4 ^^^ (-1 : Int64)))) ∧ Fld Z h a1 "com/example/close_words/closewords/BitRows" "codePoints" "[I" (.ref ac) ∧ Fld Z h a1 "com/example/close_words/closewords/BitRows" "columnsOf" "[J" (.ref ao) ∧ Fld Z h a1 "com/example/close_words/closewords/BitRows" "rows" "[J" (.ref ar) ∧ Fld Z h a1 "com/example/close_words/closewords/BitRows" "matches" "[J" (.ref am) ∧ own_Ar Z h ac .int 128 (fun k => .int (CP n k)) ∧ own_Ar Z h ao .long 128 (fun k => .long (CO n k)) ∧ own_Ar Z h ar .long RL (fun y => .long (own_r0k n ph (if p4 < (0 : Int32) then (-1 : Int64) else (own_upTo p4 ^^^ (-1 : Int64))) (bd + 1) y)) ∧ own_Ar Z h am .long (dp + 1) (fun _ => .long (0 : Int64))
set_option maxRecDepth 65536 in
set_option maxHeartbeats 40000000 in
theorem rmctn (l : Launch) (Z : State) (a0 : Array Value) (hw : ∀ d ∈ tables_1, d.before a0 Z = true) (ws : List Jvm.Cond) (a1 : Addr) (a2 : Addr) (p3 : Int32) (p4 : Int32) (p5 : Int32) (p6 : Int32) (tx : Nat → Int32) (n : Nat) (bd : Nat) (ph : Nat) (dp : Nat) (RL : Nat) (CP : Nat → Nat → Int32) (CO : Nat → Nat → Int64) (RF : Nat → Nat) (h0 : Heap) (n0 : Nat) (Z0 : n0 ≤ h0.size) (E_a1 : Exa Z h0 a1 "com/example/close_words/closewords/BitRows") (u_bound : Value) (u_headBound : Value) (u_levels : Value) (u_columns : Value) (u_lastColumn : Value) (u_outsideHead : Value) (u_codePoints : Value) (u_columnsOf : Value) (u_rows : Value) (u_matches : Value) (F_bound : Fld Z h0 a1 "com/example/close_words/closewords/BitRows" "bound" "I" u_bound) (F_headBound : Fld Z h0 a1 "com/example/close_words/closewords/BitRows" "headBound" "I" u_headBound) (F_levels : Fld Z h0 a1 "com/example/close_words/closewords/BitRows" "levels" "I" u_levels) (F_columns : Fld Z h0 a1 "com/example/close_words/closewords/BitRows" "columns" "J" u_columns) (F_lastColumn : Fld Z h0 a1 "com/example/close_words/closewords/BitRows" "lastColumn" "J" u_lastColumn) (F_outsideHead : Fld Z h0 a1 "com/example/close_words/closewords/BitRows" "outsideHead" "J" u_outsideHead) (F_codePoints : Fld Z h0 a1 "com/example/close_words/closewords/BitRows" "codePoints" "[I" u_codePoints) (F_columnsOf : Fld Z h0 a1 "com/example/close_words/closewords/BitRows" "columnsOf" "[J" u_columnsOf) (F_rows : Fld Z h0 a1 "com/example/close_words/closewords/BitRows" "rows" "[J" u_rows) (F_matches : Fld Z h0 a1 "com/example/close_words/closewords/BitRows" "matches" "[J" u_matches) (V_a2 : own_Ar Z h0 a2 .int n (fun k => .int (tx k))) (ne12 : a1 ≠ a2) (g_a1 : n0 ≤ a1) (hn : n < 4) (hbd : p3.toInt = (bd : Int)) (hbd63 : bd ≤ 63) (hhb : p5.toInt = (ph : Int)) (hhb63 : ph ≤ 63) (hdp : p6.toInt = (dp : Int)) (hdp3 : dp ≤ 3) (hRL : RL = (dp + 1) * (bd + 1)) (hcp0 : ∀ k, CP 0 k = -1) (hco0 : ∀ k, CO 0 k = 0) (hR : ∀ j, j < n → own_find (CP j) (tx j) 8 ((tx j) &&& 127).toNatClampNeg = RF j) (hok : ∀ j, j < n → (CP j (RF j) = (tx j) ∨ CP j (RF j) = -1) ∧ RF j < 128) (hcp : ∀ j, j < n → CP (j + 1) = own_upd (CP j) (RF j) (tx j)) (hco : ∀ j, j < n → CO (j + 1) = own_upd (CO j) (RF j) (CO j (RF j) ||| ((1 : Int64) <<< ((Int32.ofNat (j + 1)) &&& 0x3f).toInt64))) :
    own_Ctr l Z (⟨"com/example/close_words/closewords/BitRows", "<init>", "([IIIII)V"⟩ : MethodName) prog_6_method_1_code 10 none ws ({ frames := 1, cells := 4, slots := 516, locals := 15 } : Room) #[(.ref a1), (.ref a2), (.int p3), (.int p4), (.int p5), (.int p6)] h0 (Q_rmctn Z a1 a2 p3 p4 p5 p6 tx n bd ph dp RL CP CO RF h0 n0) := by
  refine own_enter (plainFor_of_name own_pn0) ?_
  intro p e s m below meth c s₁ X0 hx hby hml hrt hlk hZ hown hnm e0
  have N0 := Fr.nil n0
  have Zs := Z0
  have K0 := Keep.refl h0 [a1]
  have hLV : (p6 + (1 : Int32)).toInt = ((dp + 1 : Nat) : Int) := by have q := own_addI hdp (show (1 : Int32).toInt = 1 from by decide) (by omega) (by omega); omega
  have hLW : (p3 + (1 : Int32)).toInt = ((bd + 1 : Nat) : Int) := by have q := own_addI hbd (show (1 : Int32).toInt = 1 from by decide) (by omega) (by omega); omega
  have hmul : (dp + 1) * (bd + 1) ≤ 4 * 64 := Nat.mul_le_mul (by omega) (by omega)
  have hRB : bd + 1 ≤ RL := by rw [hRL]; exact Nat.le_mul_of_pos_left _ (by omega)
  have hRT : ((p6 + (1 : Int32)) * (p3 + (1 : Int32))).toInt = (RL : Int) := by
    rw [Jvm.Kit.i32_mul (by rw [hLV, hLW, ← Int.natCast_mul]; omega) (by rw [hLV, hLW, ← Int.natCast_mul]; omega), hLV, hLW, ← Int.natCast_mul, hRL]
  rw [show entryFrame m #[(.ref a1), (.ref a2), (.int p3), (.int p4), (.int p5), (.int p6)] 10 = mkF m 0 #[rv a1, rv a2, iv p3, iv p4, iv p5, iv p6, uu, uu, uu, uu] [] from by first | (simp [entryFrame, mkF, argsToLocals, Value.category]; done) | rfl]
  show own_Wp _ _ _ _ (s₁.setTop (mkF m 0 #[rv a1, rv a2, iv p3, iv p4, iv p5, iv p6, uu, uu, uu, uu] []))
  refine own_of (fun tgt kon => XS.aloadN X0.here hx rfl (hb hby d3_0) rfl rfl kon) ?_
  obtain ⟨T1, X1, e1, st1⟩ := initO X0 hx hZ hown (ow hw 15 rfl) (ow hw 16 rfl) (ow hw 17 rfl) e0 (g := (mkF m 1 #[rv a1, rv a2, iv p3, iv p4, iv p5, iv p6, uu, uu, uu, uu] [(.ref a1)])) rfl (by rw [hml]; rfl) rfl (hb hby d3_1) (by decide) (W := 0) (by show 2 * 0 + _ ≤ _; exact Nat.le_of_eq rfl) (by decide)
  refine own_of st1 ?_
  clear st1
  show own_Wp _ _ _ _ (T1.setTop (mkF m 4 #[rv a1, rv a2, iv p3, iv p4, iv p5, iv p6, uu, uu, uu, uu] []))
  refine own_of (fun tgt kon => XS.aloadN X1.here hx rfl (hb hby d3_4) rfl rfl kon) ?_
  refine own_len X1 hx hZ e1 V_a2 (z := (Int32.ofNat n)) (own_ofN (by omega)) rfl rfl (hb hby d3_5) ?_
  refine own_of (fun tgt kon => XS.istore X1.here hx rfl (hb hby d3_6) rfl (l' := #[rv a1, rv a2, iv p3, iv p4, iv p5, iv p6, iv (Int32.ofNat n), uu, uu, uu]) rfl kon) ?_
  refine own_of (fun tgt kon => XS.aloadN X1.here hx rfl (hb hby d3_8) rfl rfl kon) ?_
  refine own_of (fun tgt kon => XS.iloadN X1.here hx rfl (hb hby d3_9) rfl kon) ?_
  show own_Wp _ _ _ _ (T1.setTop (mkF m 10 #[rv a1, rv a2, iv p3, iv p4, iv p5, iv p6, iv (Int32.ofNat n), uu, uu, uu] [(.int p3), (.ref a1)]))
  obtain ⟨T2, h2, X2, e2, W2, st2⟩ := putF X1 hx hZ hown (host := "") (Or.inl (ow hw 18 rfl)) Via.refl e1 F_bound E_a1 (Or.inr ⟨(ow hw 19 rfl), rfl, hnm⟩) (ow hw 10 rfl) (ty := .int) (by decide) rfl rfl (g := (mkF m 10 #[rv a1, rv a2, iv p3, iv p4, iv p5, iv p6, iv (Int32.ofNat n), uu, uu, uu] [(.int p3), (.ref a1)])) rfl rfl (hb hby d3_10)
  refine own_of st2 ?_
  clear st2
  have Fq2 := Fld.same W2 F_bound
  replace Zs := Nat.le_trans Zs (Keep.of_wr W2).1
  replace K0 := K0.wr W2 (Or.inl (List.mem_of_getElem? (i := 0) rfl))
  replace E_a1 := E_a1.wr W2
  replace F_headBound := F_headBound.other W2 (Or.inr (slot_ne (Or.inr (ow hw 21 rfl)) (Or.inr (ow hw 19 rfl)) (by decide) (t := .int) (t' := .int) (by decide) (by decide)))
  replace F_levels := F_levels.other W2 (Or.inr (slot_ne (Or.inr (ow hw 23 rfl)) (Or.inr (ow hw 19 rfl)) (by decide) (t := .int) (t' := .int) (by decide) (by decide)))
  replace F_columns := F_columns.other W2 (Or.inr (slot_ne (Or.inr (ow hw 28 rfl)) (Or.inr (ow hw 19 rfl)) (by decide) (t := .long) (t' := .int) (by decide) (by decide)))
  replace F_lastColumn := F_lastColumn.other W2 (Or.inr (slot_ne (Or.inr (ow hw 30 rfl)) (Or.inr (ow hw 19 rfl)) (by decide) (t := .long) (t' := .int) (by decide) (by decide)))
  replace F_outsideHead := F_outsideHead.other W2 (Or.inr (slot_ne (Or.inr (ow hw 33 rfl)) (Or.inr (ow hw 19 rfl)) (by decide) (t := .long) (t' := .int) (by decide) (by decide)))
  replace F_codePoints := F_codePoints.other W2 (Or.inr (slot_ne (Or.inr (ow hw 35 rfl)) (Or.inr (ow hw 19 rfl)) (by decide) (t := (.array .int)) (t' := .int) (by decide) (by decide)))
  replace F_columnsOf := F_columnsOf.other W2 (Or.inr (slot_ne (Or.inr (ow hw 38 rfl)) (Or.inr (ow hw 19 rfl)) (by decide) (t := (.array .long)) (t' := .int) (by decide) (by decide)))
  replace F_rows := F_rows.other W2 (Or.inr (slot_ne (Or.inr (ow hw 40 rfl)) (Or.inr (ow hw 19 rfl)) (by decide) (t := (.array .long)) (t' := .int) (by decide) (by decide)))
  replace F_matches := F_matches.other W2 (Or.inr (slot_ne (Or.inr (ow hw 42 rfl)) (Or.inr (ow hw 19 rfl)) (by decide) (t := (.array .long)) (t' := .int) (by decide) (by decide)))
  replace V_a2 := V_a2.other W2 (Ne.symm ne12)
  replace F_bound := Fq2
  clear Fq2
  have N2 := Fr.snoc X2 N0 g_a1
  refine own_of (fun tgt kon => XS.aloadN X2.here hx rfl (hb hby d3_13) rfl rfl kon) ?_
  refine own_of (fun tgt kon => XS.iload X2.here hx rfl (hb hby d3_14) rfl kon) ?_
  obtain ⟨T3, h3, X3, e3, W3, st3⟩ := putF X2 hx hZ hown (host := "") (Or.inl (ow hw 20 rfl)) Via.refl e2 F_headBound E_a1 (Or.inr ⟨(ow hw 21 rfl), rfl, hnm⟩) (ow hw 10 rfl) (ty := .int) (by decide) rfl rfl (g := (mkF m 16 #[rv a1, rv a2, iv p3, iv p4, iv p5, iv p6, iv (Int32.ofNat n), uu, uu, uu] [(.int p5), (.ref a1)])) rfl rfl (hb hby d3_16)
  refine own_of st3 ?_
  clear st3
  have Fq3 := Fld.same W3 F_headBound
  replace Zs := Nat.le_trans Zs (Keep.of_wr W3).1
  replace K0 := K0.wr W3 (Or.inl (List.mem_of_getElem? (i := 0) rfl))
  replace E_a1 := E_a1.wr W3
  replace F_bound := F_bound.other W3 (Or.inr (slot_ne (Or.inr (ow hw 19 rfl)) (Or.inr (ow hw 21 rfl)) (by decide) (t := .int) (t' := .int) (by decide) (by decide)))
  replace F_levels := F_levels.other W3 (Or.inr (slot_ne (Or.inr (ow hw 23 rfl)) (Or.inr (ow hw 21 rfl)) (by decide) (t := .int) (t' := .int) (by decide) (by decide)))
  replace F_columns := F_columns.other W3 (Or.inr (slot_ne (Or.inr (ow hw 28 rfl)) (Or.inr (ow hw 21 rfl)) (by decide) (t := .long) (t' := .int) (by decide) (by decide)))
  replace F_lastColumn := F_lastColumn.other W3 (Or.inr (slot_ne (Or.inr (ow hw 30 rfl)) (Or.inr (ow hw 21 rfl)) (by decide) (t := .long) (t' := .int) (by decide) (by decide)))
  replace F_outsideHead := F_outsideHead.other W3 (Or.inr (slot_ne (Or.inr (ow hw 33 rfl)) (Or.inr (ow hw 21 rfl)) (by decide) (t := .long) (t' := .int) (by decide) (by decide)))
  replace F_codePoints := F_codePoints.other W3 (Or.inr (slot_ne (Or.inr (ow hw 35 rfl)) (Or.inr (ow hw 21 rfl)) (by decide) (t := (.array .int)) (t' := .int) (by decide) (by decide)))
  replace F_columnsOf := F_columnsOf.other W3 (Or.inr (slot_ne (Or.inr (ow hw 38 rfl)) (Or.inr (ow hw 21 rfl)) (by decide) (t := (.array .long)) (t' := .int) (by decide) (by decide)))
  replace F_rows := F_rows.other W3 (Or.inr (slot_ne (Or.inr (ow hw 40 rfl)) (Or.inr (ow hw 21 rfl)) (by decide) (t := (.array .long)) (t' := .int) (by decide) (by decide)))
  replace F_matches := F_matches.other W3 (Or.inr (slot_ne (Or.inr (ow hw 42 rfl)) (Or.inr (ow hw 21 rfl)) (by decide) (t := (.array .long)) (t' := .int) (by decide) (by decide)))
  replace V_a2 := V_a2.other W3 (Ne.symm ne12)
  replace F_headBound := Fq3
  clear Fq3
  have N3 := Fr.snoc X3 N2 g_a1
  refine own_of (fun tgt kon => XS.aloadN X3.here hx rfl (hb hby d3_19) rfl rfl kon) ?_
  show own_Wp _ _ _ _ (T3.setTop (mkF m 20 #[rv a1, rv a2, iv p3, iv p4, iv p5, iv p6, iv (Int32.ofNat n), uu, uu, uu] [(.ref a1)]))
  refine own_of (fun tgt kon => XS.iloadN X3.here hx rfl (hb hby d3_20) rfl kon) ?_
  refine own_of (fun tgt kon => XS.iconst X3.here hx rfl (hb hby d3_21) kon) ?_
  refine own_of (fun tgt kon => XS.iadd X3.here hx rfl (hb hby d3_22) rfl kon) ?_
  obtain ⟨T4, h4, X4, e4, W4, st4⟩ := putF X3 hx hZ hown (host := "") (Or.inl (ow hw 22 rfl)) Via.refl e3 F_levels E_a1 (Or.inr ⟨(ow hw 23 rfl), rfl, hnm⟩) (ow hw 10 rfl) (ty := .int) (by decide) rfl rfl (g := (mkF m 23 #[rv a1, rv a2, iv p3, iv p4, iv p5, iv p6, iv (Int32.ofNat n), uu, uu, uu] [(.int (p3 + (1 : Int32))), (.ref a1)])) rfl rfl (hb hby d3_23)
  refine own_of st4 ?_
  clear st4
  have Fq4 := Fld.same W4 F_levels
  replace Zs := Nat.le_trans Zs (Keep.of_wr W4).1
  replace K0 := K0.wr W4 (Or.inl (List.mem_of_getElem? (i := 0) rfl))
  replace E_a1 := E_a1.wr W4
  replace F_bound := F_bound.other W4 (Or.inr (slot_ne (Or.inr (ow hw 19 rfl)) (Or.inr (ow hw 23 rfl)) (by decide) (t := .int) (t' := .int) (by decide) (by decide)))
  replace F_headBound := F_headBound.other W4 (Or.inr (slot_ne (Or.inr (ow hw 21 rfl)) (Or.inr (ow hw 23 rfl)) (by decide) (t := .int) (t' := .int) (by decide) (by decide)))
  replace F_columns := F_columns.other W4 (Or.inr (slot_ne (Or.inr (ow hw 28 rfl)) (Or.inr (ow hw 23 rfl)) (by decide) (t := .long) (t' := .int) (by decide) (by decide)))
  replace F_lastColumn := F_lastColumn.other W4 (Or.inr (slot_ne (Or.inr (ow hw 30 rfl)) (Or.inr (ow hw 23 rfl)) (by decide) (t := .long) (t' := .int) (by decide) (by decide)))
  replace F_outsideHead := F_outsideHead.other W4 (Or.inr (slot_ne (Or.inr (ow hw 33 rfl)) (Or.inr (ow hw 23 rfl)) (by decide) (t := .long) (t' := .int) (by decide) (by decide)))
  replace F_codePoints := F_codePoints.other W4 (Or.inr (slot_ne (Or.inr (ow hw 35 rfl)) (Or.inr (ow hw 23 rfl)) (by decide) (t := (.array .int)) (t' := .int) (by decide) (by decide)))
  replace F_columnsOf := F_columnsOf.other W4 (Or.inr (slot_ne (Or.inr (ow hw 38 rfl)) (Or.inr (ow hw 23 rfl)) (by decide) (t := (.array .long)) (t' := .int) (by decide) (by decide)))
  replace F_rows := F_rows.other W4 (Or.inr (slot_ne (Or.inr (ow hw 40 rfl)) (Or.inr (ow hw 23 rfl)) (by decide) (t := (.array .long)) (t' := .int) (by decide) (by decide)))
  replace F_matches := F_matches.other W4 (Or.inr (slot_ne (Or.inr (ow hw 42 rfl)) (Or.inr (ow hw 23 rfl)) (by decide) (t := (.array .long)) (t' := .int) (by decide) (by decide)))
  replace V_a2 := V_a2.other W4 (Ne.symm ne12)
  replace F_levels := Fq4
  clear Fq4
  have N4 := Fr.snoc X4 N3 g_a1
  refine own_of (fun tgt kon => XS.aloadN X4.here hx rfl (hb hby d3_26) rfl rfl kon) ?_
  show own_Wp _ _ _ _ (T4.setTop (mkF m 27 #[rv a1, rv a2, iv p3, iv p4, iv p5, iv p6, iv (Int32.ofNat n), uu, uu, uu] [(.ref a1)]))
  refine own_of (fun tgt kon => XS.iload X4.here hx rfl (hb hby d3_27) rfl kon) ?_
  refine own_callS X4 hx hZ (y := (⟨"com/example/close_words/closewords/BitRows", "upTo", "(I)J"⟩ : MethodName)) (argsL := [(.int (Int32.ofNat n))]) (rest := [(.ref a1)]) (W := 1) hown (ow hw 24 rfl) (ow hw 25 rfl) (ow hw 11 rfl) (ow hw 26 rfl) (by decide) e4 (rmup l Z a0 hw [] (Int32.ofNat n) h4 n0 Zs) (by decide) (by decide) (by decide) (by decide) rfl (by rw [hml]; rfl) (lenOf own_pd1 rfl) rfl (by show 2 * 0 + _ ≤ _; exact Nat.le_of_eq rfl) (hb hby d3_29) ?_
  rintro T5 L5 _ X5 ⟨rfl, N5q, e5⟩
  have N5 := Fr.app N4 N5q
  show own_Wp _ _ _ _ (T5.setTop (mkF m 32 #[rv a1, rv a2, iv p3, iv p4, iv p5, iv p6, iv (Int32.ofNat n), uu, uu, uu] [(.long (own_upTo (Int32.ofNat n))), (.ref a1)]))
  obtain ⟨T6, h6, X6, e6, W6, st6⟩ := putF X5 hx hZ hown (host := "") (Or.inl (ow hw 27 rfl)) Via.refl e5 F_columns E_a1 (Or.inr ⟨(ow hw 28 rfl), rfl, hnm⟩) (ow hw 10 rfl) (ty := .long) (by decide) rfl rfl (g := (mkF m 32 #[rv a1, rv a2, iv p3, iv p4, iv p5, iv p6, iv (Int32.ofNat n), uu, uu, uu] [(.long (own_upTo (Int32.ofNat n))), (.ref a1)])) rfl rfl (hb hby d3_32)
  refine own_of st6 ?_
  clear st6
  have Fq6 := Fld.same W6 F_columns
  replace Zs := Nat.le_trans Zs (Keep.of_wr W6).1
  replace K0 := K0.wr W6 (Or.inl (List.mem_of_getElem? (i := 0) rfl))
  replace E_a1 := E_a1.wr W6
  replace F_bound := F_bound.other W6 (Or.inr (slot_ne (Or.inr (ow hw 19 rfl)) (Or.inr (ow hw 28 rfl)) (by decide) (t := .int) (t' := .long) (by decide) (by decide)))
  replace F_headBound := F_headBound.other W6 (Or.inr (slot_ne (Or.inr (ow hw 21 rfl)) (Or.inr (ow hw 28 rfl)) (by decide) (t := .int) (t' := .long) (by decide) (by decide)))
  replace F_levels := F_levels.other W6 (Or.inr (slot_ne (Or.inr (ow hw 23 rfl)) (Or.inr (ow hw 28 rfl)) (by decide) (t := .int) (t' := .long) (by decide) (by decide)))
  replace F_lastColumn := F_lastColumn.other W6 (Or.inr (slot_ne (Or.inr (ow hw 30 rfl)) (Or.inr (ow hw 28 rfl)) (by decide) (t := .long) (t' := .long) (by decide) (by decide)))
  replace F_outsideHead := F_outsideHead.other W6 (Or.inr (slot_ne (Or.inr (ow hw 33 rfl)) (Or.inr (ow hw 28 rfl)) (by decide) (t := .long) (t' := .long) (by decide) (by decide)))
  replace F_codePoints := F_codePoints.other W6 (Or.inr (slot_ne (Or.inr (ow hw 35 rfl)) (Or.inr (ow hw 28 rfl)) (by decide) (t := (.array .int)) (t' := .long) (by decide) (by decide)))
  replace F_columnsOf := F_columnsOf.other W6 (Or.inr (slot_ne (Or.inr (ow hw 38 rfl)) (Or.inr (ow hw 28 rfl)) (by decide) (t := (.array .long)) (t' := .long) (by decide) (by decide)))
  replace F_rows := F_rows.other W6 (Or.inr (slot_ne (Or.inr (ow hw 40 rfl)) (Or.inr (ow hw 28 rfl)) (by decide) (t := (.array .long)) (t' := .long) (by decide) (by decide)))
  replace F_matches := F_matches.other W6 (Or.inr (slot_ne (Or.inr (ow hw 42 rfl)) (Or.inr (ow hw 28 rfl)) (by decide) (t := (.array .long)) (t' := .long) (by decide) (by decide)))
  replace V_a2 := V_a2.other W6 (Ne.symm ne12)
  replace F_columns := Fq6
  clear Fq6
  have N6 := Fr.snoc X6 N5 g_a1
  refine own_of (fun tgt kon => XS.aloadN X6.here hx rfl (hb hby d3_35) rfl rfl kon) ?_
  refine own_of (fun tgt kon => XS.lconst X6.here hx rfl (hb hby d3_36) kon) ?_
  refine own_of (fun tgt kon => XS.iload X6.here hx rfl (hb hby d3_37) rfl kon) ?_
  refine own_of (fun tgt kon => XS.lshl X6.here hx rfl (hb hby d3_39) rfl kon) ?_
  show own_Wp _ _ _ _ (T6.setTop (mkF m 40 #[rv a1, rv a2, iv p3, iv p4, iv p5, iv p6, iv (Int32.ofNat n), uu, uu, uu] [(.long ((1 : Int64) <<< ((Int32.ofNat n) &&& 0x3f).toInt64)), (.ref a1)]))
  obtain ⟨T7, h7, X7, e7, W7, st7⟩ := putF X6 hx hZ hown (host := "") (Or.inl (ow hw 29 rfl)) Via.refl e6 F_lastColumn E_a1 (Or.inr ⟨(ow hw 30 rfl), rfl, hnm⟩) (ow hw 10 rfl) (ty := .long) (by decide) rfl rfl (g := (mkF m 40 #[rv a1, rv a2, iv p3, iv p4, iv p5, iv p6, iv (Int32.ofNat n), uu, uu, uu] [(.long ((1 : Int64) <<< ((Int32.ofNat n) &&& 0x3f).toInt64)), (.ref a1)])) rfl rfl (hb hby d3_40)
  refine own_of st7 ?_
  clear st7
  have Fq7 := Fld.same W7 F_lastColumn
  replace Zs := Nat.le_trans Zs (Keep.of_wr W7).1
  replace K0 := K0.wr W7 (Or.inl (List.mem_of_getElem? (i := 0) rfl))
  replace E_a1 := E_a1.wr W7
  replace F_bound := F_bound.other W7 (Or.inr (slot_ne (Or.inr (ow hw 19 rfl)) (Or.inr (ow hw 30 rfl)) (by decide) (t := .int) (t' := .long) (by decide) (by decide)))
  replace F_headBound := F_headBound.other W7 (Or.inr (slot_ne (Or.inr (ow hw 21 rfl)) (Or.inr (ow hw 30 rfl)) (by decide) (t := .int) (t' := .long) (by decide) (by decide)))
  replace F_levels := F_levels.other W7 (Or.inr (slot_ne (Or.inr (ow hw 23 rfl)) (Or.inr (ow hw 30 rfl)) (by decide) (t := .int) (t' := .long) (by decide) (by decide)))
  replace F_columns := F_columns.other W7 (Or.inr (slot_ne (Or.inr (ow hw 28 rfl)) (Or.inr (ow hw 30 rfl)) (by decide) (t := .long) (t' := .long) (by decide) (by decide)))
  replace F_outsideHead := F_outsideHead.other W7 (Or.inr (slot_ne (Or.inr (ow hw 33 rfl)) (Or.inr (ow hw 30 rfl)) (by decide) (t := .long) (t' := .long) (by decide) (by decide)))
  replace F_codePoints := F_codePoints.other W7 (Or.inr (slot_ne (Or.inr (ow hw 35 rfl)) (Or.inr (ow hw 30 rfl)) (by decide) (t := (.array .int)) (t' := .long) (by decide) (by decide)))
  replace F_columnsOf := F_columnsOf.other W7 (Or.inr (slot_ne (Or.inr (ow hw 38 rfl)) (Or.inr (ow hw 30 rfl)) (by decide) (t := (.array .long)) (t' := .long) (by decide) (by decide)))
  replace F_rows := F_rows.other W7 (Or.inr (slot_ne (Or.inr (ow hw 40 rfl)) (Or.inr (ow hw 30 rfl)) (by decide) (t := (.array .long)) (t' := .long) (by decide) (by decide)))
  replace F_matches := F_matches.other W7 (Or.inr (slot_ne (Or.inr (ow hw 42 rfl)) (Or.inr (ow hw 30 rfl)) (by decide) (t := (.array .long)) (t' := .long) (by decide) (by decide)))
  replace V_a2 := V_a2.other W7 (Ne.symm ne12)
  replace F_lastColumn := Fq7
  clear Fq7
  have N7 := Fr.snoc X7 N6 g_a1
  refine own_of (fun tgt kon => XS.aloadN X7.here hx rfl (hb hby d3_43) rfl rfl kon) ?_
  refine own_of (fun tgt kon => XS.iloadN X7.here hx rfl (hb hby d3_44) rfl kon) ?_
  show own_Wp _ _ _ _ (T7.setTop (mkF m 45 #[rv a1, rv a2, iv p3, iv p4, iv p5, iv p6, iv (Int32.ofNat n), uu, uu, uu] [(.int p4), (.ref a1)]))
  have J62 : ∀ (T8 : State) (lc8 : List Loc) (out : Int64), (Stand p l e ({ frames := 1, cells := 4, slots := 516, locals := 15 } : Room) s m #[(.ref a1), (.ref a2), (.int p3), (.int p4), (.int p5), (.int p6)] below meth c T8 lc8 0 0) → (T8.heap = h7) → (Fr n0 lc8) → (out = if p4 < (0 : Int32) then (-1 : Int64) else (own_upTo p4 ^^^ (-1 : Int64))) → own_Wp p.tables e below (own_K ({ frames := 1, cells := 4, slots := 516, locals := 15 } : Room) s below (Q_rmctn Z a1 a2 p3 p4 p5 p6 tx n bd ph dp RL CP CO RF h0 n0)) (T8.setTop (mkF m 62 #[rv a1, rv a2, iv p3, iv p4, iv p5, iv p6, iv (Int32.ofNat n), uu, uu, uu] [(.long out), (.ref a1)])) := by
    intro T8 lc8 out X8 e8 N8 h_out
    obtain ⟨T9, h9, X9, e9, W9, st9⟩ := putF X8 hx hZ hown (host := "") (Or.inl (ow hw 32 rfl)) Via.refl e8 F_outsideHead E_a1 (Or.inr ⟨(ow hw 33 rfl), rfl, hnm⟩) (ow hw 10 rfl) (ty := .long) (by decide) rfl rfl (g := (mkF m 62 #[rv a1, rv a2, iv p3, iv p4, iv p5, iv p6, iv (Int32.ofNat n), uu, uu, uu] [(.long out), (.ref a1)])) rfl rfl (hb hby d3_62)
    refine own_of st9 ?_
    clear st9
    have Fq9 := Fld.same W9 F_outsideHead
    replace Zs := Nat.le_trans Zs (Keep.of_wr W9).1
    replace K0 := K0.wr W9 (Or.inl (List.mem_of_getElem? (i := 0) rfl))
    replace E_a1 := E_a1.wr W9
    replace F_bound := F_bound.other W9 (Or.inr (slot_ne (Or.inr (ow hw 19 rfl)) (Or.inr (ow hw 33 rfl)) (by decide) (t := .int) (t' := .long) (by decide) (by decide)))
    replace F_headBound := F_headBound.other W9 (Or.inr (slot_ne (Or.inr (ow hw 21 rfl)) (Or.inr (ow hw 33 rfl)) (by decide) (t := .int) (t' := .long) (by decide) (by decide)))
    replace F_levels := F_levels.other W9 (Or.inr (slot_ne (Or.inr (ow hw 23 rfl)) (Or.inr (ow hw 33 rfl)) (by decide) (t := .int) (t' := .long) (by decide) (by decide)))
    replace F_columns := F_columns.other W9 (Or.inr (slot_ne (Or.inr (ow hw 28 rfl)) (Or.inr (ow hw 33 rfl)) (by decide) (t := .long) (t' := .long) (by decide) (by decide)))
    replace F_lastColumn := F_lastColumn.other W9 (Or.inr (slot_ne (Or.inr (ow hw 30 rfl)) (Or.inr (ow hw 33 rfl)) (by decide) (t := .long) (t' := .long) (by decide) (by decide)))
    replace F_codePoints := F_codePoints.other W9 (Or.inr (slot_ne (Or.inr (ow hw 35 rfl)) (Or.inr (ow hw 33 rfl)) (by decide) (t := (.array .int)) (t' := .long) (by decide) (by decide)))
    replace F_columnsOf := F_columnsOf.other W9 (Or.inr (slot_ne (Or.inr (ow hw 38 rfl)) (Or.inr (ow hw 33 rfl)) (by decide) (t := (.array .long)) (t' := .long) (by decide) (by decide)))
    replace F_rows := F_rows.other W9 (Or.inr (slot_ne (Or.inr (ow hw 40 rfl)) (Or.inr (ow hw 33 rfl)) (by decide) (t := (.array .long)) (t' := .long) (by decide) (by decide)))
    replace F_matches := F_matches.other W9 (Or.inr (slot_ne (Or.inr (ow hw 42 rfl)) (Or.inr (ow hw 33 rfl)) (by decide) (t := (.array .long)) (t' := .long) (by decide) (by decide)))
    replace V_a2 := V_a2.other W9 (Ne.symm ne12)
    replace F_outsideHead := Fq9
    clear Fq9
    have N9 := Fr.snoc X9 N8 g_a1
    refine own_of (fun tgt kon => XS.aloadN X9.here hx rfl (hb hby d3_65) rfl rfl kon) ?_
    refine own_of (fun tgt kon => XS.sipush X9.here hx rfl (hb hby d3_66) kon) ?_
    obtain ⟨T10, h10, k10, X10, e10, E10, A10, st10⟩ := newP X9 hx hZ (ow hw 0 rfl) e9 (g := (mkF m 69 #[rv a1, rv a2, iv p3, iv p4, iv p5, iv p6, iv (Int32.ofNat n), uu, uu, uu] [(.int (128 : Int32)), (.ref a1)])) rfl (hb hby d3_69) rfl (by decide) (cap := 128) (by decide) (by decide) (by decide) (by decide)
    refine own_of st10 ?_
    clear st10
    obtain ⟨b10, gq10⟩ : ∃ z, z = h9.size := ⟨_, rfl⟩
    rw [← gq10] at A10 ⊢
    have ne_a1_b10 : a1 ≠ b10 := Nat.ne_of_lt (Nat.lt_of_lt_of_le E_a1.lt (Nat.le_of_eq gq10.symm))
    have ne_a2_b10 : a2 ≠ b10 := Nat.ne_of_lt (Nat.lt_of_lt_of_le V_a2.lt (Nat.le_of_eq gq10.symm))
    have g_b10 : n0 ≤ b10 := Nat.le_trans Zs (Nat.le_of_eq gq10.symm)
    have sz_b10 : h0.size ≤ b10 := Nat.le_trans K0.1 (Nat.le_of_eq gq10.symm)
    replace Zs := Nat.le_trans Zs E10.1
    replace K0 := K0.ext E10
    replace E_a1 := E_a1.ext E10
    replace F_bound := F_bound.ext E10
    replace F_headBound := F_headBound.ext E10
    replace F_levels := F_levels.ext E10
    replace F_columns := F_columns.ext E10
    replace F_lastColumn := F_lastColumn.ext E10
    replace F_outsideHead := F_outsideHead.ext E10
    replace F_codePoints := F_codePoints.ext E10
    replace F_columnsOf := F_columnsOf.ext E10
    replace F_rows := F_rows.ext E10
    replace F_matches := F_matches.ext E10
    replace V_a2 := V_a2.ext E10
    have V_b10 : own_Ar Z h10 b10 .int 128 (fun _ => (.int (0 : Int32))) := own_Ar.new A10 (by decide) rfl
    obtain ⟨T11, h11, X11, e11, W11, st11⟩ := putF X10 hx hZ hown (host := "") (Or.inl (ow hw 34 rfl)) Via.refl e10 F_codePoints E_a1 (Or.inr ⟨(ow hw 35 rfl), rfl, hnm⟩) (ow hw 10 rfl) (ty := (.array .int)) (by decide) rfl rfl (g := (mkF m 71 #[rv a1, rv a2, iv p3, iv p4, iv p5, iv p6, iv (Int32.ofNat n), uu, uu, uu] [(.ref b10), (.ref a1)])) rfl rfl (hb hby d3_71)
    refine own_of st11 ?_
    clear st11
    have Fq11 := Fld.same W11 F_codePoints
    replace Zs := Nat.le_trans Zs (Keep.of_wr W11).1
    replace K0 := K0.wr W11 (Or.inl (List.mem_of_getElem? (i := 0) rfl))
    replace E_a1 := E_a1.wr W11
    replace F_bound := F_bound.other W11 (Or.inr (slot_ne (Or.inr (ow hw 19 rfl)) (Or.inr (ow hw 35 rfl)) (by decide) (t := .int) (t' := (.array .int)) (by decide) (by decide)))
    replace F_headBound := F_headBound.other W11 (Or.inr (slot_ne (Or.inr (ow hw 21 rfl)) (Or.inr (ow hw 35 rfl)) (by decide) (t := .int) (t' := (.array .int)) (by decide) (by decide)))
    replace F_levels := F_levels.other W11 (Or.inr (slot_ne (Or.inr (ow hw 23 rfl)) (Or.inr (ow hw 35 rfl)) (by decide) (t := .int) (t' := (.array .int)) (by decide) (by decide)))
    replace F_columns := F_columns.other W11 (Or.inr (slot_ne (Or.inr (ow hw 28 rfl)) (Or.inr (ow hw 35 rfl)) (by decide) (t := .long) (t' := (.array .int)) (by decide) (by decide)))
    replace F_lastColumn := F_lastColumn.other W11 (Or.inr (slot_ne (Or.inr (ow hw 30 rfl)) (Or.inr (ow hw 35 rfl)) (by decide) (t := .long) (t' := (.array .int)) (by decide) (by decide)))
    replace F_outsideHead := F_outsideHead.other W11 (Or.inr (slot_ne (Or.inr (ow hw 33 rfl)) (Or.inr (ow hw 35 rfl)) (by decide) (t := .long) (t' := (.array .int)) (by decide) (by decide)))
    replace F_columnsOf := F_columnsOf.other W11 (Or.inr (slot_ne (Or.inr (ow hw 38 rfl)) (Or.inr (ow hw 35 rfl)) (by decide) (t := (.array .long)) (t' := (.array .int)) (by decide) (by decide)))
    replace F_rows := F_rows.other W11 (Or.inr (slot_ne (Or.inr (ow hw 40 rfl)) (Or.inr (ow hw 35 rfl)) (by decide) (t := (.array .long)) (t' := (.array .int)) (by decide) (by decide)))
    replace F_matches := F_matches.other W11 (Or.inr (slot_ne (Or.inr (ow hw 42 rfl)) (Or.inr (ow hw 35 rfl)) (by decide) (t := (.array .long)) (t' := (.array .int)) (by decide) (by decide)))
    replace V_a2 := V_a2.other W11 (Ne.symm ne12)
    replace V_b10 := V_b10.other W11 (Ne.symm ne_a1_b10)
    replace F_codePoints := Fq11
    clear Fq11
    have N11 := Fr.snoc X11 N9 g_a1
    show own_Wp _ _ _ _ (T11.setTop (mkF m 74 #[rv a1, rv a2, iv p3, iv p4, iv p5, iv p6, iv (Int32.ofNat n), uu, uu, uu] []))
    refine own_of (fun tgt kon => XS.aloadN X11.here hx rfl (hb hby d3_74) rfl rfl kon) ?_
    refine own_of (fun tgt kon => XS.sipush X11.here hx rfl (hb hby d3_75) kon) ?_
    obtain ⟨T12, h12, k12, X12, e12, E12, A12, st12⟩ := newP X11 hx hZ (ow hw 36 rfl) e11 (g := (mkF m 78 #[rv a1, rv a2, iv p3, iv p4, iv p5, iv p6, iv (Int32.ofNat n), uu, uu, uu] [(.int (128 : Int32)), (.ref a1)])) rfl (hb hby d3_78) rfl (by decide) (cap := 128) (by decide) (by decide) (by decide) (by decide)
    refine own_of st12 ?_
    clear st12
    obtain ⟨b12, gq12⟩ : ∃ z, z = h11.size := ⟨_, rfl⟩
    rw [← gq12] at A12 ⊢
    have ne_a1_b12 : a1 ≠ b12 := Nat.ne_of_lt (Nat.lt_of_lt_of_le E_a1.lt (Nat.le_of_eq gq12.symm))
    have ne_a2_b12 : a2 ≠ b12 := Nat.ne_of_lt (Nat.lt_of_lt_of_le V_a2.lt (Nat.le_of_eq gq12.symm))
    have ne_b10_b12 : b10 ≠ b12 := Nat.ne_of_lt (Nat.lt_of_lt_of_le V_b10.lt (Nat.le_of_eq gq12.symm))
    have g_b12 : n0 ≤ b12 := Nat.le_trans Zs (Nat.le_of_eq gq12.symm)
    have sz_b12 : h0.size ≤ b12 := Nat.le_trans K0.1 (Nat.le_of_eq gq12.symm)
    replace Zs := Nat.le_trans Zs E12.1
    replace K0 := K0.ext E12
    replace E_a1 := E_a1.ext E12
    replace F_bound := F_bound.ext E12
    replace F_headBound := F_headBound.ext E12
    replace F_levels := F_levels.ext E12
    replace F_columns := F_columns.ext E12
    replace F_lastColumn := F_lastColumn.ext E12
    replace F_outsideHead := F_outsideHead.ext E12
    replace F_codePoints := F_codePoints.ext E12
    replace F_columnsOf := F_columnsOf.ext E12
    replace F_rows := F_rows.ext E12
    replace F_matches := F_matches.ext E12
    replace V_a2 := V_a2.ext E12
    replace V_b10 := V_b10.ext E12
    have V_b12 : own_Ar Z h12 b12 .long 128 (fun _ => (.long (0 : Int64))) := own_Ar.new A12 (by decide) rfl
    obtain ⟨T13, h13, X13, e13, W13, st13⟩ := putF X12 hx hZ hown (host := "") (Or.inl (ow hw 37 rfl)) Via.refl e12 F_columnsOf E_a1 (Or.inr ⟨(ow hw 38 rfl), rfl, hnm⟩) (ow hw 10 rfl) (ty := (.array .long)) (by decide) rfl rfl (g := (mkF m 80 #[rv a1, rv a2, iv p3, iv p4, iv p5, iv p6, iv (Int32.ofNat n), uu, uu, uu] [(.ref b12), (.ref a1)])) rfl rfl (hb hby d3_80)
    refine own_of st13 ?_
    clear st13
    have Fq13 := Fld.same W13 F_columnsOf
    replace Zs := Nat.le_trans Zs (Keep.of_wr W13).1
    replace K0 := K0.wr W13 (Or.inl (List.mem_of_getElem? (i := 0) rfl))
    replace E_a1 := E_a1.wr W13
    replace F_bound := F_bound.other W13 (Or.inr (slot_ne (Or.inr (ow hw 19 rfl)) (Or.inr (ow hw 38 rfl)) (by decide) (t := .int) (t' := (.array .long)) (by decide) (by decide)))
    replace F_headBound := F_headBound.other W13 (Or.inr (slot_ne (Or.inr (ow hw 21 rfl)) (Or.inr (ow hw 38 rfl)) (by decide) (t := .int) (t' := (.array .long)) (by decide) (by decide)))
    replace F_levels := F_levels.other W13 (Or.inr (slot_ne (Or.inr (ow hw 23 rfl)) (Or.inr (ow hw 38 rfl)) (by decide) (t := .int) (t' := (.array .long)) (by decide) (by decide)))
    replace F_columns := F_columns.other W13 (Or.inr (slot_ne (Or.inr (ow hw 28 rfl)) (Or.inr (ow hw 38 rfl)) (by decide) (t := .long) (t' := (.array .long)) (by decide) (by decide)))
    replace F_lastColumn := F_lastColumn.other W13 (Or.inr (slot_ne (Or.inr (ow hw 30 rfl)) (Or.inr (ow hw 38 rfl)) (by decide) (t := .long) (t' := (.array .long)) (by decide) (by decide)))
    replace F_outsideHead := F_outsideHead.other W13 (Or.inr (slot_ne (Or.inr (ow hw 33 rfl)) (Or.inr (ow hw 38 rfl)) (by decide) (t := .long) (t' := (.array .long)) (by decide) (by decide)))
    replace F_codePoints := F_codePoints.other W13 (Or.inr (slot_ne (Or.inr (ow hw 35 rfl)) (Or.inr (ow hw 38 rfl)) (by decide) (t := (.array .int)) (t' := (.array .long)) (by decide) (by decide)))
    replace F_rows := F_rows.other W13 (Or.inr (slot_ne (Or.inr (ow hw 40 rfl)) (Or.inr (ow hw 38 rfl)) (by decide) (t := (.array .long)) (t' := (.array .long)) (by decide) (by decide)))
    replace F_matches := F_matches.other W13 (Or.inr (slot_ne (Or.inr (ow hw 42 rfl)) (Or.inr (ow hw 38 rfl)) (by decide) (t := (.array .long)) (t' := (.array .long)) (by decide) (by decide)))
    replace V_a2 := V_a2.other W13 (Ne.symm ne12)
    replace V_b10 := V_b10.other W13 (Ne.symm ne_a1_b10)
    replace V_b12 := V_b12.other W13 (Ne.symm ne_a1_b12)
    replace F_columnsOf := Fq13
    clear Fq13
    have N13 := Fr.snoc X13 N11 g_a1
    refine own_of (fun tgt kon => XS.aloadN X13.here hx rfl (hb hby d3_83) rfl rfl kon) ?_
    show own_Wp _ _ _ _ (T13.setTop (mkF m 84 #[rv a1, rv a2, iv p3, iv p4, iv p5, iv p6, iv (Int32.ofNat n), uu, uu, uu] [(.ref a1)]))
    refine own_of (fun tgt kon => XS.iload X13.here hx rfl (hb hby d3_84) rfl kon) ?_
    refine own_of (fun tgt kon => XS.iconst X13.here hx rfl (hb hby d3_86) kon) ?_
    refine own_of (fun tgt kon => XS.iadd X13.here hx rfl (hb hby d3_87) rfl kon) ?_
    refine own_of (fun tgt kon => XS.aloadN X13.here hx rfl (hb hby d3_88) rfl rfl kon) ?_
    obtain ⟨T14, X14, e14, st14⟩ := getF X13 hx hZ hown (host := "") (Or.inl (ow hw 22 rfl)) Via.refl e13 F_levels (g := (mkF m 89 #[rv a1, rv a2, iv p3, iv p4, iv p5, iv p6, iv (Int32.ofNat n), uu, uu, uu] [(.ref a1), (.int (p6 + (1 : Int32))), (.ref a1)])) rfl rfl (hb hby d3_89)
    refine own_of st14 ?_
    clear st14
    show own_Wp _ _ _ _ (T14.setTop (mkF m 92 #[rv a1, rv a2, iv p3, iv p4, iv p5, iv p6, iv (Int32.ofNat n), uu, uu, uu] [(.int (p3 + (1 : Int32))), (.int (p6 + (1 : Int32))), (.ref a1)]))
    refine own_of (fun tgt kon => XS.imul X14.here hx rfl (hb hby d3_92) rfl kon) ?_
    obtain ⟨T15, h15, k15, X15, e15, E15, A15, st15⟩ := newP X14 hx hZ (ow hw 36 rfl) e14 (g := (mkF m 93 #[rv a1, rv a2, iv p3, iv p4, iv p5, iv p6, iv (Int32.ofNat n), uu, uu, uu] [(.int ((p6 + (1 : Int32)) * (p3 + (1 : Int32)))), (.ref a1)])) rfl (hb hby d3_93) rfl (own_nneg hRT) (cap := 256) (by rw [own_nat hRT]; omega) (by decide) (by decide) (by decide)
    refine own_of st15 ?_
    clear st15
    obtain ⟨b15, gq15⟩ : ∃ z, z = h13.size := ⟨_, rfl⟩
    rw [← gq15] at A15 ⊢
    have ne_a1_b15 : a1 ≠ b15 := Nat.ne_of_lt (Nat.lt_of_lt_of_le E_a1.lt (Nat.le_of_eq gq15.symm))
    have ne_a2_b15 : a2 ≠ b15 := Nat.ne_of_lt (Nat.lt_of_lt_of_le V_a2.lt (Nat.le_of_eq gq15.symm))
    have ne_b10_b15 : b10 ≠ b15 := Nat.ne_of_lt (Nat.lt_of_lt_of_le V_b10.lt (Nat.le_of_eq gq15.symm))
    have ne_b12_b15 : b12 ≠ b15 := Nat.ne_of_lt (Nat.lt_of_lt_of_le V_b12.lt (Nat.le_of_eq gq15.symm))
    have g_b15 : n0 ≤ b15 := Nat.le_trans Zs (Nat.le_of_eq gq15.symm)
    have sz_b15 : h0.size ≤ b15 := Nat.le_trans K0.1 (Nat.le_of_eq gq15.symm)
    replace Zs := Nat.le_trans Zs E15.1
    replace K0 := K0.ext E15
    replace E_a1 := E_a1.ext E15
    replace F_bound := F_bound.ext E15
    replace F_headBound := F_headBound.ext E15
    replace F_levels := F_levels.ext E15
    replace F_columns := F_columns.ext E15
    replace F_lastColumn := F_lastColumn.ext E15
    replace F_outsideHead := F_outsideHead.ext E15
    replace F_codePoints := F_codePoints.ext E15
    replace F_columnsOf := F_columnsOf.ext E15
    replace F_rows := F_rows.ext E15
    replace F_matches := F_matches.ext E15
    replace V_a2 := V_a2.ext E15
    replace V_b10 := V_b10.ext E15
    replace V_b12 := V_b12.ext E15
    have V_b15 : own_Ar Z h15 b15 .long RL (fun _ => (.long (0 : Int64))) := own_Ar.new A15 (own_nneg hRT) (own_nat hRT)
    obtain ⟨T16, h16, X16, e16, W16, st16⟩ := putF X15 hx hZ hown (host := "") (Or.inl (ow hw 39 rfl)) Via.refl e15 F_rows E_a1 (Or.inr ⟨(ow hw 40 rfl), rfl, hnm⟩) (ow hw 10 rfl) (ty := (.array .long)) (by decide) rfl rfl (g := (mkF m 95 #[rv a1, rv a2, iv p3, iv p4, iv p5, iv p6, iv (Int32.ofNat n), uu, uu, uu] [(.ref b15), (.ref a1)])) rfl rfl (hb hby d3_95)
    refine own_of st16 ?_
    clear st16
    have Fq16 := Fld.same W16 F_rows
    replace Zs := Nat.le_trans Zs (Keep.of_wr W16).1
    replace K0 := K0.wr W16 (Or.inl (List.mem_of_getElem? (i := 0) rfl))
    replace E_a1 := E_a1.wr W16
    replace F_bound := F_bound.other W16 (Or.inr (slot_ne (Or.inr (ow hw 19 rfl)) (Or.inr (ow hw 40 rfl)) (by decide) (t := .int) (t' := (.array .long)) (by decide) (by decide)))
    replace F_headBound := F_headBound.other W16 (Or.inr (slot_ne (Or.inr (ow hw 21 rfl)) (Or.inr (ow hw 40 rfl)) (by decide) (t := .int) (t' := (.array .long)) (by decide) (by decide)))
    replace F_levels := F_levels.other W16 (Or.inr (slot_ne (Or.inr (ow hw 23 rfl)) (Or.inr (ow hw 40 rfl)) (by decide) (t := .int) (t' := (.array .long)) (by decide) (by decide)))
    replace F_columns := F_columns.other W16 (Or.inr (slot_ne (Or.inr (ow hw 28 rfl)) (Or.inr (ow hw 40 rfl)) (by decide) (t := .long) (t' := (.array .long)) (by decide) (by decide)))
    replace F_lastColumn := F_lastColumn.other W16 (Or.inr (slot_ne (Or.inr (ow hw 30 rfl)) (Or.inr (ow hw 40 rfl)) (by decide) (t := .long) (t' := (.array .long)) (by decide) (by decide)))
    replace F_outsideHead := F_outsideHead.other W16 (Or.inr (slot_ne (Or.inr (ow hw 33 rfl)) (Or.inr (ow hw 40 rfl)) (by decide) (t := .long) (t' := (.array .long)) (by decide) (by decide)))
    replace F_codePoints := F_codePoints.other W16 (Or.inr (slot_ne (Or.inr (ow hw 35 rfl)) (Or.inr (ow hw 40 rfl)) (by decide) (t := (.array .int)) (t' := (.array .long)) (by decide) (by decide)))
    replace F_columnsOf := F_columnsOf.other W16 (Or.inr (slot_ne (Or.inr (ow hw 38 rfl)) (Or.inr (ow hw 40 rfl)) (by decide) (t := (.array .long)) (t' := (.array .long)) (by decide) (by decide)))
    replace F_matches := F_matches.other W16 (Or.inr (slot_ne (Or.inr (ow hw 42 rfl)) (Or.inr (ow hw 40 rfl)) (by decide) (t := (.array .long)) (t' := (.array .long)) (by decide) (by decide)))
    replace V_a2 := V_a2.other W16 (Ne.symm ne12)
    replace V_b10 := V_b10.other W16 (Ne.symm ne_a1_b10)
    replace V_b12 := V_b12.other W16 (Ne.symm ne_a1_b12)
    replace V_b15 := V_b15.other W16 (Ne.symm ne_a1_b15)
    replace F_rows := Fq16
    clear Fq16
    have N16 := Fr.snoc X16 N13 g_a1
    refine own_of (fun tgt kon => XS.aloadN X16.here hx rfl (hb hby d3_98) rfl rfl kon) ?_
    refine own_of (fun tgt kon => XS.iload X16.here hx rfl (hb hby d3_99) rfl kon) ?_
    show own_Wp _ _ _ _ (T16.setTop (mkF m 101 #[rv a1, rv a2, iv p3, iv p4, iv p5, iv p6, iv (Int32.ofNat n), uu, uu, uu] [(.int p6), (.ref a1)]))
    refine own_of (fun tgt kon => XS.iconst X16.here hx rfl (hb hby d3_101) kon) ?_
    refine own_of (fun tgt kon => XS.iadd X16.here hx rfl (hb hby d3_102) rfl kon) ?_
    obtain ⟨T17, h17, k17, X17, e17, E17, A17, st17⟩ := newP X16 hx hZ (ow hw 36 rfl) e16 (g := (mkF m 103 #[rv a1, rv a2, iv p3, iv p4, iv p5, iv p6, iv (Int32.ofNat n), uu, uu, uu] [(.int (p6 + (1 : Int32))), (.ref a1)])) rfl (hb hby d3_103) rfl (own_nneg hLV) (cap := 4) (by rw [own_nat hLV]; omega) (by decide) (by decide) (by decide)
    refine own_of st17 ?_
    clear st17
    obtain ⟨b17, gq17⟩ : ∃ z, z = h16.size := ⟨_, rfl⟩
    rw [← gq17] at A17 ⊢
    have ne_a1_b17 : a1 ≠ b17 := Nat.ne_of_lt (Nat.lt_of_lt_of_le E_a1.lt (Nat.le_of_eq gq17.symm))
    have ne_a2_b17 : a2 ≠ b17 := Nat.ne_of_lt (Nat.lt_of_lt_of_le V_a2.lt (Nat.le_of_eq gq17.symm))
    have ne_b10_b17 : b10 ≠ b17 := Nat.ne_of_lt (Nat.lt_of_lt_of_le V_b10.lt (Nat.le_of_eq gq17.symm))
    have ne_b12_b17 : b12 ≠ b17 := Nat.ne_of_lt (Nat.lt_of_lt_of_le V_b12.lt (Nat.le_of_eq gq17.symm))
    have ne_b15_b17 : b15 ≠ b17 := Nat.ne_of_lt (Nat.lt_of_lt_of_le V_b15.lt (Nat.le_of_eq gq17.symm))
    have g_b17 : n0 ≤ b17 := Nat.le_trans Zs (Nat.le_of_eq gq17.symm)
    have sz_b17 : h0.size ≤ b17 := Nat.le_trans K0.1 (Nat.le_of_eq gq17.symm)
    replace Zs := Nat.le_trans Zs E17.1
    replace K0 := K0.ext E17
    replace E_a1 := E_a1.ext E17
    replace F_bound := F_bound.ext E17
    replace F_headBound := F_headBound.ext E17
    replace F_levels := F_levels.ext E17
    replace F_columns := F_columns.ext E17
    replace F_lastColumn := F_lastColumn.ext E17
    replace F_outsideHead := F_outsideHead.ext E17
    replace F_codePoints := F_codePoints.ext E17
    replace F_columnsOf := F_columnsOf.ext E17
    replace F_rows := F_rows.ext E17
    replace F_matches := F_matches.ext E17
    replace V_a2 := V_a2.ext E17
    replace V_b10 := V_b10.ext E17
    replace V_b12 := V_b12.ext E17
    replace V_b15 := V_b15.ext E17
    have V_b17 : own_Ar Z h17 b17 .long (dp + 1) (fun _ => (.long (0 : Int64))) := own_Ar.new A17 (own_nneg hLV) (own_nat hLV)
    obtain ⟨T18, h18, X18, e18, W18, st18⟩ := putF X17 hx hZ hown (host := "") (Or.inl (ow hw 41 rfl)) Via.refl e17 F_matches E_a1 (Or.inr ⟨(ow hw 42 rfl), rfl, hnm⟩) (ow hw 10 rfl) (ty := (.array .long)) (by decide) rfl rfl (g := (mkF m 105 #[rv a1, rv a2, iv p3, iv p4, iv p5, iv p6, iv (Int32.ofNat n), uu, uu, uu] [(.ref b17), (.ref a1)])) rfl rfl (hb hby d3_105)
    refine own_of st18 ?_
    clear st18
    have Fq18 := Fld.same W18 F_matches
    replace Zs := Nat.le_trans Zs (Keep.of_wr W18).1
    replace K0 := K0.wr W18 (Or.inl (List.mem_of_getElem? (i := 0) rfl))
    replace E_a1 := E_a1.wr W18
    replace F_bound := F_bound.other W18 (Or.inr (slot_ne (Or.inr (ow hw 19 rfl)) (Or.inr (ow hw 42 rfl)) (by decide) (t := .int) (t' := (.array .long)) (by decide) (by decide)))
    replace F_headBound := F_headBound.other W18 (Or.inr (slot_ne (Or.inr (ow hw 21 rfl)) (Or.inr (ow hw 42 rfl)) (by decide) (t := .int) (t' := (.array .long)) (by decide) (by decide)))
    replace F_levels := F_levels.other W18 (Or.inr (slot_ne (Or.inr (ow hw 23 rfl)) (Or.inr (ow hw 42 rfl)) (by decide) (t := .int) (t' := (.array .long)) (by decide) (by decide)))
    replace F_columns := F_columns.other W18 (Or.inr (slot_ne (Or.inr (ow hw 28 rfl)) (Or.inr (ow hw 42 rfl)) (by decide) (t := .long) (t' := (.array .long)) (by decide) (by decide)))
    replace F_lastColumn := F_lastColumn.other W18 (Or.inr (slot_ne (Or.inr (ow hw 30 rfl)) (Or.inr (ow hw 42 rfl)) (by decide) (t := .long) (t' := (.array .long)) (by decide) (by decide)))
    replace F_outsideHead := F_outsideHead.other W18 (Or.inr (slot_ne (Or.inr (ow hw 33 rfl)) (Or.inr (ow hw 42 rfl)) (by decide) (t := .long) (t' := (.array .long)) (by decide) (by decide)))
    replace F_codePoints := F_codePoints.other W18 (Or.inr (slot_ne (Or.inr (ow hw 35 rfl)) (Or.inr (ow hw 42 rfl)) (by decide) (t := (.array .int)) (t' := (.array .long)) (by decide) (by decide)))
    replace F_columnsOf := F_columnsOf.other W18 (Or.inr (slot_ne (Or.inr (ow hw 38 rfl)) (Or.inr (ow hw 42 rfl)) (by decide) (t := (.array .long)) (t' := (.array .long)) (by decide) (by decide)))
    replace F_rows := F_rows.other W18 (Or.inr (slot_ne (Or.inr (ow hw 40 rfl)) (Or.inr (ow hw 42 rfl)) (by decide) (t := (.array .long)) (t' := (.array .long)) (by decide) (by decide)))
    replace V_a2 := V_a2.other W18 (Ne.symm ne12)
    replace V_b10 := V_b10.other W18 (Ne.symm ne_a1_b10)
    replace V_b12 := V_b12.other W18 (Ne.symm ne_a1_b12)
    replace V_b15 := V_b15.other W18 (Ne.symm ne_a1_b15)
    replace V_b17 := V_b17.other W18 (Ne.symm ne_a1_b17)
    replace F_matches := Fq18
    clear Fq18
    have N18 := Fr.snoc X18 N16 g_a1
    refine own_of (fun tgt kon => XS.aloadN X18.here hx rfl (hb hby d3_108) rfl rfl kon) ?_
    show own_Wp _ _ _ _ (T18.setTop (mkF m 109 #[rv a1, rv a2, iv p3, iv p4, iv p5, iv p6, iv (Int32.ofNat n), uu, uu, uu] [(.ref a1)]))
    obtain ⟨T19, X19, e19, st19⟩ := getF X18 hx hZ hown (host := "") (Or.inl (ow hw 34 rfl)) Via.refl e18 F_codePoints (g := (mkF m 109 #[rv a1, rv a2, iv p3, iv p4, iv p5, iv p6, iv (Int32.ofNat n), uu, uu, uu] [(.ref a1)])) rfl rfl (hb hby d3_109)
    refine own_of st19 ?_
    clear st19
    refine own_of (fun tgt kon => XS.iconst X19.here hx rfl (hb hby d3_112) kon) ?_
    refine own_callS X19 hx hZ (y := (⟨"java/util/Arrays", "fill", "([II)V"⟩ : MethodName)) (argsL := [(.ref b10), (.int (-1 : Int32))]) (rest := []) (W := 0) hown (ow hw 43 rfl) (ow hw 44 rfl) (ow hw 45 rfl) (ow hw 46 rfl) (by decide) e19 (rmaf l Z a0 hw [] b10 (-1 : Int32) (fun _ => (.int (0 : Int32))) h18 n0 Zs V_b10 g_b10) (by decide) (by decide) (by decide) (by decide) rfl (by rw [hml]; rfl) (lenOf own_pd2 rfl) rfl (by show 2 * 0 + _ ≤ _; exact Nat.le_of_eq rfl) (hb hby d3_113) ?_
    rintro T20 L20 _ X20 ⟨rfl, N20q, Kq20, Vq20⟩
    have N20 := Fr.app N18 N20q
    show own_Wp _ _ _ _ (T20.setTop (mkF m 116 #[rv a1, rv a2, iv p3, iv p4, iv p5, iv p6, iv (Int32.ofNat n), uu, uu, uu] []))
    replace Zs := Nat.le_trans Zs Kq20.1
    replace K0 := K0.trans Kq20 (allS (P := fun z => z ∈ _ ∨ _ ≤ z) (Or.inr sz_b10) all0)
    replace E_a1 := E_a1.keep Kq20
    replace F_bound := F_bound.keep Kq20 (ninS ne_a1_b10 nin0)
    replace F_headBound := F_headBound.keep Kq20 (ninS ne_a1_b10 nin0)
    replace F_levels := F_levels.keep Kq20 (ninS ne_a1_b10 nin0)
    replace F_columns := F_columns.keep Kq20 (ninS ne_a1_b10 nin0)
    replace F_lastColumn := F_lastColumn.keep Kq20 (ninS ne_a1_b10 nin0)
    replace F_outsideHead := F_outsideHead.keep Kq20 (ninS ne_a1_b10 nin0)
    replace F_codePoints := F_codePoints.keep Kq20 (ninS ne_a1_b10 nin0)
    replace F_columnsOf := F_columnsOf.keep Kq20 (ninS ne_a1_b10 nin0)
    replace F_rows := F_rows.keep Kq20 (ninS ne_a1_b10 nin0)
    replace F_matches := F_matches.keep Kq20 (ninS ne_a1_b10 nin0)
    replace V_a2 := V_a2.keep Kq20 (ninS ne_a2_b10 nin0)
    replace V_b12 := V_b12.keep Kq20 (ninS (Ne.symm ne_b10_b12) nin0)
    replace V_b15 := V_b15.keep Kq20 (ninS (Ne.symm ne_b10_b15) nin0)
    replace V_b17 := V_b17.keep Kq20 (ninS (Ne.symm ne_b10_b17) nin0)
    have V_b10 := Vq20.fn (f' := fun k => .int (CP 0 k)) (fun k hk => congrArg Value.int (hcp0 k).symm)
    replace V_b12 := V_b12.fn (f' := fun k => .long (CO 0 k)) (fun k hk => congrArg Value.long (hco0 k).symm)
    refine own_of (fun tgt kon => XS.iconst X20.here hx rfl (hb hby d3_116) kon) ?_
    refine own_of (fun tgt kon => XS.istore X20.here hx rfl (hb hby d3_117) rfl (l' := #[rv a1, rv a2, iv p3, iv p4, iv p5, iv p6, iv (Int32.ofNat n), iv (1 : Int32), uu, uu]) rfl kon) ?_
    show own_Wp _ _ _ _ (T20.setTop (mkF m 119 #[rv a1, rv a2, iv p3, iv p4, iv p5, iv p6, iv (Int32.ofNat n), iv (1 : Int32), uu, uu] []))
    rw [show (1 : Int32) = Int32.ofNat (0 + 1) from rfl]
    show own_Wp _ _ _ _ (T20.setTop (mkF m 119 #[rv a1, rv a2, iv p3, iv p4, iv p5, iv p6, iv (Int32.ofNat n), iv (Int32.ofNat (0 + 1)), uu, uu] []))
    have J119 : ∀ (nn : Nat) (T21 : State) (lc21 : List Loc) (h21 : Heap) (jj : Nat) (u8 : Slot), (Stand p l e ({ frames := 1, cells := 4, slots := 516, locals := 15 } : Room) s m #[(.ref a1), (.ref a2), (.int p3), (.int p4), (.int p5), (.int p6)] below meth c T21 lc21 4 516) → (T21.heap = h21) → (Fr n0 lc21) → (n0 ≤ h21.size) → (Keep h0 h21 [a1]) → (Exa Z h21 a1 "com/example/close_words/closewords/BitRows") → (Fld Z h21 a1 "com/example/close_words/closewords/BitRows" "bound" "I" (.int p3)) → (Fld Z h21 a1 "com/example/close_words/closewords/BitRows" "headBound" "I" (.int p5)) → (Fld Z h21 a1 "com/example/close_words/closewords/BitRows" "levels" "I" (.int (p3 + (1 : Int32)))) → (Fld Z h21 a1 "com/example/close_words/closewords/BitRows" "columns" "J" (.long (own_upTo (Int32.ofNat n)))) → (Fld Z h21 a1 "com/example/close_words/closewords/BitRows" "lastColumn" "J" (.long ((1 : Int64) <<< ((Int32.ofNat n) &&& 0x3f).toInt64))) → (Fld Z h21 a1 "com/example/close_words/closewords/BitRows" "outsideHead" "J" (.long out)) → (Fld Z h21 a1 "com/example/close_words/closewords/BitRows" "codePoints" "[I" (.ref b10)) → (Fld Z h21 a1 "com/example/close_words/closewords/BitRows" "columnsOf" "[J" (.ref b12)) → (Fld Z h21 a1 "com/example/close_words/closewords/BitRows" "rows" "[J" (.ref b15)) → (Fld Z h21 a1 "com/example/close_words/closewords/BitRows" "matches" "[J" (.ref b17)) → (own_Ar Z h21 a2 .int n (fun k => .int (tx k))) → (own_Ar Z h21 b12 .long 128 (fun k => .long (CO jj k))) → (own_Ar Z h21 b15 .long RL (fun _ => (.long (0 : Int64)))) → (own_Ar Z h21 b17 .long (dp + 1) (fun _ => (.long (0 : Int64)))) → (own_Ar Z h21 b10 .int 128 (fun k => .int (CP jj k))) → (jj ≤ n) → (u8 = uu ∨ ∃ z, u8 = iv z) → (n - jj < nn) → own_Wp p.tables e below (own_K ({ frames := 1, cells := 4, slots := 516, locals := 15 } : Room) s below (Q_rmctn Z a1 a2 p3 p4 p5 p6 tx n bd ph dp RL CP CO RF h0 n0)) (T21.setTop (mkF m 119 #[rv a1, rv a2, iv p3, iv p4, iv p5, iv p6, iv (Int32.ofNat n), iv (Int32.ofNat (jj + 1)), u8, uu] [])) := by
      clear K0 E_a1 F_bound F_headBound F_levels F_columns F_lastColumn F_outsideHead F_codePoints F_columnsOf F_rows F_matches V_a2 V_b12 V_b15 V_b17 V_b10 Zs
      intro nn
      induction nn with
      | zero => intro T21 lc21 h21 jj u8 X21 e21 N21 Zs K0 E_a1 F_bound F_headBound F_levels F_columns F_lastColumn F_outsideHead F_codePoints F_columnsOf F_rows F_matches V_a2 V_b12 V_b15 V_b17 V_b10 hjj hu8 hmu; exact absurd hmu (Nat.not_lt_zero _)
      | succ nn ih =>
        skip
        intro T21 lc21 h21 jj u8 X21 e21 N21 Zs K0 E_a1 F_bound F_headBound F_levels F_columns F_lastColumn F_outsideHead F_codePoints F_columnsOf F_rows F_matches V_a2 V_b12 V_b15 V_b17 V_b10 hjj hu8 hmu
        refine own_of (fun tgt kon => XS.iload X21.here hx rfl (hb hby d3_119) rfl kon) ?_
        refine own_of (fun tgt kon => XS.iload X21.here hx rfl (hb hby d3_121) rfl kon) ?_
        by_cases hc123 : (Int32.ofNat n) < (Int32.ofNat (jj + 1))
        · skip
          refine own_of (fun tgt kon => XS.icmpYes X21.here hx rfl (pc0 := 123) (pc' := 171) rfl (hb hby d3_123) rfl (tlt hc123).2.2.1 (by decide) (by decide) kon) ?_
          show own_Wp _ _ _ _ (T21.setTop (mkF m 171 #[rv a1, rv a2, iv p3, iv p4, iv p5, iv p6, iv (Int32.ofNat n), iv (Int32.ofNat (jj + 1)), u8, uu] []))
          have hje : jj = n := by
            have q := hc123
            rw [Int32.lt_iff_toInt_lt, own_ofN (by omega), own_ofN (by omega)] at q
            omega
          rw [hje] at V_b10 V_b12
          clear hmu ih hc123 hjj hje
          refine own_of (fun tgt kon => XS.iconst X21.here hx rfl (hb hby d3_171) kon) ?_
          refine own_of (fun tgt kon => XS.istore X21.here hx rfl (hb hby d3_172) rfl (l' := #[rv a1, rv a2, iv p3, iv p4, iv p5, iv p6, iv (Int32.ofNat n), iv (0 : Int32), u8, uu]) rfl kon) ?_
          show own_Wp _ _ _ _ (T21.setTop (mkF m 174 #[rv a1, rv a2, iv p3, iv p4, iv p5, iv p6, iv (Int32.ofNat n), iv (0 : Int32), u8, uu] []))
          replace V_b15 := V_b15.fn (f' := fun y => .long (own_r0k n ph out 0 y)) (fun y hy => by unfold own_r0k; rw [if_neg (by omega)])
          rw [show (0 : Int32) = Int32.ofNat 0 from rfl]
          show own_Wp _ _ _ _ (T21.setTop (mkF m 174 #[rv a1, rv a2, iv p3, iv p4, iv p5, iv p6, iv (Int32.ofNat n), iv (Int32.ofNat 0), u8, uu] []))
          have J174 : ∀ (nn : Nat) (T22 : State) (lc22 : List Loc) (h22 : Heap) (k : Nat) (w8 : Slot) (w9 : Slot), (Stand p l e ({ frames := 1, cells := 4, slots := 516, locals := 15 } : Room) s m #[(.ref a1), (.ref a2), (.int p3), (.int p4), (.int p5), (.int p6)] below meth c T22 lc22 4 516) → (T22.heap = h22) → (Fr n0 lc22) → (n0 ≤ h22.size) → (Keep h0 h22 [a1]) → (Exa Z h22 a1 "com/example/close_words/closewords/BitRows") → (Fld Z h22 a1 "com/example/close_words/closewords/BitRows" "bound" "I" (.int p3)) → (Fld Z h22 a1 "com/example/close_words/closewords/BitRows" "headBound" "I" (.int p5)) → (Fld Z h22 a1 "com/example/close_words/closewords/BitRows" "levels" "I" (.int (p3 + (1 : Int32)))) → (Fld Z h22 a1 "com/example/close_words/closewords/BitRows" "columns" "J" (.long (own_upTo (Int32.ofNat n)))) → (Fld Z h22 a1 "com/example/close_words/closewords/BitRows" "lastColumn" "J" (.long ((1 : Int64) <<< ((Int32.ofNat n) &&& 0x3f).toInt64))) → (Fld Z h22 a1 "com/example/close_words/closewords/BitRows" "outsideHead" "J" (.long out)) → (Fld Z h22 a1 "com/example/close_words/closewords/BitRows" "codePoints" "[I" (.ref b10)) → (Fld Z h22 a1 "com/example/close_words/closewords/BitRows" "columnsOf" "[J" (.ref b12)) → (Fld Z h22 a1 "com/example/close_words/closewords/BitRows" "rows" "[J" (.ref b15)) → (Fld Z h22 a1 "com/example/close_words/closewords/BitRows" "matches" "[J" (.ref b17)) → (own_Ar Z h22 a2 .int n (fun k => .int (tx k))) → (own_Ar Z h22 b12 .long 128 (fun k => .long (CO n k))) → (own_Ar Z h22 b15 .long RL (fun y => .long (own_r0k n ph out k y))) → (own_Ar Z h22 b17 .long (dp + 1) (fun _ => (.long (0 : Int64)))) → (own_Ar Z h22 b10 .int 128 (fun k => .int (CP n k))) → (k ≤ bd + 1) → (((w8 = uu ∨ ∃ z, w8 = iv z) ∧ w9 = uu) ∨ ∃ z, w8 = jv z ∧ w9 = ss) → (bd + 1 - k < nn) → own_Wp p.tables e below (own_K ({ frames := 1, cells := 4, slots := 516, locals := 15 } : Room) s below (Q_rmctn Z a1 a2 p3 p4 p5 p6 tx n bd ph dp RL CP CO RF h0 n0)) (T22.setTop (mkF m 174 #[rv a1, rv a2, iv p3, iv p4, iv p5, iv p6, iv (Int32.ofNat n), iv (Int32.ofNat k), w8, w9] [])) := by
            clear K0 E_a1 F_bound F_headBound F_levels F_columns F_lastColumn F_outsideHead F_codePoints F_columnsOf F_rows F_matches V_a2 V_b12 V_b15 V_b17 V_b10 Zs
            intro nn
            induction nn with
            | zero => intro T22 lc22 h22 k w8 w9 X22 e22 N22 Zs K0 E_a1 F_bound F_headBound F_levels F_columns F_lastColumn F_outsideHead F_codePoints F_columnsOf F_rows F_matches V_a2 V_b12 V_b15 V_b17 V_b10 hk hw8 hmu; exact absurd hmu (Nat.not_lt_zero _)
            | succ nn ih =>
              skip
              intro T22 lc22 h22 k w8 w9 X22 e22 N22 Zs K0 E_a1 F_bound F_headBound F_levels F_columns F_lastColumn F_outsideHead F_codePoints F_columnsOf F_rows F_matches V_a2 V_b12 V_b15 V_b17 V_b10 hk hw8 hmu
              refine own_of (fun tgt kon => XS.iload X22.here hx rfl (hb hby d3_174) rfl kon) ?_
              refine own_of (fun tgt kon => XS.iloadN X22.here hx rfl (hb hby d3_176) rfl kon) ?_
              by_cases hc177 : p3 < (Int32.ofNat k)
              · skip
                refine own_of (fun tgt kon => XS.icmpYes X22.here hx rfl (pc0 := 177) (pc' := 232) rfl (hb hby d3_177) rfl (tlt hc177).2.2.1 (by decide) (by decide) kon) ?_
                show own_Wp _ _ _ _ (T22.setTop (mkF m 232 #[rv a1, rv a2, iv p3, iv p4, iv p5, iv p6, iv (Int32.ofNat n), iv (Int32.ofNat k), w8, w9] []))
                refine own_ret X22 hlk none (fun _ => rfl) (fun fs hr => X22.returnOut hx hrt (hb hby d3_232) hr) ?_ (by decide) (by decide)
                rw [e22]
                have hge : ¬ k < bd + 1 := by
                  intro q
                  have q2 := hc177
                  rw [Int32.lt_iff_toInt_lt, hbd, own_ofN (by omega)] at q2
                  omega
                obtain rfl : k = bd + 1 := by omega
                exact ⟨rfl, N22, K0, E_a1, b10, b12, b15, b17, g_b10, g_b12, g_b15, g_b17, ne_a1_b15, ne_a1_b17, ne_b10_b15, ne_b10_b17, ne_b12_b15, ne_b12_b17, (Ne.symm ne_b15_b17), F_bound, F_headBound, F_levels, F_columns, F_lastColumn, h_out ▸ F_outsideHead, F_codePoints, F_columnsOf, F_rows, F_matches, V_b10, V_b12, h_out ▸ V_b15, V_b17⟩
              · skip
                refine own_of (fun tgt kon => XS.icmpNo X22.here hx rfl (hb hby d3_177) rfl (flt hc177).2.2.1 kon) ?_
                show own_Wp _ _ _ _ (T22.setTop (mkF m 180 #[rv a1, rv a2, iv p3, iv p4, iv p5, iv p6, iv (Int32.ofNat n), iv (Int32.ofNat k), w8, w9] []))
                have hlt : k < bd + 1 := by
                  have q := hc177
                  rw [Int32.lt_iff_toInt_lt, hbd, own_ofN (by omega)] at q
                  omega
                refine own_of (fun tgt kon => XS.iload X22.here hx rfl (hb hby d3_180) rfl kon) ?_
                refine own_of (fun tgt kon => XS.iload X22.here hx rfl (hb hby d3_182) rfl kon) ?_
                refine own_callS X22 hx hZ (y := (⟨"java/lang/Math", "min", "(II)I"⟩ : MethodName)) (argsL := [(.int (Int32.ofNat k)), (.int (Int32.ofNat n))]) (rest := []) (W := 0) hown (ow hw 47 rfl) (ow hw 6 rfl) (ow hw 7 rfl) (ow hw 8 rfl) (by decide) e22 (rmmin l Z a0 hw [] (Int32.ofNat k) (Int32.ofNat n) h22 n0 Zs) (by decide) (by decide) (by decide) (by decide) rfl (by rw [hml]; rfl) (lenOf own_pd3 rfl) rfl (by show 2 * 0 + _ ≤ _; exact Nat.le_of_eq rfl) (hb hby d3_184) ?_
                rintro T23 L23 _ X23 ⟨rfl, N23q, e23⟩
                have N23 := Fr.app N22 N23q
                show own_Wp _ _ _ _ (T23.setTop (mkF m 187 #[rv a1, rv a2, iv p3, iv p4, iv p5, iv p6, iv (Int32.ofNat n), iv (Int32.ofNat k), w8, w9] [(.int (own_mni (Int32.ofNat k) (Int32.ofNat n)))]))
                refine own_callS X23 hx hZ (y := (⟨"com/example/close_words/closewords/BitRows", "upTo", "(I)J"⟩ : MethodName)) (argsL := [(.int (own_mni (Int32.ofNat k) (Int32.ofNat n)))]) (rest := []) (W := 0) hown (ow hw 24 rfl) (ow hw 25 rfl) (ow hw 11 rfl) (ow hw 26 rfl) (by decide) e23 (rmup l Z a0 hw [] (own_mni (Int32.ofNat k) (Int32.ofNat n)) h22 n0 Zs) (by decide) (by decide) (by decide) (by decide) rfl (by rw [hml]; rfl) (lenOf own_pd1 rfl) rfl (by show 2 * 0 + _ ≤ _; exact Nat.le_of_eq rfl) (hb hby d3_187) ?_
                rintro T24 L24 _ X24 ⟨rfl, N24q, e24⟩
                have N24 := Fr.app N23 N24q
                show own_Wp _ _ _ _ (T24.setTop (mkF m 190 #[rv a1, rv a2, iv p3, iv p4, iv p5, iv p6, iv (Int32.ofNat n), iv (Int32.ofNat k), w8, w9] [(.long (own_upTo (own_mni (Int32.ofNat k) (Int32.ofNat n))))]))
                refine own_of (fun tgt kon => XS.lstore X24.here hx rfl (hb hby d3_190) rfl (l' := #[rv a1, rv a2, iv p3, iv p4, iv p5, iv p6, iv (Int32.ofNat n), iv (Int32.ofNat k), jv (own_upTo (own_mni (Int32.ofNat k) (Int32.ofNat n))), ss]) (by rcases hw8 with ⟨rfl | ⟨z, rfl⟩, rfl⟩ | ⟨z, rfl, rfl⟩ <;> rfl) kon) ?_
                show own_Wp _ _ _ _ (T24.setTop (mkF m 192 #[rv a1, rv a2, iv p3, iv p4, iv p5, iv p6, iv (Int32.ofNat n), iv (Int32.ofNat k), jv (own_upTo (own_mni (Int32.ofNat k) (Int32.ofNat n))), ss] []))
                show own_Wp _ _ _ _ (T24.setTop (mkF m 192 #[rv a1, rv a2, iv p3, iv p4, iv p5, iv p6, iv (Int32.ofNat n), iv (Int32.ofNat k), jv (own_rc n k), ss] []))
                refine own_of (fun tgt kon => XS.aloadN X24.here hx rfl (hb hby d3_192) rfl rfl kon) ?_
                obtain ⟨T25, X25, e25, st25⟩ := getF X24 hx hZ hown (host := "") (Or.inl (ow hw 39 rfl)) Via.refl e24 F_rows (g := (mkF m 193 #[rv a1, rv a2, iv p3, iv p4, iv p5, iv p6, iv (Int32.ofNat n), iv (Int32.ofNat k), jv (own_rc n k), ss] [(.ref a1)])) rfl rfl (hb hby d3_193)
                refine own_of st25 ?_
                clear st25
                refine own_of (fun tgt kon => XS.iload X25.here hx rfl (hb hby d3_196) rfl kon) ?_
                refine own_of (fun tgt kon => XS.iload X25.here hx rfl (hb hby d3_198) rfl kon) ?_
                refine own_of (fun tgt kon => XS.iload X25.here hx rfl (hb hby d3_200) rfl kon) ?_
                show own_Wp _ _ _ _ (T25.setTop (mkF m 202 #[rv a1, rv a2, iv p3, iv p4, iv p5, iv p6, iv (Int32.ofNat n), iv (Int32.ofNat k), jv (own_rc n k), ss] [(.int p5), (.int (Int32.ofNat k)), (.int (Int32.ofNat k)), (.ref b15)]))
                by_cases hc202 : p5 < (Int32.ofNat k)
                · skip
                  refine own_of (fun tgt kon => XS.icmpNo X25.here hx rfl (hb hby d3_202) rfl (tlt hc202).2.2.2 kon) ?_
                  show own_Wp _ _ _ _ (T25.setTop (mkF m 205 #[rv a1, rv a2, iv p3, iv p4, iv p5, iv p6, iv (Int32.ofNat n), iv (Int32.ofNat k), jv (own_rc n k), ss] [(.int (Int32.ofNat k)), (.ref b15)]))
                  have hlb : ph < k := by
                    have q := hc202
                    rw [Int32.lt_iff_toInt_lt, hhb, own_ofN (by omega)] at q
                    omega
                  refine own_of (fun tgt kon => XS.lload X25.here hx rfl (hb hby d3_205) rfl kon) ?_
                  refine own_of (fun tgt kon => XS.aloadN X25.here hx rfl (hb hby d3_207) rfl rfl kon) ?_
                  obtain ⟨T26, X26, e26, st26⟩ := getF X25 hx hZ hown (host := "") (Or.inl (ow hw 39 rfl)) Via.refl e25 F_rows (g := (mkF m 208 #[rv a1, rv a2, iv p3, iv p4, iv p5, iv p6, iv (Int32.ofNat n), iv (Int32.ofNat k), jv (own_rc n k), ss] [(.ref a1), (.long (own_rc n k)), (.int (Int32.ofNat k)), (.ref b15)])) rfl rfl (hb hby d3_208)
                  refine own_of st26 ?_
                  clear st26
                  refine own_of (fun tgt kon => XS.iload X26.here hx rfl (hb hby d3_211) rfl kon) ?_
                  refine own_laload X26 hx hZ e26 V_b15 (j := p5) (i := ph) (v := (own_R0 n ph out ph)) hhb (by omega) (by show Value.long (own_r0k _ _ _ _ _) = _; unfold own_r0k; rw [if_pos hlb]) rfl rfl (hb hby d3_213) ?_
                  show own_Wp _ _ _ _ (T26.setTop (mkF m 214 #[rv a1, rv a2, iv p3, iv p4, iv p5, iv p6, iv (Int32.ofNat n), iv (Int32.ofNat k), jv (own_rc n k), ss] [(.long (own_R0 n ph out ph)), (.long (own_rc n k)), (.int (Int32.ofNat k)), (.ref b15)]))
                  refine own_of (fun tgt kon => XS.aloadN X26.here hx rfl (hb hby d3_214) rfl rfl kon) ?_
                  obtain ⟨T27, X27, e27, st27⟩ := getF X26 hx hZ hown (host := "") (Or.inl (ow hw 32 rfl)) Via.refl e26 F_outsideHead (g := (mkF m 215 #[rv a1, rv a2, iv p3, iv p4, iv p5, iv p6, iv (Int32.ofNat n), iv (Int32.ofNat k), jv (own_rc n k), ss] [(.ref a1), (.long (own_R0 n ph out ph)), (.long (own_rc n k)), (.int (Int32.ofNat k)), (.ref b15)])) rfl rfl (hb hby d3_215)
                  refine own_of st27 ?_
                  clear st27
                  refine own_of (fun tgt kon => XS.lor X27.here hx rfl (hb hby d3_218) rfl kon) ?_
                  refine own_of (fun tgt kon => XS.land X27.here hx rfl (hb hby d3_219) rfl kon) ?_
                  refine own_of (fun tgt kon => XS.goto X27.here hx rfl (pc0 := 220) (pc' := 225) rfl (hb hby d3_220) (by decide) (by decide) kon) ?_
                  show own_Wp _ _ _ _ (T27.setTop (mkF m 225 #[rv a1, rv a2, iv p3, iv p4, iv p5, iv p6, iv (Int32.ofNat n), iv (Int32.ofNat k), jv (own_rc n k), ss] [(.long ((own_rc n k) &&& ((own_R0 n ph out ph) ||| out))), (.int (Int32.ofNat k)), (.ref b15)]))
                  obtain ⟨T28, h28, X28, e28, W28, Aq28, st28⟩ := own_stJ X27 hx hZ e27 V_b15 (j := (Int32.ofNat k)) (i := k) (x := ((own_rc n k) &&& ((own_R0 n ph out ph) ||| out))) (own_ofN (by omega)) (by omega) (g := (mkF m 225 #[rv a1, rv a2, iv p3, iv p4, iv p5, iv p6, iv (Int32.ofNat n), iv (Int32.ofNat k), jv (own_rc n k), ss] [(.long ((own_rc n k) &&& ((own_R0 n ph out ph) ||| out))), (.int (Int32.ofNat k)), (.ref b15)])) rfl rfl (hb hby d3_225)
                  refine own_of st28 ?_
                  clear st28
                  replace Zs := Nat.le_trans Zs (Keep.of_wr W28).1
                  replace K0 := K0.wr W28 (Or.inr sz_b15)
                  replace E_a1 := E_a1.wr W28
                  replace F_bound := F_bound.other W28 (Or.inl ne_a1_b15)
                  replace F_headBound := F_headBound.other W28 (Or.inl ne_a1_b15)
                  replace F_levels := F_levels.other W28 (Or.inl ne_a1_b15)
                  replace F_columns := F_columns.other W28 (Or.inl ne_a1_b15)
                  replace F_lastColumn := F_lastColumn.other W28 (Or.inl ne_a1_b15)
                  replace F_outsideHead := F_outsideHead.other W28 (Or.inl ne_a1_b15)
                  replace F_codePoints := F_codePoints.other W28 (Or.inl ne_a1_b15)
                  replace F_columnsOf := F_columnsOf.other W28 (Or.inl ne_a1_b15)
                  replace F_rows := F_rows.other W28 (Or.inl ne_a1_b15)
                  replace F_matches := F_matches.other W28 (Or.inl ne_a1_b15)
                  replace V_a2 := V_a2.other W28 ne_a2_b15
                  replace V_b12 := V_b12.other W28 ne_b12_b15
                  replace V_b17 := V_b17.other W28 (Ne.symm ne_b15_b17)
                  replace V_b10 := V_b10.other W28 ne_b10_b15
                  replace V_b15 := Aq28
                  clear Aq28
                  have hst : ((own_rc n k) &&& ((own_R0 n ph out ph) ||| out)) = own_R0 n ph out k := by
                    rw [show own_R0 n ph out ph = own_rc n ph from if_neg (by omega)]
                    exact (if_pos hlb).symm
                  rw [hst] at V_b15
                  have V_b15 := V_b15.fn (f' := fun y => .long (own_r0k n ph out (k + 1) y)) (fun y hy => (own_setJ _ _ _ y).trans (congrArg Value.long (own_setR0 n ph out k y)))
                  have N28 := Fr.snoc X28 N24 g_b15
                  refine own_of (fun tgt kon => XS.iinc X28.here hx rfl (hb hby d3_226) rfl (l' := #[rv a1, rv a2, iv p3, iv p4, iv p5, iv p6, iv (Int32.ofNat n), iv ((Int32.ofNat k) + (1 : Int32)), jv (own_rc n k), ss]) rfl kon) ?_
                  refine own_of (fun tgt kon => XS.goto X28.here hx rfl (pc0 := 229) (pc' := 174) rfl (hb hby d3_229) (by decide) (by decide) kon) ?_
                  show own_Wp _ _ _ _ (T28.setTop (mkF m 174 #[rv a1, rv a2, iv p3, iv p4, iv p5, iv p6, iv (Int32.ofNat n), iv ((Int32.ofNat k) + (1 : Int32)), jv (own_rc n k), ss] []))
                  rw [own_succ]
                  show own_Wp _ _ _ _ (T28.setTop (mkF m 174 #[rv a1, rv a2, iv p3, iv p4, iv p5, iv p6, iv (Int32.ofNat n), iv (Int32.ofNat (k + 1)), jv (own_rc n k), ss] []))
                  exact ih T28 _ _ (k + 1) (jv (own_rc n k)) (ss) X28 e28 N28 Zs K0 E_a1 F_bound F_headBound F_levels F_columns F_lastColumn F_outsideHead F_codePoints F_columnsOf F_rows F_matches V_a2 V_b12 V_b15 V_b17 V_b10 (by omega) (by exact Or.inr ⟨_, rfl, rfl⟩) (by omega)
                · skip
                  refine own_of (fun tgt kon => XS.icmpYes X25.here hx rfl (pc0 := 202) (pc' := 223) rfl (hb hby d3_202) rfl (flt hc202).2.2.2 (by decide) (by decide) kon) ?_
                  refine own_of (fun tgt kon => XS.lload X25.here hx rfl (hb hby d3_223) rfl kon) ?_
                  obtain ⟨T29, h29, X29, e29, W29, Aq29, st29⟩ := own_stJ X25 hx hZ e25 V_b15 (j := (Int32.ofNat k)) (i := k) (x := (own_rc n k)) (own_ofN (by omega)) (by omega) (g := (mkF m 225 #[rv a1, rv a2, iv p3, iv p4, iv p5, iv p6, iv (Int32.ofNat n), iv (Int32.ofNat k), jv (own_rc n k), ss] [(.long (own_rc n k)), (.int (Int32.ofNat k)), (.ref b15)])) rfl rfl (hb hby d3_225)
                  refine own_of st29 ?_
                  clear st29
                  replace Zs := Nat.le_trans Zs (Keep.of_wr W29).1
                  replace K0 := K0.wr W29 (Or.inr sz_b15)
                  replace E_a1 := E_a1.wr W29
                  replace F_bound := F_bound.other W29 (Or.inl ne_a1_b15)
                  replace F_headBound := F_headBound.other W29 (Or.inl ne_a1_b15)
                  replace F_levels := F_levels.other W29 (Or.inl ne_a1_b15)
                  replace F_columns := F_columns.other W29 (Or.inl ne_a1_b15)
                  replace F_lastColumn := F_lastColumn.other W29 (Or.inl ne_a1_b15)
                  replace F_outsideHead := F_outsideHead.other W29 (Or.inl ne_a1_b15)
                  replace F_codePoints := F_codePoints.other W29 (Or.inl ne_a1_b15)
                  replace F_columnsOf := F_columnsOf.other W29 (Or.inl ne_a1_b15)
                  replace F_rows := F_rows.other W29 (Or.inl ne_a1_b15)
                  replace F_matches := F_matches.other W29 (Or.inl ne_a1_b15)
                  replace V_a2 := V_a2.other W29 ne_a2_b15
                  replace V_b12 := V_b12.other W29 ne_b12_b15
                  replace V_b17 := V_b17.other W29 (Ne.symm ne_b15_b17)
                  replace V_b10 := V_b10.other W29 ne_b10_b15
                  replace V_b15 := Aq29
                  clear Aq29
                  have hst : (own_rc n k) = own_R0 n ph out k := (if_neg (by
                    intro q
                    apply hc202
                    rw [Int32.lt_iff_toInt_lt, hhb, own_ofN (by omega)]
                    omega)).symm
                  rw [hst] at V_b15
                  have V_b15 := V_b15.fn (f' := fun y => .long (own_r0k n ph out (k + 1) y)) (fun y hy => (own_setJ _ _ _ y).trans (congrArg Value.long (own_setR0 n ph out k y)))
                  have N29 := Fr.snoc X29 N24 g_b15
                  refine own_of (fun tgt kon => XS.iinc X29.here hx rfl (hb hby d3_226) rfl (l' := #[rv a1, rv a2, iv p3, iv p4, iv p5, iv p6, iv (Int32.ofNat n), iv ((Int32.ofNat k) + (1 : Int32)), jv (own_rc n k), ss]) rfl kon) ?_
                  refine own_of (fun tgt kon => XS.goto X29.here hx rfl (pc0 := 229) (pc' := 174) rfl (hb hby d3_229) (by decide) (by decide) kon) ?_
                  show own_Wp _ _ _ _ (T29.setTop (mkF m 174 #[rv a1, rv a2, iv p3, iv p4, iv p5, iv p6, iv (Int32.ofNat n), iv ((Int32.ofNat k) + (1 : Int32)), jv (own_rc n k), ss] []))
                  rw [own_succ]
                  show own_Wp _ _ _ _ (T29.setTop (mkF m 174 #[rv a1, rv a2, iv p3, iv p4, iv p5, iv p6, iv (Int32.ofNat n), iv (Int32.ofNat (k + 1)), jv (own_rc n k), ss] []))
                  exact ih T29 _ _ (k + 1) (jv (own_rc n k)) (ss) X29 e29 N29 Zs K0 E_a1 F_bound F_headBound F_levels F_columns F_lastColumn F_outsideHead F_codePoints F_columnsOf F_rows F_matches V_a2 V_b12 V_b15 V_b17 V_b10 (by omega) (by exact Or.inr ⟨_, rfl, rfl⟩) (by omega)
          show own_Wp _ _ _ _ (T21.setTop (mkF m 174 #[rv a1, rv a2, iv p3, iv p4, iv p5, iv p6, iv (Int32.ofNat n), iv (Int32.ofNat 0), u8, uu] []))
          exact J174 _ T21 _ _ (0) (u8) (uu) X21 e21 N21 Zs K0 E_a1 F_bound F_headBound F_levels F_columns F_lastColumn F_outsideHead F_codePoints F_columnsOf F_rows F_matches V_a2 V_b12 V_b15 V_b17 V_b10 (by omega) (by exact Or.inl ⟨hu8, rfl⟩) (Nat.lt_succ_self _)
        · skip
          refine own_of (fun tgt kon => XS.icmpNo X21.here hx rfl (hb hby d3_123) rfl (flt hc123).2.2.1 kon) ?_
          show own_Wp _ _ _ _ (T21.setTop (mkF m 126 #[rv a1, rv a2, iv p3, iv p4, iv p5, iv p6, iv (Int32.ofNat n), iv (Int32.ofNat (jj + 1)), u8, uu] []))
          have hjn : jj < n := by
            have q := hc123
            rw [Int32.lt_iff_toInt_lt, own_ofN (by omega), own_ofN (by omega)] at q
            omega
          have hRj := hR jj hjn
          have hokj := hok jj hjn
          have hcpj := hcp jj hjn
          have hcoj := hco jj hjn
          refine own_of (fun tgt kon => XS.aloadN X21.here hx rfl (hb hby d3_126) rfl rfl kon) ?_
          refine own_of (fun tgt kon => XS.aloadN X21.here hx rfl (hb hby d3_127) rfl rfl kon) ?_
          refine own_of (fun tgt kon => XS.iload X21.here hx rfl (hb hby d3_128) rfl kon) ?_
          refine own_of (fun tgt kon => XS.iconst X21.here hx rfl (hb hby d3_130) kon) ?_
          refine own_of (fun tgt kon => XS.isub X21.here hx rfl (hb hby d3_131) rfl kon) ?_
          show own_Wp _ _ _ _ (T21.setTop (mkF m 132 #[rv a1, rv a2, iv p3, iv p4, iv p5, iv p6, iv (Int32.ofNat n), iv (Int32.ofNat (jj + 1)), u8, uu] [(.int ((Int32.ofNat (jj + 1)) - (1 : Int32))), (.ref a2), (.ref a1)]))
          refine own_iaload X21 hx hZ e21 V_a2 (j := ((Int32.ofNat (jj + 1)) - (1 : Int32))) (i := jj) (v := (tx jj)) (by have q := own_subI (own_ofN (k := jj + 1) (by omega)) (show (1 : Int32).toInt = 1 from by decide) (by omega) (by omega); omega) hjn rfl rfl rfl (hb hby d3_132) ?_
          refine own_callP X21 hx hZ (y := (⟨"com/example/close_words/closewords/BitRows", "slot", "(I)I"⟩ : MethodName)) (a := a1) (argsL := [(.int (tx jj))]) (rest := []) (W := 0) hown (ow hw 64 rfl) (ow hw 65 rfl) (ow hw 10 rfl) (ow hw 66 rfl) (ow hw 11 rfl) (ow hw 67 rfl) (by decide) e21 E_a1 (rmslot l Z a0 hw [] a1 (tx jj) b10 (CP jj) (RF jj) (Int32.ofNat (RF jj)) h21 n0 Zs E_a1 F_codePoints V_b10 hRj hokj.1 (own_ofN (by have := hokj.2; omega))) (by decide) (by decide) (by decide) (by decide) rfl (by rw [hml]; rfl) (lenOf own_pd0 rfl) rfl (by show 2 * 0 + _ ≤ _; exact Nat.le_of_eq rfl) (hb hby d3_133) ?_
          rintro T30 L30 _ X30 ⟨rfl, N30q, e30⟩
          have N30 := Fr.app N21 N30q
          show own_Wp _ _ _ _ (T30.setTop (mkF m 136 #[rv a1, rv a2, iv p3, iv p4, iv p5, iv p6, iv (Int32.ofNat n), iv (Int32.ofNat (jj + 1)), u8, uu] [(.int (Int32.ofNat (RF jj)))]))
          refine own_of (fun tgt kon => XS.istore X30.here hx rfl (hb hby d3_136) rfl (l' := #[rv a1, rv a2, iv p3, iv p4, iv p5, iv p6, iv (Int32.ofNat n), iv (Int32.ofNat (jj + 1)), iv (Int32.ofNat (RF jj)), uu]) (by rcases hu8 with rfl | ⟨z, rfl⟩ <;> rfl) kon) ?_
          refine own_of (fun tgt kon => XS.aloadN X30.here hx rfl (hb hby d3_138) rfl rfl kon) ?_
          obtain ⟨T31, X31, e31, st31⟩ := getF X30 hx hZ hown (host := "") (Or.inl (ow hw 34 rfl)) Via.refl e30 F_codePoints (g := (mkF m 139 #[rv a1, rv a2, iv p3, iv p4, iv p5, iv p6, iv (Int32.ofNat n), iv (Int32.ofNat (jj + 1)), iv (Int32.ofNat (RF jj)), uu] [(.ref a1)])) rfl rfl (hb hby d3_139)
          refine own_of st31 ?_
          clear st31
          refine own_of (fun tgt kon => XS.iload X31.here hx rfl (hb hby d3_142) rfl kon) ?_
          refine own_of (fun tgt kon => XS.aloadN X31.here hx rfl (hb hby d3_144) rfl rfl kon) ?_
          show own_Wp _ _ _ _ (T31.setTop (mkF m 145 #[rv a1, rv a2, iv p3, iv p4, iv p5, iv p6, iv (Int32.ofNat n), iv (Int32.ofNat (jj + 1)), iv (Int32.ofNat (RF jj)), uu] [(.ref a2), (.int (Int32.ofNat (RF jj))), (.ref b10)]))
          refine own_of (fun tgt kon => XS.iload X31.here hx rfl (hb hby d3_145) rfl kon) ?_
          refine own_of (fun tgt kon => XS.iconst X31.here hx rfl (hb hby d3_147) kon) ?_
          refine own_of (fun tgt kon => XS.isub X31.here hx rfl (hb hby d3_148) rfl kon) ?_
          refine own_iaload X31 hx hZ e31 V_a2 (j := ((Int32.ofNat (jj + 1)) - (1 : Int32))) (i := jj) (v := (tx jj)) (by have q := own_subI (own_ofN (k := jj + 1) (by omega)) (show (1 : Int32).toInt = 1 from by decide) (by omega) (by omega); omega) hjn rfl rfl rfl (hb hby d3_149) ?_
          obtain ⟨T32, h32, X32, e32, W32, Aq32, st32⟩ := own_stI X31 hx hZ e31 V_b10 (j := (Int32.ofNat (RF jj))) (i := (RF jj)) (x := (tx jj)) (own_ofN (by have := hokj.2; omega)) hokj.2 (g := (mkF m 150 #[rv a1, rv a2, iv p3, iv p4, iv p5, iv p6, iv (Int32.ofNat n), iv (Int32.ofNat (jj + 1)), iv (Int32.ofNat (RF jj)), uu] [(.int (tx jj)), (.int (Int32.ofNat (RF jj))), (.ref b10)])) rfl rfl (hb hby d3_150)
          refine own_of st32 ?_
          clear st32
          replace Zs := Nat.le_trans Zs (Keep.of_wr W32).1
          replace K0 := K0.wr W32 (Or.inr sz_b10)
          replace E_a1 := E_a1.wr W32
          replace F_bound := F_bound.other W32 (Or.inl ne_a1_b10)
          replace F_headBound := F_headBound.other W32 (Or.inl ne_a1_b10)
          replace F_levels := F_levels.other W32 (Or.inl ne_a1_b10)
          replace F_columns := F_columns.other W32 (Or.inl ne_a1_b10)
          replace F_lastColumn := F_lastColumn.other W32 (Or.inl ne_a1_b10)
          replace F_outsideHead := F_outsideHead.other W32 (Or.inl ne_a1_b10)
          replace F_codePoints := F_codePoints.other W32 (Or.inl ne_a1_b10)
          replace F_columnsOf := F_columnsOf.other W32 (Or.inl ne_a1_b10)
          replace F_rows := F_rows.other W32 (Or.inl ne_a1_b10)
          replace F_matches := F_matches.other W32 (Or.inl ne_a1_b10)
          replace V_a2 := V_a2.other W32 ne_a2_b10
          replace V_b12 := V_b12.other W32 (Ne.symm ne_b10_b12)
          replace V_b15 := V_b15.other W32 (Ne.symm ne_b10_b15)
          replace V_b17 := V_b17.other W32 (Ne.symm ne_b10_b17)
          replace V_b10 := Aq32
          clear Aq32
          replace V_b10 := V_b10.fn (f' := fun k => .int (CP (jj + 1) k)) (fun k hk => by rw [hcpj]; exact own_setI _ _ _ k)
          have N32 := Fr.snoc X32 N30 g_b10
          show own_Wp _ _ _ _ (T32.setTop (mkF m 151 #[rv a1, rv a2, iv p3, iv p4, iv p5, iv p6, iv (Int32.ofNat n), iv (Int32.ofNat (jj + 1)), iv (Int32.ofNat (RF jj)), uu] []))
          refine own_of (fun tgt kon => XS.aloadN X32.here hx rfl (hb hby d3_151) rfl rfl kon) ?_
          obtain ⟨T33, X33, e33, st33⟩ := getF X32 hx hZ hown (host := "") (Or.inl (ow hw 37 rfl)) Via.refl e32 F_columnsOf (g := (mkF m 152 #[rv a1, rv a2, iv p3, iv p4, iv p5, iv p6, iv (Int32.ofNat n), iv (Int32.ofNat (jj + 1)), iv (Int32.ofNat (RF jj)), uu] [(.ref a1)])) rfl rfl (hb hby d3_152)
          refine own_of st33 ?_
          clear st33
          refine own_of (fun tgt kon => XS.iload X33.here hx rfl (hb hby d3_155) rfl kon) ?_
          refine own_of (fun tgt kon => Jvm.Free.XT.dup2 X33.here hx rfl (hb hby d3_157) rfl rfl rfl kon) ?_
          refine own_laload X33 hx hZ e33 V_b12 (j := (Int32.ofNat (RF jj))) (i := (RF jj)) (v := (CO jj (RF jj))) (own_ofN (by have := hokj.2; omega)) hokj.2 rfl rfl rfl (hb hby d3_158) ?_
          show own_Wp _ _ _ _ (T33.setTop (mkF m 159 #[rv a1, rv a2, iv p3, iv p4, iv p5, iv p6, iv (Int32.ofNat n), iv (Int32.ofNat (jj + 1)), iv (Int32.ofNat (RF jj)), uu] [(.long (CO jj (RF jj))), (.int (Int32.ofNat (RF jj))), (.ref b12)]))
          refine own_of (fun tgt kon => XS.lconst X33.here hx rfl (hb hby d3_159) kon) ?_
          refine own_of (fun tgt kon => XS.iload X33.here hx rfl (hb hby d3_160) rfl kon) ?_
          refine own_of (fun tgt kon => XS.lshl X33.here hx rfl (hb hby d3_162) rfl kon) ?_
          refine own_of (fun tgt kon => XS.lor X33.here hx rfl (hb hby d3_163) rfl kon) ?_
          obtain ⟨T34, h34, X34, e34, W34, Aq34, st34⟩ := own_stJ X33 hx hZ e33 V_b12 (j := (Int32.ofNat (RF jj))) (i := (RF jj)) (x := ((CO jj (RF jj)) ||| ((1 : Int64) <<< ((Int32.ofNat (jj + 1)) &&& 0x3f).toInt64))) (own_ofN (by have := hokj.2; omega)) hokj.2 (g := (mkF m 164 #[rv a1, rv a2, iv p3, iv p4, iv p5, iv p6, iv (Int32.ofNat n), iv (Int32.ofNat (jj + 1)), iv (Int32.ofNat (RF jj)), uu] [(.long ((CO jj (RF jj)) ||| ((1 : Int64) <<< ((Int32.ofNat (jj + 1)) &&& 0x3f).toInt64))), (.int (Int32.ofNat (RF jj))), (.ref b12)])) rfl rfl (hb hby d3_164)
          refine own_of st34 ?_
          clear st34
          replace Zs := Nat.le_trans Zs (Keep.of_wr W34).1
          replace K0 := K0.wr W34 (Or.inr sz_b12)
          replace E_a1 := E_a1.wr W34
          replace F_bound := F_bound.other W34 (Or.inl ne_a1_b12)
          replace F_headBound := F_headBound.other W34 (Or.inl ne_a1_b12)
          replace F_levels := F_levels.other W34 (Or.inl ne_a1_b12)
          replace F_columns := F_columns.other W34 (Or.inl ne_a1_b12)
          replace F_lastColumn := F_lastColumn.other W34 (Or.inl ne_a1_b12)
          replace F_outsideHead := F_outsideHead.other W34 (Or.inl ne_a1_b12)
          replace F_codePoints := F_codePoints.other W34 (Or.inl ne_a1_b12)
          replace F_columnsOf := F_columnsOf.other W34 (Or.inl ne_a1_b12)
          replace F_rows := F_rows.other W34 (Or.inl ne_a1_b12)
          replace F_matches := F_matches.other W34 (Or.inl ne_a1_b12)
          replace V_a2 := V_a2.other W34 ne_a2_b12
          replace V_b15 := V_b15.other W34 (Ne.symm ne_b12_b15)
          replace V_b17 := V_b17.other W34 (Ne.symm ne_b12_b17)
          replace V_b10 := V_b10.other W34 ne_b10_b12
          replace V_b12 := Aq34
          clear Aq34
          replace V_b12 := V_b12.fn (f' := fun k => .long (CO (jj + 1) k)) (fun k hk => by rw [hcoj]; exact own_setJ _ _ _ k)
          have N34 := Fr.snoc X34 N32 g_b12
          show own_Wp _ _ _ _ (T34.setTop (mkF m 165 #[rv a1, rv a2, iv p3, iv p4, iv p5, iv p6, iv (Int32.ofNat n), iv (Int32.ofNat (jj + 1)), iv (Int32.ofNat (RF jj)), uu] []))
          refine own_of (fun tgt kon => XS.iinc X34.here hx rfl (hb hby d3_165) rfl (l' := #[rv a1, rv a2, iv p3, iv p4, iv p5, iv p6, iv (Int32.ofNat n), iv ((Int32.ofNat (jj + 1)) + (1 : Int32)), iv (Int32.ofNat (RF jj)), uu]) rfl kon) ?_
          refine own_of (fun tgt kon => XS.goto X34.here hx rfl (pc0 := 168) (pc' := 119) rfl (hb hby d3_168) (by decide) (by decide) kon) ?_
          show own_Wp _ _ _ _ (T34.setTop (mkF m 119 #[rv a1, rv a2, iv p3, iv p4, iv p5, iv p6, iv (Int32.ofNat n), iv ((Int32.ofNat (jj + 1)) + (1 : Int32)), iv (Int32.ofNat (RF jj)), uu] []))
          rw [own_succ]
          show own_Wp _ _ _ _ (T34.setTop (mkF m 119 #[rv a1, rv a2, iv p3, iv p4, iv p5, iv p6, iv (Int32.ofNat n), iv (Int32.ofNat (jj + 1 + 1)), iv (Int32.ofNat (RF jj)), uu] []))
          exact ih T34 _ _ (jj + 1) (iv (Int32.ofNat (RF jj))) X34 e34 N34 Zs K0 E_a1 F_bound F_headBound F_levels F_columns F_lastColumn F_outsideHead F_codePoints F_columnsOf F_rows F_matches V_a2 V_b12 V_b15 V_b17 V_b10 (by omega) (by exact Or.inr ⟨_, rfl⟩) (by omega)
    show own_Wp _ _ _ _ (T20.setTop (mkF m 119 #[rv a1, rv a2, iv p3, iv p4, iv p5, iv p6, iv (Int32.ofNat n), iv (Int32.ofNat (0 + 1)), uu, uu] []))
    exact J119 _ T20 _ _ (0) (uu) X20 rfl N20 Zs K0 E_a1 F_bound F_headBound F_levels F_columns F_lastColumn F_outsideHead F_codePoints F_columnsOf F_rows F_matches V_a2 V_b12 V_b15 V_b17 V_b10 (by omega) (by exact Or.inl rfl) (Nat.lt_succ_self _)
  show own_Wp _ _ _ _ (T7.setTop (mkF m 45 #[rv a1, rv a2, iv p3, iv p4, iv p5, iv p6, iv (Int32.ofNat n), uu, uu, uu] [(.int p4), (.ref a1)]))
  by_cases hc45 : p4 < (0 : Int32)
  · skip
    refine own_of (fun tgt kon => XS.ifNo X7.here hx rfl (hb hby d3_45) rfl ((if0 _ _).trans (tlt hc45).2.1) kon) ?_
    refine own_of (X7.ldc2Long hx hown (mvT hZ (ow hw 31 rfl)) (g := (mkF m 48 #[rv a1, rv a2, iv p3, iv p4, iv p5, iv p6, iv (Int32.ofNat n), uu, uu, uu] [(.ref a1)])) rfl (hb hby d3_48)) ?_
    refine own_of (fun tgt kon => XS.goto X7.here hx rfl (pc0 := 51) (pc' := 62) rfl (hb hby d3_51) (by decide) (by decide) kon) ?_
    show own_Wp _ _ _ _ (T7.setTop (mkF m 62 #[rv a1, rv a2, iv p3, iv p4, iv p5, iv p6, iv (Int32.ofNat n), uu, uu, uu] [(.long (-1 : Int64)), (.ref a1)]))
    exact J62 T7 _ ((-1 : Int64)) X7 e7 N7 (by exact (if_pos hc45).symm)
  · skip
    refine own_of (fun tgt kon => XS.ifYes X7.here hx rfl (pc0 := 45) (pc' := 54) rfl (hb hby d3_45) rfl ((if0 _ _).trans (flt hc45).2.1) (by decide) (by decide) kon) ?_
    refine own_of (fun tgt kon => XS.iloadN X7.here hx rfl (hb hby d3_54) rfl kon) ?_
    refine own_callS X7 hx hZ (y := (⟨"com/example/close_words/closewords/BitRows", "upTo", "(I)J"⟩ : MethodName)) (argsL := [(.int p4)]) (rest := [(.ref a1)]) (W := 1) hown (ow hw 24 rfl) (ow hw 25 rfl) (ow hw 11 rfl) (ow hw 26 rfl) (by decide) e7 (rmup l Z a0 hw [] p4 h7 n0 Zs) (by decide) (by decide) (by decide) (by decide) rfl (by rw [hml]; rfl) (lenOf own_pd1 rfl) rfl (by show 2 * 0 + _ ≤ _; exact Nat.le_of_eq rfl) (hb hby d3_55) ?_
    rintro T35 L35 _ X35 ⟨rfl, N35q, e35⟩
    have N35 := Fr.app N7 N35q
    show own_Wp _ _ _ _ (T35.setTop (mkF m 58 #[rv a1, rv a2, iv p3, iv p4, iv p5, iv p6, iv (Int32.ofNat n), uu, uu, uu] [(.long (own_upTo p4)), (.ref a1)]))
    refine own_of (X35.ldc2Long hx hown (mvT hZ (ow hw 31 rfl)) (g := (mkF m 58 #[rv a1, rv a2, iv p3, iv p4, iv p5, iv p6, iv (Int32.ofNat n), uu, uu, uu] [(.long (own_upTo p4)), (.ref a1)])) rfl (hb hby d3_58)) ?_
    refine own_of (fun tgt kon => XS.lxor X35.here hx rfl (hb hby d3_61) rfl kon) ?_
    show own_Wp _ _ _ _ (T35.setTop (mkF m 62 #[rv a1, rv a2, iv p3, iv p4, iv p5, iv p6, iv (Int32.ofNat n), uu, uu, uu] [(.long ((own_upTo p4) ^^^ (-1 : Int64))), (.ref a1)]))
    exact J62 T35 _ (((own_upTo p4) ^^^ (-1 : Int64))) X35 e35 N35 (by exact (if_neg hc45).symm)
theorem own_pn2 : plainName "com/example/close_words/closewords/BitRowsFillPinLaw" = true := by first | (simp [plainName, overriddenIn]; done) | decide +kernel
theorem d1_0 : decode method_2_code 0 = .ok (.iload_n 0, 1) := by decide +kernel
theorem d1_1 : decode method_2_code 1 = .ok (.iconst 3, 1) := by decide +kernel
theorem d1_2 : decode method_2_code 2 = .ok (.iand, 1) := by decide +kernel
theorem d1_3 : decode method_2_code 3 = .ok (.iload_n 0, 1) := by decide +kernel
theorem d1_4 : decode method_2_code 4 = .ok (.iconst 4, 1) := by decide +kernel
theorem d1_5 : decode method_2_code 5 = .ok (.iand, 1) := by decide +kernel
theorem d1_6 : decode method_2_code 6 = .ok (.iconst 5, 1) := by decide +kernel
theorem d1_7 : decode method_2_code 7 = .ok (.ishl, 1) := by decide +kernel
theorem d1_8 : decode method_2_code 8 = .ok (.ior, 1) := by decide +kernel
theorem d1_9 : decode method_2_code 9 = .ok (.ireturn, 1) := by decide +kernel
def Q_rmch (Z : State) (p1 : Int32) (h0 : Heap) (n0 : Nat) (v : Option Value) (h : Heap) (L : List Loc) : Prop := v = some (.int ((p1 &&& (3 : Int32)) ||| ((p1 &&& (4 : Int32)) <<< ((5 : Int32) &&& 31)))) ∧ Fr n0 L ∧ h = h0
set_option maxRecDepth 65536 in
set_option maxHeartbeats 40000000 in
theorem rmch (l : Launch) (Z : State) (a0 : Array Value) (hw : ∀ d ∈ tables_1, d.before a0 Z = true) (ws : List Jvm.Cond) (p1 : Int32) (h0 : Heap) (n0 : Nat) (Z0 : n0 ≤ h0.size)  :
    own_Ctr l Z (⟨"com/example/close_words/closewords/BitRowsFillPinLaw", "cp", "(I)I"⟩ : MethodName) method_2_code 1 (some .int) ws ({ frames := 0, cells := 0, slots := 0, locals := 0 } : Room) #[(.int p1)] h0 (Q_rmch Z p1 h0 n0) := by
  refine own_enter (plainFor_of_name own_pn2) ?_
  intro p e s m below meth c s₁ X0 hx hby hml hrt hlk hZ hown hnm e0
  have N0 := Fr.nil n0
  have Zs := Z0
  rw [show entryFrame m #[(.int p1)] 1 = mkF m 0 #[iv p1] [] from by first | (simp [entryFrame, mkF, argsToLocals, Value.category]; done) | rfl]
  show own_Wp _ _ _ _ (s₁.setTop (mkF m 0 #[iv p1] []))
  refine own_of (fun tgt kon => XS.iloadN X0.here hx rfl (hb hby d1_0) rfl kon) ?_
  refine own_of (fun tgt kon => XS.iconst X0.here hx rfl (hb hby d1_1) kon) ?_
  refine own_of (fun tgt kon => XS.iand X0.here hx rfl (hb hby d1_2) rfl kon) ?_
  refine own_of (fun tgt kon => XS.iloadN X0.here hx rfl (hb hby d1_3) rfl kon) ?_
  refine own_of (fun tgt kon => XS.iconst X0.here hx rfl (hb hby d1_4) kon) ?_
  show own_Wp _ _ _ _ (s₁.setTop (mkF m 5 #[iv p1] [(.int (4 : Int32)), (.int p1), (.int (p1 &&& (3 : Int32)))]))
  refine own_of (fun tgt kon => XS.iand X0.here hx rfl (hb hby d1_5) rfl kon) ?_
  refine own_of (fun tgt kon => XS.iconst X0.here hx rfl (hb hby d1_6) kon) ?_
  refine own_of (fun tgt kon => XS.ishl X0.here hx rfl (hb hby d1_7) rfl kon) ?_
  refine own_of (fun tgt kon => XS.ior X0.here hx rfl (hb hby d1_8) rfl kon) ?_
  show own_Wp _ _ _ _ (s₁.setTop (mkF m 9 #[iv p1] [(.int ((p1 &&& (3 : Int32)) ||| ((p1 &&& (4 : Int32)) <<< ((5 : Int32) &&& 31))))]))
  refine own_ret X0 hlk (some (.int ((p1 &&& (3 : Int32)) ||| ((p1 &&& (4 : Int32)) <<< ((5 : Int32) &&& 31))))) (own_rtI hrt) (fun fs hr => own_retI X0 hx hrt (hb hby d1_9) hr) ?_ (by decide) (by decide)
  rw [e0]
  exact ⟨rfl, N0, rfl⟩
theorem d7_0 : decode method_3_code 0 = .ok (.iload_n 1, 1) := by decide +kernel
theorem d7_1 : decode method_3_code 1 = .ok (.iload_n 2, 1) := by decide +kernel
theorem d7_2 : decode method_3_code 2 = .ok (.if_icmp .gt 14, 3) := by decide +kernel
theorem d7_16 : decode method_3_code 16 = .ok (.iload_n 0, 1) := by decide +kernel
theorem d7_17 : decode method_3_code 17 = .ok (.ireturn, 1) := by decide +kernel
theorem d7_5 : decode method_3_code 5 = .ok (.iload_n 0, 1) := by decide +kernel
theorem d7_6 : decode method_3_code 6 = .ok (.iload_n 3, 1) := by decide +kernel
theorem d7_7 : decode method_3_code 7 = .ok (.if_icmp .le 9, 3) := by decide +kernel
theorem d7_10 : decode method_3_code 10 = .ok (.sipush 1000, 3) := by decide +kernel
theorem d7_13 : decode method_3_code 13 = .ok (.goto 4, 3) := by decide +kernel
def Q_rmcap (Z : State) (p1 : Int32) (p2 : Int32) (p3 : Int32) (p4 : Int32) (h0 : Heap) (n0 : Nat) (v : Option Value) (h : Heap) (L : List Loc) : Prop := v = some (.int (own_capI p1 p2 p3 p4)) ∧ Fr n0 L ∧ h = h0
set_option maxRecDepth 65536 in
set_option maxHeartbeats 40000000 in
theorem rmcap (l : Launch) (Z : State) (a0 : Array Value) (hw : ∀ d ∈ tables_1, d.before a0 Z = true) (ws : List Jvm.Cond) (p1 : Int32) (p2 : Int32) (p3 : Int32) (p4 : Int32) (h0 : Heap) (n0 : Nat) (Z0 : n0 ≤ h0.size)  :
    own_Ctr l Z (⟨"com/example/close_words/closewords/BitRowsFillPinLaw", "cap", "(IIII)I"⟩ : MethodName) method_3_code 4 (some .int) ws ({ frames := 0, cells := 0, slots := 0, locals := 0 } : Room) #[(.int p1), (.int p2), (.int p3), (.int p4)] h0 (Q_rmcap Z p1 p2 p3 p4 h0 n0) := by
  refine own_enter (plainFor_of_name own_pn2) ?_
  intro p e s m below meth c s₁ X0 hx hby hml hrt hlk hZ hown hnm e0
  have N0 := Fr.nil n0
  have Zs := Z0
  rw [show entryFrame m #[(.int p1), (.int p2), (.int p3), (.int p4)] 4 = mkF m 0 #[iv p1, iv p2, iv p3, iv p4] [] from by first | (simp [entryFrame, mkF, argsToLocals, Value.category]; done) | rfl]
  show own_Wp _ _ _ _ (s₁.setTop (mkF m 0 #[iv p1, iv p2, iv p3, iv p4] []))
  refine own_of (fun tgt kon => XS.iloadN X0.here hx rfl (hb hby d7_0) rfl kon) ?_
  refine own_of (fun tgt kon => XS.iloadN X0.here hx rfl (hb hby d7_1) rfl kon) ?_
  by_cases hc2 : p3 < p2
  · skip
    refine own_of (fun tgt kon => XS.icmpYes X0.here hx rfl (pc0 := 2) (pc' := 16) rfl (hb hby d7_2) rfl (tlt hc2).2.2.1 (by decide) (by decide) kon) ?_
    refine own_of (fun tgt kon => XS.iloadN X0.here hx rfl (hb hby d7_16) rfl kon) ?_
    show own_Wp _ _ _ _ (s₁.setTop (mkF m 17 #[iv p1, iv p2, iv p3, iv p4] [(.int p1)]))
    refine own_ret X0 hlk (some (.int p1)) (own_rtI hrt) (fun fs hr => own_retI X0 hx hrt (hb hby d7_17) hr) ?_ (by decide) (by decide)
    rw [e0]
    exact ⟨by unfold own_capI; rw [if_pos hc2], N0, rfl⟩
  · skip
    refine own_of (fun tgt kon => XS.icmpNo X0.here hx rfl (hb hby d7_2) rfl (flt hc2).2.2.1 kon) ?_
    refine own_of (fun tgt kon => XS.iloadN X0.here hx rfl (hb hby d7_5) rfl kon) ?_
    refine own_of (fun tgt kon => XS.iloadN X0.here hx rfl (hb hby d7_6) rfl kon) ?_
    show own_Wp _ _ _ _ (s₁.setTop (mkF m 7 #[iv p1, iv p2, iv p3, iv p4] [(.int p4), (.int p1)]))
    by_cases hc7 : p4 < p1
    · skip
      refine own_of (fun tgt kon => XS.icmpNo X0.here hx rfl (hb hby d7_7) rfl (tlt hc7).2.2.2 kon) ?_
      refine own_of (fun tgt kon => XS.sipush X0.here hx rfl (hb hby d7_10) kon) ?_
      refine own_of (fun tgt kon => XS.goto X0.here hx rfl (pc0 := 13) (pc' := 17) rfl (hb hby d7_13) (by decide) (by decide) kon) ?_
      show own_Wp _ _ _ _ (s₁.setTop (mkF m 17 #[iv p1, iv p2, iv p3, iv p4] [(.int (1000 : Int32))]))
      refine own_ret X0 hlk (some (.int (1000 : Int32))) (own_rtI hrt) (fun fs hr => own_retI X0 hx hrt (hb hby d7_17) hr) ?_ (by decide) (by decide)
      rw [e0]
      exact ⟨by unfold own_capI; rw [if_neg hc2, if_pos hc7], N0, rfl⟩
    · skip
      refine own_of (fun tgt kon => XS.icmpYes X0.here hx rfl (pc0 := 7) (pc' := 16) rfl (hb hby d7_7) rfl (flt hc7).2.2.2 (by decide) (by decide) kon) ?_
      refine own_of (fun tgt kon => XS.iloadN X0.here hx rfl (hb hby d7_16) rfl kon) ?_
      show own_Wp _ _ _ _ (s₁.setTop (mkF m 17 #[iv p1, iv p2, iv p3, iv p4] [(.int p1)]))
      refine own_ret X0 hlk (some (.int p1)) (own_rtI hrt) (fun fs hr => own_retI X0 hx hrt (hb hby d7_17) hr) ?_ (by decide) (by decide)
      rw [e0]
      exact ⟨by unfold own_capI; rw [if_neg hc2, if_neg hc7], N0, rfl⟩
theorem d8_0 : decode method_4_code 0 = .ok (.aload_n 0, 1) := by decide +kernel
theorem d8_1 : decode method_4_code 1 = .ok (.iload_n 1, 1) := by decide +kernel
theorem d8_2 : decode method_4_code 2 = .ok (.iconst 1, 1) := by decide +kernel
theorem d8_3 : decode method_4_code 3 = .ok (.isub, 1) := by decide +kernel
theorem d8_4 : decode method_4_code 4 = .ok (.aaload, 1) := by decide +kernel
theorem d8_5 : decode method_4_code 5 = .ok (.iload_n 2, 1) := by decide +kernel
theorem d8_6 : decode method_4_code 6 = .ok (.iaload, 1) := by decide +kernel
theorem d8_7 : decode method_4_code 7 = .ok (.aload_n 0, 1) := by decide +kernel
theorem d8_8 : decode method_4_code 8 = .ok (.iload_n 1, 1) := by decide +kernel
theorem d8_9 : decode method_4_code 9 = .ok (.aaload, 1) := by decide +kernel
theorem d8_10 : decode method_4_code 10 = .ok (.iload_n 2, 1) := by decide +kernel
theorem d8_11 : decode method_4_code 11 = .ok (.iconst 1, 1) := by decide +kernel
theorem d8_12 : decode method_4_code 12 = .ok (.isub, 1) := by decide +kernel
theorem d8_13 : decode method_4_code 13 = .ok (.iaload, 1) := by decide +kernel
theorem d8_14 : decode method_4_code 14 = .ok (.invokestatic 7, 3) := by decide +kernel
theorem d8_17 : decode method_4_code 17 = .ok (.iconst 1, 1) := by decide +kernel
theorem d8_18 : decode method_4_code 18 = .ok (.iadd, 1) := by decide +kernel
theorem d8_19 : decode method_4_code 19 = .ok (.istore 7, 2) := by decide +kernel
theorem d8_21 : decode method_4_code 21 = .ok (.iload 7, 2) := by decide +kernel
theorem d8_23 : decode method_4_code 23 = .ok (.aload_n 0, 1) := by decide +kernel
theorem d8_24 : decode method_4_code 24 = .ok (.iload_n 1, 1) := by decide +kernel
theorem d8_25 : decode method_4_code 25 = .ok (.iconst 1, 1) := by decide +kernel
theorem d8_26 : decode method_4_code 26 = .ok (.isub, 1) := by decide +kernel
theorem d8_27 : decode method_4_code 27 = .ok (.aaload, 1) := by decide +kernel
theorem d8_28 : decode method_4_code 28 = .ok (.iload_n 2, 1) := by decide +kernel
theorem d8_29 : decode method_4_code 29 = .ok (.iconst 1, 1) := by decide +kernel
theorem d8_30 : decode method_4_code 30 = .ok (.isub, 1) := by decide +kernel
theorem d8_31 : decode method_4_code 31 = .ok (.iaload, 1) := by decide +kernel
theorem d8_32 : decode method_4_code 32 = .ok (.aload 4, 2) := by decide +kernel
theorem d8_34 : decode method_4_code 34 = .ok (.iload_n 1, 1) := by decide +kernel
theorem d8_35 : decode method_4_code 35 = .ok (.iaload, 1) := by decide +kernel
theorem d8_36 : decode method_4_code 36 = .ok (.aload_n 3, 1) := by decide +kernel
theorem d8_37 : decode method_4_code 37 = .ok (.iload_n 2, 1) := by decide +kernel
theorem d8_38 : decode method_4_code 38 = .ok (.iaload, 1) := by decide +kernel
theorem d8_47 : decode method_4_code 47 = .ok (.iadd, 1) := by decide +kernel
theorem d8_48 : decode method_4_code 48 = .ok (.invokestatic 7, 3) := by decide +kernel
theorem d8_51 : decode method_4_code 51 = .ok (.istore 7, 2) := by decide +kernel
theorem d8_53 : decode method_4_code 53 = .ok (.iload_n 1, 1) := by decide +kernel
theorem d8_54 : decode method_4_code 54 = .ok (.iconst 1, 1) := by decide +kernel
theorem d8_105 : decode method_4_code 105 = .ok (.iload 7, 2) := by decide +kernel
theorem d8_107 : decode method_4_code 107 = .ok (.iload_n 2, 1) := by decide +kernel
theorem d8_108 : decode method_4_code 108 = .ok (.iload 5, 2) := by decide +kernel
theorem d8_110 : decode method_4_code 110 = .ok (.iload 6, 2) := by decide +kernel
theorem d8_112 : decode method_4_code 112 = .ok (.invokestatic 13, 3) := by decide +kernel
theorem own_pd4 : parseMethodDescriptor "(IIII)I" = some ⟨[.int, .int, .int, .int], some .int⟩ := by decide +kernel
theorem d8_115 : decode method_4_code 115 = .ok (.ireturn, 1) := by decide +kernel
theorem d8_55 : decode method_4_code 55 = .ok (.if_icmp .le 50, 3) := by decide +kernel
theorem d8_58 : decode method_4_code 58 = .ok (.iload_n 2, 1) := by decide +kernel
theorem d8_59 : decode method_4_code 59 = .ok (.iconst 1, 1) := by decide +kernel
theorem d8_60 : decode method_4_code 60 = .ok (.if_icmp .le 45, 3) := by decide +kernel
theorem d8_63 : decode method_4_code 63 = .ok (.aload 4, 2) := by decide +kernel
theorem d8_65 : decode method_4_code 65 = .ok (.iload_n 1, 1) := by decide +kernel
theorem d8_66 : decode method_4_code 66 = .ok (.iaload, 1) := by decide +kernel
theorem d8_67 : decode method_4_code 67 = .ok (.aload_n 3, 1) := by decide +kernel
theorem d8_68 : decode method_4_code 68 = .ok (.iload_n 2, 1) := by decide +kernel
theorem d8_69 : decode method_4_code 69 = .ok (.iconst 1, 1) := by decide +kernel
theorem d8_70 : decode method_4_code 70 = .ok (.isub, 1) := by decide +kernel
theorem d8_71 : decode method_4_code 71 = .ok (.iaload, 1) := by decide +kernel
theorem d8_72 : decode method_4_code 72 = .ok (.if_icmp .ne 33, 3) := by decide +kernel
theorem d8_75 : decode method_4_code 75 = .ok (.aload 4, 2) := by decide +kernel
theorem d8_77 : decode method_4_code 77 = .ok (.iload_n 1, 1) := by decide +kernel
theorem d8_78 : decode method_4_code 78 = .ok (.iconst 1, 1) := by decide +kernel
theorem d8_79 : decode method_4_code 79 = .ok (.isub, 1) := by decide +kernel
theorem d8_80 : decode method_4_code 80 = .ok (.iaload, 1) := by decide +kernel
theorem d8_81 : decode method_4_code 81 = .ok (.aload_n 3, 1) := by decide +kernel
theorem d8_82 : decode method_4_code 82 = .ok (.iload_n 2, 1) := by decide +kernel
theorem d8_83 : decode method_4_code 83 = .ok (.iaload, 1) := by decide +kernel
theorem d8_84 : decode method_4_code 84 = .ok (.if_icmp .ne 21, 3) := by decide +kernel
theorem d8_87 : decode method_4_code 87 = .ok (.iload 7, 2) := by decide +kernel
theorem d8_89 : decode method_4_code 89 = .ok (.aload_n 0, 1) := by decide +kernel
theorem d8_90 : decode method_4_code 90 = .ok (.iload_n 1, 1) := by decide +kernel
theorem d8_91 : decode method_4_code 91 = .ok (.iconst 2, 1) := by decide +kernel
theorem d8_92 : decode method_4_code 92 = .ok (.isub, 1) := by decide +kernel
theorem d8_93 : decode method_4_code 93 = .ok (.aaload, 1) := by decide +kernel
theorem d8_94 : decode method_4_code 94 = .ok (.iload_n 2, 1) := by decide +kernel
theorem d8_95 : decode method_4_code 95 = .ok (.iconst 2, 1) := by decide +kernel
theorem d8_96 : decode method_4_code 96 = .ok (.isub, 1) := by decide +kernel
theorem d8_97 : decode method_4_code 97 = .ok (.iaload, 1) := by decide +kernel
theorem d8_98 : decode method_4_code 98 = .ok (.iconst 1, 1) := by decide +kernel
theorem d8_99 : decode method_4_code 99 = .ok (.iadd, 1) := by decide +kernel
theorem d8_100 : decode method_4_code 100 = .ok (.invokestatic 7, 3) := by decide +kernel
theorem d8_103 : decode method_4_code 103 = .ok (.istore 7, 2) := by decide +kernel
theorem d8_39 : decode method_4_code 39 = .ok (.if_icmp .ne 7, 3) := by decide +kernel
theorem d8_42 : decode method_4_code 42 = .ok (.iconst 0, 1) := by decide +kernel
theorem d8_43 : decode method_4_code 43 = .ok (.goto 4, 3) := by decide +kernel
theorem d8_46 : decode method_4_code 46 = .ok (.iconst 1, 1) := by decide +kernel
def Q_rmcell (Z : State) (a1 : Addr) (i : Nat) (j : Nat) (a4 : Addr) (a5 : Addr) (p6 : Int32) (p7 : Int32) (rr : Nat → Addr) (ff : Nat → Nat → Int32) (tt : Nat → Int32) (kk : Nat → Int32) (h0 : Heap) (n0 : Nat) (v : Option Value) (h : Heap) (L : List Loc) : Prop := v = some (.int (own_cI i j (ff (i - 1) (j - 1)) (ff (i - 1) j) (ff i (j - 1)) (ff (i - 2) (j - 2)) (kk i) (tt j) (kk (i - 1)) (tt (j - 1)) p6 p7)) ∧ Fr n0 L ∧ h = h0
set_option maxRecDepth 65536 in
set_option maxHeartbeats 40000000 in
theorem rmcell (l : Launch) (Z : State) (a0 : Array Value) (hw : ∀ d ∈ tables_1, d.before a0 Z = true) (ws : List Jvm.Cond) (a1 : Addr) (i : Nat) (j : Nat) (a4 : Addr) (a5 : Addr) (p6 : Int32) (p7 : Int32) (rr : Nat → Addr) (ff : Nat → Nat → Int32) (tt : Nat → Int32) (kk : Nat → Int32) (h0 : Heap) (n0 : Nat) (Z0 : n0 ≤ h0.size) (V_a1 : own_Ar Z h0 a1 (.array .int) 4 (fun k => .ref (rr k))) (hrows : ∀ q, q < 4 → own_Ar Z h0 (rr q) .int 4 (fun k => .int (ff q k))) (V_a4 : own_Ar Z h0 a4 .int 4 (fun k => .int (tt k))) (V_a5 : own_Ar Z h0 a5 .int 4 (fun k => .int (kk k))) (hi1 : 1 ≤ i) (hi3 : i ≤ 3) (hj1 : 1 ≤ j) (hj3 : j ≤ 3) :
    own_Ctr l Z (⟨"com/example/close_words/closewords/BitRowsFillPinLaw", "cell", "([[III[I[III)I"⟩ : MethodName) method_4_code 8 (some .int) ws ({ frames := 1, cells := 0, slots := 0, locals := 15 } : Room) #[(.ref a1), (.int (Int32.ofNat i)), (.int (Int32.ofNat j)), (.ref a4), (.ref a5), (.int p6), (.int p7)] h0 (Q_rmcell Z a1 i j a4 a5 p6 p7 rr ff tt kk h0 n0) := by
  refine own_enter (plainFor_of_name own_pn2) ?_
  intro p e s m below meth c s₁ X0 hx hby hml hrt hlk hZ hown hnm e0
  have N0 := Fr.nil n0
  have Zs := Z0
  have V_q1 := hrows (i - 1) (by omega)
  have V_q0 := hrows i (by omega)
  have V_q2 := hrows (i - 2) (by omega)
  rw [show entryFrame m #[(.ref a1), (.int (Int32.ofNat i)), (.int (Int32.ofNat j)), (.ref a4), (.ref a5), (.int p6), (.int p7)] 8 = mkF m 0 #[rv a1, iv (Int32.ofNat i), iv (Int32.ofNat j), rv a4, rv a5, iv p6, iv p7, uu] [] from by first | (simp [entryFrame, mkF, argsToLocals, Value.category]; done) | rfl]
  show own_Wp _ _ _ _ (s₁.setTop (mkF m 0 #[rv a1, iv (Int32.ofNat i), iv (Int32.ofNat j), rv a4, rv a5, iv p6, iv p7, uu] []))
  refine own_of (fun tgt kon => XS.aloadN X0.here hx rfl (hb hby d8_0) rfl rfl kon) ?_
  refine own_of (fun tgt kon => XS.iloadN X0.here hx rfl (hb hby d8_1) rfl kon) ?_
  refine own_of (fun tgt kon => XS.iconst X0.here hx rfl (hb hby d8_2) kon) ?_
  refine own_of (fun tgt kon => XS.isub X0.here hx rfl (hb hby d8_3) rfl kon) ?_
  refine own_aaloadA X0 hx hZ e0 V_a1 (j := ((Int32.ofNat i) - (1 : Int32))) (i := (i - 1)) (v := (.ref (rr (i - 1)))) (own_pr1 hi1 hi3) (by omega) rfl rfl rfl (hb hby d8_4) ?_
  show own_Wp _ _ _ _ (s₁.setTop (mkF m 5 #[rv a1, iv (Int32.ofNat i), iv (Int32.ofNat j), rv a4, rv a5, iv p6, iv p7, uu] [(.ref (rr (i - 1)))]))
  refine own_of (fun tgt kon => XS.iloadN X0.here hx rfl (hb hby d8_5) rfl kon) ?_
  refine own_iaload X0 hx hZ e0 V_q1 (j := (Int32.ofNat j)) (i := j) (v := (ff (i - 1) j)) (own_ofN (by omega)) (by omega) rfl rfl rfl (hb hby d8_6) ?_
  refine own_of (fun tgt kon => XS.aloadN X0.here hx rfl (hb hby d8_7) rfl rfl kon) ?_
  refine own_of (fun tgt kon => XS.iloadN X0.here hx rfl (hb hby d8_8) rfl kon) ?_
  refine own_aaloadA X0 hx hZ e0 V_a1 (j := (Int32.ofNat i)) (i := i) (v := (.ref (rr i))) (own_ofN (by omega)) (by omega) rfl rfl rfl (hb hby d8_9) ?_
  show own_Wp _ _ _ _ (s₁.setTop (mkF m 10 #[rv a1, iv (Int32.ofNat i), iv (Int32.ofNat j), rv a4, rv a5, iv p6, iv p7, uu] [(.ref (rr i)), (.int (ff (i - 1) j))]))
  refine own_of (fun tgt kon => XS.iloadN X0.here hx rfl (hb hby d8_10) rfl kon) ?_
  refine own_of (fun tgt kon => XS.iconst X0.here hx rfl (hb hby d8_11) kon) ?_
  refine own_of (fun tgt kon => XS.isub X0.here hx rfl (hb hby d8_12) rfl kon) ?_
  refine own_iaload X0 hx hZ e0 V_q0 (j := ((Int32.ofNat j) - (1 : Int32))) (i := (j - 1)) (v := (ff i (j - 1))) (own_pr1 hj1 hj3) (by omega) rfl rfl rfl (hb hby d8_13) ?_
  refine own_callS X0 hx hZ (y := (⟨"java/lang/Math", "min", "(II)I"⟩ : MethodName)) (argsL := [(.int (ff (i - 1) j)), (.int (ff i (j - 1)))]) (rest := []) (W := 0) hown (ow hw 5 rfl) (ow hw 6 rfl) (ow hw 7 rfl) (ow hw 8 rfl) (by decide) e0 (rmmin l Z a0 hw [] (ff (i - 1) j) (ff i (j - 1)) h0 n0 Zs) (by decide) (by decide) (by decide) (by decide) rfl (by rw [hml]; rfl) (lenOf own_pd3 rfl) rfl (by show 2 * 0 + _ ≤ _; exact Nat.le_of_eq rfl) (hb hby d8_14) ?_
  rintro T1 L1 _ X1 ⟨rfl, N1q, e1⟩
  have N1 := Fr.app N0 N1q
  show own_Wp _ _ _ _ (T1.setTop (mkF m 17 #[rv a1, iv (Int32.ofNat i), iv (Int32.ofNat j), rv a4, rv a5, iv p6, iv p7, uu] [(.int (own_mni (ff (i - 1) j) (ff i (j - 1))))]))
  refine own_of (fun tgt kon => XS.iconst X1.here hx rfl (hb hby d8_17) kon) ?_
  refine own_of (fun tgt kon => XS.iadd X1.here hx rfl (hb hby d8_18) rfl kon) ?_
  refine own_of (fun tgt kon => XS.istore X1.here hx rfl (hb hby d8_19) rfl (l' := #[rv a1, iv (Int32.ofNat i), iv (Int32.ofNat j), rv a4, rv a5, iv p6, iv p7, iv ((own_mni (ff (i - 1) j) (ff i (j - 1))) + (1 : Int32))]) rfl kon) ?_
  refine own_of (fun tgt kon => XS.iload X1.here hx rfl (hb hby d8_21) rfl kon) ?_
  refine own_of (fun tgt kon => XS.aloadN X1.here hx rfl (hb hby d8_23) rfl rfl kon) ?_
  show own_Wp _ _ _ _ (T1.setTop (mkF m 24 #[rv a1, iv (Int32.ofNat i), iv (Int32.ofNat j), rv a4, rv a5, iv p6, iv p7, iv ((own_mni (ff (i - 1) j) (ff i (j - 1))) + (1 : Int32))] [(.ref a1), (.int ((own_mni (ff (i - 1) j) (ff i (j - 1))) + (1 : Int32)))]))
  refine own_of (fun tgt kon => XS.iloadN X1.here hx rfl (hb hby d8_24) rfl kon) ?_
  refine own_of (fun tgt kon => XS.iconst X1.here hx rfl (hb hby d8_25) kon) ?_
  refine own_of (fun tgt kon => XS.isub X1.here hx rfl (hb hby d8_26) rfl kon) ?_
  refine own_aaloadA X1 hx hZ e1 V_a1 (j := ((Int32.ofNat i) - (1 : Int32))) (i := (i - 1)) (v := (.ref (rr (i - 1)))) (own_pr1 hi1 hi3) (by omega) rfl rfl rfl (hb hby d8_27) ?_
  refine own_of (fun tgt kon => XS.iloadN X1.here hx rfl (hb hby d8_28) rfl kon) ?_
  show own_Wp _ _ _ _ (T1.setTop (mkF m 29 #[rv a1, iv (Int32.ofNat i), iv (Int32.ofNat j), rv a4, rv a5, iv p6, iv p7, iv ((own_mni (ff (i - 1) j) (ff i (j - 1))) + (1 : Int32))] [(.int (Int32.ofNat j)), (.ref (rr (i - 1))), (.int ((own_mni (ff (i - 1) j) (ff i (j - 1))) + (1 : Int32)))]))
  refine own_of (fun tgt kon => XS.iconst X1.here hx rfl (hb hby d8_29) kon) ?_
  refine own_of (fun tgt kon => XS.isub X1.here hx rfl (hb hby d8_30) rfl kon) ?_
  refine own_iaload X1 hx hZ e1 V_q1 (j := ((Int32.ofNat j) - (1 : Int32))) (i := (j - 1)) (v := (ff (i - 1) (j - 1))) (own_pr1 hj1 hj3) (by omega) rfl rfl rfl (hb hby d8_31) ?_
  refine own_of (fun tgt kon => XS.aload X1.here hx rfl (hb hby d8_32) rfl rfl kon) ?_
  refine own_of (fun tgt kon => XS.iloadN X1.here hx rfl (hb hby d8_34) rfl kon) ?_
  show own_Wp _ _ _ _ (T1.setTop (mkF m 35 #[rv a1, iv (Int32.ofNat i), iv (Int32.ofNat j), rv a4, rv a5, iv p6, iv p7, iv ((own_mni (ff (i - 1) j) (ff i (j - 1))) + (1 : Int32))] [(.int (Int32.ofNat i)), (.ref a5), (.int (ff (i - 1) (j - 1))), (.int ((own_mni (ff (i - 1) j) (ff i (j - 1))) + (1 : Int32)))]))
  refine own_iaload X1 hx hZ e1 V_a5 (j := (Int32.ofNat i)) (i := i) (v := (kk i)) (own_ofN (by omega)) (by omega) rfl rfl rfl (hb hby d8_35) ?_
  refine own_of (fun tgt kon => XS.aloadN X1.here hx rfl (hb hby d8_36) rfl rfl kon) ?_
  refine own_of (fun tgt kon => XS.iloadN X1.here hx rfl (hb hby d8_37) rfl kon) ?_
  refine own_iaload X1 hx hZ e1 V_a4 (j := (Int32.ofNat j)) (i := j) (v := (tt j)) (own_ofN (by omega)) (by omega) rfl rfl rfl (hb hby d8_38) ?_
  show own_Wp _ _ _ _ (T1.setTop (mkF m 39 #[rv a1, iv (Int32.ofNat i), iv (Int32.ofNat j), rv a4, rv a5, iv p6, iv p7, iv ((own_mni (ff (i - 1) j) (ff i (j - 1))) + (1 : Int32))] [(.int (tt j)), (.int (kk i)), (.int (ff (i - 1) (j - 1))), (.int ((own_mni (ff (i - 1) j) (ff i (j - 1))) + (1 : Int32)))]))
  have J47 : ∀ (eqx : Int32), (eqx = if (kk i) = (tt j) then (0 : Int32) else 1) → own_Wp p.tables e below (own_K ({ frames := 1, cells := 0, slots := 0, locals := 15 } : Room) s below (Q_rmcell Z a1 i j a4 a5 p6 p7 rr ff tt kk h0 n0)) (T1.setTop (mkF m 47 #[rv a1, iv (Int32.ofNat i), iv (Int32.ofNat j), rv a4, rv a5, iv p6, iv p7, iv ((own_mni (ff (i - 1) j) (ff i (j - 1))) + (1 : Int32))] [(.int eqx), (.int (ff (i - 1) (j - 1))), (.int ((own_mni (ff (i - 1) j) (ff i (j - 1))) + (1 : Int32)))])) := by
    intro eqx h_eqx
    refine own_of (fun tgt kon => XS.iadd X1.here hx rfl (hb hby d8_47) rfl kon) ?_
    refine own_callS X1 hx hZ (y := (⟨"java/lang/Math", "min", "(II)I"⟩ : MethodName)) (argsL := [(.int ((own_mni (ff (i - 1) j) (ff i (j - 1))) + (1 : Int32))), (.int ((ff (i - 1) (j - 1)) + eqx))]) (rest := []) (W := 0) hown (ow hw 5 rfl) (ow hw 6 rfl) (ow hw 7 rfl) (ow hw 8 rfl) (by decide) e1 (rmmin l Z a0 hw [] ((own_mni (ff (i - 1) j) (ff i (j - 1))) + (1 : Int32)) ((ff (i - 1) (j - 1)) + eqx) h0 n0 Zs) (by decide) (by decide) (by decide) (by decide) rfl (by rw [hml]; rfl) (lenOf own_pd3 rfl) rfl (by show 2 * 0 + _ ≤ _; exact Nat.le_of_eq rfl) (hb hby d8_48) ?_
    rintro T2 L2 _ X2 ⟨rfl, N2q, e2⟩
    have N2 := Fr.app N1 N2q
    show own_Wp _ _ _ _ (T2.setTop (mkF m 51 #[rv a1, iv (Int32.ofNat i), iv (Int32.ofNat j), rv a4, rv a5, iv p6, iv p7, iv ((own_mni (ff (i - 1) j) (ff i (j - 1))) + (1 : Int32))] [(.int (own_mni ((own_mni (ff (i - 1) j) (ff i (j - 1))) + (1 : Int32)) ((ff (i - 1) (j - 1)) + eqx)))]))
    obtain ⟨best, h_best⟩ : ∃ q : Int32, q = (own_mni ((own_mni (ff (i - 1) j) (ff i (j - 1))) + (1 : Int32)) ((ff (i - 1) (j - 1)) + eqx)) := ⟨_, rfl⟩
    rw [← h_best]
    refine own_of (fun tgt kon => XS.istore X2.here hx rfl (hb hby d8_51) rfl (l' := #[rv a1, iv (Int32.ofNat i), iv (Int32.ofNat j), rv a4, rv a5, iv p6, iv p7, iv best]) rfl kon) ?_
    refine own_of (fun tgt kon => XS.iloadN X2.here hx rfl (hb hby d8_53) rfl kon) ?_
    refine own_of (fun tgt kon => XS.iconst X2.here hx rfl (hb hby d8_54) kon) ?_
    show own_Wp _ _ _ _ (T2.setTop (mkF m 55 #[rv a1, iv (Int32.ofNat i), iv (Int32.ofNat j), rv a4, rv a5, iv p6, iv p7, iv best] [(.int (1 : Int32)), (.int (Int32.ofNat i))]))
    have J105 : ∀ (T3 : State) (lc3 : List Loc) (b2 : Int32), (Stand p l e ({ frames := 1, cells := 0, slots := 0, locals := 15 } : Room) s m #[(.ref a1), (.int (Int32.ofNat i)), (.int (Int32.ofNat j)), (.ref a4), (.ref a5), (.int p6), (.int p7)] below meth c T3 lc3 0 0) → (T3.heap = h0) → (Fr n0 lc3) → (b2 = own_c2 i j best (ff (i - 2) (j - 2)) (kk i) (tt j) (kk (i - 1)) (tt (j - 1))) → own_Wp p.tables e below (own_K ({ frames := 1, cells := 0, slots := 0, locals := 15 } : Room) s below (Q_rmcell Z a1 i j a4 a5 p6 p7 rr ff tt kk h0 n0)) (T3.setTop (mkF m 105 #[rv a1, iv (Int32.ofNat i), iv (Int32.ofNat j), rv a4, rv a5, iv p6, iv p7, iv b2] [])) := by
      intro T3 lc3 b2 X3 e3 N3 h_b2
      refine own_of (fun tgt kon => XS.iload X3.here hx rfl (hb hby d8_105) rfl kon) ?_
      refine own_of (fun tgt kon => XS.iloadN X3.here hx rfl (hb hby d8_107) rfl kon) ?_
      refine own_of (fun tgt kon => XS.iload X3.here hx rfl (hb hby d8_108) rfl kon) ?_
      refine own_of (fun tgt kon => XS.iload X3.here hx rfl (hb hby d8_110) rfl kon) ?_
      refine own_callS X3 hx hZ (y := (⟨"com/example/close_words/closewords/BitRowsFillPinLaw", "cap", "(IIII)I"⟩ : MethodName)) (argsL := [(.int b2), (.int (Int32.ofNat j)), (.int p6), (.int p7)]) (rest := []) (W := 0) hown (ow hw 50 rfl) (ow hw 51 rfl) (ow hw 3 rfl) (ow hw 52 rfl) (by decide) e3 (rmcap l Z a0 hw [] b2 (Int32.ofNat j) p6 p7 h0 n0 Zs) (by decide) (by decide) (by decide) (by decide) rfl (by rw [hml]; rfl) (lenOf own_pd4 rfl) rfl (by show 2 * 0 + _ ≤ _; exact Nat.le_of_eq rfl) (hb hby d8_112) ?_
      rintro T4 L4 _ X4 ⟨rfl, N4q, e4⟩
      have N4 := Fr.app N3 N4q
      show own_Wp _ _ _ _ (T4.setTop (mkF m 115 #[rv a1, iv (Int32.ofNat i), iv (Int32.ofNat j), rv a4, rv a5, iv p6, iv p7, iv b2] [(.int (own_capI b2 (Int32.ofNat j) p6 p7))]))
      refine own_ret X4 hlk (some (.int (own_capI b2 (Int32.ofNat j) p6 p7))) (own_rtI hrt) (fun fs hr => own_retI X4 hx hrt (hb hby d8_115) hr) ?_ (by decide) (by decide)
      rw [e4]
      exact ⟨by unfold own_cI own_c1; rw [h_b2, h_best, h_eqx], N4, rfl⟩
    show own_Wp _ _ _ _ (T2.setTop (mkF m 55 #[rv a1, iv (Int32.ofNat i), iv (Int32.ofNat j), rv a4, rv a5, iv p6, iv p7, iv best] [(.int (1 : Int32)), (.int (Int32.ofNat i))]))
    by_cases hc55 : (1 : Int32) < (Int32.ofNat i)
    · skip
      refine own_of (fun tgt kon => XS.icmpNo X2.here hx rfl (hb hby d8_55) rfl (tlt hc55).2.2.2 kon) ?_
      refine own_of (fun tgt kon => XS.iloadN X2.here hx rfl (hb hby d8_58) rfl kon) ?_
      refine own_of (fun tgt kon => XS.iconst X2.here hx rfl (hb hby d8_59) kon) ?_
      by_cases hc60 : (1 : Int32) < (Int32.ofNat j)
      · skip
        refine own_of (fun tgt kon => XS.icmpNo X2.here hx rfl (hb hby d8_60) rfl (tlt hc60).2.2.2 kon) ?_
        refine own_of (fun tgt kon => XS.aload X2.here hx rfl (hb hby d8_63) rfl rfl kon) ?_
        show own_Wp _ _ _ _ (T2.setTop (mkF m 65 #[rv a1, iv (Int32.ofNat i), iv (Int32.ofNat j), rv a4, rv a5, iv p6, iv p7, iv best] [(.ref a5)]))
        refine own_of (fun tgt kon => XS.iloadN X2.here hx rfl (hb hby d8_65) rfl kon) ?_
        refine own_iaload X2 hx hZ e2 V_a5 (j := (Int32.ofNat i)) (i := i) (v := (kk i)) (own_ofN (by omega)) (by omega) rfl rfl rfl (hb hby d8_66) ?_
        refine own_of (fun tgt kon => XS.aloadN X2.here hx rfl (hb hby d8_67) rfl rfl kon) ?_
        refine own_of (fun tgt kon => XS.iloadN X2.here hx rfl (hb hby d8_68) rfl kon) ?_
        refine own_of (fun tgt kon => XS.iconst X2.here hx rfl (hb hby d8_69) kon) ?_
        show own_Wp _ _ _ _ (T2.setTop (mkF m 70 #[rv a1, iv (Int32.ofNat i), iv (Int32.ofNat j), rv a4, rv a5, iv p6, iv p7, iv best] [(.int (1 : Int32)), (.int (Int32.ofNat j)), (.ref a4), (.int (kk i))]))
        refine own_of (fun tgt kon => XS.isub X2.here hx rfl (hb hby d8_70) rfl kon) ?_
        refine own_iaload X2 hx hZ e2 V_a4 (j := ((Int32.ofNat j) - (1 : Int32))) (i := (j - 1)) (v := (tt (j - 1))) (own_pr1 hj1 hj3) (by omega) rfl rfl rfl (hb hby d8_71) ?_
        by_cases hc72 : (kk i) = (tt (j - 1))
        · skip
          refine own_of (fun tgt kon => XS.icmpNo X2.here hx rfl (hb hby d8_72) rfl (teq hc72).2 kon) ?_
          refine own_of (fun tgt kon => XS.aload X2.here hx rfl (hb hby d8_75) rfl rfl kon) ?_
          refine own_of (fun tgt kon => XS.iloadN X2.here hx rfl (hb hby d8_77) rfl kon) ?_
          show own_Wp _ _ _ _ (T2.setTop (mkF m 78 #[rv a1, iv (Int32.ofNat i), iv (Int32.ofNat j), rv a4, rv a5, iv p6, iv p7, iv best] [(.int (Int32.ofNat i)), (.ref a5)]))
          refine own_of (fun tgt kon => XS.iconst X2.here hx rfl (hb hby d8_78) kon) ?_
          refine own_of (fun tgt kon => XS.isub X2.here hx rfl (hb hby d8_79) rfl kon) ?_
          refine own_iaload X2 hx hZ e2 V_a5 (j := ((Int32.ofNat i) - (1 : Int32))) (i := (i - 1)) (v := (kk (i - 1))) (own_pr1 hi1 hi3) (by omega) rfl rfl rfl (hb hby d8_80) ?_
          refine own_of (fun tgt kon => XS.aloadN X2.here hx rfl (hb hby d8_81) rfl rfl kon) ?_
          refine own_of (fun tgt kon => XS.iloadN X2.here hx rfl (hb hby d8_82) rfl kon) ?_
          show own_Wp _ _ _ _ (T2.setTop (mkF m 83 #[rv a1, iv (Int32.ofNat i), iv (Int32.ofNat j), rv a4, rv a5, iv p6, iv p7, iv best] [(.int (Int32.ofNat j)), (.ref a4), (.int (kk (i - 1)))]))
          refine own_iaload X2 hx hZ e2 V_a4 (j := (Int32.ofNat j)) (i := j) (v := (tt j)) (own_ofN (by omega)) (by omega) rfl rfl rfl (hb hby d8_83) ?_
          by_cases hc84 : (kk (i - 1)) = (tt j)
          · skip
            refine own_of (fun tgt kon => XS.icmpNo X2.here hx rfl (hb hby d8_84) rfl (teq hc84).2 kon) ?_
            show own_Wp _ _ _ _ (T2.setTop (mkF m 87 #[rv a1, iv (Int32.ofNat i), iv (Int32.ofNat j), rv a4, rv a5, iv p6, iv p7, iv best] []))
            have hi2 : 2 ≤ i := (own_1lt hi3).mp hc55
            have hj2 : 2 ≤ j := (own_1lt hj3).mp hc60
            refine own_of (fun tgt kon => XS.iload X2.here hx rfl (hb hby d8_87) rfl kon) ?_
            refine own_of (fun tgt kon => XS.aloadN X2.here hx rfl (hb hby d8_89) rfl rfl kon) ?_
            refine own_of (fun tgt kon => XS.iloadN X2.here hx rfl (hb hby d8_90) rfl kon) ?_
            refine own_of (fun tgt kon => XS.iconst X2.here hx rfl (hb hby d8_91) kon) ?_
            refine own_of (fun tgt kon => XS.isub X2.here hx rfl (hb hby d8_92) rfl kon) ?_
            show own_Wp _ _ _ _ (T2.setTop (mkF m 93 #[rv a1, iv (Int32.ofNat i), iv (Int32.ofNat j), rv a4, rv a5, iv p6, iv p7, iv best] [(.int ((Int32.ofNat i) - (2 : Int32))), (.ref a1), (.int best)]))
            refine own_aaloadA X2 hx hZ e2 V_a1 (j := ((Int32.ofNat i) - (2 : Int32))) (i := (i - 2)) (v := (.ref (rr (i - 2)))) (own_pr2 hi2 hi3) (by omega) rfl rfl rfl (hb hby d8_93) ?_
            refine own_of (fun tgt kon => XS.iloadN X2.here hx rfl (hb hby d8_94) rfl kon) ?_
            refine own_of (fun tgt kon => XS.iconst X2.here hx rfl (hb hby d8_95) kon) ?_
            refine own_of (fun tgt kon => XS.isub X2.here hx rfl (hb hby d8_96) rfl kon) ?_
            refine own_iaload X2 hx hZ e2 V_q2 (j := ((Int32.ofNat j) - (2 : Int32))) (i := (j - 2)) (v := (ff (i - 2) (j - 2))) (own_pr2 hj2 hj3) (by omega) rfl rfl rfl (hb hby d8_97) ?_
            show own_Wp _ _ _ _ (T2.setTop (mkF m 98 #[rv a1, iv (Int32.ofNat i), iv (Int32.ofNat j), rv a4, rv a5, iv p6, iv p7, iv best] [(.int (ff (i - 2) (j - 2))), (.int best)]))
            refine own_of (fun tgt kon => XS.iconst X2.here hx rfl (hb hby d8_98) kon) ?_
            refine own_of (fun tgt kon => XS.iadd X2.here hx rfl (hb hby d8_99) rfl kon) ?_
            refine own_callS X2 hx hZ (y := (⟨"java/lang/Math", "min", "(II)I"⟩ : MethodName)) (argsL := [(.int best), (.int ((ff (i - 2) (j - 2)) + (1 : Int32)))]) (rest := []) (W := 0) hown (ow hw 5 rfl) (ow hw 6 rfl) (ow hw 7 rfl) (ow hw 8 rfl) (by decide) e2 (rmmin l Z a0 hw [] best ((ff (i - 2) (j - 2)) + (1 : Int32)) h0 n0 Zs) (by decide) (by decide) (by decide) (by decide) rfl (by rw [hml]; rfl) (lenOf own_pd3 rfl) rfl (by show 2 * 0 + _ ≤ _; exact Nat.le_of_eq rfl) (hb hby d8_100) ?_
            rintro T5 L5 _ X5 ⟨rfl, N5q, e5⟩
            have N5 := Fr.app N2 N5q
            show own_Wp _ _ _ _ (T5.setTop (mkF m 103 #[rv a1, iv (Int32.ofNat i), iv (Int32.ofNat j), rv a4, rv a5, iv p6, iv p7, iv best] [(.int (own_mni best ((ff (i - 2) (j - 2)) + (1 : Int32))))]))
            refine own_of (fun tgt kon => XS.istore X5.here hx rfl (hb hby d8_103) rfl (l' := #[rv a1, iv (Int32.ofNat i), iv (Int32.ofNat j), rv a4, rv a5, iv p6, iv p7, iv (own_mni best ((ff (i - 2) (j - 2)) + (1 : Int32)))]) rfl kon) ?_
            show own_Wp _ _ _ _ (T5.setTop (mkF m 105 #[rv a1, iv (Int32.ofNat i), iv (Int32.ofNat j), rv a4, rv a5, iv p6, iv p7, iv (own_mni best ((ff (i - 2) (j - 2)) + (1 : Int32)))] []))
            exact J105 T5 _ ((own_mni best ((ff (i - 2) (j - 2)) + (1 : Int32)))) X5 e5 N5 (by exact (if_pos ⟨(own_1lt hi3).mp hc55, (own_1lt hj3).mp hc60, hc72, hc84⟩).symm)
          · skip
            refine own_of (fun tgt kon => XS.icmpYes X2.here hx rfl (pc0 := 84) (pc' := 105) rfl (hb hby d8_84) rfl (feq hc84).2 (by decide) (by decide) kon) ?_
            show own_Wp _ _ _ _ (T2.setTop (mkF m 105 #[rv a1, iv (Int32.ofNat i), iv (Int32.ofNat j), rv a4, rv a5, iv p6, iv p7, iv best] []))
            exact J105 T2 _ (best) X2 e2 N2 (by exact (if_neg (fun q => hc84 q.2.2.2)).symm)
        · skip
          refine own_of (fun tgt kon => XS.icmpYes X2.here hx rfl (pc0 := 72) (pc' := 105) rfl (hb hby d8_72) rfl (feq hc72).2 (by decide) (by decide) kon) ?_
          show own_Wp _ _ _ _ (T2.setTop (mkF m 105 #[rv a1, iv (Int32.ofNat i), iv (Int32.ofNat j), rv a4, rv a5, iv p6, iv p7, iv best] []))
          exact J105 T2 _ (best) X2 e2 N2 (by exact (if_neg (fun q => hc72 q.2.2.1)).symm)
      · skip
        refine own_of (fun tgt kon => XS.icmpYes X2.here hx rfl (pc0 := 60) (pc' := 105) rfl (hb hby d8_60) rfl (flt hc60).2.2.2 (by decide) (by decide) kon) ?_
        show own_Wp _ _ _ _ (T2.setTop (mkF m 105 #[rv a1, iv (Int32.ofNat i), iv (Int32.ofNat j), rv a4, rv a5, iv p6, iv p7, iv best] []))
        exact J105 T2 _ (best) X2 e2 N2 (by exact (if_neg (fun q => hc60 ((own_1lt hj3).mpr q.2.1))).symm)
    · skip
      refine own_of (fun tgt kon => XS.icmpYes X2.here hx rfl (pc0 := 55) (pc' := 105) rfl (hb hby d8_55) rfl (flt hc55).2.2.2 (by decide) (by decide) kon) ?_
      show own_Wp _ _ _ _ (T2.setTop (mkF m 105 #[rv a1, iv (Int32.ofNat i), iv (Int32.ofNat j), rv a4, rv a5, iv p6, iv p7, iv best] []))
      exact J105 T2 _ (best) X2 e2 N2 (by exact (if_neg (fun q => hc55 ((own_1lt hi3).mpr q.1))).symm)
  show own_Wp _ _ _ _ (T1.setTop (mkF m 39 #[rv a1, iv (Int32.ofNat i), iv (Int32.ofNat j), rv a4, rv a5, iv p6, iv p7, iv ((own_mni (ff (i - 1) j) (ff i (j - 1))) + (1 : Int32))] [(.int (tt j)), (.int (kk i)), (.int (ff (i - 1) (j - 1))), (.int ((own_mni (ff (i - 1) j) (ff i (j - 1))) + (1 : Int32)))]))
  by_cases hc39 : (kk i) = (tt j)
  · skip
    refine own_of (fun tgt kon => XS.icmpNo X1.here hx rfl (hb hby d8_39) rfl (teq hc39).2 kon) ?_
    refine own_of (fun tgt kon => XS.iconst X1.here hx rfl (hb hby d8_42) kon) ?_
    refine own_of (fun tgt kon => XS.goto X1.here hx rfl (pc0 := 43) (pc' := 47) rfl (hb hby d8_43) (by decide) (by decide) kon) ?_
    show own_Wp _ _ _ _ (T1.setTop (mkF m 47 #[rv a1, iv (Int32.ofNat i), iv (Int32.ofNat j), rv a4, rv a5, iv p6, iv p7, iv ((own_mni (ff (i - 1) j) (ff i (j - 1))) + (1 : Int32))] [(.int (0 : Int32)), (.int (ff (i - 1) (j - 1))), (.int ((own_mni (ff (i - 1) j) (ff i (j - 1))) + (1 : Int32)))]))
    exact J47 ((0 : Int32)) (by exact (if_pos hc39).symm)
  · skip
    refine own_of (fun tgt kon => XS.icmpYes X1.here hx rfl (pc0 := 39) (pc' := 46) rfl (hb hby d8_39) rfl (feq hc39).2 (by decide) (by decide) kon) ?_
    refine own_of (fun tgt kon => XS.iconst X1.here hx rfl (hb hby d8_46) kon) ?_
    show own_Wp _ _ _ _ (T1.setTop (mkF m 47 #[rv a1, iv (Int32.ofNat i), iv (Int32.ofNat j), rv a4, rv a5, iv p6, iv p7, iv ((own_mni (ff (i - 1) j) (ff i (j - 1))) + (1 : Int32))] [(.int (1 : Int32)), (.int (ff (i - 1) (j - 1))), (.int ((own_mni (ff (i - 1) j) (ff i (j - 1))) + (1 : Int32)))]))
    exact J47 ((1 : Int32)) (by exact (if_neg hc39).symm)
theorem d9_0 : decode method_5_code 0 = .ok (.aload_n 0, 1) := by decide +kernel
theorem d9_1 : decode method_5_code 1 = .ok (.iload_n 1, 1) := by decide +kernel
theorem d9_2 : decode method_5_code 2 = .ok (.iload_n 2, 1) := by decide +kernel
theorem d9_3 : decode method_5_code 3 = .ok (.iload_n 3, 1) := by decide +kernel
theorem d9_4 : decode method_5_code 4 = .ok (.invokevirtual 19, 3) := by decide +kernel
theorem own_pd5 : parseMethodDescriptor "(IIZ)Z" = some ⟨[.int, .int, .boolean], some .boolean⟩ := by decide +kernel
theorem d9_7 : decode method_5_code 7 = .ok (.istore 7, 2) := by decide +kernel
theorem d9_9 : decode method_5_code 9 = .ok (.aload 4, 2) := by decide +kernel
theorem d9_11 : decode method_5_code 11 = .ok (.iconst 0, 1) := by decide +kernel
theorem d9_12 : decode method_5_code 12 = .ok (.iaload, 1) := by decide +kernel
theorem d9_13 : decode method_5_code 13 = .ok (.istore 8, 2) := by decide +kernel
theorem d9_15 : decode method_5_code 15 = .ok (.iload 5, 2) := by decide +kernel
theorem d9_17 : decode method_5_code 17 = .ok (.iconst 1, 1) := by decide +kernel
theorem d9_32 : decode method_5_code 32 = .ok (.iload 5, 2) := by decide +kernel
theorem d9_34 : decode method_5_code 34 = .ok (.iconst 2, 1) := by decide +kernel
theorem d9_49 : decode method_5_code 49 = .ok (.iload 5, 2) := by decide +kernel
theorem d9_51 : decode method_5_code 51 = .ok (.iconst 3, 1) := by decide +kernel
theorem d9_66 : decode method_5_code 66 = .ok (.aload 4, 2) := by decide +kernel
theorem d9_68 : decode method_5_code 68 = .ok (.iload 5, 2) := by decide +kernel
theorem d9_70 : decode method_5_code 70 = .ok (.iaload, 1) := by decide +kernel
theorem d9_71 : decode method_5_code 71 = .ok (.iload 6, 2) := by decide +kernel
theorem d9_85 : decode method_5_code 85 = .ok (.istore 9, 2) := by decide +kernel
theorem d9_87 : decode method_5_code 87 = .ok (.iload 7, 2) := by decide +kernel
theorem d9_89 : decode method_5_code 89 = .ok (.iload 8, 2) := by decide +kernel
theorem d9_91 : decode method_5_code 91 = .ok (.iload 6, 2) := by decide +kernel
theorem d9_101 : decode method_5_code 101 = .ok (.if_icmp .ne 17, 3) := by decide +kernel
theorem d9_104 : decode method_5_code 104 = .ok (.aload_n 0, 1) := by decide +kernel
theorem d9_105 : decode method_5_code 105 = .ok (.iload_n 1, 1) := by decide +kernel
theorem d9_106 : decode method_5_code 106 = .ok (.invokevirtual 25, 3) := by decide +kernel
theorem d9_109 : decode method_5_code 109 = .ok (.iload 9, 2) := by decide +kernel
theorem d9_111 : decode method_5_code 111 = .ok (.if_icmp .ne 7, 3) := by decide +kernel
theorem d9_114 : decode method_5_code 114 = .ok (.iconst 1, 1) := by decide +kernel
theorem d9_115 : decode method_5_code 115 = .ok (.goto 4, 3) := by decide +kernel
theorem d9_119 : decode method_5_code 119 = .ok (.ireturn, 1) := by decide +kernel
theorem d9_93 : decode method_5_code 93 = .ok (.if_icmp .gt 7, 3) := by decide +kernel
theorem d9_100 : decode method_5_code 100 = .ok (.iconst 0, 1) := by decide +kernel
theorem d9_96 : decode method_5_code 96 = .ok (.iconst 1, 1) := by decide +kernel
theorem d9_97 : decode method_5_code 97 = .ok (.goto 4, 3) := by decide +kernel
theorem d9_73 : decode method_5_code 73 = .ok (.if_icmp .gt 11, 3) := by decide +kernel
theorem d9_84 : decode method_5_code 84 = .ok (.iconst (-1), 1) := by decide +kernel
theorem d9_76 : decode method_5_code 76 = .ok (.aload 4, 2) := by decide +kernel
theorem d9_78 : decode method_5_code 78 = .ok (.iload 5, 2) := by decide +kernel
theorem d9_80 : decode method_5_code 80 = .ok (.iaload, 1) := by decide +kernel
theorem d9_81 : decode method_5_code 81 = .ok (.goto 4, 3) := by decide +kernel
theorem d9_52 : decode method_5_code 52 = .ok (.if_icmp .lt 14, 3) := by decide +kernel
theorem d9_55 : decode method_5_code 55 = .ok (.iload 8, 2) := by decide +kernel
theorem d9_57 : decode method_5_code 57 = .ok (.aload 4, 2) := by decide +kernel
theorem d9_59 : decode method_5_code 59 = .ok (.iconst 3, 1) := by decide +kernel
theorem d9_60 : decode method_5_code 60 = .ok (.iaload, 1) := by decide +kernel
theorem d9_61 : decode method_5_code 61 = .ok (.invokestatic 7, 3) := by decide +kernel
theorem d9_64 : decode method_5_code 64 = .ok (.istore 8, 2) := by decide +kernel
theorem d9_35 : decode method_5_code 35 = .ok (.if_icmp .lt 14, 3) := by decide +kernel
theorem d9_38 : decode method_5_code 38 = .ok (.iload 8, 2) := by decide +kernel
theorem d9_40 : decode method_5_code 40 = .ok (.aload 4, 2) := by decide +kernel
theorem d9_42 : decode method_5_code 42 = .ok (.iconst 2, 1) := by decide +kernel
theorem d9_43 : decode method_5_code 43 = .ok (.iaload, 1) := by decide +kernel
theorem d9_44 : decode method_5_code 44 = .ok (.invokestatic 7, 3) := by decide +kernel
theorem d9_47 : decode method_5_code 47 = .ok (.istore 8, 2) := by decide +kernel
theorem d9_18 : decode method_5_code 18 = .ok (.if_icmp .lt 14, 3) := by decide +kernel
theorem d9_21 : decode method_5_code 21 = .ok (.iload 8, 2) := by decide +kernel
theorem d9_23 : decode method_5_code 23 = .ok (.aload 4, 2) := by decide +kernel
theorem d9_25 : decode method_5_code 25 = .ok (.iconst 1, 1) := by decide +kernel
theorem d9_26 : decode method_5_code 26 = .ok (.iaload, 1) := by decide +kernel
theorem d9_27 : decode method_5_code 27 = .ok (.invokestatic 7, 3) := by decide +kernel
theorem d9_30 : decode method_5_code 30 = .ok (.istore 8, 2) := by decide +kernel
def Q_rmrk1 (Z : State) (a1 : Addr) (p3 : Int32) (p4 : Int32) (ac : Addr) (ao : Addr) (ar : Addr) (am : Addr) (cp : Nat → Int32) (co : Nat → Int64) (rf : Nat → Int64) (mf : Nat → Int64) (FF : Nat → Int64) (lv : Int32) (p5 : Int32) (cols : Int64) (out : Int64) (bd : Nat) (ph : Nat) (RL : Nat) (ML : Nat) (RR : Nat) (a5 : Addr) (n : Nat) (p7 : Int32) (D : Nat → Nat) (rwv : Nat → Int32) (h0 : Heap) (n0 : Nat) (v : Option Value) (h : Heap) (L : List Loc) : Prop := v = some (.int 1) ∧ Fr n0 L ∧ Keep h0 h [ar, am] ∧ own_Ar Z h ar .long RL (fun y => .long (own_rk rf (1 * (bd + 1)) FF (bd + 1) y)) ∧ own_Ar Z h am .long ML (fun k => .long (own_upd mf 1 (co RR) k))
set_option maxRecDepth 65536 in
set_option maxHeartbeats 40000000 in
theorem rmrk1 (l : Launch) (Z : State) (a0 : Array Value) (hw : ∀ d ∈ tables_1, d.before a0 Z = true) (ws : List Jvm.Cond) (a1 : Addr) (p3 : Int32) (p4 : Int32) (ac : Addr) (ao : Addr) (ar : Addr) (am : Addr) (cp : Nat → Int32) (co : Nat → Int64) (rf : Nat → Int64) (mf : Nat → Int64) (FF : Nat → Int64) (lv : Int32) (p5 : Int32) (cols : Int64) (out : Int64) (bd : Nat) (ph : Nat) (RL : Nat) (ML : Nat) (RR : Nat) (a5 : Addr) (n : Nat) (p7 : Int32) (D : Nat → Nat) (rwv : Nat → Int32) (h0 : Heap) (n0 : Nat) (Z0 : n0 ≤ h0.size) (E_a1 : Exa Z h0 a1 "com/example/close_words/closewords/BitRows") (F_columnsOf : Fld Z h0 a1 "com/example/close_words/closewords/BitRows" "columnsOf" "[J" (.ref ao)) (F_codePoints : Fld Z h0 a1 "com/example/close_words/closewords/BitRows" "codePoints" "[I" (.ref ac)) (F_matches : Fld Z h0 a1 "com/example/close_words/closewords/BitRows" "matches" "[J" (.ref am)) (F_rows : Fld Z h0 a1 "com/example/close_words/closewords/BitRows" "rows" "[J" (.ref ar)) (F_levels : Fld Z h0 a1 "com/example/close_words/closewords/BitRows" "levels" "I" (.int lv)) (F_columns : Fld Z h0 a1 "com/example/close_words/closewords/BitRows" "columns" "J" (.long cols)) (F_headBound : Fld Z h0 a1 "com/example/close_words/closewords/BitRows" "headBound" "I" (.int p5)) (F_outsideHead : Fld Z h0 a1 "com/example/close_words/closewords/BitRows" "outsideHead" "J" (.long out)) (V_ac : own_Ar Z h0 ac .int 128 (fun k => .int (cp k))) (V_ao : own_Ar Z h0 ao .long 128 (fun k => .long (co k))) (V_ar : own_Ar Z h0 ar .long RL (fun k => .long (rf k))) (V_am : own_Ar Z h0 am .long ML (fun k => .long (mf k))) (ne_a1_ar : a1 ≠ ar) (ne_a1_am : a1 ≠ am) (ne_ac_ar : ac ≠ ar) (ne_ac_am : ac ≠ am) (ne_ao_ar : ao ≠ ar) (ne_ao_am : ao ≠ am) (ne_am_ar : am ≠ ar) (g_ar : n0 ≤ ar) (g_am : n0 ≤ am) (hlv : lv.toInt = ((bd + 1 : Nat) : Int)) (hbd63 : bd ≤ 63) (hhb : p5.toInt = (ph : Int)) (hhb63 : ph ≤ 63) (hRLi : 2 * (bd + 1) ≤ RL) (hMLi : 1 < ML) (hR0 : own_find cp p3 8 (p3 &&& 127).toNatClampNeg = RR) (hR : cp RR = p3 ∨ cp RR = -1) (hRl : RR < 128) (hF0 : FF 0 = ((co RR) &&& ((rf (0 * (bd + 1))) <<< ((1 : Int32) &&& 0x3f).toInt64))) (hFs : ∀ d, FF (d + 1) = (let r1 := ((((co RR) &&& ((rf ((0 * (bd + 1)) + (d + 1))) <<< ((1 : Int32) &&& 0x3f).toInt64)) ||| (rf ((0 * (bd + 1)) + d))) ||| ((rf ((0 * (bd + 1)) + d)) <<< ((1 : Int32) &&& 0x3f).toInt64)) ||| ((FF d) <<< ((1 : Int32) &&& 0x3f).toInt64); let r2 := if (0 : Int64) = 0 then r1 else r1 ||| ((0 : Int64) &&& ((rf ((0 * (bd + 1)) + d)) <<< ((2 : Int32) &&& 0x3f).toInt64)); let r3 := r2 &&& cols; if ph < d + 1 then r3 &&& ((FF ph) ||| out) else r3)) (F_bound : Fld Z h0 a1 "com/example/close_words/closewords/BitRows" "bound" "I" (.int p7)) (F_lastColumn : Fld Z h0 a1 "com/example/close_words/closewords/BitRows" "lastColumn" "J" (.long ((1 : Int64) <<< ((Int32.ofNat n) &&& 0x3f).toInt64))) (V_a5 : own_Ar Z h0 a5 .int 4 (fun k => .int (rwv k))) (ne_a5_ar : a5 ≠ ar) (ne_a5_am : a5 ≠ am) (hn : n < 4) (hp7 : p7.toInt = (bd : Int)) (hrv : ∀ j, j ≤ 3 → rwv j = Int32.ofNat (D j)) (hDb : ∀ j, j ≤ 3 → D j < 3000) (hFB : ∀ d, d ≤ bd → ∀ j, own_Bt (FF d) j ↔ j ≤ n ∧ D j ≤ d) :
    own_Ctr l Z (⟨"com/example/close_words/closewords/BitRowsFillPinLaw", "rowOk", "(Lcom/example/close_words/closewords/BitRows;IIZ[III)Z"⟩ : MethodName) method_5_code 10 (some .boolean) ws ({ frames := 2, cells := 0, slots := 0, locals := 44 } : Room) #[(.ref a1), (.int (1 : Int32)), (.int p3), (.int p4), (.ref a5), (.int (Int32.ofNat n)), (.int p7)] h0 (Q_rmrk1 Z a1 p3 p4 ac ao ar am cp co rf mf FF lv p5 cols out bd ph RL ML RR a5 n p7 D rwv h0 n0) := by
  refine own_enter (plainFor_of_name own_pn2) ?_
  intro p e s m below meth c s₁ X0 hx hby hml hrt hlk hZ hown hnm e0
  have N0 := Fr.nil n0
  have Zs := Z0
  have K0 := Keep.refl h0 [ar, am]
  rw [show entryFrame m #[(.ref a1), (.int (1 : Int32)), (.int p3), (.int p4), (.ref a5), (.int (Int32.ofNat n)), (.int p7)] 10 = mkF m 0 #[rv a1, iv (1 : Int32), iv p3, iv p4, rv a5, iv (Int32.ofNat n), iv p7, uu, uu, uu] [] from by first | (simp [entryFrame, mkF, argsToLocals, Value.category]; done) | rfl]
  show own_Wp _ _ _ _ (s₁.setTop (mkF m 0 #[rv a1, iv (1 : Int32), iv p3, iv p4, rv a5, iv (Int32.ofNat n), iv p7, uu, uu, uu] []))
  refine own_of (fun tgt kon => XS.aloadN X0.here hx rfl (hb hby d9_0) rfl rfl kon) ?_
  refine own_of (fun tgt kon => XS.iloadN X0.here hx rfl (hb hby d9_1) rfl kon) ?_
  refine own_of (fun tgt kon => XS.iloadN X0.here hx rfl (hb hby d9_2) rfl kon) ?_
  refine own_of (fun tgt kon => XS.iloadN X0.here hx rfl (hb hby d9_3) rfl kon) ?_
  refine own_callV X0 hx hZ (C := "com/example/close_words/closewords/BitRows") (y := (⟨"com/example/close_words/closewords/BitRows", "fill", "(IIZ)Z"⟩ : MethodName)) (a := a1) (argsL := [(.int (1 : Int32)), (.int p3), (.int p4)]) (rest := []) (W := 0) hown (ow hw 59 rfl) (ow hw 60 rfl) (ow hw 62 rfl) (ow hw 61 rfl) (ow hw 11 rfl) (ow hw 63 rfl) (by decide) e0 E_a1 (rmro1 l Z a0 hw [] a1 p3 p4 ac ao ar am cp co rf mf FF lv p5 cols out bd ph RL ML RR h0 n0 Zs E_a1 F_columnsOf F_codePoints F_matches F_rows F_levels F_columns F_headBound F_outsideHead V_ac V_ao V_ar V_am ne_a1_ar ne_a1_am ne_ac_ar ne_ac_am ne_ao_ar ne_ao_am ne_am_ar g_ar g_am hlv hbd63 hhb hhb63 hRLi hMLi hR0 hR hRl hF0 hFs) (by decide) (by decide) (by decide) (by decide) rfl (by rw [hml]; rfl) (lenOf own_pd5 rfl) rfl (by show 2 * 0 + _ ≤ _; exact Nat.le_of_eq rfl) (hb hby d9_4) ?_
  rintro T1 L1 _ X1 ⟨rfl, N1q, Kq1, V_ar_q, V_am_q⟩
  have N1 := Fr.app N0 N1q
  show own_Wp _ _ _ _ (T1.setTop (mkF m 7 #[rv a1, iv (1 : Int32), iv p3, iv p4, rv a5, iv (Int32.ofNat n), iv p7, uu, uu, uu] [(.int (if FF bd = 0 then 0 else 1))]))
  replace Zs := Nat.le_trans Zs Kq1.1
  replace K0 := K0.trans Kq1 (allS (P := fun z => z ∈ _ ∨ _ ≤ z) (Or.inl (List.mem_of_getElem? (i := 0) rfl)) (allS (P := fun z => z ∈ _ ∨ _ ≤ z) (Or.inl (List.mem_of_getElem? (i := 1) rfl)) all0))
  replace E_a1 := E_a1.keep Kq1
  replace F_levels := F_levels.keep Kq1 (ninS ne_a1_ar (ninS ne_a1_am nin0))
  replace F_rows := F_rows.keep Kq1 (ninS ne_a1_ar (ninS ne_a1_am nin0))
  replace F_bound := F_bound.keep Kq1 (ninS ne_a1_ar (ninS ne_a1_am nin0))
  replace F_lastColumn := F_lastColumn.keep Kq1 (ninS ne_a1_ar (ninS ne_a1_am nin0))
  replace V_a5 := V_a5.keep Kq1 (ninS ne_a5_ar (ninS ne_a5_am nin0))
  clear V_ar V_am
  have V_ar := V_ar_q
  have V_am := V_am_q
  clear V_ar_q V_am_q
  obtain ⟨fv, h_fv⟩ : ∃ q : Int32, q = (if FF bd = 0 then 0 else 1) := ⟨_, rfl⟩
  rw [← h_fv]
  refine own_of (fun tgt kon => XS.istore X1.here hx rfl (hb hby d9_7) rfl (l' := #[rv a1, iv (1 : Int32), iv p3, iv p4, rv a5, iv (Int32.ofNat n), iv p7, iv fv, uu, uu]) rfl kon) ?_
  show own_Wp _ _ _ _ (T1.setTop (mkF m 9 #[rv a1, iv (1 : Int32), iv p3, iv p4, rv a5, iv (Int32.ofNat n), iv p7, iv fv, uu, uu] []))
  clear hF0 hFs hR0 hR hRl V_ac V_ao F_columnsOf F_codePoints F_matches F_columns F_headBound F_outsideHead
  refine own_of (fun tgt kon => XS.aload X1.here hx rfl (hb hby d9_9) rfl rfl kon) ?_
  refine own_of (fun tgt kon => XS.iconst X1.here hx rfl (hb hby d9_11) kon) ?_
  refine own_iaload X1 hx hZ rfl V_a5 (j := (0 : Int32)) (i := 0) (v := (rwv 0)) (by decide) (by decide) rfl rfl rfl (hb hby d9_12) ?_
  refine own_of (fun tgt kon => XS.istore X1.here hx rfl (hb hby d9_13) rfl (l' := #[rv a1, iv (1 : Int32), iv p3, iv p4, rv a5, iv (Int32.ofNat n), iv p7, iv fv, iv (rwv 0), uu]) rfl kon) ?_
  refine own_of (fun tgt kon => XS.iload X1.here hx rfl (hb hby d9_15) rfl kon) ?_
  show own_Wp _ _ _ _ (T1.setTop (mkF m 17 #[rv a1, iv (1 : Int32), iv p3, iv p4, rv a5, iv (Int32.ofNat n), iv p7, iv fv, iv (rwv 0), uu] [(.int (Int32.ofNat n))]))
  refine own_of (fun tgt kon => XS.iconst X1.here hx rfl (hb hby d9_17) kon) ?_
  show own_Wp _ _ _ _ (T1.setTop (mkF m 18 #[rv a1, iv (1 : Int32), iv p3, iv p4, rv a5, iv (Int32.ofNat n), iv p7, iv fv, iv (rwv 0), uu] [(.int (1 : Int32)), (.int (Int32.ofNat n))]))
  have J32 : ∀ (T2 : State) (lc2 : List Loc) (m1 : Int32), (Stand p l e ({ frames := 2, cells := 0, slots := 0, locals := 44 } : Room) s m #[(.ref a1), (.int (1 : Int32)), (.int p3), (.int p4), (.ref a5), (.int (Int32.ofNat n)), (.int p7)] below meth c T2 lc2 0 0) → (T2.heap = T1.heap) → (Fr n0 lc2) → (m1 = if Int32.ofNat n < (1 : Int32) then (rwv 0) else own_mni (rwv 0) (rwv 1)) → own_Wp p.tables e below (own_K ({ frames := 2, cells := 0, slots := 0, locals := 44 } : Room) s below (Q_rmrk1 Z a1 p3 p4 ac ao ar am cp co rf mf FF lv p5 cols out bd ph RL ML RR a5 n p7 D rwv h0 n0)) (T2.setTop (mkF m 32 #[rv a1, iv (1 : Int32), iv p3, iv p4, rv a5, iv (Int32.ofNat n), iv p7, iv fv, iv m1, uu] [])) := by
    intro T2 lc2 m1 X2 e2 N2 h_m1
    refine own_of (fun tgt kon => XS.iload X2.here hx rfl (hb hby d9_32) rfl kon) ?_
    refine own_of (fun tgt kon => XS.iconst X2.here hx rfl (hb hby d9_34) kon) ?_
    show own_Wp _ _ _ _ (T2.setTop (mkF m 35 #[rv a1, iv (1 : Int32), iv p3, iv p4, rv a5, iv (Int32.ofNat n), iv p7, iv fv, iv m1, uu] [(.int (2 : Int32)), (.int (Int32.ofNat n))]))
    have J49 : ∀ (T3 : State) (lc3 : List Loc) (m2 : Int32), (Stand p l e ({ frames := 2, cells := 0, slots := 0, locals := 44 } : Room) s m #[(.ref a1), (.int (1 : Int32)), (.int p3), (.int p4), (.ref a5), (.int (Int32.ofNat n)), (.int p7)] below meth c T3 lc3 0 0) → (T3.heap = T1.heap) → (Fr n0 lc3) → (m2 = if Int32.ofNat n < (2 : Int32) then m1 else own_mni m1 (rwv 2)) → own_Wp p.tables e below (own_K ({ frames := 2, cells := 0, slots := 0, locals := 44 } : Room) s below (Q_rmrk1 Z a1 p3 p4 ac ao ar am cp co rf mf FF lv p5 cols out bd ph RL ML RR a5 n p7 D rwv h0 n0)) (T3.setTop (mkF m 49 #[rv a1, iv (1 : Int32), iv p3, iv p4, rv a5, iv (Int32.ofNat n), iv p7, iv fv, iv m2, uu] [])) := by
      intro T3 lc3 m2 X3 e3 N3 h_m2
      refine own_of (fun tgt kon => XS.iload X3.here hx rfl (hb hby d9_49) rfl kon) ?_
      refine own_of (fun tgt kon => XS.iconst X3.here hx rfl (hb hby d9_51) kon) ?_
      show own_Wp _ _ _ _ (T3.setTop (mkF m 52 #[rv a1, iv (1 : Int32), iv p3, iv p4, rv a5, iv (Int32.ofNat n), iv p7, iv fv, iv m2, uu] [(.int (3 : Int32)), (.int (Int32.ofNat n))]))
      have J66 : ∀ (T4 : State) (lc4 : List Loc) (m3 : Int32), (Stand p l e ({ frames := 2, cells := 0, slots := 0, locals := 44 } : Room) s m #[(.ref a1), (.int (1 : Int32)), (.int p3), (.int p4), (.ref a5), (.int (Int32.ofNat n)), (.int p7)] below meth c T4 lc4 0 0) → (T4.heap = T1.heap) → (Fr n0 lc4) → (m3 = if Int32.ofNat n < (3 : Int32) then m2 else own_mni m2 (rwv 3)) → own_Wp p.tables e below (own_K ({ frames := 2, cells := 0, slots := 0, locals := 44 } : Room) s below (Q_rmrk1 Z a1 p3 p4 ac ao ar am cp co rf mf FF lv p5 cols out bd ph RL ML RR a5 n p7 D rwv h0 n0)) (T4.setTop (mkF m 66 #[rv a1, iv (1 : Int32), iv p3, iv p4, rv a5, iv (Int32.ofNat n), iv p7, iv fv, iv m3, uu] [])) := by
        intro T4 lc4 m3 X4 e4 N4 h_m3
        refine own_of (fun tgt kon => XS.aload X4.here hx rfl (hb hby d9_66) rfl rfl kon) ?_
        refine own_of (fun tgt kon => XS.iload X4.here hx rfl (hb hby d9_68) rfl kon) ?_
        refine own_iaload X4 hx hZ e4 V_a5 (j := (Int32.ofNat n)) (i := n) (v := (rwv n)) (own_ofN (by omega)) hn rfl rfl rfl (hb hby d9_70) ?_
        refine own_of (fun tgt kon => XS.iload X4.here hx rfl (hb hby d9_71) rfl kon) ?_
        show own_Wp _ _ _ _ (T4.setTop (mkF m 73 #[rv a1, iv (1 : Int32), iv p3, iv p4, rv a5, iv (Int32.ofNat n), iv p7, iv fv, iv m3, uu] [(.int p7), (.int (rwv n))]))
        have J85 : ∀ (ex : Int32), (ex = if p7 < (rwv n) then (-1 : Int32) else (rwv n)) → own_Wp p.tables e below (own_K ({ frames := 2, cells := 0, slots := 0, locals := 44 } : Room) s below (Q_rmrk1 Z a1 p3 p4 ac ao ar am cp co rf mf FF lv p5 cols out bd ph RL ML RR a5 n p7 D rwv h0 n0)) (T4.setTop (mkF m 85 #[rv a1, iv (1 : Int32), iv p3, iv p4, rv a5, iv (Int32.ofNat n), iv p7, iv fv, iv m3, uu] [(.int ex)])) := by
          intro ex h_ex
          refine own_of (fun tgt kon => XS.istore X4.here hx rfl (hb hby d9_85) rfl (l' := #[rv a1, iv (1 : Int32), iv p3, iv p4, rv a5, iv (Int32.ofNat n), iv p7, iv fv, iv m3, iv ex]) rfl kon) ?_
          refine own_of (fun tgt kon => XS.iload X4.here hx rfl (hb hby d9_87) rfl kon) ?_
          refine own_of (fun tgt kon => XS.iload X4.here hx rfl (hb hby d9_89) rfl kon) ?_
          refine own_of (fun tgt kon => XS.iload X4.here hx rfl (hb hby d9_91) rfl kon) ?_
          show own_Wp _ _ _ _ (T4.setTop (mkF m 93 #[rv a1, iv (1 : Int32), iv p3, iv p4, rv a5, iv (Int32.ofNat n), iv p7, iv fv, iv m3, iv ex] [(.int p7), (.int m3), (.int fv)]))
          have J101 : ∀ (mb : Int32), (mb = if p7 < m3 then (0 : Int32) else (1 : Int32)) → own_Wp p.tables e below (own_K ({ frames := 2, cells := 0, slots := 0, locals := 44 } : Room) s below (Q_rmrk1 Z a1 p3 p4 ac ao ar am cp co rf mf FF lv p5 cols out bd ph RL ML RR a5 n p7 D rwv h0 n0)) (T4.setTop (mkF m 101 #[rv a1, iv (1 : Int32), iv p3, iv p4, rv a5, iv (Int32.ofNat n), iv p7, iv fv, iv m3, iv ex] [(.int mb), (.int fv)])) := by
            intro mb h_mb
            have hc101 : fv = mb := by rw [h_fv, h_mb]; exact own_fillv hn hrv hDb h_m1 h_m2 h_m3 (hFB bd (Nat.le_refl _)) hp7
            refine own_of (fun tgt kon => XS.icmpNo X4.here hx rfl (hb hby d9_101) rfl (teq hc101).2 kon) ?_
            refine own_of (fun tgt kon => XS.aloadN X4.here hx rfl (hb hby d9_104) rfl rfl kon) ?_
            refine own_of (fun tgt kon => XS.iloadN X4.here hx rfl (hb hby d9_105) rfl kon) ?_
            have hdd := own_dist (n := n) (bd := bd) (B := (1 * (bd + 1))) (D := D n) (rf := own_rk rf (1 * (bd + 1)) FF (bd + 1)) hn hbd63 (fun d hd => by rw [own_rk_in (by omega), hFB d hd n]; exact ⟨fun q => q.2, fun q => ⟨Nat.le_refl _, q⟩⟩)
            refine own_callV X4 hx hZ (C := "com/example/close_words/closewords/BitRows") (y := (⟨"com/example/close_words/closewords/BitRows", "distance", "(I)I"⟩ : MethodName)) (a := a1) (argsL := [(.int (1 : Int32))]) (rest := []) (W := 0) hown (ow hw 68 rfl) (ow hw 69 rfl) (ow hw 71 rfl) (ow hw 70 rfl) (ow hw 11 rfl) (ow hw 72 rfl) (by decide) e4 E_a1 (rmdi1 l Z a0 hw [] a1 ar (own_rk rf (1 * (bd + 1)) FF (bd + 1)) lv p7 ((1 : Int64) <<< ((Int32.ofNat n) &&& 0x3f).toInt64) bd RL (D n) (own_rD (D n) bd) T1.heap n0 Zs F_levels F_rows F_bound F_lastColumn V_ar hlv hp7 hbd63 hRLi hdd.1 hdd.2.1 hdd.2.2) (by decide) (by decide) (by decide) (by decide) rfl (by rw [hml]; rfl) (lenOf own_pd0 rfl) rfl (by show 2 * 0 + _ ≤ _; exact Nat.le_of_eq rfl) (hb hby d9_106) ?_
            rintro T5 L5 _ X5 ⟨rfl, N5q, e5⟩
            have N5 := Fr.app N4 N5q
            show own_Wp _ _ _ _ (T5.setTop (mkF m 109 #[rv a1, iv (1 : Int32), iv p3, iv p4, rv a5, iv (Int32.ofNat n), iv p7, iv fv, iv m3, iv ex] [(.int (own_rD (D n) bd))]))
            refine own_of (fun tgt kon => XS.iload X5.here hx rfl (hb hby d9_109) rfl kon) ?_
            have hc111 : (own_rD (D n) bd) = ex := by rw [h_ex, hrv n (by omega)]; exact own_fin hp7 (by have := hDb n (by omega); omega)
            refine own_of (fun tgt kon => XS.icmpNo X5.here hx rfl (hb hby d9_111) rfl (teq hc111).2 kon) ?_
            refine own_of (fun tgt kon => XS.iconst X5.here hx rfl (hb hby d9_114) kon) ?_
            refine own_of (fun tgt kon => XS.goto X5.here hx rfl (pc0 := 115) (pc' := 119) rfl (hb hby d9_115) (by decide) (by decide) kon) ?_
            show own_Wp _ _ _ _ (T5.setTop (mkF m 119 #[rv a1, iv (1 : Int32), iv p3, iv p4, rv a5, iv (Int32.ofNat n), iv p7, iv fv, iv m3, iv ex] [(.int (1 : Int32))]))
            refine own_ret X5 hlk (some (.int (1 : Int32))) (own_rtI hrt) (fun fs hr => retN X5 hx (t := .boolean) hrt (by simp) (hb hby d9_119) hr) ?_ (by decide) (by decide)
            rw [e5]
            exact ⟨rfl, N5, K0, V_ar, V_am⟩
          show own_Wp _ _ _ _ (T4.setTop (mkF m 93 #[rv a1, iv (1 : Int32), iv p3, iv p4, rv a5, iv (Int32.ofNat n), iv p7, iv fv, iv m3, iv ex] [(.int p7), (.int m3), (.int fv)]))
          by_cases hc93 : p7 < m3
          · skip
            refine own_of (fun tgt kon => XS.icmpYes X4.here hx rfl (pc0 := 93) (pc' := 100) rfl (hb hby d9_93) rfl (tlt hc93).2.2.1 (by decide) (by decide) kon) ?_
            refine own_of (fun tgt kon => XS.iconst X4.here hx rfl (hb hby d9_100) kon) ?_
            show own_Wp _ _ _ _ (T4.setTop (mkF m 101 #[rv a1, iv (1 : Int32), iv p3, iv p4, rv a5, iv (Int32.ofNat n), iv p7, iv fv, iv m3, iv ex] [(.int (0 : Int32)), (.int fv)]))
            exact J101 ((0 : Int32)) (by exact (if_pos hc93).symm)
          · skip
            refine own_of (fun tgt kon => XS.icmpNo X4.here hx rfl (hb hby d9_93) rfl (flt hc93).2.2.1 kon) ?_
            refine own_of (fun tgt kon => XS.iconst X4.here hx rfl (hb hby d9_96) kon) ?_
            refine own_of (fun tgt kon => XS.goto X4.here hx rfl (pc0 := 97) (pc' := 101) rfl (hb hby d9_97) (by decide) (by decide) kon) ?_
            show own_Wp _ _ _ _ (T4.setTop (mkF m 101 #[rv a1, iv (1 : Int32), iv p3, iv p4, rv a5, iv (Int32.ofNat n), iv p7, iv fv, iv m3, iv ex] [(.int (1 : Int32)), (.int fv)]))
            exact J101 ((1 : Int32)) (by exact (if_neg hc93).symm)
        show own_Wp _ _ _ _ (T4.setTop (mkF m 73 #[rv a1, iv (1 : Int32), iv p3, iv p4, rv a5, iv (Int32.ofNat n), iv p7, iv fv, iv m3, uu] [(.int p7), (.int (rwv n))]))
        by_cases hc73 : p7 < (rwv n)
        · skip
          refine own_of (fun tgt kon => XS.icmpYes X4.here hx rfl (pc0 := 73) (pc' := 84) rfl (hb hby d9_73) rfl (tlt hc73).2.2.1 (by decide) (by decide) kon) ?_
          refine own_of (fun tgt kon => XS.iconst X4.here hx rfl (hb hby d9_84) kon) ?_
          show own_Wp _ _ _ _ (T4.setTop (mkF m 85 #[rv a1, iv (1 : Int32), iv p3, iv p4, rv a5, iv (Int32.ofNat n), iv p7, iv fv, iv m3, uu] [(.int (-1 : Int32))]))
          exact J85 ((-1 : Int32)) (by exact (if_pos hc73).symm)
        · skip
          refine own_of (fun tgt kon => XS.icmpNo X4.here hx rfl (hb hby d9_73) rfl (flt hc73).2.2.1 kon) ?_
          refine own_of (fun tgt kon => XS.aload X4.here hx rfl (hb hby d9_76) rfl rfl kon) ?_
          refine own_of (fun tgt kon => XS.iload X4.here hx rfl (hb hby d9_78) rfl kon) ?_
          refine own_iaload X4 hx hZ e4 V_a5 (j := (Int32.ofNat n)) (i := n) (v := (rwv n)) (own_ofN (by omega)) hn rfl rfl rfl (hb hby d9_80) ?_
          refine own_of (fun tgt kon => XS.goto X4.here hx rfl (pc0 := 81) (pc' := 85) rfl (hb hby d9_81) (by decide) (by decide) kon) ?_
          show own_Wp _ _ _ _ (T4.setTop (mkF m 85 #[rv a1, iv (1 : Int32), iv p3, iv p4, rv a5, iv (Int32.ofNat n), iv p7, iv fv, iv m3, uu] [(.int (rwv n))]))
          exact J85 ((rwv n)) (by exact (if_neg hc73).symm)
      show own_Wp _ _ _ _ (T3.setTop (mkF m 52 #[rv a1, iv (1 : Int32), iv p3, iv p4, rv a5, iv (Int32.ofNat n), iv p7, iv fv, iv m2, uu] [(.int (3 : Int32)), (.int (Int32.ofNat n))]))
      by_cases hc52 : (Int32.ofNat n) < (3 : Int32)
      · skip
        refine own_of (fun tgt kon => XS.icmpYes X3.here hx rfl (pc0 := 52) (pc' := 66) rfl (hb hby d9_52) rfl (tlt hc52).1 (by decide) (by decide) kon) ?_
        show own_Wp _ _ _ _ (T3.setTop (mkF m 66 #[rv a1, iv (1 : Int32), iv p3, iv p4, rv a5, iv (Int32.ofNat n), iv p7, iv fv, iv m2, uu] []))
        exact J66 T3 _ (m2) X3 e3 N3 (by exact (if_pos hc52).symm)
      · skip
        refine own_of (fun tgt kon => XS.icmpNo X3.here hx rfl (hb hby d9_52) rfl (flt hc52).1 kon) ?_
        refine own_of (fun tgt kon => XS.iload X3.here hx rfl (hb hby d9_55) rfl kon) ?_
        refine own_of (fun tgt kon => XS.aload X3.here hx rfl (hb hby d9_57) rfl rfl kon) ?_
        refine own_of (fun tgt kon => XS.iconst X3.here hx rfl (hb hby d9_59) kon) ?_
        refine own_iaload X3 hx hZ e3 V_a5 (j := (3 : Int32)) (i := 3) (v := (rwv 3)) (by decide) (by decide) rfl rfl rfl (hb hby d9_60) ?_
        show own_Wp _ _ _ _ (T3.setTop (mkF m 61 #[rv a1, iv (1 : Int32), iv p3, iv p4, rv a5, iv (Int32.ofNat n), iv p7, iv fv, iv m2, uu] [(.int (rwv 3)), (.int m2)]))
        refine own_callS X3 hx hZ (y := (⟨"java/lang/Math", "min", "(II)I"⟩ : MethodName)) (argsL := [(.int m2), (.int (rwv 3))]) (rest := []) (W := 0) hown (ow hw 5 rfl) (ow hw 6 rfl) (ow hw 7 rfl) (ow hw 8 rfl) (by decide) e3 (rmmin l Z a0 hw [] m2 (rwv 3) T1.heap n0 Zs) (by decide) (by decide) (by decide) (by decide) rfl (by rw [hml]; rfl) (lenOf own_pd3 rfl) rfl (by show 2 * 0 + _ ≤ _; exact Nat.le_of_eq rfl) (hb hby d9_61) ?_
        rintro T6 L6 _ X6 ⟨rfl, N6q, e6⟩
        have N6 := Fr.app N3 N6q
        show own_Wp _ _ _ _ (T6.setTop (mkF m 64 #[rv a1, iv (1 : Int32), iv p3, iv p4, rv a5, iv (Int32.ofNat n), iv p7, iv fv, iv m2, uu] [(.int (own_mni m2 (rwv 3)))]))
        refine own_of (fun tgt kon => XS.istore X6.here hx rfl (hb hby d9_64) rfl (l' := #[rv a1, iv (1 : Int32), iv p3, iv p4, rv a5, iv (Int32.ofNat n), iv p7, iv fv, iv (own_mni m2 (rwv 3)), uu]) rfl kon) ?_
        show own_Wp _ _ _ _ (T6.setTop (mkF m 66 #[rv a1, iv (1 : Int32), iv p3, iv p4, rv a5, iv (Int32.ofNat n), iv p7, iv fv, iv (own_mni m2 (rwv 3)), uu] []))
        exact J66 T6 _ ((own_mni m2 (rwv 3))) X6 e6 N6 (by exact (if_neg hc52).symm)
    show own_Wp _ _ _ _ (T2.setTop (mkF m 35 #[rv a1, iv (1 : Int32), iv p3, iv p4, rv a5, iv (Int32.ofNat n), iv p7, iv fv, iv m1, uu] [(.int (2 : Int32)), (.int (Int32.ofNat n))]))
    by_cases hc35 : (Int32.ofNat n) < (2 : Int32)
    · skip
      refine own_of (fun tgt kon => XS.icmpYes X2.here hx rfl (pc0 := 35) (pc' := 49) rfl (hb hby d9_35) rfl (tlt hc35).1 (by decide) (by decide) kon) ?_
      show own_Wp _ _ _ _ (T2.setTop (mkF m 49 #[rv a1, iv (1 : Int32), iv p3, iv p4, rv a5, iv (Int32.ofNat n), iv p7, iv fv, iv m1, uu] []))
      exact J49 T2 _ (m1) X2 e2 N2 (by exact (if_pos hc35).symm)
    · skip
      refine own_of (fun tgt kon => XS.icmpNo X2.here hx rfl (hb hby d9_35) rfl (flt hc35).1 kon) ?_
      refine own_of (fun tgt kon => XS.iload X2.here hx rfl (hb hby d9_38) rfl kon) ?_
      refine own_of (fun tgt kon => XS.aload X2.here hx rfl (hb hby d9_40) rfl rfl kon) ?_
      refine own_of (fun tgt kon => XS.iconst X2.here hx rfl (hb hby d9_42) kon) ?_
      refine own_iaload X2 hx hZ e2 V_a5 (j := (2 : Int32)) (i := 2) (v := (rwv 2)) (by decide) (by decide) rfl rfl rfl (hb hby d9_43) ?_
      show own_Wp _ _ _ _ (T2.setTop (mkF m 44 #[rv a1, iv (1 : Int32), iv p3, iv p4, rv a5, iv (Int32.ofNat n), iv p7, iv fv, iv m1, uu] [(.int (rwv 2)), (.int m1)]))
      refine own_callS X2 hx hZ (y := (⟨"java/lang/Math", "min", "(II)I"⟩ : MethodName)) (argsL := [(.int m1), (.int (rwv 2))]) (rest := []) (W := 0) hown (ow hw 5 rfl) (ow hw 6 rfl) (ow hw 7 rfl) (ow hw 8 rfl) (by decide) e2 (rmmin l Z a0 hw [] m1 (rwv 2) T1.heap n0 Zs) (by decide) (by decide) (by decide) (by decide) rfl (by rw [hml]; rfl) (lenOf own_pd3 rfl) rfl (by show 2 * 0 + _ ≤ _; exact Nat.le_of_eq rfl) (hb hby d9_44) ?_
      rintro T7 L7 _ X7 ⟨rfl, N7q, e7⟩
      have N7 := Fr.app N2 N7q
      show own_Wp _ _ _ _ (T7.setTop (mkF m 47 #[rv a1, iv (1 : Int32), iv p3, iv p4, rv a5, iv (Int32.ofNat n), iv p7, iv fv, iv m1, uu] [(.int (own_mni m1 (rwv 2)))]))
      refine own_of (fun tgt kon => XS.istore X7.here hx rfl (hb hby d9_47) rfl (l' := #[rv a1, iv (1 : Int32), iv p3, iv p4, rv a5, iv (Int32.ofNat n), iv p7, iv fv, iv (own_mni m1 (rwv 2)), uu]) rfl kon) ?_
      show own_Wp _ _ _ _ (T7.setTop (mkF m 49 #[rv a1, iv (1 : Int32), iv p3, iv p4, rv a5, iv (Int32.ofNat n), iv p7, iv fv, iv (own_mni m1 (rwv 2)), uu] []))
      exact J49 T7 _ ((own_mni m1 (rwv 2))) X7 e7 N7 (by exact (if_neg hc35).symm)
  show own_Wp _ _ _ _ (T1.setTop (mkF m 18 #[rv a1, iv (1 : Int32), iv p3, iv p4, rv a5, iv (Int32.ofNat n), iv p7, iv fv, iv (rwv 0), uu] [(.int (1 : Int32)), (.int (Int32.ofNat n))]))
  by_cases hc18 : (Int32.ofNat n) < (1 : Int32)
  · skip
    refine own_of (fun tgt kon => XS.icmpYes X1.here hx rfl (pc0 := 18) (pc' := 32) rfl (hb hby d9_18) rfl (tlt hc18).1 (by decide) (by decide) kon) ?_
    show own_Wp _ _ _ _ (T1.setTop (mkF m 32 #[rv a1, iv (1 : Int32), iv p3, iv p4, rv a5, iv (Int32.ofNat n), iv p7, iv fv, iv (rwv 0), uu] []))
    exact J32 T1 _ ((rwv 0)) X1 rfl N1 (by exact (if_pos hc18).symm)
  · skip
    refine own_of (fun tgt kon => XS.icmpNo X1.here hx rfl (hb hby d9_18) rfl (flt hc18).1 kon) ?_
    refine own_of (fun tgt kon => XS.iload X1.here hx rfl (hb hby d9_21) rfl kon) ?_
    refine own_of (fun tgt kon => XS.aload X1.here hx rfl (hb hby d9_23) rfl rfl kon) ?_
    refine own_of (fun tgt kon => XS.iconst X1.here hx rfl (hb hby d9_25) kon) ?_
    refine own_iaload X1 hx hZ rfl V_a5 (j := (1 : Int32)) (i := 1) (v := (rwv 1)) (by decide) (by decide) rfl rfl rfl (hb hby d9_26) ?_
    show own_Wp _ _ _ _ (T1.setTop (mkF m 27 #[rv a1, iv (1 : Int32), iv p3, iv p4, rv a5, iv (Int32.ofNat n), iv p7, iv fv, iv (rwv 0), uu] [(.int (rwv 1)), (.int (rwv 0))]))
    refine own_callS X1 hx hZ (y := (⟨"java/lang/Math", "min", "(II)I"⟩ : MethodName)) (argsL := [(.int (rwv 0)), (.int (rwv 1))]) (rest := []) (W := 0) hown (ow hw 5 rfl) (ow hw 6 rfl) (ow hw 7 rfl) (ow hw 8 rfl) (by decide) rfl (rmmin l Z a0 hw [] (rwv 0) (rwv 1) T1.heap n0 Zs) (by decide) (by decide) (by decide) (by decide) rfl (by rw [hml]; rfl) (lenOf own_pd3 rfl) rfl (by show 2 * 0 + _ ≤ _; exact Nat.le_of_eq rfl) (hb hby d9_27) ?_
    rintro T8 L8 _ X8 ⟨rfl, N8q, e8⟩
    have N8 := Fr.app N1 N8q
    show own_Wp _ _ _ _ (T8.setTop (mkF m 30 #[rv a1, iv (1 : Int32), iv p3, iv p4, rv a5, iv (Int32.ofNat n), iv p7, iv fv, iv (rwv 0), uu] [(.int (own_mni (rwv 0) (rwv 1)))]))
    refine own_of (fun tgt kon => XS.istore X8.here hx rfl (hb hby d9_30) rfl (l' := #[rv a1, iv (1 : Int32), iv p3, iv p4, rv a5, iv (Int32.ofNat n), iv p7, iv fv, iv (own_mni (rwv 0) (rwv 1)), uu]) rfl kon) ?_
    show own_Wp _ _ _ _ (T8.setTop (mkF m 32 #[rv a1, iv (1 : Int32), iv p3, iv p4, rv a5, iv (Int32.ofNat n), iv p7, iv fv, iv (own_mni (rwv 0) (rwv 1)), uu] []))
    exact J32 T8 _ ((own_mni (rwv 0) (rwv 1))) X8 e8 N8 (by exact (if_neg hc18).symm)
def Q_rmrk2 (Z : State) (a1 : Addr) (p3 : Int32) (p4 : Int32) (ac : Addr) (ao : Addr) (ar : Addr) (am : Addr) (cp : Nat → Int32) (co : Nat → Int64) (rf : Nat → Int64) (mf : Nat → Int64) (FF : Nat → Int64) (lv : Int32) (p5 : Int32) (cols : Int64) (out : Int64) (bd : Nat) (ph : Nat) (RL : Nat) (ML : Nat) (RR : Nat) (a5 : Addr) (n : Nat) (p7 : Int32) (D : Nat → Nat) (rwv : Nat → Int32) (h0 : Heap) (n0 : Nat) (v : Option Value) (h : Heap) (L : List Loc) : Prop := v = some (.int 1) ∧ Fr n0 L ∧ Keep h0 h [ar, am] ∧ own_Ar Z h ar .long RL (fun y => .long (own_rk rf (2 * (bd + 1)) FF (bd + 1) y)) ∧ own_Ar Z h am .long ML (fun k => .long (own_upd mf 2 (co RR) k))
set_option maxRecDepth 65536 in
set_option maxHeartbeats 40000000 in
theorem rmrk2 (l : Launch) (Z : State) (a0 : Array Value) (hw : ∀ d ∈ tables_1, d.before a0 Z = true) (ws : List Jvm.Cond) (a1 : Addr) (p3 : Int32) (p4 : Int32) (ac : Addr) (ao : Addr) (ar : Addr) (am : Addr) (cp : Nat → Int32) (co : Nat → Int64) (rf : Nat → Int64) (mf : Nat → Int64) (FF : Nat → Int64) (lv : Int32) (p5 : Int32) (cols : Int64) (out : Int64) (bd : Nat) (ph : Nat) (RL : Nat) (ML : Nat) (RR : Nat) (a5 : Addr) (n : Nat) (p7 : Int32) (D : Nat → Nat) (rwv : Nat → Int32) (h0 : Heap) (n0 : Nat) (Z0 : n0 ≤ h0.size) (E_a1 : Exa Z h0 a1 "com/example/close_words/closewords/BitRows") (F_columnsOf : Fld Z h0 a1 "com/example/close_words/closewords/BitRows" "columnsOf" "[J" (.ref ao)) (F_codePoints : Fld Z h0 a1 "com/example/close_words/closewords/BitRows" "codePoints" "[I" (.ref ac)) (F_matches : Fld Z h0 a1 "com/example/close_words/closewords/BitRows" "matches" "[J" (.ref am)) (F_rows : Fld Z h0 a1 "com/example/close_words/closewords/BitRows" "rows" "[J" (.ref ar)) (F_levels : Fld Z h0 a1 "com/example/close_words/closewords/BitRows" "levels" "I" (.int lv)) (F_columns : Fld Z h0 a1 "com/example/close_words/closewords/BitRows" "columns" "J" (.long cols)) (F_headBound : Fld Z h0 a1 "com/example/close_words/closewords/BitRows" "headBound" "I" (.int p5)) (F_outsideHead : Fld Z h0 a1 "com/example/close_words/closewords/BitRows" "outsideHead" "J" (.long out)) (V_ac : own_Ar Z h0 ac .int 128 (fun k => .int (cp k))) (V_ao : own_Ar Z h0 ao .long 128 (fun k => .long (co k))) (V_ar : own_Ar Z h0 ar .long RL (fun k => .long (rf k))) (V_am : own_Ar Z h0 am .long ML (fun k => .long (mf k))) (ne_a1_ar : a1 ≠ ar) (ne_a1_am : a1 ≠ am) (ne_ac_ar : ac ≠ ar) (ne_ac_am : ac ≠ am) (ne_ao_ar : ao ≠ ar) (ne_ao_am : ao ≠ am) (ne_am_ar : am ≠ ar) (g_ar : n0 ≤ ar) (g_am : n0 ≤ am) (hlv : lv.toInt = ((bd + 1 : Nat) : Int)) (hbd63 : bd ≤ 63) (hhb : p5.toInt = (ph : Int)) (hhb63 : ph ≤ 63) (hRLi : 3 * (bd + 1) ≤ RL) (hMLi : 2 < ML) (hR0 : own_find cp p3 8 (p3 &&& 127).toNatClampNeg = RR) (hR : cp RR = p3 ∨ cp RR = -1) (hRl : RR < 128) (hF0 : FF 0 = ((co RR) &&& ((rf (1 * (bd + 1))) <<< ((1 : Int32) &&& 0x3f).toInt64))) (hFs : ∀ d, FF (d + 1) = (let r1 := ((((co RR) &&& ((rf ((1 * (bd + 1)) + (d + 1))) <<< ((1 : Int32) &&& 0x3f).toInt64)) ||| (rf ((1 * (bd + 1)) + d))) ||| ((rf ((1 * (bd + 1)) + d)) <<< ((1 : Int32) &&& 0x3f).toInt64)) ||| ((FF d) <<< ((1 : Int32) &&& 0x3f).toInt64); let r2 := if (((co RR) <<< ((1 : Int32) &&& 0x3f).toInt64) &&& (mf 1)) = 0 then r1 else r1 ||| ((((co RR) <<< ((1 : Int32) &&& 0x3f).toInt64) &&& (mf 1)) &&& ((rf ((0 * (bd + 1)) + d)) <<< ((2 : Int32) &&& 0x3f).toInt64)); let r3 := r2 &&& cols; if ph < d + 1 then r3 &&& ((FF ph) ||| out) else r3)) (F_bound : Fld Z h0 a1 "com/example/close_words/closewords/BitRows" "bound" "I" (.int p7)) (F_lastColumn : Fld Z h0 a1 "com/example/close_words/closewords/BitRows" "lastColumn" "J" (.long ((1 : Int64) <<< ((Int32.ofNat n) &&& 0x3f).toInt64))) (V_a5 : own_Ar Z h0 a5 .int 4 (fun k => .int (rwv k))) (ne_a5_ar : a5 ≠ ar) (ne_a5_am : a5 ≠ am) (hn : n < 4) (hp7 : p7.toInt = (bd : Int)) (hrv : ∀ j, j ≤ 3 → rwv j = Int32.ofNat (D j)) (hDb : ∀ j, j ≤ 3 → D j < 3000) (hFB : ∀ d, d ≤ bd → ∀ j, own_Bt (FF d) j ↔ j ≤ n ∧ D j ≤ d) :
    own_Ctr l Z (⟨"com/example/close_words/closewords/BitRowsFillPinLaw", "rowOk", "(Lcom/example/close_words/closewords/BitRows;IIZ[III)Z"⟩ : MethodName) method_5_code 10 (some .boolean) ws ({ frames := 2, cells := 0, slots := 0, locals := 44 } : Room) #[(.ref a1), (.int (2 : Int32)), (.int p3), (.int p4), (.ref a5), (.int (Int32.ofNat n)), (.int p7)] h0 (Q_rmrk2 Z a1 p3 p4 ac ao ar am cp co rf mf FF lv p5 cols out bd ph RL ML RR a5 n p7 D rwv h0 n0) := by
  refine own_enter (plainFor_of_name own_pn2) ?_
  intro p e s m below meth c s₁ X0 hx hby hml hrt hlk hZ hown hnm e0
  have N0 := Fr.nil n0
  have Zs := Z0
  have K0 := Keep.refl h0 [ar, am]
  rw [show entryFrame m #[(.ref a1), (.int (2 : Int32)), (.int p3), (.int p4), (.ref a5), (.int (Int32.ofNat n)), (.int p7)] 10 = mkF m 0 #[rv a1, iv (2 : Int32), iv p3, iv p4, rv a5, iv (Int32.ofNat n), iv p7, uu, uu, uu] [] from by first | (simp [entryFrame, mkF, argsToLocals, Value.category]; done) | rfl]
  show own_Wp _ _ _ _ (s₁.setTop (mkF m 0 #[rv a1, iv (2 : Int32), iv p3, iv p4, rv a5, iv (Int32.ofNat n), iv p7, uu, uu, uu] []))
  refine own_of (fun tgt kon => XS.aloadN X0.here hx rfl (hb hby d9_0) rfl rfl kon) ?_
  refine own_of (fun tgt kon => XS.iloadN X0.here hx rfl (hb hby d9_1) rfl kon) ?_
  refine own_of (fun tgt kon => XS.iloadN X0.here hx rfl (hb hby d9_2) rfl kon) ?_
  refine own_of (fun tgt kon => XS.iloadN X0.here hx rfl (hb hby d9_3) rfl kon) ?_
  refine own_callV X0 hx hZ (C := "com/example/close_words/closewords/BitRows") (y := (⟨"com/example/close_words/closewords/BitRows", "fill", "(IIZ)Z"⟩ : MethodName)) (a := a1) (argsL := [(.int (2 : Int32)), (.int p3), (.int p4)]) (rest := []) (W := 0) hown (ow hw 59 rfl) (ow hw 60 rfl) (ow hw 62 rfl) (ow hw 61 rfl) (ow hw 11 rfl) (ow hw 63 rfl) (by decide) e0 E_a1 (rmro2 l Z a0 hw [] a1 p3 p4 ac ao ar am cp co rf mf FF lv p5 cols out bd ph RL ML RR h0 n0 Zs E_a1 F_columnsOf F_codePoints F_matches F_rows F_levels F_columns F_headBound F_outsideHead V_ac V_ao V_ar V_am ne_a1_ar ne_a1_am ne_ac_ar ne_ac_am ne_ao_ar ne_ao_am ne_am_ar g_ar g_am hlv hbd63 hhb hhb63 hRLi hMLi hR0 hR hRl hF0 hFs) (by decide) (by decide) (by decide) (by decide) rfl (by rw [hml]; rfl) (lenOf own_pd5 rfl) rfl (by show 2 * 0 + _ ≤ _; exact Nat.le_of_eq rfl) (hb hby d9_4) ?_
  rintro T1 L1 _ X1 ⟨rfl, N1q, Kq1, V_ar_q, V_am_q⟩
  have N1 := Fr.app N0 N1q
  show own_Wp _ _ _ _ (T1.setTop (mkF m 7 #[rv a1, iv (2 : Int32), iv p3, iv p4, rv a5, iv (Int32.ofNat n), iv p7, uu, uu, uu] [(.int (if FF bd = 0 then 0 else 1))]))
  replace Zs := Nat.le_trans Zs Kq1.1
  replace K0 := K0.trans Kq1 (allS (P := fun z => z ∈ _ ∨ _ ≤ z) (Or.inl (List.mem_of_getElem? (i := 0) rfl)) (allS (P := fun z => z ∈ _ ∨ _ ≤ z) (Or.inl (List.mem_of_getElem? (i := 1) rfl)) all0))
  replace E_a1 := E_a1.keep Kq1
  replace F_levels := F_levels.keep Kq1 (ninS ne_a1_ar (ninS ne_a1_am nin0))
  replace F_rows := F_rows.keep Kq1 (ninS ne_a1_ar (ninS ne_a1_am nin0))
  replace F_bound := F_bound.keep Kq1 (ninS ne_a1_ar (ninS ne_a1_am nin0))
  replace F_lastColumn := F_lastColumn.keep Kq1 (ninS ne_a1_ar (ninS ne_a1_am nin0))
  replace V_a5 := V_a5.keep Kq1 (ninS ne_a5_ar (ninS ne_a5_am nin0))
  clear V_ar V_am
  have V_ar := V_ar_q
  have V_am := V_am_q
  clear V_ar_q V_am_q
  obtain ⟨fv, h_fv⟩ : ∃ q : Int32, q = (if FF bd = 0 then 0 else 1) := ⟨_, rfl⟩
  rw [← h_fv]
  refine own_of (fun tgt kon => XS.istore X1.here hx rfl (hb hby d9_7) rfl (l' := #[rv a1, iv (2 : Int32), iv p3, iv p4, rv a5, iv (Int32.ofNat n), iv p7, iv fv, uu, uu]) rfl kon) ?_
  show own_Wp _ _ _ _ (T1.setTop (mkF m 9 #[rv a1, iv (2 : Int32), iv p3, iv p4, rv a5, iv (Int32.ofNat n), iv p7, iv fv, uu, uu] []))
  clear hF0 hFs hR0 hR hRl V_ac V_ao F_columnsOf F_codePoints F_matches F_columns F_headBound F_outsideHead
  refine own_of (fun tgt kon => XS.aload X1.here hx rfl (hb hby d9_9) rfl rfl kon) ?_
  refine own_of (fun tgt kon => XS.iconst X1.here hx rfl (hb hby d9_11) kon) ?_
  refine own_iaload X1 hx hZ rfl V_a5 (j := (0 : Int32)) (i := 0) (v := (rwv 0)) (by decide) (by decide) rfl rfl rfl (hb hby d9_12) ?_
  refine own_of (fun tgt kon => XS.istore X1.here hx rfl (hb hby d9_13) rfl (l' := #[rv a1, iv (2 : Int32), iv p3, iv p4, rv a5, iv (Int32.ofNat n), iv p7, iv fv, iv (rwv 0), uu]) rfl kon) ?_
  refine own_of (fun tgt kon => XS.iload X1.here hx rfl (hb hby d9_15) rfl kon) ?_
  show own_Wp _ _ _ _ (T1.setTop (mkF m 17 #[rv a1, iv (2 : Int32), iv p3, iv p4, rv a5, iv (Int32.ofNat n), iv p7, iv fv, iv (rwv 0), uu] [(.int (Int32.ofNat n))]))
  refine own_of (fun tgt kon => XS.iconst X1.here hx rfl (hb hby d9_17) kon) ?_
  show own_Wp _ _ _ _ (T1.setTop (mkF m 18 #[rv a1, iv (2 : Int32), iv p3, iv p4, rv a5, iv (Int32.ofNat n), iv p7, iv fv, iv (rwv 0), uu] [(.int (1 : Int32)), (.int (Int32.ofNat n))]))
  have J32 : ∀ (T2 : State) (lc2 : List Loc) (m1 : Int32), (Stand p l e ({ frames := 2, cells := 0, slots := 0, locals := 44 } : Room) s m #[(.ref a1), (.int (2 : Int32)), (.int p3), (.int p4), (.ref a5), (.int (Int32.ofNat n)), (.int p7)] below meth c T2 lc2 0 0) → (T2.heap = T1.heap) → (Fr n0 lc2) → (m1 = if Int32.ofNat n < (1 : Int32) then (rwv 0) else own_mni (rwv 0) (rwv 1)) → own_Wp p.tables e below (own_K ({ frames := 2, cells := 0, slots := 0, locals := 44 } : Room) s below (Q_rmrk2 Z a1 p3 p4 ac ao ar am cp co rf mf FF lv p5 cols out bd ph RL ML RR a5 n p7 D rwv h0 n0)) (T2.setTop (mkF m 32 #[rv a1, iv (2 : Int32), iv p3, iv p4, rv a5, iv (Int32.ofNat n), iv p7, iv fv, iv m1, uu] [])) := by
    intro T2 lc2 m1 X2 e2 N2 h_m1
    refine own_of (fun tgt kon => XS.iload X2.here hx rfl (hb hby d9_32) rfl kon) ?_
    refine own_of (fun tgt kon => XS.iconst X2.here hx rfl (hb hby d9_34) kon) ?_
    show own_Wp _ _ _ _ (T2.setTop (mkF m 35 #[rv a1, iv (2 : Int32), iv p3, iv p4, rv a5, iv (Int32.ofNat n), iv p7, iv fv, iv m1, uu] [(.int (2 : Int32)), (.int (Int32.ofNat n))]))
    have J49 : ∀ (T3 : State) (lc3 : List Loc) (m2 : Int32), (Stand p l e ({ frames := 2, cells := 0, slots := 0, locals := 44 } : Room) s m #[(.ref a1), (.int (2 : Int32)), (.int p3), (.int p4), (.ref a5), (.int (Int32.ofNat n)), (.int p7)] below meth c T3 lc3 0 0) → (T3.heap = T1.heap) → (Fr n0 lc3) → (m2 = if Int32.ofNat n < (2 : Int32) then m1 else own_mni m1 (rwv 2)) → own_Wp p.tables e below (own_K ({ frames := 2, cells := 0, slots := 0, locals := 44 } : Room) s below (Q_rmrk2 Z a1 p3 p4 ac ao ar am cp co rf mf FF lv p5 cols out bd ph RL ML RR a5 n p7 D rwv h0 n0)) (T3.setTop (mkF m 49 #[rv a1, iv (2 : Int32), iv p3, iv p4, rv a5, iv (Int32.ofNat n), iv p7, iv fv, iv m2, uu] [])) := by
      intro T3 lc3 m2 X3 e3 N3 h_m2
      refine own_of (fun tgt kon => XS.iload X3.here hx rfl (hb hby d9_49) rfl kon) ?_
      refine own_of (fun tgt kon => XS.iconst X3.here hx rfl (hb hby d9_51) kon) ?_
      show own_Wp _ _ _ _ (T3.setTop (mkF m 52 #[rv a1, iv (2 : Int32), iv p3, iv p4, rv a5, iv (Int32.ofNat n), iv p7, iv fv, iv m2, uu] [(.int (3 : Int32)), (.int (Int32.ofNat n))]))
      have J66 : ∀ (T4 : State) (lc4 : List Loc) (m3 : Int32), (Stand p l e ({ frames := 2, cells := 0, slots := 0, locals := 44 } : Room) s m #[(.ref a1), (.int (2 : Int32)), (.int p3), (.int p4), (.ref a5), (.int (Int32.ofNat n)), (.int p7)] below meth c T4 lc4 0 0) → (T4.heap = T1.heap) → (Fr n0 lc4) → (m3 = if Int32.ofNat n < (3 : Int32) then m2 else own_mni m2 (rwv 3)) → own_Wp p.tables e below (own_K ({ frames := 2, cells := 0, slots := 0, locals := 44 } : Room) s below (Q_rmrk2 Z a1 p3 p4 ac ao ar am cp co rf mf FF lv p5 cols out bd ph RL ML RR a5 n p7 D rwv h0 n0)) (T4.setTop (mkF m 66 #[rv a1, iv (2 : Int32), iv p3, iv p4, rv a5, iv (Int32.ofNat n), iv p7, iv fv, iv m3, uu] [])) := by
        intro T4 lc4 m3 X4 e4 N4 h_m3
        refine own_of (fun tgt kon => XS.aload X4.here hx rfl (hb hby d9_66) rfl rfl kon) ?_
        refine own_of (fun tgt kon => XS.iload X4.here hx rfl (hb hby d9_68) rfl kon) ?_
        refine own_iaload X4 hx hZ e4 V_a5 (j := (Int32.ofNat n)) (i := n) (v := (rwv n)) (own_ofN (by omega)) hn rfl rfl rfl (hb hby d9_70) ?_
        refine own_of (fun tgt kon => XS.iload X4.here hx rfl (hb hby d9_71) rfl kon) ?_
        show own_Wp _ _ _ _ (T4.setTop (mkF m 73 #[rv a1, iv (2 : Int32), iv p3, iv p4, rv a5, iv (Int32.ofNat n), iv p7, iv fv, iv m3, uu] [(.int p7), (.int (rwv n))]))
        have J85 : ∀ (ex : Int32), (ex = if p7 < (rwv n) then (-1 : Int32) else (rwv n)) → own_Wp p.tables e below (own_K ({ frames := 2, cells := 0, slots := 0, locals := 44 } : Room) s below (Q_rmrk2 Z a1 p3 p4 ac ao ar am cp co rf mf FF lv p5 cols out bd ph RL ML RR a5 n p7 D rwv h0 n0)) (T4.setTop (mkF m 85 #[rv a1, iv (2 : Int32), iv p3, iv p4, rv a5, iv (Int32.ofNat n), iv p7, iv fv, iv m3, uu] [(.int ex)])) := by
          intro ex h_ex
          refine own_of (fun tgt kon => XS.istore X4.here hx rfl (hb hby d9_85) rfl (l' := #[rv a1, iv (2 : Int32), iv p3, iv p4, rv a5, iv (Int32.ofNat n), iv p7, iv fv, iv m3, iv ex]) rfl kon) ?_
          refine own_of (fun tgt kon => XS.iload X4.here hx rfl (hb hby d9_87) rfl kon) ?_
          refine own_of (fun tgt kon => XS.iload X4.here hx rfl (hb hby d9_89) rfl kon) ?_
          refine own_of (fun tgt kon => XS.iload X4.here hx rfl (hb hby d9_91) rfl kon) ?_
          show own_Wp _ _ _ _ (T4.setTop (mkF m 93 #[rv a1, iv (2 : Int32), iv p3, iv p4, rv a5, iv (Int32.ofNat n), iv p7, iv fv, iv m3, iv ex] [(.int p7), (.int m3), (.int fv)]))
          have J101 : ∀ (mb : Int32), (mb = if p7 < m3 then (0 : Int32) else (1 : Int32)) → own_Wp p.tables e below (own_K ({ frames := 2, cells := 0, slots := 0, locals := 44 } : Room) s below (Q_rmrk2 Z a1 p3 p4 ac ao ar am cp co rf mf FF lv p5 cols out bd ph RL ML RR a5 n p7 D rwv h0 n0)) (T4.setTop (mkF m 101 #[rv a1, iv (2 : Int32), iv p3, iv p4, rv a5, iv (Int32.ofNat n), iv p7, iv fv, iv m3, iv ex] [(.int mb), (.int fv)])) := by
            intro mb h_mb
            have hc101 : fv = mb := by rw [h_fv, h_mb]; exact own_fillv hn hrv hDb h_m1 h_m2 h_m3 (hFB bd (Nat.le_refl _)) hp7
            refine own_of (fun tgt kon => XS.icmpNo X4.here hx rfl (hb hby d9_101) rfl (teq hc101).2 kon) ?_
            refine own_of (fun tgt kon => XS.aloadN X4.here hx rfl (hb hby d9_104) rfl rfl kon) ?_
            refine own_of (fun tgt kon => XS.iloadN X4.here hx rfl (hb hby d9_105) rfl kon) ?_
            have hdd := own_dist (n := n) (bd := bd) (B := (2 * (bd + 1))) (D := D n) (rf := own_rk rf (2 * (bd + 1)) FF (bd + 1)) hn hbd63 (fun d hd => by rw [own_rk_in (by omega), hFB d hd n]; exact ⟨fun q => q.2, fun q => ⟨Nat.le_refl _, q⟩⟩)
            refine own_callV X4 hx hZ (C := "com/example/close_words/closewords/BitRows") (y := (⟨"com/example/close_words/closewords/BitRows", "distance", "(I)I"⟩ : MethodName)) (a := a1) (argsL := [(.int (2 : Int32))]) (rest := []) (W := 0) hown (ow hw 68 rfl) (ow hw 69 rfl) (ow hw 71 rfl) (ow hw 70 rfl) (ow hw 11 rfl) (ow hw 72 rfl) (by decide) e4 E_a1 (rmdi2 l Z a0 hw [] a1 ar (own_rk rf (2 * (bd + 1)) FF (bd + 1)) lv p7 ((1 : Int64) <<< ((Int32.ofNat n) &&& 0x3f).toInt64) bd RL (D n) (own_rD (D n) bd) T1.heap n0 Zs F_levels F_rows F_bound F_lastColumn V_ar hlv hp7 hbd63 hRLi hdd.1 hdd.2.1 hdd.2.2) (by decide) (by decide) (by decide) (by decide) rfl (by rw [hml]; rfl) (lenOf own_pd0 rfl) rfl (by show 2 * 0 + _ ≤ _; exact Nat.le_of_eq rfl) (hb hby d9_106) ?_
            rintro T5 L5 _ X5 ⟨rfl, N5q, e5⟩
            have N5 := Fr.app N4 N5q
            show own_Wp _ _ _ _ (T5.setTop (mkF m 109 #[rv a1, iv (2 : Int32), iv p3, iv p4, rv a5, iv (Int32.ofNat n), iv p7, iv fv, iv m3, iv ex] [(.int (own_rD (D n) bd))]))
            refine own_of (fun tgt kon => XS.iload X5.here hx rfl (hb hby d9_109) rfl kon) ?_
            have hc111 : (own_rD (D n) bd) = ex := by rw [h_ex, hrv n (by omega)]; exact own_fin hp7 (by have := hDb n (by omega); omega)
            refine own_of (fun tgt kon => XS.icmpNo X5.here hx rfl (hb hby d9_111) rfl (teq hc111).2 kon) ?_
            refine own_of (fun tgt kon => XS.iconst X5.here hx rfl (hb hby d9_114) kon) ?_
            refine own_of (fun tgt kon => XS.goto X5.here hx rfl (pc0 := 115) (pc' := 119) rfl (hb hby d9_115) (by decide) (by decide) kon) ?_
            show own_Wp _ _ _ _ (T5.setTop (mkF m 119 #[rv a1, iv (2 : Int32), iv p3, iv p4, rv a5, iv (Int32.ofNat n), iv p7, iv fv, iv m3, iv ex] [(.int (1 : Int32))]))
            refine own_ret X5 hlk (some (.int (1 : Int32))) (own_rtI hrt) (fun fs hr => retN X5 hx (t := .boolean) hrt (by simp) (hb hby d9_119) hr) ?_ (by decide) (by decide)
            rw [e5]
            exact ⟨rfl, N5, K0, V_ar, V_am⟩
          show own_Wp _ _ _ _ (T4.setTop (mkF m 93 #[rv a1, iv (2 : Int32), iv p3, iv p4, rv a5, iv (Int32.ofNat n), iv p7, iv fv, iv m3, iv ex] [(.int p7), (.int m3), (.int fv)]))
          by_cases hc93 : p7 < m3
          · skip
            refine own_of (fun tgt kon => XS.icmpYes X4.here hx rfl (pc0 := 93) (pc' := 100) rfl (hb hby d9_93) rfl (tlt hc93).2.2.1 (by decide) (by decide) kon) ?_
            refine own_of (fun tgt kon => XS.iconst X4.here hx rfl (hb hby d9_100) kon) ?_
            show own_Wp _ _ _ _ (T4.setTop (mkF m 101 #[rv a1, iv (2 : Int32), iv p3, iv p4, rv a5, iv (Int32.ofNat n), iv p7, iv fv, iv m3, iv ex] [(.int (0 : Int32)), (.int fv)]))
            exact J101 ((0 : Int32)) (by exact (if_pos hc93).symm)
          · skip
            refine own_of (fun tgt kon => XS.icmpNo X4.here hx rfl (hb hby d9_93) rfl (flt hc93).2.2.1 kon) ?_
            refine own_of (fun tgt kon => XS.iconst X4.here hx rfl (hb hby d9_96) kon) ?_
            refine own_of (fun tgt kon => XS.goto X4.here hx rfl (pc0 := 97) (pc' := 101) rfl (hb hby d9_97) (by decide) (by decide) kon) ?_
            show own_Wp _ _ _ _ (T4.setTop (mkF m 101 #[rv a1, iv (2 : Int32), iv p3, iv p4, rv a5, iv (Int32.ofNat n), iv p7, iv fv, iv m3, iv ex] [(.int (1 : Int32)), (.int fv)]))
            exact J101 ((1 : Int32)) (by exact (if_neg hc93).symm)
        show own_Wp _ _ _ _ (T4.setTop (mkF m 73 #[rv a1, iv (2 : Int32), iv p3, iv p4, rv a5, iv (Int32.ofNat n), iv p7, iv fv, iv m3, uu] [(.int p7), (.int (rwv n))]))
        by_cases hc73 : p7 < (rwv n)
        · skip
          refine own_of (fun tgt kon => XS.icmpYes X4.here hx rfl (pc0 := 73) (pc' := 84) rfl (hb hby d9_73) rfl (tlt hc73).2.2.1 (by decide) (by decide) kon) ?_
          refine own_of (fun tgt kon => XS.iconst X4.here hx rfl (hb hby d9_84) kon) ?_
          show own_Wp _ _ _ _ (T4.setTop (mkF m 85 #[rv a1, iv (2 : Int32), iv p3, iv p4, rv a5, iv (Int32.ofNat n), iv p7, iv fv, iv m3, uu] [(.int (-1 : Int32))]))
          exact J85 ((-1 : Int32)) (by exact (if_pos hc73).symm)
        · skip
          refine own_of (fun tgt kon => XS.icmpNo X4.here hx rfl (hb hby d9_73) rfl (flt hc73).2.2.1 kon) ?_
          refine own_of (fun tgt kon => XS.aload X4.here hx rfl (hb hby d9_76) rfl rfl kon) ?_
          refine own_of (fun tgt kon => XS.iload X4.here hx rfl (hb hby d9_78) rfl kon) ?_
          refine own_iaload X4 hx hZ e4 V_a5 (j := (Int32.ofNat n)) (i := n) (v := (rwv n)) (own_ofN (by omega)) hn rfl rfl rfl (hb hby d9_80) ?_
          refine own_of (fun tgt kon => XS.goto X4.here hx rfl (pc0 := 81) (pc' := 85) rfl (hb hby d9_81) (by decide) (by decide) kon) ?_
          show own_Wp _ _ _ _ (T4.setTop (mkF m 85 #[rv a1, iv (2 : Int32), iv p3, iv p4, rv a5, iv (Int32.ofNat n), iv p7, iv fv, iv m3, uu] [(.int (rwv n))]))
          exact J85 ((rwv n)) (by exact (if_neg hc73).symm)
      show own_Wp _ _ _ _ (T3.setTop (mkF m 52 #[rv a1, iv (2 : Int32), iv p3, iv p4, rv a5, iv (Int32.ofNat n), iv p7, iv fv, iv m2, uu] [(.int (3 : Int32)), (.int (Int32.ofNat n))]))
      by_cases hc52 : (Int32.ofNat n) < (3 : Int32)
      · skip
        refine own_of (fun tgt kon => XS.icmpYes X3.here hx rfl (pc0 := 52) (pc' := 66) rfl (hb hby d9_52) rfl (tlt hc52).1 (by decide) (by decide) kon) ?_
        show own_Wp _ _ _ _ (T3.setTop (mkF m 66 #[rv a1, iv (2 : Int32), iv p3, iv p4, rv a5, iv (Int32.ofNat n), iv p7, iv fv, iv m2, uu] []))
        exact J66 T3 _ (m2) X3 e3 N3 (by exact (if_pos hc52).symm)
      · skip
        refine own_of (fun tgt kon => XS.icmpNo X3.here hx rfl (hb hby d9_52) rfl (flt hc52).1 kon) ?_
        refine own_of (fun tgt kon => XS.iload X3.here hx rfl (hb hby d9_55) rfl kon) ?_
        refine own_of (fun tgt kon => XS.aload X3.here hx rfl (hb hby d9_57) rfl rfl kon) ?_
        refine own_of (fun tgt kon => XS.iconst X3.here hx rfl (hb hby d9_59) kon) ?_
        refine own_iaload X3 hx hZ e3 V_a5 (j := (3 : Int32)) (i := 3) (v := (rwv 3)) (by decide) (by decide) rfl rfl rfl (hb hby d9_60) ?_
        show own_Wp _ _ _ _ (T3.setTop (mkF m 61 #[rv a1, iv (2 : Int32), iv p3, iv p4, rv a5, iv (Int32.ofNat n), iv p7, iv fv, iv m2, uu] [(.int (rwv 3)), (.int m2)]))
        refine own_callS X3 hx hZ (y := (⟨"java/lang/Math", "min", "(II)I"⟩ : MethodName)) (argsL := [(.int m2), (.int (rwv 3))]) (rest := []) (W := 0) hown (ow hw 5 rfl) (ow hw 6 rfl) (ow hw 7 rfl) (ow hw 8 rfl) (by decide) e3 (rmmin l Z a0 hw [] m2 (rwv 3) T1.heap n0 Zs) (by decide) (by decide) (by decide) (by decide) rfl (by rw [hml]; rfl) (lenOf own_pd3 rfl) rfl (by show 2 * 0 + _ ≤ _; exact Nat.le_of_eq rfl) (hb hby d9_61) ?_
        rintro T6 L6 _ X6 ⟨rfl, N6q, e6⟩
        have N6 := Fr.app N3 N6q
        show own_Wp _ _ _ _ (T6.setTop (mkF m 64 #[rv a1, iv (2 : Int32), iv p3, iv p4, rv a5, iv (Int32.ofNat n), iv p7, iv fv, iv m2, uu] [(.int (own_mni m2 (rwv 3)))]))
        refine own_of (fun tgt kon => XS.istore X6.here hx rfl (hb hby d9_64) rfl (l' := #[rv a1, iv (2 : Int32), iv p3, iv p4, rv a5, iv (Int32.ofNat n), iv p7, iv fv, iv (own_mni m2 (rwv 3)), uu]) rfl kon) ?_
        show own_Wp _ _ _ _ (T6.setTop (mkF m 66 #[rv a1, iv (2 : Int32), iv p3, iv p4, rv a5, iv (Int32.ofNat n), iv p7, iv fv, iv (own_mni m2 (rwv 3)), uu] []))
        exact J66 T6 _ ((own_mni m2 (rwv 3))) X6 e6 N6 (by exact (if_neg hc52).symm)
    show own_Wp _ _ _ _ (T2.setTop (mkF m 35 #[rv a1, iv (2 : Int32), iv p3, iv p4, rv a5, iv (Int32.ofNat n), iv p7, iv fv, iv m1, uu] [(.int (2 : Int32)), (.int (Int32.ofNat n))]))
    by_cases hc35 : (Int32.ofNat n) < (2 : Int32)
    · skip
      refine own_of (fun tgt kon => XS.icmpYes X2.here hx rfl (pc0 := 35) (pc' := 49) rfl (hb hby d9_35) rfl (tlt hc35).1 (by decide) (by decide) kon) ?_
      show own_Wp _ _ _ _ (T2.setTop (mkF m 49 #[rv a1, iv (2 : Int32), iv p3, iv p4, rv a5, iv (Int32.ofNat n), iv p7, iv fv, iv m1, uu] []))
      exact J49 T2 _ (m1) X2 e2 N2 (by exact (if_pos hc35).symm)
    · skip
      refine own_of (fun tgt kon => XS.icmpNo X2.here hx rfl (hb hby d9_35) rfl (flt hc35).1 kon) ?_
      refine own_of (fun tgt kon => XS.iload X2.here hx rfl (hb hby d9_38) rfl kon) ?_
      refine own_of (fun tgt kon => XS.aload X2.here hx rfl (hb hby d9_40) rfl rfl kon) ?_
      refine own_of (fun tgt kon => XS.iconst X2.here hx rfl (hb hby d9_42) kon) ?_
      refine own_iaload X2 hx hZ e2 V_a5 (j := (2 : Int32)) (i := 2) (v := (rwv 2)) (by decide) (by decide) rfl rfl rfl (hb hby d9_43) ?_
      show own_Wp _ _ _ _ (T2.setTop (mkF m 44 #[rv a1, iv (2 : Int32), iv p3, iv p4, rv a5, iv (Int32.ofNat n), iv p7, iv fv, iv m1, uu] [(.int (rwv 2)), (.int m1)]))
      refine own_callS X2 hx hZ (y := (⟨"java/lang/Math", "min", "(II)I"⟩ : MethodName)) (argsL := [(.int m1), (.int (rwv 2))]) (rest := []) (W := 0) hown (ow hw 5 rfl) (ow hw 6 rfl) (ow hw 7 rfl) (ow hw 8 rfl) (by decide) e2 (rmmin l Z a0 hw [] m1 (rwv 2) T1.heap n0 Zs) (by decide) (by decide) (by decide) (by decide) rfl (by rw [hml]; rfl) (lenOf own_pd3 rfl) rfl (by show 2 * 0 + _ ≤ _; exact Nat.le_of_eq rfl) (hb hby d9_44) ?_
      rintro T7 L7 _ X7 ⟨rfl, N7q, e7⟩
      have N7 := Fr.app N2 N7q
      show own_Wp _ _ _ _ (T7.setTop (mkF m 47 #[rv a1, iv (2 : Int32), iv p3, iv p4, rv a5, iv (Int32.ofNat n), iv p7, iv fv, iv m1, uu] [(.int (own_mni m1 (rwv 2)))]))
      refine own_of (fun tgt kon => XS.istore X7.here hx rfl (hb hby d9_47) rfl (l' := #[rv a1, iv (2 : Int32), iv p3, iv p4, rv a5, iv (Int32.ofNat n), iv p7, iv fv, iv (own_mni m1 (rwv 2)), uu]) rfl kon) ?_
      show own_Wp _ _ _ _ (T7.setTop (mkF m 49 #[rv a1, iv (2 : Int32), iv p3, iv p4, rv a5, iv (Int32.ofNat n), iv p7, iv fv, iv (own_mni m1 (rwv 2)), uu] []))
      exact J49 T7 _ ((own_mni m1 (rwv 2))) X7 e7 N7 (by exact (if_neg hc35).symm)
  show own_Wp _ _ _ _ (T1.setTop (mkF m 18 #[rv a1, iv (2 : Int32), iv p3, iv p4, rv a5, iv (Int32.ofNat n), iv p7, iv fv, iv (rwv 0), uu] [(.int (1 : Int32)), (.int (Int32.ofNat n))]))
  by_cases hc18 : (Int32.ofNat n) < (1 : Int32)
  · skip
    refine own_of (fun tgt kon => XS.icmpYes X1.here hx rfl (pc0 := 18) (pc' := 32) rfl (hb hby d9_18) rfl (tlt hc18).1 (by decide) (by decide) kon) ?_
    show own_Wp _ _ _ _ (T1.setTop (mkF m 32 #[rv a1, iv (2 : Int32), iv p3, iv p4, rv a5, iv (Int32.ofNat n), iv p7, iv fv, iv (rwv 0), uu] []))
    exact J32 T1 _ ((rwv 0)) X1 rfl N1 (by exact (if_pos hc18).symm)
  · skip
    refine own_of (fun tgt kon => XS.icmpNo X1.here hx rfl (hb hby d9_18) rfl (flt hc18).1 kon) ?_
    refine own_of (fun tgt kon => XS.iload X1.here hx rfl (hb hby d9_21) rfl kon) ?_
    refine own_of (fun tgt kon => XS.aload X1.here hx rfl (hb hby d9_23) rfl rfl kon) ?_
    refine own_of (fun tgt kon => XS.iconst X1.here hx rfl (hb hby d9_25) kon) ?_
    refine own_iaload X1 hx hZ rfl V_a5 (j := (1 : Int32)) (i := 1) (v := (rwv 1)) (by decide) (by decide) rfl rfl rfl (hb hby d9_26) ?_
    show own_Wp _ _ _ _ (T1.setTop (mkF m 27 #[rv a1, iv (2 : Int32), iv p3, iv p4, rv a5, iv (Int32.ofNat n), iv p7, iv fv, iv (rwv 0), uu] [(.int (rwv 1)), (.int (rwv 0))]))
    refine own_callS X1 hx hZ (y := (⟨"java/lang/Math", "min", "(II)I"⟩ : MethodName)) (argsL := [(.int (rwv 0)), (.int (rwv 1))]) (rest := []) (W := 0) hown (ow hw 5 rfl) (ow hw 6 rfl) (ow hw 7 rfl) (ow hw 8 rfl) (by decide) rfl (rmmin l Z a0 hw [] (rwv 0) (rwv 1) T1.heap n0 Zs) (by decide) (by decide) (by decide) (by decide) rfl (by rw [hml]; rfl) (lenOf own_pd3 rfl) rfl (by show 2 * 0 + _ ≤ _; exact Nat.le_of_eq rfl) (hb hby d9_27) ?_
    rintro T8 L8 _ X8 ⟨rfl, N8q, e8⟩
    have N8 := Fr.app N1 N8q
    show own_Wp _ _ _ _ (T8.setTop (mkF m 30 #[rv a1, iv (2 : Int32), iv p3, iv p4, rv a5, iv (Int32.ofNat n), iv p7, iv fv, iv (rwv 0), uu] [(.int (own_mni (rwv 0) (rwv 1)))]))
    refine own_of (fun tgt kon => XS.istore X8.here hx rfl (hb hby d9_30) rfl (l' := #[rv a1, iv (2 : Int32), iv p3, iv p4, rv a5, iv (Int32.ofNat n), iv p7, iv fv, iv (own_mni (rwv 0) (rwv 1)), uu]) rfl kon) ?_
    show own_Wp _ _ _ _ (T8.setTop (mkF m 32 #[rv a1, iv (2 : Int32), iv p3, iv p4, rv a5, iv (Int32.ofNat n), iv p7, iv fv, iv (own_mni (rwv 0) (rwv 1)), uu] []))
    exact J32 T8 _ ((own_mni (rwv 0) (rwv 1))) X8 e8 N8 (by exact (if_neg hc18).symm)
def Q_rmrk3 (Z : State) (a1 : Addr) (p3 : Int32) (p4 : Int32) (ac : Addr) (ao : Addr) (ar : Addr) (am : Addr) (cp : Nat → Int32) (co : Nat → Int64) (rf : Nat → Int64) (mf : Nat → Int64) (FF : Nat → Int64) (lv : Int32) (p5 : Int32) (cols : Int64) (out : Int64) (bd : Nat) (ph : Nat) (RL : Nat) (ML : Nat) (RR : Nat) (a5 : Addr) (n : Nat) (p7 : Int32) (D : Nat → Nat) (rwv : Nat → Int32) (h0 : Heap) (n0 : Nat) (v : Option Value) (h : Heap) (L : List Loc) : Prop := v = some (.int 1) ∧ Fr n0 L ∧ Keep h0 h [ar, am] ∧ own_Ar Z h ar .long RL (fun y => .long (own_rk rf (3 * (bd + 1)) FF (bd + 1) y)) ∧ own_Ar Z h am .long ML (fun k => .long (own_upd mf 3 (co RR) k))
set_option maxRecDepth 65536 in
set_option maxHeartbeats 40000000 in
theorem rmrk3 (l : Launch) (Z : State) (a0 : Array Value) (hw : ∀ d ∈ tables_1, d.before a0 Z = true) (ws : List Jvm.Cond) (a1 : Addr) (p3 : Int32) (p4 : Int32) (ac : Addr) (ao : Addr) (ar : Addr) (am : Addr) (cp : Nat → Int32) (co : Nat → Int64) (rf : Nat → Int64) (mf : Nat → Int64) (FF : Nat → Int64) (lv : Int32) (p5 : Int32) (cols : Int64) (out : Int64) (bd : Nat) (ph : Nat) (RL : Nat) (ML : Nat) (RR : Nat) (a5 : Addr) (n : Nat) (p7 : Int32) (D : Nat → Nat) (rwv : Nat → Int32) (h0 : Heap) (n0 : Nat) (Z0 : n0 ≤ h0.size) (E_a1 : Exa Z h0 a1 "com/example/close_words/closewords/BitRows") (F_columnsOf : Fld Z h0 a1 "com/example/close_words/closewords/BitRows" "columnsOf" "[J" (.ref ao)) (F_codePoints : Fld Z h0 a1 "com/example/close_words/closewords/BitRows" "codePoints" "[I" (.ref ac)) (F_matches : Fld Z h0 a1 "com/example/close_words/closewords/BitRows" "matches" "[J" (.ref am)) (F_rows : Fld Z h0 a1 "com/example/close_words/closewords/BitRows" "rows" "[J" (.ref ar)) (F_levels : Fld Z h0 a1 "com/example/close_words/closewords/BitRows" "levels" "I" (.int lv)) (F_columns : Fld Z h0 a1 "com/example/close_words/closewords/BitRows" "columns" "J" (.long cols)) (F_headBound : Fld Z h0 a1 "com/example/close_words/closewords/BitRows" "headBound" "I" (.int p5)) (F_outsideHead : Fld Z h0 a1 "com/example/close_words/closewords/BitRows" "outsideHead" "J" (.long out)) (V_ac : own_Ar Z h0 ac .int 128 (fun k => .int (cp k))) (V_ao : own_Ar Z h0 ao .long 128 (fun k => .long (co k))) (V_ar : own_Ar Z h0 ar .long RL (fun k => .long (rf k))) (V_am : own_Ar Z h0 am .long ML (fun k => .long (mf k))) (ne_a1_ar : a1 ≠ ar) (ne_a1_am : a1 ≠ am) (ne_ac_ar : ac ≠ ar) (ne_ac_am : ac ≠ am) (ne_ao_ar : ao ≠ ar) (ne_ao_am : ao ≠ am) (ne_am_ar : am ≠ ar) (g_ar : n0 ≤ ar) (g_am : n0 ≤ am) (hlv : lv.toInt = ((bd + 1 : Nat) : Int)) (hbd63 : bd ≤ 63) (hhb : p5.toInt = (ph : Int)) (hhb63 : ph ≤ 63) (hRLi : 4 * (bd + 1) ≤ RL) (hMLi : 3 < ML) (hR0 : own_find cp p3 8 (p3 &&& 127).toNatClampNeg = RR) (hR : cp RR = p3 ∨ cp RR = -1) (hRl : RR < 128) (hF0 : FF 0 = ((co RR) &&& ((rf (2 * (bd + 1))) <<< ((1 : Int32) &&& 0x3f).toInt64))) (hFs : ∀ d, FF (d + 1) = (let r1 := ((((co RR) &&& ((rf ((2 * (bd + 1)) + (d + 1))) <<< ((1 : Int32) &&& 0x3f).toInt64)) ||| (rf ((2 * (bd + 1)) + d))) ||| ((rf ((2 * (bd + 1)) + d)) <<< ((1 : Int32) &&& 0x3f).toInt64)) ||| ((FF d) <<< ((1 : Int32) &&& 0x3f).toInt64); let r2 := if (((co RR) <<< ((1 : Int32) &&& 0x3f).toInt64) &&& (mf 2)) = 0 then r1 else r1 ||| ((((co RR) <<< ((1 : Int32) &&& 0x3f).toInt64) &&& (mf 2)) &&& ((rf ((1 * (bd + 1)) + d)) <<< ((2 : Int32) &&& 0x3f).toInt64)); let r3 := r2 &&& cols; if ph < d + 1 then r3 &&& ((FF ph) ||| out) else r3)) (F_bound : Fld Z h0 a1 "com/example/close_words/closewords/BitRows" "bound" "I" (.int p7)) (F_lastColumn : Fld Z h0 a1 "com/example/close_words/closewords/BitRows" "lastColumn" "J" (.long ((1 : Int64) <<< ((Int32.ofNat n) &&& 0x3f).toInt64))) (V_a5 : own_Ar Z h0 a5 .int 4 (fun k => .int (rwv k))) (ne_a5_ar : a5 ≠ ar) (ne_a5_am : a5 ≠ am) (hn : n < 4) (hp7 : p7.toInt = (bd : Int)) (hrv : ∀ j, j ≤ 3 → rwv j = Int32.ofNat (D j)) (hDb : ∀ j, j ≤ 3 → D j < 3000) (hFB : ∀ d, d ≤ bd → ∀ j, own_Bt (FF d) j ↔ j ≤ n ∧ D j ≤ d) :
    own_Ctr l Z (⟨"com/example/close_words/closewords/BitRowsFillPinLaw", "rowOk", "(Lcom/example/close_words/closewords/BitRows;IIZ[III)Z"⟩ : MethodName) method_5_code 10 (some .boolean) ws ({ frames := 2, cells := 0, slots := 0, locals := 44 } : Room) #[(.ref a1), (.int (3 : Int32)), (.int p3), (.int p4), (.ref a5), (.int (Int32.ofNat n)), (.int p7)] h0 (Q_rmrk3 Z a1 p3 p4 ac ao ar am cp co rf mf FF lv p5 cols out bd ph RL ML RR a5 n p7 D rwv h0 n0) := by
  refine own_enter (plainFor_of_name own_pn2) ?_
  intro p e s m below meth c s₁ X0 hx hby hml hrt hlk hZ hown hnm e0
  have N0 := Fr.nil n0
  have Zs := Z0
  have K0 := Keep.refl h0 [ar, am]
  rw [show entryFrame m #[(.ref a1), (.int (3 : Int32)), (.int p3), (.int p4), (.ref a5), (.int (Int32.ofNat n)), (.int p7)] 10 = mkF m 0 #[rv a1, iv (3 : Int32), iv p3, iv p4, rv a5, iv (Int32.ofNat n), iv p7, uu, uu, uu] [] from by first | (simp [entryFrame, mkF, argsToLocals, Value.category]; done) | rfl]
  show own_Wp _ _ _ _ (s₁.setTop (mkF m 0 #[rv a1, iv (3 : Int32), iv p3, iv p4, rv a5, iv (Int32.ofNat n), iv p7, uu, uu, uu] []))
  refine own_of (fun tgt kon => XS.aloadN X0.here hx rfl (hb hby d9_0) rfl rfl kon) ?_
  refine own_of (fun tgt kon => XS.iloadN X0.here hx rfl (hb hby d9_1) rfl kon) ?_
  refine own_of (fun tgt kon => XS.iloadN X0.here hx rfl (hb hby d9_2) rfl kon) ?_
  refine own_of (fun tgt kon => XS.iloadN X0.here hx rfl (hb hby d9_3) rfl kon) ?_
  refine own_callV X0 hx hZ (C := "com/example/close_words/closewords/BitRows") (y := (⟨"com/example/close_words/closewords/BitRows", "fill", "(IIZ)Z"⟩ : MethodName)) (a := a1) (argsL := [(.int (3 : Int32)), (.int p3), (.int p4)]) (rest := []) (W := 0) hown (ow hw 59 rfl) (ow hw 60 rfl) (ow hw 62 rfl) (ow hw 61 rfl) (ow hw 11 rfl) (ow hw 63 rfl) (by decide) e0 E_a1 (rmro3 l Z a0 hw [] a1 p3 p4 ac ao ar am cp co rf mf FF lv p5 cols out bd ph RL ML RR h0 n0 Zs E_a1 F_columnsOf F_codePoints F_matches F_rows F_levels F_columns F_headBound F_outsideHead V_ac V_ao V_ar V_am ne_a1_ar ne_a1_am ne_ac_ar ne_ac_am ne_ao_ar ne_ao_am ne_am_ar g_ar g_am hlv hbd63 hhb hhb63 hRLi hMLi hR0 hR hRl hF0 hFs) (by decide) (by decide) (by decide) (by decide) rfl (by rw [hml]; rfl) (lenOf own_pd5 rfl) rfl (by show 2 * 0 + _ ≤ _; exact Nat.le_of_eq rfl) (hb hby d9_4) ?_
  rintro T1 L1 _ X1 ⟨rfl, N1q, Kq1, V_ar_q, V_am_q⟩
  have N1 := Fr.app N0 N1q
  show own_Wp _ _ _ _ (T1.setTop (mkF m 7 #[rv a1, iv (3 : Int32), iv p3, iv p4, rv a5, iv (Int32.ofNat n), iv p7, uu, uu, uu] [(.int (if FF bd = 0 then 0 else 1))]))
  replace Zs := Nat.le_trans Zs Kq1.1
  replace K0 := K0.trans Kq1 (allS (P := fun z => z ∈ _ ∨ _ ≤ z) (Or.inl (List.mem_of_getElem? (i := 0) rfl)) (allS (P := fun z => z ∈ _ ∨ _ ≤ z) (Or.inl (List.mem_of_getElem? (i := 1) rfl)) all0))
  replace E_a1 := E_a1.keep Kq1
  replace F_levels := F_levels.keep Kq1 (ninS ne_a1_ar (ninS ne_a1_am nin0))
  replace F_rows := F_rows.keep Kq1 (ninS ne_a1_ar (ninS ne_a1_am nin0))
  replace F_bound := F_bound.keep Kq1 (ninS ne_a1_ar (ninS ne_a1_am nin0))
  replace F_lastColumn := F_lastColumn.keep Kq1 (ninS ne_a1_ar (ninS ne_a1_am nin0))
  replace V_a5 := V_a5.keep Kq1 (ninS ne_a5_ar (ninS ne_a5_am nin0))
  clear V_ar V_am
  have V_ar := V_ar_q
  have V_am := V_am_q
  clear V_ar_q V_am_q
  obtain ⟨fv, h_fv⟩ : ∃ q : Int32, q = (if FF bd = 0 then 0 else 1) := ⟨_, rfl⟩
  rw [← h_fv]
  refine own_of (fun tgt kon => XS.istore X1.here hx rfl (hb hby d9_7) rfl (l' := #[rv a1, iv (3 : Int32), iv p3, iv p4, rv a5, iv (Int32.ofNat n), iv p7, iv fv, uu, uu]) rfl kon) ?_
  show own_Wp _ _ _ _ (T1.setTop (mkF m 9 #[rv a1, iv (3 : Int32), iv p3, iv p4, rv a5, iv (Int32.ofNat n), iv p7, iv fv, uu, uu] []))
  clear hF0 hFs hR0 hR hRl V_ac V_ao F_columnsOf F_codePoints F_matches F_columns F_headBound F_outsideHead
  refine own_of (fun tgt kon => XS.aload X1.here hx rfl (hb hby d9_9) rfl rfl kon) ?_
  refine own_of (fun tgt kon => XS.iconst X1.here hx rfl (hb hby d9_11) kon) ?_
  refine own_iaload X1 hx hZ rfl V_a5 (j := (0 : Int32)) (i := 0) (v := (rwv 0)) (by decide) (by decide) rfl rfl rfl (hb hby d9_12) ?_
  refine own_of (fun tgt kon => XS.istore X1.here hx rfl (hb hby d9_13) rfl (l' := #[rv a1, iv (3 : Int32), iv p3, iv p4, rv a5, iv (Int32.ofNat n), iv p7, iv fv, iv (rwv 0), uu]) rfl kon) ?_
  refine own_of (fun tgt kon => XS.iload X1.here hx rfl (hb hby d9_15) rfl kon) ?_
  show own_Wp _ _ _ _ (T1.setTop (mkF m 17 #[rv a1, iv (3 : Int32), iv p3, iv p4, rv a5, iv (Int32.ofNat n), iv p7, iv fv, iv (rwv 0), uu] [(.int (Int32.ofNat n))]))
  refine own_of (fun tgt kon => XS.iconst X1.here hx rfl (hb hby d9_17) kon) ?_
  show own_Wp _ _ _ _ (T1.setTop (mkF m 18 #[rv a1, iv (3 : Int32), iv p3, iv p4, rv a5, iv (Int32.ofNat n), iv p7, iv fv, iv (rwv 0), uu] [(.int (1 : Int32)), (.int (Int32.ofNat n))]))
  have J32 : ∀ (T2 : State) (lc2 : List Loc) (m1 : Int32), (Stand p l e ({ frames := 2, cells := 0, slots := 0, locals := 44 } : Room) s m #[(.ref a1), (.int (3 : Int32)), (.int p3), (.int p4), (.ref a5), (.int (Int32.ofNat n)), (.int p7)] below meth c T2 lc2 0 0) → (T2.heap = T1.heap) → (Fr n0 lc2) → (m1 = if Int32.ofNat n < (1 : Int32) then (rwv 0) else own_mni (rwv 0) (rwv 1)) → own_Wp p.tables e below (own_K ({ frames := 2, cells := 0, slots := 0, locals := 44 } : Room) s below (Q_rmrk3 Z a1 p3 p4 ac ao ar am cp co rf mf FF lv p5 cols out bd ph RL ML RR a5 n p7 D rwv h0 n0)) (T2.setTop (mkF m 32 #[rv a1, iv (3 : Int32), iv p3, iv p4, rv a5, iv (Int32.ofNat n), iv p7, iv fv, iv m1, uu] [])) := by
    intro T2 lc2 m1 X2 e2 N2 h_m1
    refine own_of (fun tgt kon => XS.iload X2.here hx rfl (hb hby d9_32) rfl kon) ?_
    refine own_of (fun tgt kon => XS.iconst X2.here hx rfl (hb hby d9_34) kon) ?_
    show own_Wp _ _ _ _ (T2.setTop (mkF m 35 #[rv a1, iv (3 : Int32), iv p3, iv p4, rv a5, iv (Int32.ofNat n), iv p7, iv fv, iv m1, uu] [(.int (2 : Int32)), (.int (Int32.ofNat n))]))
    have J49 : ∀ (T3 : State) (lc3 : List Loc) (m2 : Int32), (Stand p l e ({ frames := 2, cells := 0, slots := 0, locals := 44 } : Room) s m #[(.ref a1), (.int (3 : Int32)), (.int p3), (.int p4), (.ref a5), (.int (Int32.ofNat n)), (.int p7)] below meth c T3 lc3 0 0) → (T3.heap = T1.heap) → (Fr n0 lc3) → (m2 = if Int32.ofNat n < (2 : Int32) then m1 else own_mni m1 (rwv 2)) → own_Wp p.tables e below (own_K ({ frames := 2, cells := 0, slots := 0, locals := 44 } : Room) s below (Q_rmrk3 Z a1 p3 p4 ac ao ar am cp co rf mf FF lv p5 cols out bd ph RL ML RR a5 n p7 D rwv h0 n0)) (T3.setTop (mkF m 49 #[rv a1, iv (3 : Int32), iv p3, iv p4, rv a5, iv (Int32.ofNat n), iv p7, iv fv, iv m2, uu] [])) := by
      intro T3 lc3 m2 X3 e3 N3 h_m2
      refine own_of (fun tgt kon => XS.iload X3.here hx rfl (hb hby d9_49) rfl kon) ?_
      refine own_of (fun tgt kon => XS.iconst X3.here hx rfl (hb hby d9_51) kon) ?_
      show own_Wp _ _ _ _ (T3.setTop (mkF m 52 #[rv a1, iv (3 : Int32), iv p3, iv p4, rv a5, iv (Int32.ofNat n), iv p7, iv fv, iv m2, uu] [(.int (3 : Int32)), (.int (Int32.ofNat n))]))
      have J66 : ∀ (T4 : State) (lc4 : List Loc) (m3 : Int32), (Stand p l e ({ frames := 2, cells := 0, slots := 0, locals := 44 } : Room) s m #[(.ref a1), (.int (3 : Int32)), (.int p3), (.int p4), (.ref a5), (.int (Int32.ofNat n)), (.int p7)] below meth c T4 lc4 0 0) → (T4.heap = T1.heap) → (Fr n0 lc4) → (m3 = if Int32.ofNat n < (3 : Int32) then m2 else own_mni m2 (rwv 3)) → own_Wp p.tables e below (own_K ({ frames := 2, cells := 0, slots := 0, locals := 44 } : Room) s below (Q_rmrk3 Z a1 p3 p4 ac ao ar am cp co rf mf FF lv p5 cols out bd ph RL ML RR a5 n p7 D rwv h0 n0)) (T4.setTop (mkF m 66 #[rv a1, iv (3 : Int32), iv p3, iv p4, rv a5, iv (Int32.ofNat n), iv p7, iv fv, iv m3, uu] [])) := by
        intro T4 lc4 m3 X4 e4 N4 h_m3
        refine own_of (fun tgt kon => XS.aload X4.here hx rfl (hb hby d9_66) rfl rfl kon) ?_
        refine own_of (fun tgt kon => XS.iload X4.here hx rfl (hb hby d9_68) rfl kon) ?_
        refine own_iaload X4 hx hZ e4 V_a5 (j := (Int32.ofNat n)) (i := n) (v := (rwv n)) (own_ofN (by omega)) hn rfl rfl rfl (hb hby d9_70) ?_
        refine own_of (fun tgt kon => XS.iload X4.here hx rfl (hb hby d9_71) rfl kon) ?_
        show own_Wp _ _ _ _ (T4.setTop (mkF m 73 #[rv a1, iv (3 : Int32), iv p3, iv p4, rv a5, iv (Int32.ofNat n), iv p7, iv fv, iv m3, uu] [(.int p7), (.int (rwv n))]))
        have J85 : ∀ (ex : Int32), (ex = if p7 < (rwv n) then (-1 : Int32) else (rwv n)) → own_Wp p.tables e below (own_K ({ frames := 2, cells := 0, slots := 0, locals := 44 } : Room) s below (Q_rmrk3 Z a1 p3 p4 ac ao ar am cp co rf mf FF lv p5 cols out bd ph RL ML RR a5 n p7 D rwv h0 n0)) (T4.setTop (mkF m 85 #[rv a1, iv (3 : Int32), iv p3, iv p4, rv a5, iv (Int32.ofNat n), iv p7, iv fv, iv m3, uu] [(.int ex)])) := by
          intro ex h_ex
          refine own_of (fun tgt kon => XS.istore X4.here hx rfl (hb hby d9_85) rfl (l' := #[rv a1, iv (3 : Int32), iv p3, iv p4, rv a5, iv (Int32.ofNat n), iv p7, iv fv, iv m3, iv ex]) rfl kon) ?_
          refine own_of (fun tgt kon => XS.iload X4.here hx rfl (hb hby d9_87) rfl kon) ?_
          refine own_of (fun tgt kon => XS.iload X4.here hx rfl (hb hby d9_89) rfl kon) ?_
          refine own_of (fun tgt kon => XS.iload X4.here hx rfl (hb hby d9_91) rfl kon) ?_
          show own_Wp _ _ _ _ (T4.setTop (mkF m 93 #[rv a1, iv (3 : Int32), iv p3, iv p4, rv a5, iv (Int32.ofNat n), iv p7, iv fv, iv m3, iv ex] [(.int p7), (.int m3), (.int fv)]))
          have J101 : ∀ (mb : Int32), (mb = if p7 < m3 then (0 : Int32) else (1 : Int32)) → own_Wp p.tables e below (own_K ({ frames := 2, cells := 0, slots := 0, locals := 44 } : Room) s below (Q_rmrk3 Z a1 p3 p4 ac ao ar am cp co rf mf FF lv p5 cols out bd ph RL ML RR a5 n p7 D rwv h0 n0)) (T4.setTop (mkF m 101 #[rv a1, iv (3 : Int32), iv p3, iv p4, rv a5, iv (Int32.ofNat n), iv p7, iv fv, iv m3, iv ex] [(.int mb), (.int fv)])) := by
            intro mb h_mb
            have hc101 : fv = mb := by rw [h_fv, h_mb]; exact own_fillv hn hrv hDb h_m1 h_m2 h_m3 (hFB bd (Nat.le_refl _)) hp7
            refine own_of (fun tgt kon => XS.icmpNo X4.here hx rfl (hb hby d9_101) rfl (teq hc101).2 kon) ?_
            refine own_of (fun tgt kon => XS.aloadN X4.here hx rfl (hb hby d9_104) rfl rfl kon) ?_
            refine own_of (fun tgt kon => XS.iloadN X4.here hx rfl (hb hby d9_105) rfl kon) ?_
            have hdd := own_dist (n := n) (bd := bd) (B := (3 * (bd + 1))) (D := D n) (rf := own_rk rf (3 * (bd + 1)) FF (bd + 1)) hn hbd63 (fun d hd => by rw [own_rk_in (by omega), hFB d hd n]; exact ⟨fun q => q.2, fun q => ⟨Nat.le_refl _, q⟩⟩)
            refine own_callV X4 hx hZ (C := "com/example/close_words/closewords/BitRows") (y := (⟨"com/example/close_words/closewords/BitRows", "distance", "(I)I"⟩ : MethodName)) (a := a1) (argsL := [(.int (3 : Int32))]) (rest := []) (W := 0) hown (ow hw 68 rfl) (ow hw 69 rfl) (ow hw 71 rfl) (ow hw 70 rfl) (ow hw 11 rfl) (ow hw 72 rfl) (by decide) e4 E_a1 (rmdi3 l Z a0 hw [] a1 ar (own_rk rf (3 * (bd + 1)) FF (bd + 1)) lv p7 ((1 : Int64) <<< ((Int32.ofNat n) &&& 0x3f).toInt64) bd RL (D n) (own_rD (D n) bd) T1.heap n0 Zs F_levels F_rows F_bound F_lastColumn V_ar hlv hp7 hbd63 hRLi hdd.1 hdd.2.1 hdd.2.2) (by decide) (by decide) (by decide) (by decide) rfl (by rw [hml]; rfl) (lenOf own_pd0 rfl) rfl (by show 2 * 0 + _ ≤ _; exact Nat.le_of_eq rfl) (hb hby d9_106) ?_
            rintro T5 L5 _ X5 ⟨rfl, N5q, e5⟩
            have N5 := Fr.app N4 N5q
            show own_Wp _ _ _ _ (T5.setTop (mkF m 109 #[rv a1, iv (3 : Int32), iv p3, iv p4, rv a5, iv (Int32.ofNat n), iv p7, iv fv, iv m3, iv ex] [(.int (own_rD (D n) bd))]))
            refine own_of (fun tgt kon => XS.iload X5.here hx rfl (hb hby d9_109) rfl kon) ?_
            have hc111 : (own_rD (D n) bd) = ex := by rw [h_ex, hrv n (by omega)]; exact own_fin hp7 (by have := hDb n (by omega); omega)
            refine own_of (fun tgt kon => XS.icmpNo X5.here hx rfl (hb hby d9_111) rfl (teq hc111).2 kon) ?_
            refine own_of (fun tgt kon => XS.iconst X5.here hx rfl (hb hby d9_114) kon) ?_
            refine own_of (fun tgt kon => XS.goto X5.here hx rfl (pc0 := 115) (pc' := 119) rfl (hb hby d9_115) (by decide) (by decide) kon) ?_
            show own_Wp _ _ _ _ (T5.setTop (mkF m 119 #[rv a1, iv (3 : Int32), iv p3, iv p4, rv a5, iv (Int32.ofNat n), iv p7, iv fv, iv m3, iv ex] [(.int (1 : Int32))]))
            refine own_ret X5 hlk (some (.int (1 : Int32))) (own_rtI hrt) (fun fs hr => retN X5 hx (t := .boolean) hrt (by simp) (hb hby d9_119) hr) ?_ (by decide) (by decide)
            rw [e5]
            exact ⟨rfl, N5, K0, V_ar, V_am⟩
          show own_Wp _ _ _ _ (T4.setTop (mkF m 93 #[rv a1, iv (3 : Int32), iv p3, iv p4, rv a5, iv (Int32.ofNat n), iv p7, iv fv, iv m3, iv ex] [(.int p7), (.int m3), (.int fv)]))
          by_cases hc93 : p7 < m3
          · skip
            refine own_of (fun tgt kon => XS.icmpYes X4.here hx rfl (pc0 := 93) (pc' := 100) rfl (hb hby d9_93) rfl (tlt hc93).2.2.1 (by decide) (by decide) kon) ?_
            refine own_of (fun tgt kon => XS.iconst X4.here hx rfl (hb hby d9_100) kon) ?_
            show own_Wp _ _ _ _ (T4.setTop (mkF m 101 #[rv a1, iv (3 : Int32), iv p3, iv p4, rv a5, iv (Int32.ofNat n), iv p7, iv fv, iv m3, iv ex] [(.int (0 : Int32)), (.int fv)]))
            exact J101 ((0 : Int32)) (by exact (if_pos hc93).symm)
          · skip
            refine own_of (fun tgt kon => XS.icmpNo X4.here hx rfl (hb hby d9_93) rfl (flt hc93).2.2.1 kon) ?_
            refine own_of (fun tgt kon => XS.iconst X4.here hx rfl (hb hby d9_96) kon) ?_
            refine own_of (fun tgt kon => XS.goto X4.here hx rfl (pc0 := 97) (pc' := 101) rfl (hb hby d9_97) (by decide) (by decide) kon) ?_
            show own_Wp _ _ _ _ (T4.setTop (mkF m 101 #[rv a1, iv (3 : Int32), iv p3, iv p4, rv a5, iv (Int32.ofNat n), iv p7, iv fv, iv m3, iv ex] [(.int (1 : Int32)), (.int fv)]))
            exact J101 ((1 : Int32)) (by exact (if_neg hc93).symm)
        show own_Wp _ _ _ _ (T4.setTop (mkF m 73 #[rv a1, iv (3 : Int32), iv p3, iv p4, rv a5, iv (Int32.ofNat n), iv p7, iv fv, iv m3, uu] [(.int p7), (.int (rwv n))]))
        by_cases hc73 : p7 < (rwv n)
        · skip
          refine own_of (fun tgt kon => XS.icmpYes X4.here hx rfl (pc0 := 73) (pc' := 84) rfl (hb hby d9_73) rfl (tlt hc73).2.2.1 (by decide) (by decide) kon) ?_
          refine own_of (fun tgt kon => XS.iconst X4.here hx rfl (hb hby d9_84) kon) ?_
          show own_Wp _ _ _ _ (T4.setTop (mkF m 85 #[rv a1, iv (3 : Int32), iv p3, iv p4, rv a5, iv (Int32.ofNat n), iv p7, iv fv, iv m3, uu] [(.int (-1 : Int32))]))
          exact J85 ((-1 : Int32)) (by exact (if_pos hc73).symm)
        · skip
          refine own_of (fun tgt kon => XS.icmpNo X4.here hx rfl (hb hby d9_73) rfl (flt hc73).2.2.1 kon) ?_
          refine own_of (fun tgt kon => XS.aload X4.here hx rfl (hb hby d9_76) rfl rfl kon) ?_
          refine own_of (fun tgt kon => XS.iload X4.here hx rfl (hb hby d9_78) rfl kon) ?_
          refine own_iaload X4 hx hZ e4 V_a5 (j := (Int32.ofNat n)) (i := n) (v := (rwv n)) (own_ofN (by omega)) hn rfl rfl rfl (hb hby d9_80) ?_
          refine own_of (fun tgt kon => XS.goto X4.here hx rfl (pc0 := 81) (pc' := 85) rfl (hb hby d9_81) (by decide) (by decide) kon) ?_
          show own_Wp _ _ _ _ (T4.setTop (mkF m 85 #[rv a1, iv (3 : Int32), iv p3, iv p4, rv a5, iv (Int32.ofNat n), iv p7, iv fv, iv m3, uu] [(.int (rwv n))]))
          exact J85 ((rwv n)) (by exact (if_neg hc73).symm)
      show own_Wp _ _ _ _ (T3.setTop (mkF m 52 #[rv a1, iv (3 : Int32), iv p3, iv p4, rv a5, iv (Int32.ofNat n), iv p7, iv fv, iv m2, uu] [(.int (3 : Int32)), (.int (Int32.ofNat n))]))
      by_cases hc52 : (Int32.ofNat n) < (3 : Int32)
      · skip
        refine own_of (fun tgt kon => XS.icmpYes X3.here hx rfl (pc0 := 52) (pc' := 66) rfl (hb hby d9_52) rfl (tlt hc52).1 (by decide) (by decide) kon) ?_
        show own_Wp _ _ _ _ (T3.setTop (mkF m 66 #[rv a1, iv (3 : Int32), iv p3, iv p4, rv a5, iv (Int32.ofNat n), iv p7, iv fv, iv m2, uu] []))
        exact J66 T3 _ (m2) X3 e3 N3 (by exact (if_pos hc52).symm)
      · skip
        refine own_of (fun tgt kon => XS.icmpNo X3.here hx rfl (hb hby d9_52) rfl (flt hc52).1 kon) ?_
        refine own_of (fun tgt kon => XS.iload X3.here hx rfl (hb hby d9_55) rfl kon) ?_
        refine own_of (fun tgt kon => XS.aload X3.here hx rfl (hb hby d9_57) rfl rfl kon) ?_
        refine own_of (fun tgt kon => XS.iconst X3.here hx rfl (hb hby d9_59) kon) ?_
        refine own_iaload X3 hx hZ e3 V_a5 (j := (3 : Int32)) (i := 3) (v := (rwv 3)) (by decide) (by decide) rfl rfl rfl (hb hby d9_60) ?_
        show own_Wp _ _ _ _ (T3.setTop (mkF m 61 #[rv a1, iv (3 : Int32), iv p3, iv p4, rv a5, iv (Int32.ofNat n), iv p7, iv fv, iv m2, uu] [(.int (rwv 3)), (.int m2)]))
        refine own_callS X3 hx hZ (y := (⟨"java/lang/Math", "min", "(II)I"⟩ : MethodName)) (argsL := [(.int m2), (.int (rwv 3))]) (rest := []) (W := 0) hown (ow hw 5 rfl) (ow hw 6 rfl) (ow hw 7 rfl) (ow hw 8 rfl) (by decide) e3 (rmmin l Z a0 hw [] m2 (rwv 3) T1.heap n0 Zs) (by decide) (by decide) (by decide) (by decide) rfl (by rw [hml]; rfl) (lenOf own_pd3 rfl) rfl (by show 2 * 0 + _ ≤ _; exact Nat.le_of_eq rfl) (hb hby d9_61) ?_
        rintro T6 L6 _ X6 ⟨rfl, N6q, e6⟩
        have N6 := Fr.app N3 N6q
        show own_Wp _ _ _ _ (T6.setTop (mkF m 64 #[rv a1, iv (3 : Int32), iv p3, iv p4, rv a5, iv (Int32.ofNat n), iv p7, iv fv, iv m2, uu] [(.int (own_mni m2 (rwv 3)))]))
        refine own_of (fun tgt kon => XS.istore X6.here hx rfl (hb hby d9_64) rfl (l' := #[rv a1, iv (3 : Int32), iv p3, iv p4, rv a5, iv (Int32.ofNat n), iv p7, iv fv, iv (own_mni m2 (rwv 3)), uu]) rfl kon) ?_
        show own_Wp _ _ _ _ (T6.setTop (mkF m 66 #[rv a1, iv (3 : Int32), iv p3, iv p4, rv a5, iv (Int32.ofNat n), iv p7, iv fv, iv (own_mni m2 (rwv 3)), uu] []))
        exact J66 T6 _ ((own_mni m2 (rwv 3))) X6 e6 N6 (by exact (if_neg hc52).symm)
    show own_Wp _ _ _ _ (T2.setTop (mkF m 35 #[rv a1, iv (3 : Int32), iv p3, iv p4, rv a5, iv (Int32.ofNat n), iv p7, iv fv, iv m1, uu] [(.int (2 : Int32)), (.int (Int32.ofNat n))]))
    by_cases hc35 : (Int32.ofNat n) < (2 : Int32)
    · skip
      refine own_of (fun tgt kon => XS.icmpYes X2.here hx rfl (pc0 := 35) (pc' := 49) rfl (hb hby d9_35) rfl (tlt hc35).1 (by decide) (by decide) kon) ?_
      show own_Wp _ _ _ _ (T2.setTop (mkF m 49 #[rv a1, iv (3 : Int32), iv p3, iv p4, rv a5, iv (Int32.ofNat n), iv p7, iv fv, iv m1, uu] []))
      exact J49 T2 _ (m1) X2 e2 N2 (by exact (if_pos hc35).symm)
    · skip
      refine own_of (fun tgt kon => XS.icmpNo X2.here hx rfl (hb hby d9_35) rfl (flt hc35).1 kon) ?_
      refine own_of (fun tgt kon => XS.iload X2.here hx rfl (hb hby d9_38) rfl kon) ?_
      refine own_of (fun tgt kon => XS.aload X2.here hx rfl (hb hby d9_40) rfl rfl kon) ?_
      refine own_of (fun tgt kon => XS.iconst X2.here hx rfl (hb hby d9_42) kon) ?_
      refine own_iaload X2 hx hZ e2 V_a5 (j := (2 : Int32)) (i := 2) (v := (rwv 2)) (by decide) (by decide) rfl rfl rfl (hb hby d9_43) ?_
      show own_Wp _ _ _ _ (T2.setTop (mkF m 44 #[rv a1, iv (3 : Int32), iv p3, iv p4, rv a5, iv (Int32.ofNat n), iv p7, iv fv, iv m1, uu] [(.int (rwv 2)), (.int m1)]))
      refine own_callS X2 hx hZ (y := (⟨"java/lang/Math", "min", "(II)I"⟩ : MethodName)) (argsL := [(.int m1), (.int (rwv 2))]) (rest := []) (W := 0) hown (ow hw 5 rfl) (ow hw 6 rfl) (ow hw 7 rfl) (ow hw 8 rfl) (by decide) e2 (rmmin l Z a0 hw [] m1 (rwv 2) T1.heap n0 Zs) (by decide) (by decide) (by decide) (by decide) rfl (by rw [hml]; rfl) (lenOf own_pd3 rfl) rfl (by show 2 * 0 + _ ≤ _; exact Nat.le_of_eq rfl) (hb hby d9_44) ?_
      rintro T7 L7 _ X7 ⟨rfl, N7q, e7⟩
      have N7 := Fr.app N2 N7q
      show own_Wp _ _ _ _ (T7.setTop (mkF m 47 #[rv a1, iv (3 : Int32), iv p3, iv p4, rv a5, iv (Int32.ofNat n), iv p7, iv fv, iv m1, uu] [(.int (own_mni m1 (rwv 2)))]))
      refine own_of (fun tgt kon => XS.istore X7.here hx rfl (hb hby d9_47) rfl (l' := #[rv a1, iv (3 : Int32), iv p3, iv p4, rv a5, iv (Int32.ofNat n), iv p7, iv fv, iv (own_mni m1 (rwv 2)), uu]) rfl kon) ?_
      show own_Wp _ _ _ _ (T7.setTop (mkF m 49 #[rv a1, iv (3 : Int32), iv p3, iv p4, rv a5, iv (Int32.ofNat n), iv p7, iv fv, iv (own_mni m1 (rwv 2)), uu] []))
      exact J49 T7 _ ((own_mni m1 (rwv 2))) X7 e7 N7 (by exact (if_neg hc35).symm)
  show own_Wp _ _ _ _ (T1.setTop (mkF m 18 #[rv a1, iv (3 : Int32), iv p3, iv p4, rv a5, iv (Int32.ofNat n), iv p7, iv fv, iv (rwv 0), uu] [(.int (1 : Int32)), (.int (Int32.ofNat n))]))
  by_cases hc18 : (Int32.ofNat n) < (1 : Int32)
  · skip
    refine own_of (fun tgt kon => XS.icmpYes X1.here hx rfl (pc0 := 18) (pc' := 32) rfl (hb hby d9_18) rfl (tlt hc18).1 (by decide) (by decide) kon) ?_
    show own_Wp _ _ _ _ (T1.setTop (mkF m 32 #[rv a1, iv (3 : Int32), iv p3, iv p4, rv a5, iv (Int32.ofNat n), iv p7, iv fv, iv (rwv 0), uu] []))
    exact J32 T1 _ ((rwv 0)) X1 rfl N1 (by exact (if_pos hc18).symm)
  · skip
    refine own_of (fun tgt kon => XS.icmpNo X1.here hx rfl (hb hby d9_18) rfl (flt hc18).1 kon) ?_
    refine own_of (fun tgt kon => XS.iload X1.here hx rfl (hb hby d9_21) rfl kon) ?_
    refine own_of (fun tgt kon => XS.aload X1.here hx rfl (hb hby d9_23) rfl rfl kon) ?_
    refine own_of (fun tgt kon => XS.iconst X1.here hx rfl (hb hby d9_25) kon) ?_
    refine own_iaload X1 hx hZ rfl V_a5 (j := (1 : Int32)) (i := 1) (v := (rwv 1)) (by decide) (by decide) rfl rfl rfl (hb hby d9_26) ?_
    show own_Wp _ _ _ _ (T1.setTop (mkF m 27 #[rv a1, iv (3 : Int32), iv p3, iv p4, rv a5, iv (Int32.ofNat n), iv p7, iv fv, iv (rwv 0), uu] [(.int (rwv 1)), (.int (rwv 0))]))
    refine own_callS X1 hx hZ (y := (⟨"java/lang/Math", "min", "(II)I"⟩ : MethodName)) (argsL := [(.int (rwv 0)), (.int (rwv 1))]) (rest := []) (W := 0) hown (ow hw 5 rfl) (ow hw 6 rfl) (ow hw 7 rfl) (ow hw 8 rfl) (by decide) rfl (rmmin l Z a0 hw [] (rwv 0) (rwv 1) T1.heap n0 Zs) (by decide) (by decide) (by decide) (by decide) rfl (by rw [hml]; rfl) (lenOf own_pd3 rfl) rfl (by show 2 * 0 + _ ≤ _; exact Nat.le_of_eq rfl) (hb hby d9_27) ?_
    rintro T8 L8 _ X8 ⟨rfl, N8q, e8⟩
    have N8 := Fr.app N1 N8q
    show own_Wp _ _ _ _ (T8.setTop (mkF m 30 #[rv a1, iv (3 : Int32), iv p3, iv p4, rv a5, iv (Int32.ofNat n), iv p7, iv fv, iv (rwv 0), uu] [(.int (own_mni (rwv 0) (rwv 1)))]))
    refine own_of (fun tgt kon => XS.istore X8.here hx rfl (hb hby d9_30) rfl (l' := #[rv a1, iv (3 : Int32), iv p3, iv p4, rv a5, iv (Int32.ofNat n), iv p7, iv fv, iv (own_mni (rwv 0) (rwv 1)), uu]) rfl kon) ?_
    show own_Wp _ _ _ _ (T8.setTop (mkF m 32 #[rv a1, iv (3 : Int32), iv p3, iv p4, rv a5, iv (Int32.ofNat n), iv p7, iv fv, iv (own_mni (rwv 0) (rwv 1)), uu] []))
    exact J32 T8 _ ((own_mni (rwv 0) (rwv 1))) X8 e8 N8 (by exact (if_neg hc18).symm)
theorem own_pd6 : parseMethodDescriptor "([IIIII)V" = some ⟨[(.array .int), .int, .int, .int, .int], none⟩ := by decide +kernel
theorem own_pd7 : parseMethodDescriptor "([[III[I[III)I" = some ⟨[(.array (.array .int)), .int, .int, (.array .int), (.array .int), .int, .int], some .int⟩ := by decide +kernel
theorem own_pd8 : parseMethodDescriptor "(Lcom/example/close_words/closewords/BitRows;IIZ[III)Z" = some ⟨[(.object "com/example/close_words/closewords/BitRows"), .int, .int, .boolean, (.array .int), .int, .int], some .boolean⟩ := by decide +kernel
def Q_rm0 (Z : State) (p1 : Int32) (p2 : Int32) (p3 : Int32) (p4 : Int32) (p5 : Int32) (h0 : Heap) (n0 : Nat) (v : Option Value) (h : Heap) (L : List Loc) : Prop := v = some (.int 1) ∧ Fr n0 L
set_option maxRecDepth 65536 in
set_option maxHeartbeats 40000000 in
theorem rm0 (l : Launch) (Z : State) (a0 : Array Value) (hw : ∀ d ∈ tables_1, d.before a0 Z = true) (ws : List Jvm.Cond) (p1 : Int32) (p2 : Int32) (p3 : Int32) (p4 : Int32) (p5 : Int32) (h0 : Heap) (n0 : Nat) (Z0 : n0 ≤ h0.size)  :
    own_Ctr l Z x code maxLocals ret ws room_1 #[(.int p1), (.int p2), (.int p3), (.int p4), (.int p5)] h0 (Q_rm0 Z p1 p2 p3 p4 p5 h0 n0) := by
  refine own_enter (plainFor_of_name own_pn2) ?_
  intro p e s m below meth c s₁ X0 hx hby hml hrt hlk hZ hown hnm e0
  have N0 := Fr.nil n0
  have Zs := Z0
  rw [show entryFrame m #[(.int p1), (.int p2), (.int p3), (.int p4), (.int p5)] maxLocals = mkF m 0 #[iv p1, iv p2, iv p3, iv p4, iv p5, uu, uu, uu, uu, uu, uu, uu, uu, uu, uu, uu, uu] [] from by first | (simp [entryFrame, mkF, argsToLocals, Value.category, maxLocals]; done) | rfl]
  show own_Wp _ _ _ _ (s₁.setTop (mkF m 0 #[iv p1, iv p2, iv p3, iv p4, iv p5, uu, uu, uu, uu, uu, uu, uu, uu, uu, uu, uu, uu] []))
  refine own_of (fun tgt kon => XS.iloadN X0.here hx rfl (hb hby at_0) rfl kon) ?_
  refine own_of (fun tgt kon => XS.bipush X0.here hx rfl (hb hby at_1) kon) ?_
  refine own_of (fun tgt kon => XS.iushr X0.here hx rfl (hb hby at_3) rfl kon) ?_
  refine own_of (fun tgt kon => XS.iconst X0.here hx rfl (hb hby at_4) kon) ?_
  refine own_of (fun tgt kon => XS.iand X0.here hx rfl (hb hby at_5) rfl kon) ?_
  show own_Wp _ _ _ _ (s₁.setTop (mkF m 6 #[iv p1, iv p2, iv p3, iv p4, iv p5, uu, uu, uu, uu, uu, uu, uu, uu, uu, uu, uu, uu] [(.int (((p1.toUInt32 >>> ((9 : Int32) &&& 31).toUInt32).toInt32) &&& (3 : Int32)))]))
  obtain ⟨nv, h_nv⟩ : ∃ q : Int32, q = (((p1.toUInt32 >>> ((9 : Int32) &&& 31).toUInt32).toInt32) &&& (3 : Int32)) := ⟨_, rfl⟩
  rw [← h_nv]
  refine own_of (fun tgt kon => XS.istore X0.here hx rfl (hb hby at_6) rfl (l' := #[iv p1, iv p2, iv p3, iv p4, iv p5, iv nv, uu, uu, uu, uu, uu, uu, uu, uu, uu, uu, uu]) rfl kon) ?_
  show own_Wp _ _ _ _ (s₁.setTop (mkF m 8 #[iv p1, iv p2, iv p3, iv p4, iv p5, iv nv, uu, uu, uu, uu, uu, uu, uu, uu, uu, uu, uu] []))
  obtain ⟨n, hn, hnv⟩ := own_and3n h_nv
  clear h_nv
  subst hnv
  show own_Wp _ _ _ _ (s₁.setTop (mkF m 8 #[iv p1, iv p2, iv p3, iv p4, iv p5, iv (Int32.ofNat n), uu, uu, uu, uu, uu, uu, uu, uu, uu, uu, uu] []))
  refine own_of (fun tgt kon => XS.iconst X0.here hx rfl (hb hby at_8) kon) ?_
  obtain ⟨T1, h1, k1, X1, e1, E1, A1, st1⟩ := newP X0 hx hZ (ow hw 0 rfl) e0 (g := (mkF m 9 #[iv p1, iv p2, iv p3, iv p4, iv p5, iv (Int32.ofNat n), uu, uu, uu, uu, uu, uu, uu, uu, uu, uu, uu] [(.int (4 : Int32))])) rfl (hb hby at_9) rfl (by decide) (cap := 4) (by decide) (by decide) (by decide) (by decide)
  refine own_of st1 ?_
  clear st1
  obtain ⟨b1, gq1⟩ : ∃ z, z = h0.size := ⟨_, rfl⟩
  rw [← gq1] at A1 ⊢
  have g_b1 : n0 ≤ b1 := Nat.le_trans Zs (Nat.le_of_eq gq1.symm)
  replace Zs := Nat.le_trans Zs E1.1
  have V_b1 : own_Ar Z h1 b1 .int 4 (fun _ => (.int (0 : Int32))) := own_Ar.new A1 (by decide) rfl
  refine own_of (fun tgt kon => XS.dup X1.here hx rfl (hb hby at_11) rfl rfl kon) ?_
  refine own_of (fun tgt kon => XS.iconst X1.here hx rfl (hb hby at_12) kon) ?_
  refine own_of (fun tgt kon => XS.iconst X1.here hx rfl (hb hby at_13) kon) ?_
  show own_Wp _ _ _ _ (T1.setTop (mkF m 14 #[iv p1, iv p2, iv p3, iv p4, iv p5, iv (Int32.ofNat n), uu, uu, uu, uu, uu, uu, uu, uu, uu, uu, uu] [(.int (0 : Int32)), (.int (0 : Int32)), (.ref b1), (.ref b1)]))
  obtain ⟨T2, h2, X2, e2, W2, Aq2, st2⟩ := own_stI X1 hx hZ e1 V_b1 (j := (0 : Int32)) (i := 0) (x := (0 : Int32)) (by decide) (by decide) (g := (mkF m 14 #[iv p1, iv p2, iv p3, iv p4, iv p5, iv (Int32.ofNat n), uu, uu, uu, uu, uu, uu, uu, uu, uu, uu, uu] [(.int (0 : Int32)), (.int (0 : Int32)), (.ref b1), (.ref b1)])) rfl rfl (hb hby at_14)
  refine own_of st2 ?_
  clear st2
  replace Zs := Nat.le_trans Zs (Keep.of_wr W2).1
  replace V_b1 := Aq2
  clear Aq2
  have N2 := Fr.snoc X2 N0 g_b1
  refine own_of (fun tgt kon => XS.dup X2.here hx rfl (hb hby at_15) rfl rfl kon) ?_
  refine own_of (fun tgt kon => XS.iconst X2.here hx rfl (hb hby at_16) kon) ?_
  refine own_of (fun tgt kon => XS.iloadN X2.here hx rfl (hb hby at_17) rfl kon) ?_
  refine own_callS X2 hx hZ (y := (⟨"com/example/close_words/closewords/BitRowsFillPinLaw", "cp", "(I)I"⟩ : MethodName)) (argsL := [(.int p1)]) (rest := [(.int (1 : Int32)), (.ref b1), (.ref b1)]) (W := 3) hown (ow hw 1 rfl) (ow hw 2 rfl) (ow hw 3 rfl) (ow hw 4 rfl) (by decide) e2 (rmch l Z a0 hw [] p1 h2 n0 Zs) (by decide) (by decide) (by decide) (by decide) rfl (by rw [hml]; rfl) (lenOf own_pd0 rfl) rfl (by show 2 * 0 + _ ≤ _; exact Nat.le_of_eq rfl) (hb hby at_18) ?_
  rintro T3 L3 _ X3 ⟨rfl, N3q, e3⟩
  have N3 := Fr.app N2 N3q
  show own_Wp _ _ _ _ (T3.setTop (mkF m 21 #[iv p1, iv p2, iv p3, iv p4, iv p5, iv (Int32.ofNat n), uu, uu, uu, uu, uu, uu, uu, uu, uu, uu, uu] [(.int ((p1 &&& (3 : Int32)) ||| ((p1 &&& (4 : Int32)) <<< ((5 : Int32) &&& 31)))), (.int (1 : Int32)), (.ref b1), (.ref b1)]))
  obtain ⟨c1, q_c1⟩ := own_ch p1
  rw [q_c1]
  clear q_c1
  show own_Wp _ _ _ _ (T3.setTop (mkF m 21 #[iv p1, iv p2, iv p3, iv p4, iv p5, iv (Int32.ofNat n), uu, uu, uu, uu, uu, uu, uu, uu, uu, uu, uu] [(.int (own_chr c1)), (.int (1 : Int32)), (.ref b1), (.ref b1)]))
  obtain ⟨T4, h4, X4, e4, W4, Aq4, st4⟩ := own_stI X3 hx hZ e3 V_b1 (j := (1 : Int32)) (i := 1) (x := (own_chr c1)) (by decide) (by decide) (g := (mkF m 21 #[iv p1, iv p2, iv p3, iv p4, iv p5, iv (Int32.ofNat n), uu, uu, uu, uu, uu, uu, uu, uu, uu, uu, uu] [(.int (own_chr c1)), (.int (1 : Int32)), (.ref b1), (.ref b1)])) rfl rfl (hb hby at_21)
  refine own_of st4 ?_
  clear st4
  replace Zs := Nat.le_trans Zs (Keep.of_wr W4).1
  replace V_b1 := Aq4
  clear Aq4
  have N4 := Fr.snoc X4 N3 g_b1
  refine own_of (fun tgt kon => XS.dup X4.here hx rfl (hb hby at_22) rfl rfl kon) ?_
  refine own_of (fun tgt kon => XS.iconst X4.here hx rfl (hb hby at_23) kon) ?_
  refine own_of (fun tgt kon => XS.iloadN X4.here hx rfl (hb hby at_24) rfl kon) ?_
  refine own_of (fun tgt kon => XS.iconst X4.here hx rfl (hb hby at_25) kon) ?_
  show own_Wp _ _ _ _ (T4.setTop (mkF m 26 #[iv p1, iv p2, iv p3, iv p4, iv p5, iv (Int32.ofNat n), uu, uu, uu, uu, uu, uu, uu, uu, uu, uu, uu] [(.int (3 : Int32)), (.int p1), (.int (2 : Int32)), (.ref b1), (.ref b1)]))
  refine own_of (fun tgt kon => XS.iushr X4.here hx rfl (hb hby at_26) rfl kon) ?_
  refine own_callS X4 hx hZ (y := (⟨"com/example/close_words/closewords/BitRowsFillPinLaw", "cp", "(I)I"⟩ : MethodName)) (argsL := [(.int ((p1.toUInt32 >>> ((3 : Int32) &&& 31).toUInt32).toInt32))]) (rest := [(.int (2 : Int32)), (.ref b1), (.ref b1)]) (W := 3) hown (ow hw 1 rfl) (ow hw 2 rfl) (ow hw 3 rfl) (ow hw 4 rfl) (by decide) e4 (rmch l Z a0 hw [] ((p1.toUInt32 >>> ((3 : Int32) &&& 31).toUInt32).toInt32) h4 n0 Zs) (by decide) (by decide) (by decide) (by decide) rfl (by rw [hml]; rfl) (lenOf own_pd0 rfl) rfl (by show 2 * 0 + _ ≤ _; exact Nat.le_of_eq rfl) (hb hby at_27) ?_
  rintro T5 L5 _ X5 ⟨rfl, N5q, e5⟩
  have N5 := Fr.app N4 N5q
  show own_Wp _ _ _ _ (T5.setTop (mkF m 30 #[iv p1, iv p2, iv p3, iv p4, iv p5, iv (Int32.ofNat n), uu, uu, uu, uu, uu, uu, uu, uu, uu, uu, uu] [(.int ((((p1.toUInt32 >>> ((3 : Int32) &&& 31).toUInt32).toInt32) &&& (3 : Int32)) ||| ((((p1.toUInt32 >>> ((3 : Int32) &&& 31).toUInt32).toInt32) &&& (4 : Int32)) <<< ((5 : Int32) &&& 31)))), (.int (2 : Int32)), (.ref b1), (.ref b1)]))
  obtain ⟨c2, q_c2⟩ := own_ch ((p1.toUInt32 >>> ((3 : Int32) &&& 31).toUInt32).toInt32)
  rw [q_c2]
  clear q_c2
  show own_Wp _ _ _ _ (T5.setTop (mkF m 30 #[iv p1, iv p2, iv p3, iv p4, iv p5, iv (Int32.ofNat n), uu, uu, uu, uu, uu, uu, uu, uu, uu, uu, uu] [(.int (own_chr c2)), (.int (2 : Int32)), (.ref b1), (.ref b1)]))
  obtain ⟨T6, h6, X6, e6, W6, Aq6, st6⟩ := own_stI X5 hx hZ e5 V_b1 (j := (2 : Int32)) (i := 2) (x := (own_chr c2)) (by decide) (by decide) (g := (mkF m 30 #[iv p1, iv p2, iv p3, iv p4, iv p5, iv (Int32.ofNat n), uu, uu, uu, uu, uu, uu, uu, uu, uu, uu, uu] [(.int (own_chr c2)), (.int (2 : Int32)), (.ref b1), (.ref b1)])) rfl rfl (hb hby at_30)
  refine own_of st6 ?_
  clear st6
  replace Zs := Nat.le_trans Zs (Keep.of_wr W6).1
  replace V_b1 := Aq6
  clear Aq6
  have N6 := Fr.snoc X6 N5 g_b1
  refine own_of (fun tgt kon => XS.dup X6.here hx rfl (hb hby at_31) rfl rfl kon) ?_
  refine own_of (fun tgt kon => XS.iconst X6.here hx rfl (hb hby at_32) kon) ?_
  refine own_of (fun tgt kon => XS.iloadN X6.here hx rfl (hb hby at_33) rfl kon) ?_
  refine own_of (fun tgt kon => XS.bipush X6.here hx rfl (hb hby at_34) kon) ?_
  show own_Wp _ _ _ _ (T6.setTop (mkF m 36 #[iv p1, iv p2, iv p3, iv p4, iv p5, iv (Int32.ofNat n), uu, uu, uu, uu, uu, uu, uu, uu, uu, uu, uu] [(.int (6 : Int32)), (.int p1), (.int (3 : Int32)), (.ref b1), (.ref b1)]))
  refine own_of (fun tgt kon => XS.iushr X6.here hx rfl (hb hby at_36) rfl kon) ?_
  refine own_callS X6 hx hZ (y := (⟨"com/example/close_words/closewords/BitRowsFillPinLaw", "cp", "(I)I"⟩ : MethodName)) (argsL := [(.int ((p1.toUInt32 >>> ((6 : Int32) &&& 31).toUInt32).toInt32))]) (rest := [(.int (3 : Int32)), (.ref b1), (.ref b1)]) (W := 3) hown (ow hw 1 rfl) (ow hw 2 rfl) (ow hw 3 rfl) (ow hw 4 rfl) (by decide) e6 (rmch l Z a0 hw [] ((p1.toUInt32 >>> ((6 : Int32) &&& 31).toUInt32).toInt32) h6 n0 Zs) (by decide) (by decide) (by decide) (by decide) rfl (by rw [hml]; rfl) (lenOf own_pd0 rfl) rfl (by show 2 * 0 + _ ≤ _; exact Nat.le_of_eq rfl) (hb hby at_37) ?_
  rintro T7 L7 _ X7 ⟨rfl, N7q, e7⟩
  have N7 := Fr.app N6 N7q
  show own_Wp _ _ _ _ (T7.setTop (mkF m 40 #[iv p1, iv p2, iv p3, iv p4, iv p5, iv (Int32.ofNat n), uu, uu, uu, uu, uu, uu, uu, uu, uu, uu, uu] [(.int ((((p1.toUInt32 >>> ((6 : Int32) &&& 31).toUInt32).toInt32) &&& (3 : Int32)) ||| ((((p1.toUInt32 >>> ((6 : Int32) &&& 31).toUInt32).toInt32) &&& (4 : Int32)) <<< ((5 : Int32) &&& 31)))), (.int (3 : Int32)), (.ref b1), (.ref b1)]))
  obtain ⟨c3, q_c3⟩ := own_ch ((p1.toUInt32 >>> ((6 : Int32) &&& 31).toUInt32).toInt32)
  rw [q_c3]
  clear q_c3
  show own_Wp _ _ _ _ (T7.setTop (mkF m 40 #[iv p1, iv p2, iv p3, iv p4, iv p5, iv (Int32.ofNat n), uu, uu, uu, uu, uu, uu, uu, uu, uu, uu, uu] [(.int (own_chr c3)), (.int (3 : Int32)), (.ref b1), (.ref b1)]))
  obtain ⟨T8, h8, X8, e8, W8, Aq8, st8⟩ := own_stI X7 hx hZ e7 V_b1 (j := (3 : Int32)) (i := 3) (x := (own_chr c3)) (by decide) (by decide) (g := (mkF m 40 #[iv p1, iv p2, iv p3, iv p4, iv p5, iv (Int32.ofNat n), uu, uu, uu, uu, uu, uu, uu, uu, uu, uu, uu] [(.int (own_chr c3)), (.int (3 : Int32)), (.ref b1), (.ref b1)])) rfl rfl (hb hby at_40)
  refine own_of st8 ?_
  clear st8
  replace Zs := Nat.le_trans Zs (Keep.of_wr W8).1
  replace V_b1 := Aq8
  clear Aq8
  have N8 := Fr.snoc X8 N7 g_b1
  show own_Wp _ _ _ _ (T8.setTop (mkF m 41 #[iv p1, iv p2, iv p3, iv p4, iv p5, iv (Int32.ofNat n), uu, uu, uu, uu, uu, uu, uu, uu, uu, uu, uu] [(.ref b1)]))
  replace V_b1 := V_b1.fn (f' := fun k => .int ((own_tq (own_chr c1) (own_chr c2) (own_chr c3)) k)) (by intro k hk; rcases k with _ | _ | _ | _ | k <;> first | rfl | omega)
  refine own_of (fun tgt kon => XS.astore X8.here hx rfl (hb hby at_41) rfl rfl (l' := #[iv p1, iv p2, iv p3, iv p4, iv p5, iv (Int32.ofNat n), rv b1, uu, uu, uu, uu, uu, uu, uu, uu, uu, uu]) rfl kon) ?_
  refine own_of (fun tgt kon => XS.iconst X8.here hx rfl (hb hby at_43) kon) ?_
  obtain ⟨T9, h9, k9, X9, e9, E9, A9, st9⟩ := newP X8 hx hZ (ow hw 0 rfl) e8 (g := (mkF m 44 #[iv p1, iv p2, iv p3, iv p4, iv p5, iv (Int32.ofNat n), rv b1, uu, uu, uu, uu, uu, uu, uu, uu, uu, uu] [(.int (4 : Int32))])) rfl (hb hby at_44) rfl (by decide) (cap := 4) (by decide) (by decide) (by decide) (by decide)
  refine own_of st9 ?_
  clear st9
  obtain ⟨b9, gq9⟩ : ∃ z, z = h8.size := ⟨_, rfl⟩
  rw [← gq9] at A9 ⊢
  have ne_b1_b9 : b1 ≠ b9 := Nat.ne_of_lt (Nat.lt_of_lt_of_le V_b1.lt (Nat.le_of_eq gq9.symm))
  have g_b9 : n0 ≤ b9 := Nat.le_trans Zs (Nat.le_of_eq gq9.symm)
  replace Zs := Nat.le_trans Zs E9.1
  replace V_b1 := V_b1.ext E9
  have V_b9 : own_Ar Z h9 b9 .int 4 (fun _ => (.int (0 : Int32))) := own_Ar.new A9 (by decide) rfl
  refine own_of (fun tgt kon => XS.dup X9.here hx rfl (hb hby at_46) rfl rfl kon) ?_
  refine own_of (fun tgt kon => XS.iconst X9.here hx rfl (hb hby at_47) kon) ?_
  show own_Wp _ _ _ _ (T9.setTop (mkF m 48 #[iv p1, iv p2, iv p3, iv p4, iv p5, iv (Int32.ofNat n), rv b1, uu, uu, uu, uu, uu, uu, uu, uu, uu, uu] [(.int (0 : Int32)), (.ref b9), (.ref b9)]))
  refine own_of (fun tgt kon => XS.iconst X9.here hx rfl (hb hby at_48) kon) ?_
  obtain ⟨T10, h10, X10, e10, W10, Aq10, st10⟩ := own_stI X9 hx hZ e9 V_b9 (j := (0 : Int32)) (i := 0) (x := (0 : Int32)) (by decide) (by decide) (g := (mkF m 49 #[iv p1, iv p2, iv p3, iv p4, iv p5, iv (Int32.ofNat n), rv b1, uu, uu, uu, uu, uu, uu, uu, uu, uu, uu] [(.int (0 : Int32)), (.int (0 : Int32)), (.ref b9), (.ref b9)])) rfl rfl (hb hby at_49)
  refine own_of st10 ?_
  clear st10
  replace Zs := Nat.le_trans Zs (Keep.of_wr W10).1
  replace V_b1 := V_b1.other W10 ne_b1_b9
  replace V_b9 := Aq10
  clear Aq10
  have N10 := Fr.snoc X10 N8 g_b9
  refine own_of (fun tgt kon => XS.dup X10.here hx rfl (hb hby at_50) rfl rfl kon) ?_
  refine own_of (fun tgt kon => XS.iconst X10.here hx rfl (hb hby at_51) kon) ?_
  refine own_of (fun tgt kon => XS.iloadN X10.here hx rfl (hb hby at_52) rfl kon) ?_
  show own_Wp _ _ _ _ (T10.setTop (mkF m 53 #[iv p1, iv p2, iv p3, iv p4, iv p5, iv (Int32.ofNat n), rv b1, uu, uu, uu, uu, uu, uu, uu, uu, uu, uu] [(.int p2), (.int (1 : Int32)), (.ref b9), (.ref b9)]))
  refine own_callS X10 hx hZ (y := (⟨"com/example/close_words/closewords/BitRowsFillPinLaw", "cp", "(I)I"⟩ : MethodName)) (argsL := [(.int p2)]) (rest := [(.int (1 : Int32)), (.ref b9), (.ref b9)]) (W := 3) hown (ow hw 1 rfl) (ow hw 2 rfl) (ow hw 3 rfl) (ow hw 4 rfl) (by decide) e10 (rmch l Z a0 hw [] p2 h10 n0 Zs) (by decide) (by decide) (by decide) (by decide) rfl (by rw [hml]; rfl) (lenOf own_pd0 rfl) rfl (by show 2 * 0 + _ ≤ _; exact Nat.le_of_eq rfl) (hb hby at_53) ?_
  rintro T11 L11 _ X11 ⟨rfl, N11q, e11⟩
  have N11 := Fr.app N10 N11q
  show own_Wp _ _ _ _ (T11.setTop (mkF m 56 #[iv p1, iv p2, iv p3, iv p4, iv p5, iv (Int32.ofNat n), rv b1, uu, uu, uu, uu, uu, uu, uu, uu, uu, uu] [(.int ((p2 &&& (3 : Int32)) ||| ((p2 &&& (4 : Int32)) <<< ((5 : Int32) &&& 31)))), (.int (1 : Int32)), (.ref b9), (.ref b9)]))
  obtain ⟨e1, q_e1⟩ := own_ch p2
  rw [q_e1]
  clear q_e1
  show own_Wp _ _ _ _ (T11.setTop (mkF m 56 #[iv p1, iv p2, iv p3, iv p4, iv p5, iv (Int32.ofNat n), rv b1, uu, uu, uu, uu, uu, uu, uu, uu, uu, uu] [(.int (own_chr e1)), (.int (1 : Int32)), (.ref b9), (.ref b9)]))
  obtain ⟨T12, h12, X12, e12, W12, Aq12, st12⟩ := own_stI X11 hx hZ e11 V_b9 (j := (1 : Int32)) (i := 1) (x := (own_chr e1)) (by decide) (by decide) (g := (mkF m 56 #[iv p1, iv p2, iv p3, iv p4, iv p5, iv (Int32.ofNat n), rv b1, uu, uu, uu, uu, uu, uu, uu, uu, uu, uu] [(.int (own_chr e1)), (.int (1 : Int32)), (.ref b9), (.ref b9)])) rfl rfl (hb hby at_56)
  refine own_of st12 ?_
  clear st12
  replace Zs := Nat.le_trans Zs (Keep.of_wr W12).1
  replace V_b1 := V_b1.other W12 ne_b1_b9
  replace V_b9 := Aq12
  clear Aq12
  have N12 := Fr.snoc X12 N11 g_b9
  refine own_of (fun tgt kon => XS.dup X12.here hx rfl (hb hby at_57) rfl rfl kon) ?_
  refine own_of (fun tgt kon => XS.iconst X12.here hx rfl (hb hby at_58) kon) ?_
  refine own_of (fun tgt kon => XS.iloadN X12.here hx rfl (hb hby at_59) rfl kon) ?_
  refine own_of (fun tgt kon => XS.iconst X12.here hx rfl (hb hby at_60) kon) ?_
  show own_Wp _ _ _ _ (T12.setTop (mkF m 61 #[iv p1, iv p2, iv p3, iv p4, iv p5, iv (Int32.ofNat n), rv b1, uu, uu, uu, uu, uu, uu, uu, uu, uu, uu] [(.int (3 : Int32)), (.int p2), (.int (2 : Int32)), (.ref b9), (.ref b9)]))
  refine own_of (fun tgt kon => XS.iushr X12.here hx rfl (hb hby at_61) rfl kon) ?_
  refine own_callS X12 hx hZ (y := (⟨"com/example/close_words/closewords/BitRowsFillPinLaw", "cp", "(I)I"⟩ : MethodName)) (argsL := [(.int ((p2.toUInt32 >>> ((3 : Int32) &&& 31).toUInt32).toInt32))]) (rest := [(.int (2 : Int32)), (.ref b9), (.ref b9)]) (W := 3) hown (ow hw 1 rfl) (ow hw 2 rfl) (ow hw 3 rfl) (ow hw 4 rfl) (by decide) e12 (rmch l Z a0 hw [] ((p2.toUInt32 >>> ((3 : Int32) &&& 31).toUInt32).toInt32) h12 n0 Zs) (by decide) (by decide) (by decide) (by decide) rfl (by rw [hml]; rfl) (lenOf own_pd0 rfl) rfl (by show 2 * 0 + _ ≤ _; exact Nat.le_of_eq rfl) (hb hby at_62) ?_
  rintro T13 L13 _ X13 ⟨rfl, N13q, e13⟩
  have N13 := Fr.app N12 N13q
  show own_Wp _ _ _ _ (T13.setTop (mkF m 65 #[iv p1, iv p2, iv p3, iv p4, iv p5, iv (Int32.ofNat n), rv b1, uu, uu, uu, uu, uu, uu, uu, uu, uu, uu] [(.int ((((p2.toUInt32 >>> ((3 : Int32) &&& 31).toUInt32).toInt32) &&& (3 : Int32)) ||| ((((p2.toUInt32 >>> ((3 : Int32) &&& 31).toUInt32).toInt32) &&& (4 : Int32)) <<< ((5 : Int32) &&& 31)))), (.int (2 : Int32)), (.ref b9), (.ref b9)]))
  obtain ⟨e2, q_e2⟩ := own_ch ((p2.toUInt32 >>> ((3 : Int32) &&& 31).toUInt32).toInt32)
  rw [q_e2]
  clear q_e2
  show own_Wp _ _ _ _ (T13.setTop (mkF m 65 #[iv p1, iv p2, iv p3, iv p4, iv p5, iv (Int32.ofNat n), rv b1, uu, uu, uu, uu, uu, uu, uu, uu, uu, uu] [(.int (own_chr e2)), (.int (2 : Int32)), (.ref b9), (.ref b9)]))
  obtain ⟨T14, h14, X14, e14, W14, Aq14, st14⟩ := own_stI X13 hx hZ e13 V_b9 (j := (2 : Int32)) (i := 2) (x := (own_chr e2)) (by decide) (by decide) (g := (mkF m 65 #[iv p1, iv p2, iv p3, iv p4, iv p5, iv (Int32.ofNat n), rv b1, uu, uu, uu, uu, uu, uu, uu, uu, uu, uu] [(.int (own_chr e2)), (.int (2 : Int32)), (.ref b9), (.ref b9)])) rfl rfl (hb hby at_65)
  refine own_of st14 ?_
  clear st14
  replace Zs := Nat.le_trans Zs (Keep.of_wr W14).1
  replace V_b1 := V_b1.other W14 ne_b1_b9
  replace V_b9 := Aq14
  clear Aq14
  have N14 := Fr.snoc X14 N13 g_b9
  refine own_of (fun tgt kon => XS.dup X14.here hx rfl (hb hby at_66) rfl rfl kon) ?_
  refine own_of (fun tgt kon => XS.iconst X14.here hx rfl (hb hby at_67) kon) ?_
  refine own_of (fun tgt kon => XS.iloadN X14.here hx rfl (hb hby at_68) rfl kon) ?_
  refine own_of (fun tgt kon => XS.bipush X14.here hx rfl (hb hby at_69) kon) ?_
  show own_Wp _ _ _ _ (T14.setTop (mkF m 71 #[iv p1, iv p2, iv p3, iv p4, iv p5, iv (Int32.ofNat n), rv b1, uu, uu, uu, uu, uu, uu, uu, uu, uu, uu] [(.int (6 : Int32)), (.int p2), (.int (3 : Int32)), (.ref b9), (.ref b9)]))
  refine own_of (fun tgt kon => XS.iushr X14.here hx rfl (hb hby at_71) rfl kon) ?_
  refine own_callS X14 hx hZ (y := (⟨"com/example/close_words/closewords/BitRowsFillPinLaw", "cp", "(I)I"⟩ : MethodName)) (argsL := [(.int ((p2.toUInt32 >>> ((6 : Int32) &&& 31).toUInt32).toInt32))]) (rest := [(.int (3 : Int32)), (.ref b9), (.ref b9)]) (W := 3) hown (ow hw 1 rfl) (ow hw 2 rfl) (ow hw 3 rfl) (ow hw 4 rfl) (by decide) e14 (rmch l Z a0 hw [] ((p2.toUInt32 >>> ((6 : Int32) &&& 31).toUInt32).toInt32) h14 n0 Zs) (by decide) (by decide) (by decide) (by decide) rfl (by rw [hml]; rfl) (lenOf own_pd0 rfl) rfl (by show 2 * 0 + _ ≤ _; exact Nat.le_of_eq rfl) (hb hby at_72) ?_
  rintro T15 L15 _ X15 ⟨rfl, N15q, e15⟩
  have N15 := Fr.app N14 N15q
  show own_Wp _ _ _ _ (T15.setTop (mkF m 75 #[iv p1, iv p2, iv p3, iv p4, iv p5, iv (Int32.ofNat n), rv b1, uu, uu, uu, uu, uu, uu, uu, uu, uu, uu] [(.int ((((p2.toUInt32 >>> ((6 : Int32) &&& 31).toUInt32).toInt32) &&& (3 : Int32)) ||| ((((p2.toUInt32 >>> ((6 : Int32) &&& 31).toUInt32).toInt32) &&& (4 : Int32)) <<< ((5 : Int32) &&& 31)))), (.int (3 : Int32)), (.ref b9), (.ref b9)]))
  obtain ⟨e3, q_e3⟩ := own_ch ((p2.toUInt32 >>> ((6 : Int32) &&& 31).toUInt32).toInt32)
  rw [q_e3]
  clear q_e3
  show own_Wp _ _ _ _ (T15.setTop (mkF m 75 #[iv p1, iv p2, iv p3, iv p4, iv p5, iv (Int32.ofNat n), rv b1, uu, uu, uu, uu, uu, uu, uu, uu, uu, uu] [(.int (own_chr e3)), (.int (3 : Int32)), (.ref b9), (.ref b9)]))
  obtain ⟨T16, h16, X16, e16, W16, Aq16, st16⟩ := own_stI X15 hx hZ e15 V_b9 (j := (3 : Int32)) (i := 3) (x := (own_chr e3)) (by decide) (by decide) (g := (mkF m 75 #[iv p1, iv p2, iv p3, iv p4, iv p5, iv (Int32.ofNat n), rv b1, uu, uu, uu, uu, uu, uu, uu, uu, uu, uu] [(.int (own_chr e3)), (.int (3 : Int32)), (.ref b9), (.ref b9)])) rfl rfl (hb hby at_75)
  refine own_of st16 ?_
  clear st16
  replace Zs := Nat.le_trans Zs (Keep.of_wr W16).1
  replace V_b1 := V_b1.other W16 ne_b1_b9
  replace V_b9 := Aq16
  clear Aq16
  have N16 := Fr.snoc X16 N15 g_b9
  show own_Wp _ _ _ _ (T16.setTop (mkF m 76 #[iv p1, iv p2, iv p3, iv p4, iv p5, iv (Int32.ofNat n), rv b1, uu, uu, uu, uu, uu, uu, uu, uu, uu, uu] [(.ref b9)]))
  replace V_b9 := V_b9.fn (f' := fun k => .int ((own_tq (own_chr e1) (own_chr e2) (own_chr e3)) k)) (by intro k hk; rcases k with _ | _ | _ | _ | k <;> first | rfl | omega)
  refine own_of (fun tgt kon => XS.astore X16.here hx rfl (hb hby at_76) rfl rfl (l' := #[iv p1, iv p2, iv p3, iv p4, iv p5, iv (Int32.ofNat n), rv b1, rv b9, uu, uu, uu, uu, uu, uu, uu, uu, uu]) rfl kon) ?_
  refine own_of (fun tgt kon => XS.iloadN X16.here hx rfl (hb hby at_78) rfl kon) ?_
  refine own_of (fun tgt kon => XS.bipush X16.here hx rfl (hb hby at_79) kon) ?_
  refine own_of (fun tgt kon => XS.iushr X16.here hx rfl (hb hby at_81) rfl kon) ?_
  refine own_of (fun tgt kon => XS.iconst X16.here hx rfl (hb hby at_82) kon) ?_
  show own_Wp _ _ _ _ (T16.setTop (mkF m 83 #[iv p1, iv p2, iv p3, iv p4, iv p5, iv (Int32.ofNat n), rv b1, rv b9, uu, uu, uu, uu, uu, uu, uu, uu, uu] [(.int (1 : Int32)), (.int ((p2.toUInt32 >>> ((9 : Int32) &&& 31).toUInt32).toInt32))]))
  refine own_of (fun tgt kon => XS.iand X16.here hx rfl (hb hby at_83) rfl kon) ?_
  show own_Wp _ _ _ _ (T16.setTop (mkF m 84 #[iv p1, iv p2, iv p3, iv p4, iv p5, iv (Int32.ofNat n), rv b1, rv b9, uu, uu, uu, uu, uu, uu, uu, uu, uu] [(.int (((p2.toUInt32 >>> ((9 : Int32) &&& 31).toUInt32).toInt32) &&& (1 : Int32)))]))
  have J92 : ∀ (br : Int32), (br = if (((p2.toUInt32 >>> ((9 : Int32) &&& 31).toUInt32).toInt32) &&& (1 : Int32)) = (0 : Int32) then (0 : Int32) else 1) → own_Wp p.tables e below (own_K room_1 s below (Q_rm0 Z p1 p2 p3 p4 p5 h0 n0)) (T16.setTop (mkF m 92 #[iv p1, iv p2, iv p3, iv p4, iv p5, iv (Int32.ofNat n), rv b1, rv b9, uu, uu, uu, uu, uu, uu, uu, uu, uu] [(.int br)])) := by
    intro br h_br
    refine own_of (fun tgt kon => XS.istore X16.here hx rfl (hb hby at_92) rfl (l' := #[iv p1, iv p2, iv p3, iv p4, iv p5, iv (Int32.ofNat n), rv b1, rv b9, iv br, uu, uu, uu, uu, uu, uu, uu, uu]) rfl kon) ?_
    refine own_of (fun tgt kon => XS.iloadN X16.here hx rfl (hb hby at_94) rfl kon) ?_
    refine own_of (fun tgt kon => XS.bipush X16.here hx rfl (hb hby at_95) kon) ?_
    refine own_of (fun tgt kon => XS.iand X16.here hx rfl (hb hby at_97) rfl kon) ?_
    show own_Wp _ _ _ _ (T16.setTop (mkF m 98 #[iv p1, iv p2, iv p3, iv p4, iv p5, iv (Int32.ofNat n), rv b1, rv b9, iv br, uu, uu, uu, uu, uu, uu, uu, uu] [(.int (p3 &&& (63 : Int32)))]))
    obtain ⟨bnd, h_bnd⟩ : ∃ q : Int32, q = (p3 &&& (63 : Int32)) := ⟨_, rfl⟩
    rw [← h_bnd]
    refine own_of (fun tgt kon => XS.istore X16.here hx rfl (hb hby at_98) rfl (l' := #[iv p1, iv p2, iv p3, iv p4, iv p5, iv (Int32.ofNat n), rv b1, rv b9, iv br, iv bnd, uu, uu, uu, uu, uu, uu, uu]) rfl kon) ?_
    show own_Wp _ _ _ _ (T16.setTop (mkF m 100 #[iv p1, iv p2, iv p3, iv p4, iv p5, iv (Int32.ofNat n), rv b1, rv b9, iv br, iv bnd, uu, uu, uu, uu, uu, uu, uu] []))
    obtain ⟨bd, hbd, hbd63⟩ := own_b63 h_bnd
    clear h_bnd
    refine own_of (fun tgt kon => XS.iload X16.here hx rfl (hb hby at_100) rfl kon) ?_
    refine own_of (fun tgt kon => XS.bipush X16.here hx rfl (hb hby at_102) kon) ?_
    refine own_of (fun tgt kon => XS.iand X16.here hx rfl (hb hby at_104) rfl kon) ?_
    show own_Wp _ _ _ _ (T16.setTop (mkF m 105 #[iv p1, iv p2, iv p3, iv p4, iv p5, iv (Int32.ofNat n), rv b1, rv b9, iv br, iv bnd, uu, uu, uu, uu, uu, uu, uu] [(.int (p5 &&& (63 : Int32)))]))
    obtain ⟨hbv, h_hbv⟩ : ∃ q : Int32, q = (p5 &&& (63 : Int32)) := ⟨_, rfl⟩
    rw [← h_hbv]
    refine own_of (fun tgt kon => XS.istore X16.here hx rfl (hb hby at_105) rfl (l' := #[iv p1, iv p2, iv p3, iv p4, iv p5, iv (Int32.ofNat n), rv b1, rv b9, iv br, iv bnd, iv hbv, uu, uu, uu, uu, uu, uu]) rfl kon) ?_
    show own_Wp _ _ _ _ (T16.setTop (mkF m 107 #[iv p1, iv p2, iv p3, iv p4, iv p5, iv (Int32.ofNat n), rv b1, rv b9, iv br, iv bnd, iv hbv, uu, uu, uu, uu, uu, uu] []))
    obtain ⟨ph, hhb, hhb63⟩ := own_b63 h_hbv
    clear h_hbv
    refine own_of (fun tgt kon => XS.iloadN X16.here hx rfl (hb hby at_107) rfl kon) ?_
    refine own_of (fun tgt kon => XS.sipush X16.here hx rfl (hb hby at_108) kon) ?_
    refine own_of (fun tgt kon => XS.iand X16.here hx rfl (hb hby at_111) rfl kon) ?_
    refine own_of (fun tgt kon => XS.iload X16.here hx rfl (hb hby at_112) rfl kon) ?_
    refine own_of (fun tgt kon => XS.iconst X16.here hx rfl (hb hby at_114) kon) ?_
    show own_Wp _ _ _ _ (T16.setTop (mkF m 115 #[iv p1, iv p2, iv p3, iv p4, iv p5, iv (Int32.ofNat n), rv b1, rv b9, iv br, iv bnd, iv hbv, uu, uu, uu, uu, uu, uu] [(.int (2 : Int32)), (.int (Int32.ofNat n)), (.int (p4 &&& (255 : Int32)))]))
    refine own_of (fun tgt kon => XS.iadd X16.here hx rfl (hb hby at_115) rfl kon) ?_
    refine own_of (fun tgt kon => iremM X16 hx rfl (hb hby at_116) rfl (own_n2 hn) kon) ?_
    refine own_of (fun tgt kon => XS.iconst X16.here hx rfl (hb hby at_117) kon) ?_
    refine own_of (fun tgt kon => XS.isub X16.here hx rfl (hb hby at_118) rfl kon) ?_
    show own_Wp _ _ _ _ (T16.setTop (mkF m 119 #[iv p1, iv p2, iv p3, iv p4, iv p5, iv (Int32.ofNat n), rv b1, rv b9, iv br, iv bnd, iv hbv, uu, uu, uu, uu, uu, uu] [(.int (((p4 &&& (255 : Int32)) % ((Int32.ofNat n) + (2 : Int32))) - (1 : Int32)))]))
    obtain ⟨hd, h_hd⟩ : ∃ q : Int32, q = (((p4 &&& (255 : Int32)) % ((Int32.ofNat n) + (2 : Int32))) - (1 : Int32)) := ⟨_, rfl⟩
    rw [← h_hd]
    refine own_of (fun tgt kon => XS.istore X16.here hx rfl (hb hby at_119) rfl (l' := #[iv p1, iv p2, iv p3, iv p4, iv p5, iv (Int32.ofNat n), rv b1, rv b9, iv br, iv bnd, iv hbv, iv hd, uu, uu, uu, uu, uu]) rfl kon) ?_
    show own_Wp _ _ _ _ (T16.setTop (mkF m 121 #[iv p1, iv p2, iv p3, iv p4, iv p5, iv (Int32.ofNat n), rv b1, rv b9, iv br, iv bnd, iv hbv, iv hd, uu, uu, uu, uu, uu] []))
    have hhd := own_head hn h_hd
    clear h_hd
    have J169 : ∀ (T17 : State) (lc17 : List Loc) (h17 : Heap) (txo : Addr), (Stand p l e room_1 s m #[(.int p1), (.int p2), (.int p3), (.int p4), (.int p5)] below meth c T17 lc17 3 11) → (T17.heap = h17) → (Fr n0 lc17) → (n0 ≤ h17.size) → (own_Ar Z h17 b1 .int 4 (fun k => .int ((own_tq (own_chr c1) (own_chr c2) (own_chr c3)) k))) → (own_Ar Z h17 b9 .int 4 (fun k => .int ((own_tq (own_chr e1) (own_chr e2) (own_chr e3)) k))) → (own_Ar Z h17 txo .int n (fun k => .int ((own_tx3 (own_chr c1) (own_chr c2) (own_chr c3)) k))) → own_Wp p.tables e below (own_K room_1 s below (Q_rm0 Z p1 p2 p3 p4 p5 h0 n0)) (T17.setTop (mkF m 169 #[iv p1, iv p2, iv p3, iv p4, iv p5, iv (Int32.ofNat n), rv b1, rv b9, iv br, iv bnd, iv hbv, iv hd, rv txo, uu, uu, uu, uu] [])) := by
      clear V_b1 V_b9 Zs
      intro T17 lc17 h17 txo X17 e17 N17 Zs V_b1 V_b9 V_txo
      have hlv : (bnd + (1 : Int32)).toInt = ((bd + 1 : Nat) : Int) := by have q := own_addI hbd (show (1 : Int32).toInt = 1 from by decide) (by omega) (by omega); omega
      obtain ⟨CP, CO, RF, hcp0, hco0, hR, hok, hcp, hco, htab⟩ := own_tbn hn c1 c2 c3
      refine own_of (fun tgt kon => XS.iconst X17.here hx rfl (hb hby at_169) kon) ?_
      refine own_of (fun tgt kon => XS.iload X17.here hx rfl (hb hby at_170) rfl kon) ?_
      refine own_of (fun tgt kon => XS.iload X17.here hx rfl (hb hby at_172) rfl kon) ?_
      refine own_of (fun tgt kon => XS.iadd X17.here hx rfl (hb hby at_174) rfl kon) ?_
      refine own_callS X17 hx hZ (y := (⟨"java/lang/Math", "min", "(II)I"⟩ : MethodName)) (argsL := [(.int (3 : Int32)), (.int ((Int32.ofNat n) + bnd))]) (rest := []) (W := 0) hown (ow hw 5 rfl) (ow hw 6 rfl) (ow hw 7 rfl) (ow hw 8 rfl) (by decide) e17 (rmmin l Z a0 hw [] (3 : Int32) ((Int32.ofNat n) + bnd) h17 n0 Zs) (by decide) (by decide) (by decide) (by decide) rfl (by rw [hml]; rfl) (lenOf own_pd3 rfl) rfl (by show 2 * 0 + _ ≤ _; exact Nat.le_of_eq rfl) (hb hby at_175) ?_
      rintro T18 L18 _ X18 ⟨rfl, N18q, e18⟩
      have N18 := Fr.app N17 N18q
      show own_Wp _ _ _ _ (T18.setTop (mkF m 178 #[iv p1, iv p2, iv p3, iv p4, iv p5, iv (Int32.ofNat n), rv b1, rv b9, iv br, iv bnd, iv hbv, iv hd, rv txo, uu, uu, uu, uu] [(.int (own_mni (3 : Int32) ((Int32.ofNat n) + bnd)))]))
      obtain ⟨dpv, h_dpv⟩ : ∃ q : Int32, q = (own_mni (3 : Int32) ((Int32.ofNat n) + bnd)) := ⟨_, rfl⟩
      rw [← h_dpv]
      refine own_of (fun tgt kon => XS.istore X18.here hx rfl (hb hby at_178) rfl (l' := #[iv p1, iv p2, iv p3, iv p4, iv p5, iv (Int32.ofNat n), rv b1, rv b9, iv br, iv bnd, iv hbv, iv hd, rv txo, iv dpv, uu, uu, uu]) rfl kon) ?_
      show own_Wp _ _ _ _ (T18.setTop (mkF m 180 #[iv p1, iv p2, iv p3, iv p4, iv p5, iv (Int32.ofNat n), rv b1, rv b9, iv br, iv bnd, iv hbv, iv hd, rv txo, iv dpv, uu, uu, uu] []))
      have hdp : dpv.toInt = ((min 3 (n + bd) : Nat) : Int) := by rw [h_dpv]; exact own_dpv hn hbd hbd63
      clear h_dpv
      obtain ⟨dp, hdpm⟩ : ∃ z, z = min 3 (n + bd) := ⟨_, rfl⟩
      rw [← hdpm] at hdp
      have hdp3 : dp ≤ 3 := by omega
      obtain ⟨T19, h19, X19, e19, E19, A19, D19, -, st19⟩ := newO X18 hx hZ hown (ow hw 9 rfl) (ow hw 10 rfl) (ow hw 11 rfl) e18 (g := (mkF m 180 #[iv p1, iv p2, iv p3, iv p4, iv p5, iv (Int32.ofNat n), rv b1, rv b9, iv br, iv bnd, iv hbv, iv hd, rv txo, iv dpv, uu, uu, uu] [])) rfl (hb hby at_180) (by decide) (by decide)
      refine own_of st19 ?_
      clear st19
      obtain ⟨b19, gq19⟩ : ∃ z, z = h17.size := ⟨_, rfl⟩
      rw [← gq19] at A19 D19 ⊢
      have ne_b1_b19 : b1 ≠ b19 := Nat.ne_of_lt (Nat.lt_of_lt_of_le V_b1.lt (Nat.le_of_eq gq19.symm))
      have ne_b9_b19 : b9 ≠ b19 := Nat.ne_of_lt (Nat.lt_of_lt_of_le V_b9.lt (Nat.le_of_eq gq19.symm))
      have ne_txo_b19 : txo ≠ b19 := Nat.ne_of_lt (Nat.lt_of_lt_of_le V_txo.lt (Nat.le_of_eq gq19.symm))
      have g_b19 : n0 ≤ b19 := Nat.le_trans Zs (Nat.le_of_eq gq19.symm)
      replace Zs := Nat.le_trans Zs E19.1
      replace V_b1 := V_b1.ext E19
      replace V_b9 := V_b9.ext E19
      replace V_txo := V_txo.ext E19
      have E_b19 := A19
      have F_bound_b19 : Fld Z h19 b19 "com/example/close_words/closewords/BitRows" "bound" "I" (.int (0 : Int32)) := D19 (Or.inr (ow hw 19 rfl)) (ty := .int) (by decide)
      have F_headBound_b19 : Fld Z h19 b19 "com/example/close_words/closewords/BitRows" "headBound" "I" (.int (0 : Int32)) := D19 (Or.inr (ow hw 21 rfl)) (ty := .int) (by decide)
      have F_levels_b19 : Fld Z h19 b19 "com/example/close_words/closewords/BitRows" "levels" "I" (.int (0 : Int32)) := D19 (Or.inr (ow hw 23 rfl)) (ty := .int) (by decide)
      have F_columns_b19 : Fld Z h19 b19 "com/example/close_words/closewords/BitRows" "columns" "J" (.long (0 : Int64)) := D19 (Or.inr (ow hw 28 rfl)) (ty := .long) (by decide)
      have F_lastColumn_b19 : Fld Z h19 b19 "com/example/close_words/closewords/BitRows" "lastColumn" "J" (.long (0 : Int64)) := D19 (Or.inr (ow hw 30 rfl)) (ty := .long) (by decide)
      have F_outsideHead_b19 : Fld Z h19 b19 "com/example/close_words/closewords/BitRows" "outsideHead" "J" (.long (0 : Int64)) := D19 (Or.inr (ow hw 33 rfl)) (ty := .long) (by decide)
      have F_codePoints_b19 : Fld Z h19 b19 "com/example/close_words/closewords/BitRows" "codePoints" "[I" .null := D19 (Or.inr (ow hw 35 rfl)) (ty := (.array .int)) (by decide)
      have F_columnsOf_b19 : Fld Z h19 b19 "com/example/close_words/closewords/BitRows" "columnsOf" "[J" .null := D19 (Or.inr (ow hw 38 rfl)) (ty := (.array .long)) (by decide)
      have F_rows_b19 : Fld Z h19 b19 "com/example/close_words/closewords/BitRows" "rows" "[J" .null := D19 (Or.inr (ow hw 40 rfl)) (ty := (.array .long)) (by decide)
      have F_matches_b19 : Fld Z h19 b19 "com/example/close_words/closewords/BitRows" "matches" "[J" .null := D19 (Or.inr (ow hw 42 rfl)) (ty := (.array .long)) (by decide)
      refine own_of (fun tgt kon => XS.dup X19.here hx rfl (hb hby at_183) rfl rfl kon) ?_
      refine own_of (fun tgt kon => XS.aload X19.here hx rfl (hb hby at_184) rfl rfl kon) ?_
      refine own_of (fun tgt kon => XS.iload X19.here hx rfl (hb hby at_186) rfl kon) ?_
      refine own_of (fun tgt kon => XS.iload X19.here hx rfl (hb hby at_188) rfl kon) ?_
      show own_Wp _ _ _ _ (T19.setTop (mkF m 190 #[iv p1, iv p2, iv p3, iv p4, iv p5, iv (Int32.ofNat n), rv b1, rv b9, iv br, iv bnd, iv hbv, iv hd, rv txo, iv dpv, uu, uu, uu] [(.int hd), (.int bnd), (.ref txo), (.ref b19), (.ref b19)]))
      refine own_of (fun tgt kon => XS.iload X19.here hx rfl (hb hby at_190) rfl kon) ?_
      refine own_of (fun tgt kon => XS.iload X19.here hx rfl (hb hby at_192) rfl kon) ?_
      refine own_callI X19 hx hZ (y := (⟨"com/example/close_words/closewords/BitRows", "<init>", "([IIIII)V"⟩ : MethodName)) (a := b19) (argsL := [(.ref txo), (.int bnd), (.int hd), (.int hbv), (.int dpv)]) (rest := [(.ref b19)]) (W := 1) rfl hown (ow hw 12 rfl) (ow hw 13 rfl) (ow hw 11 rfl) (ow hw 14 rfl) (by decide) e19 (rmctn l Z a0 hw [] b19 txo bnd hd hbv dpv (own_tx3 (own_chr c1) (own_chr c2) (own_chr c3)) n bd ph dp ((dp + 1) * (bd + 1)) CP CO RF h19 n0 Zs E_b19 _ _ _ _ _ _ _ _ _ _ F_bound_b19 F_headBound_b19 F_levels_b19 F_columns_b19 F_lastColumn_b19 F_outsideHead_b19 F_codePoints_b19 F_columnsOf_b19 F_rows_b19 F_matches_b19 V_txo (Ne.symm ne_txo_b19) g_b19 hn hbd hbd63 hhb hhb63 hdp hdp3 rfl hcp0 hco0 hR hok hcp hco) (by decide) (by decide) (by decide) (by decide) rfl (by rw [hml]; rfl) (lenOf own_pd6 rfl) rfl (by show 2 * 0 + _ ≤ _; exact Nat.le_of_eq rfl) (hb hby at_194) ?_
      rintro T20 L20 _ X20 ⟨rfl, N20q, Kq20, Eq20, ac, ao, ar, am, g_ac, g_ao, g_ar, g_am, ne_b19_ar, ne_b19_am, ne_ac_ar, ne_ac_am, ne_ao_ar, ne_ao_am, ne_am_ar, F_bound_q, F_headBound_q, F_levels_q, F_columns_q, F_lastColumn_q, F_outsideHead_q, F_codePoints_q, F_columnsOf_q, F_rows_q, F_matches_q, V_ac, V_ao, V_ar, V_am⟩
      have N20 := Fr.app N18 N20q
      show own_Wp _ _ _ _ (T20.setTop (mkF m 197 #[iv p1, iv p2, iv p3, iv p4, iv p5, iv (Int32.ofNat n), rv b1, rv b9, iv br, iv bnd, iv hbv, iv hd, rv txo, iv dpv, uu, uu, uu] [(.ref b19)]))
      replace Zs := Nat.le_trans Zs Kq20.1
      replace V_b1 := V_b1.keep Kq20 (ninS ne_b1_b19 nin0)
      replace V_b9 := V_b9.keep Kq20 (ninS ne_b9_b19 nin0)
      replace V_txo := V_txo.keep Kq20 (ninS ne_txo_b19 nin0)
      replace E_b19 := E_b19.keep Kq20
      have E_xo := Eq20
      obtain ⟨out, hout⟩ : ∃ z, z = (if hd < (0 : Int32) then (-1 : Int64) else (own_upTo hd ^^^ (-1 : Int64))) := ⟨_, rfl⟩
      rw [← hout] at F_outsideHead_q V_ar
      obtain ⟨rf0, hrf0⟩ : ∃ z, z = own_r0k n ph out (bd + 1) := ⟨_, rfl⟩
      replace V_ar := V_ar.fn (f' := fun y => .long (rf0 y)) (fun y hy => by rw [hrf0])
      have F_bound_xo := F_bound_q
      have F_headBound_xo := F_headBound_q
      have F_levels_xo := F_levels_q
      have F_columns_xo := F_columns_q
      have F_lastColumn_xo := F_lastColumn_q
      have F_outsideHead_xo := F_outsideHead_q
      have F_codePoints_xo := F_codePoints_q
      have F_columnsOf_xo := F_columnsOf_q
      have F_rows_xo := F_rows_q
      have F_matches_xo := F_matches_q
      obtain ⟨cpF, hcpF⟩ : ∃ z, z = CP n := ⟨_, rfl⟩
      obtain ⟨coF, hcoF⟩ : ∃ z, z = CO n := ⟨_, rfl⟩
      rw [← hcpF] at V_ac htab
      rw [← hcoF] at V_ao htab
      clear hcpF hcoF hcp0 hco0 hR hok hcp hco
      have ho : ∀ j, j ≤ n → (own_Bt out j ↔ hd.toInt < (j : Int)) := fun j hj => by rw [hout]; exact own_outB hn hhd.1 hhd.2 j hj
      have ne_b1_ar : b1 ≠ ar := own_tyNe V_b1 V_ar (by intro q; cases q)
      have ne_b1_am : b1 ≠ am := own_tyNe V_b1 V_am (by intro q; cases q)
      have ne_b9_ar : b9 ≠ ar := own_tyNe V_b9 V_ar (by intro q; cases q)
      have ne_b9_am : b9 ≠ am := own_tyNe V_b9 V_am (by intro q; cases q)
      refine own_of (fun tgt kon => XS.astore X20.here hx rfl (hb hby at_197) rfl rfl (l' := #[iv p1, iv p2, iv p3, iv p4, iv p5, iv (Int32.ofNat n), rv b1, rv b9, iv br, iv bnd, iv hbv, iv hd, rv txo, iv dpv, rv b19, uu, uu]) rfl kon) ?_
      refine own_of (fun tgt kon => XS.iconst X20.here hx rfl (hb hby at_199) kon) ?_
      refine own_of (fun tgt kon => XS.iconst X20.here hx rfl (hb hby at_200) kon) ?_
      obtain ⟨T21, h21, dA, r0, r1, r2, r3, X21, e21, E21, gq0, gq1, gq2, gq3, gq4, V_dA, V_r0, V_r1, V_r2, V_r3, st21⟩ := own_grid X20 hx hZ hown (ow hw 48 rfl) (ow hw 49 rfl) (ow hw 0 rfl) rfl (g := (mkF m 201 #[iv p1, iv p2, iv p3, iv p4, iv p5, iv (Int32.ofNat n), rv b1, rv b9, iv br, iv bnd, iv hbv, iv hd, rv txo, iv dpv, rv b19, uu, uu] [(.int (4 : Int32)), (.int (4 : Int32))])) rfl (hb hby at_201) rfl (by decide) (by decide)
      refine own_of st21 ?_
      clear st21
      have ne_b1_dA : b1 ≠ dA := own_freshNe (k := 0) V_b1.lt gq0
      have ne_b1_r0 : b1 ≠ r0 := own_freshNe V_b1.lt gq1
      have ne_b1_r1 : b1 ≠ r1 := own_freshNe V_b1.lt gq2
      have ne_b1_r2 : b1 ≠ r2 := own_freshNe V_b1.lt gq3
      have ne_b1_r3 : b1 ≠ r3 := own_freshNe V_b1.lt gq4
      have ne_b9_dA : b9 ≠ dA := own_freshNe (k := 0) V_b9.lt gq0
      have ne_b9_r0 : b9 ≠ r0 := own_freshNe V_b9.lt gq1
      have ne_b9_r1 : b9 ≠ r1 := own_freshNe V_b9.lt gq2
      have ne_b9_r2 : b9 ≠ r2 := own_freshNe V_b9.lt gq3
      have ne_b9_r3 : b9 ≠ r3 := own_freshNe V_b9.lt gq4
      have ne_b19_dA : b19 ≠ dA := own_freshNe (k := 0) E_xo.lt gq0
      have ne_b19_r0 : b19 ≠ r0 := own_freshNe E_xo.lt gq1
      have ne_b19_r1 : b19 ≠ r1 := own_freshNe E_xo.lt gq2
      have ne_b19_r2 : b19 ≠ r2 := own_freshNe E_xo.lt gq3
      have ne_b19_r3 : b19 ≠ r3 := own_freshNe E_xo.lt gq4
      have ne_ac_dA : ac ≠ dA := own_freshNe (k := 0) V_ac.lt gq0
      have ne_ac_r0 : ac ≠ r0 := own_freshNe V_ac.lt gq1
      have ne_ac_r1 : ac ≠ r1 := own_freshNe V_ac.lt gq2
      have ne_ac_r2 : ac ≠ r2 := own_freshNe V_ac.lt gq3
      have ne_ac_r3 : ac ≠ r3 := own_freshNe V_ac.lt gq4
      have ne_ao_dA : ao ≠ dA := own_freshNe (k := 0) V_ao.lt gq0
      have ne_ao_r0 : ao ≠ r0 := own_freshNe V_ao.lt gq1
      have ne_ao_r1 : ao ≠ r1 := own_freshNe V_ao.lt gq2
      have ne_ao_r2 : ao ≠ r2 := own_freshNe V_ao.lt gq3
      have ne_ao_r3 : ao ≠ r3 := own_freshNe V_ao.lt gq4
      have ne_ar_dA : ar ≠ dA := own_freshNe (k := 0) V_ar.lt gq0
      have ne_ar_r0 : ar ≠ r0 := own_freshNe V_ar.lt gq1
      have ne_ar_r1 : ar ≠ r1 := own_freshNe V_ar.lt gq2
      have ne_ar_r2 : ar ≠ r2 := own_freshNe V_ar.lt gq3
      have ne_ar_r3 : ar ≠ r3 := own_freshNe V_ar.lt gq4
      have ne_am_dA : am ≠ dA := own_freshNe (k := 0) V_am.lt gq0
      have ne_am_r0 : am ≠ r0 := own_freshNe V_am.lt gq1
      have ne_am_r1 : am ≠ r1 := own_freshNe V_am.lt gq2
      have ne_am_r2 : am ≠ r2 := own_freshNe V_am.lt gq3
      have ne_am_r3 : am ≠ r3 := own_freshNe V_am.lt gq4
      have ne_dA_r0 : dA ≠ r0 := own_apart (i := 0) (j := 1) gq0 gq1 (by decide)
      have g_r0 := own_geN Zs gq1
      have ne_dA_r1 : dA ≠ r1 := own_apart (i := 0) (j := 2) gq0 gq2 (by decide)
      have ne_r0_r1 : r0 ≠ r1 := own_apart (i := 1) (j := 2) gq1 gq2 (by decide)
      have g_r1 := own_geN Zs gq2
      have ne_dA_r2 : dA ≠ r2 := own_apart (i := 0) (j := 3) gq0 gq3 (by decide)
      have ne_r0_r2 : r0 ≠ r2 := own_apart (i := 1) (j := 3) gq1 gq3 (by decide)
      have ne_r1_r2 : r1 ≠ r2 := own_apart (i := 2) (j := 3) gq2 gq3 (by decide)
      have g_r2 := own_geN Zs gq3
      have ne_dA_r3 : dA ≠ r3 := own_apart (i := 0) (j := 4) gq0 gq4 (by decide)
      have ne_r0_r3 : r0 ≠ r3 := own_apart (i := 1) (j := 4) gq1 gq4 (by decide)
      have ne_r1_r3 : r1 ≠ r3 := own_apart (i := 2) (j := 4) gq2 gq4 (by decide)
      have ne_r2_r3 : r2 ≠ r3 := own_apart (i := 3) (j := 4) gq3 gq4 (by decide)
      have g_r3 := own_geN Zs gq4
      clear gq0 gq1 gq2 gq3 gq4
      replace Zs := Nat.le_trans Zs E21.1
      replace V_b1 := V_b1.ext E21
      replace V_b9 := V_b9.ext E21
      replace E_xo := E_xo.ext E21
      replace F_bound_xo := F_bound_xo.ext E21
      replace F_headBound_xo := F_headBound_xo.ext E21
      replace F_levels_xo := F_levels_xo.ext E21
      replace F_columns_xo := F_columns_xo.ext E21
      replace F_lastColumn_xo := F_lastColumn_xo.ext E21
      replace F_outsideHead_xo := F_outsideHead_xo.ext E21
      replace F_codePoints_xo := F_codePoints_xo.ext E21
      replace F_columnsOf_xo := F_columnsOf_xo.ext E21
      replace F_rows_xo := F_rows_xo.ext E21
      replace F_matches_xo := F_matches_xo.ext E21
      replace V_ac := V_ac.ext E21
      replace V_ao := V_ao.ext E21
      replace V_ar := V_ar.ext E21
      replace V_am := V_am.ext E21
      show own_Wp _ _ _ _ (T21.setTop (mkF m 205 #[iv p1, iv p2, iv p3, iv p4, iv p5, iv (Int32.ofNat n), rv b1, rv b9, iv br, iv bnd, iv hbv, iv hd, rv txo, iv dpv, rv b19, uu, uu] [(.ref dA)]))
      refine own_of (fun tgt kon => XS.astore X21.here hx rfl (hb hby at_205) rfl rfl (l' := #[iv p1, iv p2, iv p3, iv p4, iv p5, iv (Int32.ofNat n), rv b1, rv b9, iv br, iv bnd, iv hbv, iv hd, rv txo, iv dpv, rv b19, rv dA, uu]) rfl kon) ?_
      refine own_of (fun tgt kon => XS.aload X21.here hx rfl (hb hby at_207) rfl rfl kon) ?_
      refine own_of (fun tgt kon => XS.iconst X21.here hx rfl (hb hby at_209) kon) ?_
      refine own_aaloadA X21 hx hZ e21 V_dA (j := (0 : Int32)) (i := 0) (v := (.ref r0)) (by decide) (by decide) rfl rfl rfl (hb hby at_210) ?_
      refine own_of (fun tgt kon => XS.iconst X21.here hx rfl (hb hby at_211) kon) ?_
      show own_Wp _ _ _ _ (T21.setTop (mkF m 212 #[iv p1, iv p2, iv p3, iv p4, iv p5, iv (Int32.ofNat n), rv b1, rv b9, iv br, iv bnd, iv hbv, iv hd, rv txo, iv dpv, rv b19, rv dA, uu] [(.int (0 : Int32)), (.ref r0)]))
      refine own_of (fun tgt kon => XS.iconst X21.here hx rfl (hb hby at_212) kon) ?_
      refine own_of (fun tgt kon => XS.iconst X21.here hx rfl (hb hby at_213) kon) ?_
      refine own_of (fun tgt kon => XS.iload X21.here hx rfl (hb hby at_214) rfl kon) ?_
      refine own_of (fun tgt kon => XS.iload X21.here hx rfl (hb hby at_216) rfl kon) ?_
      refine own_callS X21 hx hZ (y := (⟨"com/example/close_words/closewords/BitRowsFillPinLaw", "cap", "(IIII)I"⟩ : MethodName)) (argsL := [(.int (0 : Int32)), (.int (0 : Int32)), (.int hd), (.int hbv)]) (rest := [(.int (0 : Int32)), (.ref r0)]) (W := 2) hown (ow hw 50 rfl) (ow hw 51 rfl) (ow hw 3 rfl) (ow hw 52 rfl) (by decide) e21 (rmcap l Z a0 hw [] (0 : Int32) (0 : Int32) hd hbv h21 n0 Zs) (by decide) (by decide) (by decide) (by decide) rfl (by rw [hml]; rfl) (lenOf own_pd4 rfl) rfl (by show 2 * 0 + _ ≤ _; exact Nat.le_of_eq rfl) (hb hby at_218) ?_
      rintro T22 L22 _ X22 ⟨rfl, N22q, e22⟩
      have N22 := Fr.app N20 N22q
      show own_Wp _ _ _ _ (T22.setTop (mkF m 221 #[iv p1, iv p2, iv p3, iv p4, iv p5, iv (Int32.ofNat n), rv b1, rv b9, iv br, iv bnd, iv hbv, iv hd, rv txo, iv dpv, rv b19, rv dA, uu] [(.int (own_capI (0 : Int32) (0 : Int32) hd hbv)), (.int (0 : Int32)), (.ref r0)]))
      obtain ⟨c00, h_c00⟩ : ∃ q : Int32, q = (own_capI (0 : Int32) (0 : Int32) hd hbv) := ⟨_, rfl⟩
      rw [← h_c00]
      obtain ⟨T23, h23, X23, e23, W23, Aq23, st23⟩ := own_stI X22 hx hZ e22 V_r0 (j := (0 : Int32)) (i := 0) (x := c00) (by decide) (by decide) (g := (mkF m 221 #[iv p1, iv p2, iv p3, iv p4, iv p5, iv (Int32.ofNat n), rv b1, rv b9, iv br, iv bnd, iv hbv, iv hd, rv txo, iv dpv, rv b19, rv dA, uu] [(.int c00), (.int (0 : Int32)), (.ref r0)])) rfl rfl (hb hby at_221)
      refine own_of st23 ?_
      clear st23
      replace Zs := Nat.le_trans Zs (Keep.of_wr W23).1
      replace V_b1 := V_b1.other W23 ne_b1_r0
      replace V_b9 := V_b9.other W23 ne_b9_r0
      replace E_xo := E_xo.wr W23
      replace F_bound_xo := F_bound_xo.other W23 (Or.inl ne_b19_r0)
      replace F_headBound_xo := F_headBound_xo.other W23 (Or.inl ne_b19_r0)
      replace F_levels_xo := F_levels_xo.other W23 (Or.inl ne_b19_r0)
      replace F_columns_xo := F_columns_xo.other W23 (Or.inl ne_b19_r0)
      replace F_lastColumn_xo := F_lastColumn_xo.other W23 (Or.inl ne_b19_r0)
      replace F_outsideHead_xo := F_outsideHead_xo.other W23 (Or.inl ne_b19_r0)
      replace F_codePoints_xo := F_codePoints_xo.other W23 (Or.inl ne_b19_r0)
      replace F_columnsOf_xo := F_columnsOf_xo.other W23 (Or.inl ne_b19_r0)
      replace F_rows_xo := F_rows_xo.other W23 (Or.inl ne_b19_r0)
      replace F_matches_xo := F_matches_xo.other W23 (Or.inl ne_b19_r0)
      replace V_ac := V_ac.other W23 ne_ac_r0
      replace V_ao := V_ao.other W23 ne_ao_r0
      replace V_ar := V_ar.other W23 ne_ar_r0
      replace V_am := V_am.other W23 ne_am_r0
      replace V_dA := V_dA.other W23 ne_dA_r0
      replace V_r1 := V_r1.other W23 (Ne.symm ne_r0_r1)
      replace V_r2 := V_r2.other W23 (Ne.symm ne_r0_r2)
      replace V_r3 := V_r3.other W23 (Ne.symm ne_r0_r3)
      replace V_r0 := Aq23
      clear Aq23
      replace V_r0 := V_r0.fn (f' := fun k => .int ((own_upd (fun _ => (0 : Int32)) 0 c00) k)) (fun k hk => own_setI _ _ _ k)
      have N23 := Fr.snoc X23 N22 g_r0
      refine own_of (fun tgt kon => XS.aload X23.here hx rfl (hb hby at_222) rfl rfl kon) ?_
      refine own_of (fun tgt kon => XS.iconst X23.here hx rfl (hb hby at_224) kon) ?_
      refine own_aaloadA X23 hx hZ e23 V_dA (j := (0 : Int32)) (i := 0) (v := (.ref r0)) (by decide) (by decide) rfl rfl rfl (hb hby at_225) ?_
      refine own_of (fun tgt kon => XS.iconst X23.here hx rfl (hb hby at_226) kon) ?_
      show own_Wp _ _ _ _ (T23.setTop (mkF m 227 #[iv p1, iv p2, iv p3, iv p4, iv p5, iv (Int32.ofNat n), rv b1, rv b9, iv br, iv bnd, iv hbv, iv hd, rv txo, iv dpv, rv b19, rv dA, uu] [(.int (1 : Int32)), (.ref r0)]))
      refine own_of (fun tgt kon => XS.iconst X23.here hx rfl (hb hby at_227) kon) ?_
      refine own_of (fun tgt kon => XS.iconst X23.here hx rfl (hb hby at_228) kon) ?_
      refine own_of (fun tgt kon => XS.iload X23.here hx rfl (hb hby at_229) rfl kon) ?_
      refine own_of (fun tgt kon => XS.iload X23.here hx rfl (hb hby at_231) rfl kon) ?_
      refine own_callS X23 hx hZ (y := (⟨"com/example/close_words/closewords/BitRowsFillPinLaw", "cap", "(IIII)I"⟩ : MethodName)) (argsL := [(.int (1 : Int32)), (.int (1 : Int32)), (.int hd), (.int hbv)]) (rest := [(.int (1 : Int32)), (.ref r0)]) (W := 2) hown (ow hw 50 rfl) (ow hw 51 rfl) (ow hw 3 rfl) (ow hw 52 rfl) (by decide) e23 (rmcap l Z a0 hw [] (1 : Int32) (1 : Int32) hd hbv h23 n0 Zs) (by decide) (by decide) (by decide) (by decide) rfl (by rw [hml]; rfl) (lenOf own_pd4 rfl) rfl (by show 2 * 0 + _ ≤ _; exact Nat.le_of_eq rfl) (hb hby at_233) ?_
      rintro T24 L24 _ X24 ⟨rfl, N24q, e24⟩
      have N24 := Fr.app N23 N24q
      show own_Wp _ _ _ _ (T24.setTop (mkF m 236 #[iv p1, iv p2, iv p3, iv p4, iv p5, iv (Int32.ofNat n), rv b1, rv b9, iv br, iv bnd, iv hbv, iv hd, rv txo, iv dpv, rv b19, rv dA, uu] [(.int (own_capI (1 : Int32) (1 : Int32) hd hbv)), (.int (1 : Int32)), (.ref r0)]))
      obtain ⟨c01, h_c01⟩ : ∃ q : Int32, q = (own_capI (1 : Int32) (1 : Int32) hd hbv) := ⟨_, rfl⟩
      rw [← h_c01]
      obtain ⟨T25, h25, X25, e25, W25, Aq25, st25⟩ := own_stI X24 hx hZ e24 V_r0 (j := (1 : Int32)) (i := 1) (x := c01) (by decide) (by decide) (g := (mkF m 236 #[iv p1, iv p2, iv p3, iv p4, iv p5, iv (Int32.ofNat n), rv b1, rv b9, iv br, iv bnd, iv hbv, iv hd, rv txo, iv dpv, rv b19, rv dA, uu] [(.int c01), (.int (1 : Int32)), (.ref r0)])) rfl rfl (hb hby at_236)
      refine own_of st25 ?_
      clear st25
      replace Zs := Nat.le_trans Zs (Keep.of_wr W25).1
      replace V_b1 := V_b1.other W25 ne_b1_r0
      replace V_b9 := V_b9.other W25 ne_b9_r0
      replace E_xo := E_xo.wr W25
      replace F_bound_xo := F_bound_xo.other W25 (Or.inl ne_b19_r0)
      replace F_headBound_xo := F_headBound_xo.other W25 (Or.inl ne_b19_r0)
      replace F_levels_xo := F_levels_xo.other W25 (Or.inl ne_b19_r0)
      replace F_columns_xo := F_columns_xo.other W25 (Or.inl ne_b19_r0)
      replace F_lastColumn_xo := F_lastColumn_xo.other W25 (Or.inl ne_b19_r0)
      replace F_outsideHead_xo := F_outsideHead_xo.other W25 (Or.inl ne_b19_r0)
      replace F_codePoints_xo := F_codePoints_xo.other W25 (Or.inl ne_b19_r0)
      replace F_columnsOf_xo := F_columnsOf_xo.other W25 (Or.inl ne_b19_r0)
      replace F_rows_xo := F_rows_xo.other W25 (Or.inl ne_b19_r0)
      replace F_matches_xo := F_matches_xo.other W25 (Or.inl ne_b19_r0)
      replace V_ac := V_ac.other W25 ne_ac_r0
      replace V_ao := V_ao.other W25 ne_ao_r0
      replace V_ar := V_ar.other W25 ne_ar_r0
      replace V_am := V_am.other W25 ne_am_r0
      replace V_dA := V_dA.other W25 ne_dA_r0
      replace V_r1 := V_r1.other W25 (Ne.symm ne_r0_r1)
      replace V_r2 := V_r2.other W25 (Ne.symm ne_r0_r2)
      replace V_r3 := V_r3.other W25 (Ne.symm ne_r0_r3)
      replace V_r0 := Aq25
      clear Aq25
      replace V_r0 := V_r0.fn (f' := fun k => .int ((own_upd (own_upd (fun _ => (0 : Int32)) 0 c00) 1 c01) k)) (fun k hk => own_setI _ _ _ k)
      have N25 := Fr.snoc X25 N24 g_r0
      refine own_of (fun tgt kon => XS.aload X25.here hx rfl (hb hby at_237) rfl rfl kon) ?_
      refine own_of (fun tgt kon => XS.iconst X25.here hx rfl (hb hby at_239) kon) ?_
      refine own_aaloadA X25 hx hZ e25 V_dA (j := (0 : Int32)) (i := 0) (v := (.ref r0)) (by decide) (by decide) rfl rfl rfl (hb hby at_240) ?_
      refine own_of (fun tgt kon => XS.iconst X25.here hx rfl (hb hby at_241) kon) ?_
      show own_Wp _ _ _ _ (T25.setTop (mkF m 242 #[iv p1, iv p2, iv p3, iv p4, iv p5, iv (Int32.ofNat n), rv b1, rv b9, iv br, iv bnd, iv hbv, iv hd, rv txo, iv dpv, rv b19, rv dA, uu] [(.int (2 : Int32)), (.ref r0)]))
      refine own_of (fun tgt kon => XS.iconst X25.here hx rfl (hb hby at_242) kon) ?_
      refine own_of (fun tgt kon => XS.iconst X25.here hx rfl (hb hby at_243) kon) ?_
      refine own_of (fun tgt kon => XS.iload X25.here hx rfl (hb hby at_244) rfl kon) ?_
      refine own_of (fun tgt kon => XS.iload X25.here hx rfl (hb hby at_246) rfl kon) ?_
      refine own_callS X25 hx hZ (y := (⟨"com/example/close_words/closewords/BitRowsFillPinLaw", "cap", "(IIII)I"⟩ : MethodName)) (argsL := [(.int (2 : Int32)), (.int (2 : Int32)), (.int hd), (.int hbv)]) (rest := [(.int (2 : Int32)), (.ref r0)]) (W := 2) hown (ow hw 50 rfl) (ow hw 51 rfl) (ow hw 3 rfl) (ow hw 52 rfl) (by decide) e25 (rmcap l Z a0 hw [] (2 : Int32) (2 : Int32) hd hbv h25 n0 Zs) (by decide) (by decide) (by decide) (by decide) rfl (by rw [hml]; rfl) (lenOf own_pd4 rfl) rfl (by show 2 * 0 + _ ≤ _; exact Nat.le_of_eq rfl) (hb hby at_248) ?_
      rintro T26 L26 _ X26 ⟨rfl, N26q, e26⟩
      have N26 := Fr.app N25 N26q
      show own_Wp _ _ _ _ (T26.setTop (mkF m 251 #[iv p1, iv p2, iv p3, iv p4, iv p5, iv (Int32.ofNat n), rv b1, rv b9, iv br, iv bnd, iv hbv, iv hd, rv txo, iv dpv, rv b19, rv dA, uu] [(.int (own_capI (2 : Int32) (2 : Int32) hd hbv)), (.int (2 : Int32)), (.ref r0)]))
      obtain ⟨c02, h_c02⟩ : ∃ q : Int32, q = (own_capI (2 : Int32) (2 : Int32) hd hbv) := ⟨_, rfl⟩
      rw [← h_c02]
      obtain ⟨T27, h27, X27, e27, W27, Aq27, st27⟩ := own_stI X26 hx hZ e26 V_r0 (j := (2 : Int32)) (i := 2) (x := c02) (by decide) (by decide) (g := (mkF m 251 #[iv p1, iv p2, iv p3, iv p4, iv p5, iv (Int32.ofNat n), rv b1, rv b9, iv br, iv bnd, iv hbv, iv hd, rv txo, iv dpv, rv b19, rv dA, uu] [(.int c02), (.int (2 : Int32)), (.ref r0)])) rfl rfl (hb hby at_251)
      refine own_of st27 ?_
      clear st27
      replace Zs := Nat.le_trans Zs (Keep.of_wr W27).1
      replace V_b1 := V_b1.other W27 ne_b1_r0
      replace V_b9 := V_b9.other W27 ne_b9_r0
      replace E_xo := E_xo.wr W27
      replace F_bound_xo := F_bound_xo.other W27 (Or.inl ne_b19_r0)
      replace F_headBound_xo := F_headBound_xo.other W27 (Or.inl ne_b19_r0)
      replace F_levels_xo := F_levels_xo.other W27 (Or.inl ne_b19_r0)
      replace F_columns_xo := F_columns_xo.other W27 (Or.inl ne_b19_r0)
      replace F_lastColumn_xo := F_lastColumn_xo.other W27 (Or.inl ne_b19_r0)
      replace F_outsideHead_xo := F_outsideHead_xo.other W27 (Or.inl ne_b19_r0)
      replace F_codePoints_xo := F_codePoints_xo.other W27 (Or.inl ne_b19_r0)
      replace F_columnsOf_xo := F_columnsOf_xo.other W27 (Or.inl ne_b19_r0)
      replace F_rows_xo := F_rows_xo.other W27 (Or.inl ne_b19_r0)
      replace F_matches_xo := F_matches_xo.other W27 (Or.inl ne_b19_r0)
      replace V_ac := V_ac.other W27 ne_ac_r0
      replace V_ao := V_ao.other W27 ne_ao_r0
      replace V_ar := V_ar.other W27 ne_ar_r0
      replace V_am := V_am.other W27 ne_am_r0
      replace V_dA := V_dA.other W27 ne_dA_r0
      replace V_r1 := V_r1.other W27 (Ne.symm ne_r0_r1)
      replace V_r2 := V_r2.other W27 (Ne.symm ne_r0_r2)
      replace V_r3 := V_r3.other W27 (Ne.symm ne_r0_r3)
      replace V_r0 := Aq27
      clear Aq27
      replace V_r0 := V_r0.fn (f' := fun k => .int ((own_upd (own_upd (own_upd (fun _ => (0 : Int32)) 0 c00) 1 c01) 2 c02) k)) (fun k hk => own_setI _ _ _ k)
      have N27 := Fr.snoc X27 N26 g_r0
      refine own_of (fun tgt kon => XS.aload X27.here hx rfl (hb hby at_252) rfl rfl kon) ?_
      refine own_of (fun tgt kon => XS.iconst X27.here hx rfl (hb hby at_254) kon) ?_
      refine own_aaloadA X27 hx hZ e27 V_dA (j := (0 : Int32)) (i := 0) (v := (.ref r0)) (by decide) (by decide) rfl rfl rfl (hb hby at_255) ?_
      refine own_of (fun tgt kon => XS.iconst X27.here hx rfl (hb hby at_256) kon) ?_
      show own_Wp _ _ _ _ (T27.setTop (mkF m 257 #[iv p1, iv p2, iv p3, iv p4, iv p5, iv (Int32.ofNat n), rv b1, rv b9, iv br, iv bnd, iv hbv, iv hd, rv txo, iv dpv, rv b19, rv dA, uu] [(.int (3 : Int32)), (.ref r0)]))
      refine own_of (fun tgt kon => XS.iconst X27.here hx rfl (hb hby at_257) kon) ?_
      refine own_of (fun tgt kon => XS.iconst X27.here hx rfl (hb hby at_258) kon) ?_
      refine own_of (fun tgt kon => XS.iload X27.here hx rfl (hb hby at_259) rfl kon) ?_
      refine own_of (fun tgt kon => XS.iload X27.here hx rfl (hb hby at_261) rfl kon) ?_
      refine own_callS X27 hx hZ (y := (⟨"com/example/close_words/closewords/BitRowsFillPinLaw", "cap", "(IIII)I"⟩ : MethodName)) (argsL := [(.int (3 : Int32)), (.int (3 : Int32)), (.int hd), (.int hbv)]) (rest := [(.int (3 : Int32)), (.ref r0)]) (W := 2) hown (ow hw 50 rfl) (ow hw 51 rfl) (ow hw 3 rfl) (ow hw 52 rfl) (by decide) e27 (rmcap l Z a0 hw [] (3 : Int32) (3 : Int32) hd hbv h27 n0 Zs) (by decide) (by decide) (by decide) (by decide) rfl (by rw [hml]; rfl) (lenOf own_pd4 rfl) rfl (by show 2 * 0 + _ ≤ _; exact Nat.le_of_eq rfl) (hb hby at_263) ?_
      rintro T28 L28 _ X28 ⟨rfl, N28q, e28⟩
      have N28 := Fr.app N27 N28q
      show own_Wp _ _ _ _ (T28.setTop (mkF m 266 #[iv p1, iv p2, iv p3, iv p4, iv p5, iv (Int32.ofNat n), rv b1, rv b9, iv br, iv bnd, iv hbv, iv hd, rv txo, iv dpv, rv b19, rv dA, uu] [(.int (own_capI (3 : Int32) (3 : Int32) hd hbv)), (.int (3 : Int32)), (.ref r0)]))
      obtain ⟨c03, h_c03⟩ : ∃ q : Int32, q = (own_capI (3 : Int32) (3 : Int32) hd hbv) := ⟨_, rfl⟩
      rw [← h_c03]
      obtain ⟨T29, h29, X29, e29, W29, Aq29, st29⟩ := own_stI X28 hx hZ e28 V_r0 (j := (3 : Int32)) (i := 3) (x := c03) (by decide) (by decide) (g := (mkF m 266 #[iv p1, iv p2, iv p3, iv p4, iv p5, iv (Int32.ofNat n), rv b1, rv b9, iv br, iv bnd, iv hbv, iv hd, rv txo, iv dpv, rv b19, rv dA, uu] [(.int c03), (.int (3 : Int32)), (.ref r0)])) rfl rfl (hb hby at_266)
      refine own_of st29 ?_
      clear st29
      replace Zs := Nat.le_trans Zs (Keep.of_wr W29).1
      replace V_b1 := V_b1.other W29 ne_b1_r0
      replace V_b9 := V_b9.other W29 ne_b9_r0
      replace E_xo := E_xo.wr W29
      replace F_bound_xo := F_bound_xo.other W29 (Or.inl ne_b19_r0)
      replace F_headBound_xo := F_headBound_xo.other W29 (Or.inl ne_b19_r0)
      replace F_levels_xo := F_levels_xo.other W29 (Or.inl ne_b19_r0)
      replace F_columns_xo := F_columns_xo.other W29 (Or.inl ne_b19_r0)
      replace F_lastColumn_xo := F_lastColumn_xo.other W29 (Or.inl ne_b19_r0)
      replace F_outsideHead_xo := F_outsideHead_xo.other W29 (Or.inl ne_b19_r0)
      replace F_codePoints_xo := F_codePoints_xo.other W29 (Or.inl ne_b19_r0)
      replace F_columnsOf_xo := F_columnsOf_xo.other W29 (Or.inl ne_b19_r0)
      replace F_rows_xo := F_rows_xo.other W29 (Or.inl ne_b19_r0)
      replace F_matches_xo := F_matches_xo.other W29 (Or.inl ne_b19_r0)
      replace V_ac := V_ac.other W29 ne_ac_r0
      replace V_ao := V_ao.other W29 ne_ao_r0
      replace V_ar := V_ar.other W29 ne_ar_r0
      replace V_am := V_am.other W29 ne_am_r0
      replace V_dA := V_dA.other W29 ne_dA_r0
      replace V_r1 := V_r1.other W29 (Ne.symm ne_r0_r1)
      replace V_r2 := V_r2.other W29 (Ne.symm ne_r0_r2)
      replace V_r3 := V_r3.other W29 (Ne.symm ne_r0_r3)
      replace V_r0 := Aq29
      clear Aq29
      replace V_r0 := V_r0.fn (f' := fun k => .int ((own_upd (own_upd (own_upd (own_upd (fun _ => (0 : Int32)) 0 c00) 1 c01) 2 c02) 3 c03) k)) (fun k hk => own_setI _ _ _ k)
      have N29 := Fr.snoc X29 N28 g_r0
      refine own_of (fun tgt kon => XS.aload X29.here hx rfl (hb hby at_267) rfl rfl kon) ?_
      refine own_of (fun tgt kon => XS.iconst X29.here hx rfl (hb hby at_269) kon) ?_
      refine own_aaloadA X29 hx hZ e29 V_dA (j := (1 : Int32)) (i := 1) (v := (.ref r1)) (by decide) (by decide) rfl rfl rfl (hb hby at_270) ?_
      refine own_of (fun tgt kon => XS.iconst X29.here hx rfl (hb hby at_271) kon) ?_
      show own_Wp _ _ _ _ (T29.setTop (mkF m 272 #[iv p1, iv p2, iv p3, iv p4, iv p5, iv (Int32.ofNat n), rv b1, rv b9, iv br, iv bnd, iv hbv, iv hd, rv txo, iv dpv, rv b19, rv dA, uu] [(.int (0 : Int32)), (.ref r1)]))
      refine own_of (fun tgt kon => XS.iconst X29.here hx rfl (hb hby at_272) kon) ?_
      refine own_of (fun tgt kon => XS.iconst X29.here hx rfl (hb hby at_273) kon) ?_
      refine own_of (fun tgt kon => XS.iload X29.here hx rfl (hb hby at_274) rfl kon) ?_
      refine own_of (fun tgt kon => XS.iload X29.here hx rfl (hb hby at_276) rfl kon) ?_
      refine own_callS X29 hx hZ (y := (⟨"com/example/close_words/closewords/BitRowsFillPinLaw", "cap", "(IIII)I"⟩ : MethodName)) (argsL := [(.int (1 : Int32)), (.int (0 : Int32)), (.int hd), (.int hbv)]) (rest := [(.int (0 : Int32)), (.ref r1)]) (W := 2) hown (ow hw 50 rfl) (ow hw 51 rfl) (ow hw 3 rfl) (ow hw 52 rfl) (by decide) e29 (rmcap l Z a0 hw [] (1 : Int32) (0 : Int32) hd hbv h29 n0 Zs) (by decide) (by decide) (by decide) (by decide) rfl (by rw [hml]; rfl) (lenOf own_pd4 rfl) rfl (by show 2 * 0 + _ ≤ _; exact Nat.le_of_eq rfl) (hb hby at_278) ?_
      rintro T30 L30 _ X30 ⟨rfl, N30q, e30⟩
      have N30 := Fr.app N29 N30q
      show own_Wp _ _ _ _ (T30.setTop (mkF m 281 #[iv p1, iv p2, iv p3, iv p4, iv p5, iv (Int32.ofNat n), rv b1, rv b9, iv br, iv bnd, iv hbv, iv hd, rv txo, iv dpv, rv b19, rv dA, uu] [(.int (own_capI (1 : Int32) (0 : Int32) hd hbv)), (.int (0 : Int32)), (.ref r1)]))
      obtain ⟨c10, h_c10⟩ : ∃ q : Int32, q = (own_capI (1 : Int32) (0 : Int32) hd hbv) := ⟨_, rfl⟩
      rw [← h_c10]
      obtain ⟨T31, h31, X31, e31, W31, Aq31, st31⟩ := own_stI X30 hx hZ e30 V_r1 (j := (0 : Int32)) (i := 0) (x := c10) (by decide) (by decide) (g := (mkF m 281 #[iv p1, iv p2, iv p3, iv p4, iv p5, iv (Int32.ofNat n), rv b1, rv b9, iv br, iv bnd, iv hbv, iv hd, rv txo, iv dpv, rv b19, rv dA, uu] [(.int c10), (.int (0 : Int32)), (.ref r1)])) rfl rfl (hb hby at_281)
      refine own_of st31 ?_
      clear st31
      replace Zs := Nat.le_trans Zs (Keep.of_wr W31).1
      replace V_b1 := V_b1.other W31 ne_b1_r1
      replace V_b9 := V_b9.other W31 ne_b9_r1
      replace E_xo := E_xo.wr W31
      replace F_bound_xo := F_bound_xo.other W31 (Or.inl ne_b19_r1)
      replace F_headBound_xo := F_headBound_xo.other W31 (Or.inl ne_b19_r1)
      replace F_levels_xo := F_levels_xo.other W31 (Or.inl ne_b19_r1)
      replace F_columns_xo := F_columns_xo.other W31 (Or.inl ne_b19_r1)
      replace F_lastColumn_xo := F_lastColumn_xo.other W31 (Or.inl ne_b19_r1)
      replace F_outsideHead_xo := F_outsideHead_xo.other W31 (Or.inl ne_b19_r1)
      replace F_codePoints_xo := F_codePoints_xo.other W31 (Or.inl ne_b19_r1)
      replace F_columnsOf_xo := F_columnsOf_xo.other W31 (Or.inl ne_b19_r1)
      replace F_rows_xo := F_rows_xo.other W31 (Or.inl ne_b19_r1)
      replace F_matches_xo := F_matches_xo.other W31 (Or.inl ne_b19_r1)
      replace V_ac := V_ac.other W31 ne_ac_r1
      replace V_ao := V_ao.other W31 ne_ao_r1
      replace V_ar := V_ar.other W31 ne_ar_r1
      replace V_am := V_am.other W31 ne_am_r1
      replace V_dA := V_dA.other W31 ne_dA_r1
      replace V_r0 := V_r0.other W31 ne_r0_r1
      replace V_r2 := V_r2.other W31 (Ne.symm ne_r1_r2)
      replace V_r3 := V_r3.other W31 (Ne.symm ne_r1_r3)
      replace V_r1 := Aq31
      clear Aq31
      replace V_r1 := V_r1.fn (f' := fun k => .int ((own_upd (fun _ => (0 : Int32)) 0 c10) k)) (fun k hk => own_setI _ _ _ k)
      have N31 := Fr.snoc X31 N30 g_r1
      refine own_of (fun tgt kon => XS.aload X31.here hx rfl (hb hby at_282) rfl rfl kon) ?_
      refine own_of (fun tgt kon => XS.iconst X31.here hx rfl (hb hby at_284) kon) ?_
      refine own_aaloadA X31 hx hZ e31 V_dA (j := (2 : Int32)) (i := 2) (v := (.ref r2)) (by decide) (by decide) rfl rfl rfl (hb hby at_285) ?_
      refine own_of (fun tgt kon => XS.iconst X31.here hx rfl (hb hby at_286) kon) ?_
      show own_Wp _ _ _ _ (T31.setTop (mkF m 287 #[iv p1, iv p2, iv p3, iv p4, iv p5, iv (Int32.ofNat n), rv b1, rv b9, iv br, iv bnd, iv hbv, iv hd, rv txo, iv dpv, rv b19, rv dA, uu] [(.int (0 : Int32)), (.ref r2)]))
      refine own_of (fun tgt kon => XS.iconst X31.here hx rfl (hb hby at_287) kon) ?_
      refine own_of (fun tgt kon => XS.iconst X31.here hx rfl (hb hby at_288) kon) ?_
      refine own_of (fun tgt kon => XS.iload X31.here hx rfl (hb hby at_289) rfl kon) ?_
      refine own_of (fun tgt kon => XS.iload X31.here hx rfl (hb hby at_291) rfl kon) ?_
      refine own_callS X31 hx hZ (y := (⟨"com/example/close_words/closewords/BitRowsFillPinLaw", "cap", "(IIII)I"⟩ : MethodName)) (argsL := [(.int (2 : Int32)), (.int (0 : Int32)), (.int hd), (.int hbv)]) (rest := [(.int (0 : Int32)), (.ref r2)]) (W := 2) hown (ow hw 50 rfl) (ow hw 51 rfl) (ow hw 3 rfl) (ow hw 52 rfl) (by decide) e31 (rmcap l Z a0 hw [] (2 : Int32) (0 : Int32) hd hbv h31 n0 Zs) (by decide) (by decide) (by decide) (by decide) rfl (by rw [hml]; rfl) (lenOf own_pd4 rfl) rfl (by show 2 * 0 + _ ≤ _; exact Nat.le_of_eq rfl) (hb hby at_293) ?_
      rintro T32 L32 _ X32 ⟨rfl, N32q, e32⟩
      have N32 := Fr.app N31 N32q
      show own_Wp _ _ _ _ (T32.setTop (mkF m 296 #[iv p1, iv p2, iv p3, iv p4, iv p5, iv (Int32.ofNat n), rv b1, rv b9, iv br, iv bnd, iv hbv, iv hd, rv txo, iv dpv, rv b19, rv dA, uu] [(.int (own_capI (2 : Int32) (0 : Int32) hd hbv)), (.int (0 : Int32)), (.ref r2)]))
      obtain ⟨c20, h_c20⟩ : ∃ q : Int32, q = (own_capI (2 : Int32) (0 : Int32) hd hbv) := ⟨_, rfl⟩
      rw [← h_c20]
      obtain ⟨T33, h33, X33, e33, W33, Aq33, st33⟩ := own_stI X32 hx hZ e32 V_r2 (j := (0 : Int32)) (i := 0) (x := c20) (by decide) (by decide) (g := (mkF m 296 #[iv p1, iv p2, iv p3, iv p4, iv p5, iv (Int32.ofNat n), rv b1, rv b9, iv br, iv bnd, iv hbv, iv hd, rv txo, iv dpv, rv b19, rv dA, uu] [(.int c20), (.int (0 : Int32)), (.ref r2)])) rfl rfl (hb hby at_296)
      refine own_of st33 ?_
      clear st33
      replace Zs := Nat.le_trans Zs (Keep.of_wr W33).1
      replace V_b1 := V_b1.other W33 ne_b1_r2
      replace V_b9 := V_b9.other W33 ne_b9_r2
      replace E_xo := E_xo.wr W33
      replace F_bound_xo := F_bound_xo.other W33 (Or.inl ne_b19_r2)
      replace F_headBound_xo := F_headBound_xo.other W33 (Or.inl ne_b19_r2)
      replace F_levels_xo := F_levels_xo.other W33 (Or.inl ne_b19_r2)
      replace F_columns_xo := F_columns_xo.other W33 (Or.inl ne_b19_r2)
      replace F_lastColumn_xo := F_lastColumn_xo.other W33 (Or.inl ne_b19_r2)
      replace F_outsideHead_xo := F_outsideHead_xo.other W33 (Or.inl ne_b19_r2)
      replace F_codePoints_xo := F_codePoints_xo.other W33 (Or.inl ne_b19_r2)
      replace F_columnsOf_xo := F_columnsOf_xo.other W33 (Or.inl ne_b19_r2)
      replace F_rows_xo := F_rows_xo.other W33 (Or.inl ne_b19_r2)
      replace F_matches_xo := F_matches_xo.other W33 (Or.inl ne_b19_r2)
      replace V_ac := V_ac.other W33 ne_ac_r2
      replace V_ao := V_ao.other W33 ne_ao_r2
      replace V_ar := V_ar.other W33 ne_ar_r2
      replace V_am := V_am.other W33 ne_am_r2
      replace V_dA := V_dA.other W33 ne_dA_r2
      replace V_r0 := V_r0.other W33 ne_r0_r2
      replace V_r1 := V_r1.other W33 ne_r1_r2
      replace V_r3 := V_r3.other W33 (Ne.symm ne_r2_r3)
      replace V_r2 := Aq33
      clear Aq33
      replace V_r2 := V_r2.fn (f' := fun k => .int ((own_upd (fun _ => (0 : Int32)) 0 c20) k)) (fun k hk => own_setI _ _ _ k)
      have N33 := Fr.snoc X33 N32 g_r2
      refine own_of (fun tgt kon => XS.aload X33.here hx rfl (hb hby at_297) rfl rfl kon) ?_
      refine own_of (fun tgt kon => XS.iconst X33.here hx rfl (hb hby at_299) kon) ?_
      refine own_aaloadA X33 hx hZ e33 V_dA (j := (3 : Int32)) (i := 3) (v := (.ref r3)) (by decide) (by decide) rfl rfl rfl (hb hby at_300) ?_
      refine own_of (fun tgt kon => XS.iconst X33.here hx rfl (hb hby at_301) kon) ?_
      show own_Wp _ _ _ _ (T33.setTop (mkF m 302 #[iv p1, iv p2, iv p3, iv p4, iv p5, iv (Int32.ofNat n), rv b1, rv b9, iv br, iv bnd, iv hbv, iv hd, rv txo, iv dpv, rv b19, rv dA, uu] [(.int (0 : Int32)), (.ref r3)]))
      refine own_of (fun tgt kon => XS.iconst X33.here hx rfl (hb hby at_302) kon) ?_
      refine own_of (fun tgt kon => XS.iconst X33.here hx rfl (hb hby at_303) kon) ?_
      refine own_of (fun tgt kon => XS.iload X33.here hx rfl (hb hby at_304) rfl kon) ?_
      refine own_of (fun tgt kon => XS.iload X33.here hx rfl (hb hby at_306) rfl kon) ?_
      refine own_callS X33 hx hZ (y := (⟨"com/example/close_words/closewords/BitRowsFillPinLaw", "cap", "(IIII)I"⟩ : MethodName)) (argsL := [(.int (3 : Int32)), (.int (0 : Int32)), (.int hd), (.int hbv)]) (rest := [(.int (0 : Int32)), (.ref r3)]) (W := 2) hown (ow hw 50 rfl) (ow hw 51 rfl) (ow hw 3 rfl) (ow hw 52 rfl) (by decide) e33 (rmcap l Z a0 hw [] (3 : Int32) (0 : Int32) hd hbv h33 n0 Zs) (by decide) (by decide) (by decide) (by decide) rfl (by rw [hml]; rfl) (lenOf own_pd4 rfl) rfl (by show 2 * 0 + _ ≤ _; exact Nat.le_of_eq rfl) (hb hby at_308) ?_
      rintro T34 L34 _ X34 ⟨rfl, N34q, e34⟩
      have N34 := Fr.app N33 N34q
      show own_Wp _ _ _ _ (T34.setTop (mkF m 311 #[iv p1, iv p2, iv p3, iv p4, iv p5, iv (Int32.ofNat n), rv b1, rv b9, iv br, iv bnd, iv hbv, iv hd, rv txo, iv dpv, rv b19, rv dA, uu] [(.int (own_capI (3 : Int32) (0 : Int32) hd hbv)), (.int (0 : Int32)), (.ref r3)]))
      obtain ⟨c30, h_c30⟩ : ∃ q : Int32, q = (own_capI (3 : Int32) (0 : Int32) hd hbv) := ⟨_, rfl⟩
      rw [← h_c30]
      obtain ⟨T35, h35, X35, e35, W35, Aq35, st35⟩ := own_stI X34 hx hZ e34 V_r3 (j := (0 : Int32)) (i := 0) (x := c30) (by decide) (by decide) (g := (mkF m 311 #[iv p1, iv p2, iv p3, iv p4, iv p5, iv (Int32.ofNat n), rv b1, rv b9, iv br, iv bnd, iv hbv, iv hd, rv txo, iv dpv, rv b19, rv dA, uu] [(.int c30), (.int (0 : Int32)), (.ref r3)])) rfl rfl (hb hby at_311)
      refine own_of st35 ?_
      clear st35
      replace Zs := Nat.le_trans Zs (Keep.of_wr W35).1
      replace V_b1 := V_b1.other W35 ne_b1_r3
      replace V_b9 := V_b9.other W35 ne_b9_r3
      replace E_xo := E_xo.wr W35
      replace F_bound_xo := F_bound_xo.other W35 (Or.inl ne_b19_r3)
      replace F_headBound_xo := F_headBound_xo.other W35 (Or.inl ne_b19_r3)
      replace F_levels_xo := F_levels_xo.other W35 (Or.inl ne_b19_r3)
      replace F_columns_xo := F_columns_xo.other W35 (Or.inl ne_b19_r3)
      replace F_lastColumn_xo := F_lastColumn_xo.other W35 (Or.inl ne_b19_r3)
      replace F_outsideHead_xo := F_outsideHead_xo.other W35 (Or.inl ne_b19_r3)
      replace F_codePoints_xo := F_codePoints_xo.other W35 (Or.inl ne_b19_r3)
      replace F_columnsOf_xo := F_columnsOf_xo.other W35 (Or.inl ne_b19_r3)
      replace F_rows_xo := F_rows_xo.other W35 (Or.inl ne_b19_r3)
      replace F_matches_xo := F_matches_xo.other W35 (Or.inl ne_b19_r3)
      replace V_ac := V_ac.other W35 ne_ac_r3
      replace V_ao := V_ao.other W35 ne_ao_r3
      replace V_ar := V_ar.other W35 ne_ar_r3
      replace V_am := V_am.other W35 ne_am_r3
      replace V_dA := V_dA.other W35 ne_dA_r3
      replace V_r0 := V_r0.other W35 ne_r0_r3
      replace V_r1 := V_r1.other W35 ne_r1_r3
      replace V_r2 := V_r2.other W35 ne_r2_r3
      replace V_r3 := Aq35
      clear Aq35
      replace V_r3 := V_r3.fn (f' := fun k => .int ((own_upd (fun _ => (0 : Int32)) 0 c30) k)) (fun k hk => own_setI _ _ _ k)
      have N35 := Fr.snoc X35 N34 g_r3
      refine own_of (fun tgt kon => XS.aload X35.here hx rfl (hb hby at_312) rfl rfl kon) ?_
      refine own_of (fun tgt kon => XS.iconst X35.here hx rfl (hb hby at_314) kon) ?_
      refine own_aaloadA X35 hx hZ e35 V_dA (j := (1 : Int32)) (i := 1) (v := (.ref r1)) (by decide) (by decide) rfl rfl rfl (hb hby at_315) ?_
      refine own_of (fun tgt kon => XS.iconst X35.here hx rfl (hb hby at_316) kon) ?_
      show own_Wp _ _ _ _ (T35.setTop (mkF m 317 #[iv p1, iv p2, iv p3, iv p4, iv p5, iv (Int32.ofNat n), rv b1, rv b9, iv br, iv bnd, iv hbv, iv hd, rv txo, iv dpv, rv b19, rv dA, uu] [(.int (1 : Int32)), (.ref r1)]))
      refine own_of (fun tgt kon => XS.aload X35.here hx rfl (hb hby at_317) rfl rfl kon) ?_
      refine own_of (fun tgt kon => XS.iconst X35.here hx rfl (hb hby at_319) kon) ?_
      refine own_of (fun tgt kon => XS.iconst X35.here hx rfl (hb hby at_320) kon) ?_
      refine own_of (fun tgt kon => XS.aload X35.here hx rfl (hb hby at_321) rfl rfl kon) ?_
      refine own_of (fun tgt kon => XS.aload X35.here hx rfl (hb hby at_323) rfl rfl kon) ?_
      show own_Wp _ _ _ _ (T35.setTop (mkF m 325 #[iv p1, iv p2, iv p3, iv p4, iv p5, iv (Int32.ofNat n), rv b1, rv b9, iv br, iv bnd, iv hbv, iv hd, rv txo, iv dpv, rv b19, rv dA, uu] [(.ref b9), (.ref b1), (.int (1 : Int32)), (.int (1 : Int32)), (.ref dA), (.int (1 : Int32)), (.ref r1)]))
      refine own_of (fun tgt kon => XS.iload X35.here hx rfl (hb hby at_325) rfl kon) ?_
      refine own_of (fun tgt kon => XS.iload X35.here hx rfl (hb hby at_327) rfl kon) ?_
      refine own_callS X35 hx hZ (y := (⟨"com/example/close_words/closewords/BitRowsFillPinLaw", "cell", "([[III[I[III)I"⟩ : MethodName)) (argsL := [(.ref dA), (.int (1 : Int32)), (.int (1 : Int32)), (.ref b1), (.ref b9), (.int hd), (.int hbv)]) (rest := [(.int (1 : Int32)), (.ref r1)]) (W := 2) hown (ow hw 53 rfl) (ow hw 54 rfl) (ow hw 3 rfl) (ow hw 55 rfl) (by decide) e35 (rmcell l Z a0 hw [] dA 1 1 b1 b9 hd hbv (own_rr r0 r1 r2 r3) (own_ff (own_upd (own_upd (own_upd (own_upd (fun _ => (0 : Int32)) 0 c00) 1 c01) 2 c02) 3 c03) (own_upd (fun _ => (0 : Int32)) 0 c10) (own_upd (fun _ => (0 : Int32)) 0 c20) (own_upd (fun _ => (0 : Int32)) 0 c30)) (own_tq (own_chr c1) (own_chr c2) (own_chr c3)) (own_tq (own_chr e1) (own_chr e2) (own_chr e3)) h35 n0 Zs V_dA (own_rows4 V_r0 V_r1 V_r2 V_r3) V_b1 V_b9 (by decide) (by decide) (by decide) (by decide)) (by decide) (by decide) (by decide) (by decide) rfl (by rw [hml]; rfl) (lenOf own_pd7 rfl) rfl (by show 2 * 0 + _ ≤ _; exact Nat.le_of_eq rfl) (hb hby at_329) ?_
      rintro T36 L36 _ X36 ⟨rfl, N36q, e36⟩
      have N36 := Fr.app N35 N36q
      show own_Wp _ _ _ _ (T36.setTop (mkF m 332 #[iv p1, iv p2, iv p3, iv p4, iv p5, iv (Int32.ofNat n), rv b1, rv b9, iv br, iv bnd, iv hbv, iv hd, rv txo, iv dpv, rv b19, rv dA, uu] [(.int (own_cI 1 1 c00 c01 c10 c00 ((own_tq (own_chr e1) (own_chr e2) (own_chr e3)) 1) ((own_tq (own_chr c1) (own_chr c2) (own_chr c3)) 1) ((own_tq (own_chr e1) (own_chr e2) (own_chr e3)) 0) ((own_tq (own_chr c1) (own_chr c2) (own_chr c3)) 0) hd hbv)), (.int (1 : Int32)), (.ref r1)]))
      obtain ⟨c11, h_c11⟩ : ∃ q : Int32, q = (own_cI 1 1 c00 c01 c10 c00 ((own_tq (own_chr e1) (own_chr e2) (own_chr e3)) 1) ((own_tq (own_chr c1) (own_chr c2) (own_chr c3)) 1) ((own_tq (own_chr e1) (own_chr e2) (own_chr e3)) 0) ((own_tq (own_chr c1) (own_chr c2) (own_chr c3)) 0) hd hbv) := ⟨_, rfl⟩
      rw [← h_c11]
      obtain ⟨T37, h37, X37, e37, W37, Aq37, st37⟩ := own_stI X36 hx hZ e36 V_r1 (j := (1 : Int32)) (i := 1) (x := c11) (by decide) (by decide) (g := (mkF m 332 #[iv p1, iv p2, iv p3, iv p4, iv p5, iv (Int32.ofNat n), rv b1, rv b9, iv br, iv bnd, iv hbv, iv hd, rv txo, iv dpv, rv b19, rv dA, uu] [(.int c11), (.int (1 : Int32)), (.ref r1)])) rfl rfl (hb hby at_332)
      refine own_of st37 ?_
      clear st37
      replace Zs := Nat.le_trans Zs (Keep.of_wr W37).1
      replace V_b1 := V_b1.other W37 ne_b1_r1
      replace V_b9 := V_b9.other W37 ne_b9_r1
      replace E_xo := E_xo.wr W37
      replace F_bound_xo := F_bound_xo.other W37 (Or.inl ne_b19_r1)
      replace F_headBound_xo := F_headBound_xo.other W37 (Or.inl ne_b19_r1)
      replace F_levels_xo := F_levels_xo.other W37 (Or.inl ne_b19_r1)
      replace F_columns_xo := F_columns_xo.other W37 (Or.inl ne_b19_r1)
      replace F_lastColumn_xo := F_lastColumn_xo.other W37 (Or.inl ne_b19_r1)
      replace F_outsideHead_xo := F_outsideHead_xo.other W37 (Or.inl ne_b19_r1)
      replace F_codePoints_xo := F_codePoints_xo.other W37 (Or.inl ne_b19_r1)
      replace F_columnsOf_xo := F_columnsOf_xo.other W37 (Or.inl ne_b19_r1)
      replace F_rows_xo := F_rows_xo.other W37 (Or.inl ne_b19_r1)
      replace F_matches_xo := F_matches_xo.other W37 (Or.inl ne_b19_r1)
      replace V_ac := V_ac.other W37 ne_ac_r1
      replace V_ao := V_ao.other W37 ne_ao_r1
      replace V_ar := V_ar.other W37 ne_ar_r1
      replace V_am := V_am.other W37 ne_am_r1
      replace V_dA := V_dA.other W37 ne_dA_r1
      replace V_r0 := V_r0.other W37 ne_r0_r1
      replace V_r2 := V_r2.other W37 (Ne.symm ne_r1_r2)
      replace V_r3 := V_r3.other W37 (Ne.symm ne_r1_r3)
      replace V_r1 := Aq37
      clear Aq37
      replace V_r1 := V_r1.fn (f' := fun k => .int ((own_upd (own_upd (fun _ => (0 : Int32)) 0 c10) 1 c11) k)) (fun k hk => own_setI _ _ _ k)
      have N37 := Fr.snoc X37 N36 g_r1
      refine own_of (fun tgt kon => XS.aload X37.here hx rfl (hb hby at_333) rfl rfl kon) ?_
      refine own_of (fun tgt kon => XS.iconst X37.here hx rfl (hb hby at_335) kon) ?_
      refine own_aaloadA X37 hx hZ e37 V_dA (j := (1 : Int32)) (i := 1) (v := (.ref r1)) (by decide) (by decide) rfl rfl rfl (hb hby at_336) ?_
      refine own_of (fun tgt kon => XS.iconst X37.here hx rfl (hb hby at_337) kon) ?_
      show own_Wp _ _ _ _ (T37.setTop (mkF m 338 #[iv p1, iv p2, iv p3, iv p4, iv p5, iv (Int32.ofNat n), rv b1, rv b9, iv br, iv bnd, iv hbv, iv hd, rv txo, iv dpv, rv b19, rv dA, uu] [(.int (2 : Int32)), (.ref r1)]))
      refine own_of (fun tgt kon => XS.aload X37.here hx rfl (hb hby at_338) rfl rfl kon) ?_
      refine own_of (fun tgt kon => XS.iconst X37.here hx rfl (hb hby at_340) kon) ?_
      refine own_of (fun tgt kon => XS.iconst X37.here hx rfl (hb hby at_341) kon) ?_
      refine own_of (fun tgt kon => XS.aload X37.here hx rfl (hb hby at_342) rfl rfl kon) ?_
      refine own_of (fun tgt kon => XS.aload X37.here hx rfl (hb hby at_344) rfl rfl kon) ?_
      show own_Wp _ _ _ _ (T37.setTop (mkF m 346 #[iv p1, iv p2, iv p3, iv p4, iv p5, iv (Int32.ofNat n), rv b1, rv b9, iv br, iv bnd, iv hbv, iv hd, rv txo, iv dpv, rv b19, rv dA, uu] [(.ref b9), (.ref b1), (.int (2 : Int32)), (.int (1 : Int32)), (.ref dA), (.int (2 : Int32)), (.ref r1)]))
      refine own_of (fun tgt kon => XS.iload X37.here hx rfl (hb hby at_346) rfl kon) ?_
      refine own_of (fun tgt kon => XS.iload X37.here hx rfl (hb hby at_348) rfl kon) ?_
      refine own_callS X37 hx hZ (y := (⟨"com/example/close_words/closewords/BitRowsFillPinLaw", "cell", "([[III[I[III)I"⟩ : MethodName)) (argsL := [(.ref dA), (.int (1 : Int32)), (.int (2 : Int32)), (.ref b1), (.ref b9), (.int hd), (.int hbv)]) (rest := [(.int (2 : Int32)), (.ref r1)]) (W := 2) hown (ow hw 53 rfl) (ow hw 54 rfl) (ow hw 3 rfl) (ow hw 55 rfl) (by decide) e37 (rmcell l Z a0 hw [] dA 1 2 b1 b9 hd hbv (own_rr r0 r1 r2 r3) (own_ff (own_upd (own_upd (own_upd (own_upd (fun _ => (0 : Int32)) 0 c00) 1 c01) 2 c02) 3 c03) (own_upd (own_upd (fun _ => (0 : Int32)) 0 c10) 1 c11) (own_upd (fun _ => (0 : Int32)) 0 c20) (own_upd (fun _ => (0 : Int32)) 0 c30)) (own_tq (own_chr c1) (own_chr c2) (own_chr c3)) (own_tq (own_chr e1) (own_chr e2) (own_chr e3)) h37 n0 Zs V_dA (own_rows4 V_r0 V_r1 V_r2 V_r3) V_b1 V_b9 (by decide) (by decide) (by decide) (by decide)) (by decide) (by decide) (by decide) (by decide) rfl (by rw [hml]; rfl) (lenOf own_pd7 rfl) rfl (by show 2 * 0 + _ ≤ _; exact Nat.le_of_eq rfl) (hb hby at_350) ?_
      rintro T38 L38 _ X38 ⟨rfl, N38q, e38⟩
      have N38 := Fr.app N37 N38q
      show own_Wp _ _ _ _ (T38.setTop (mkF m 353 #[iv p1, iv p2, iv p3, iv p4, iv p5, iv (Int32.ofNat n), rv b1, rv b9, iv br, iv bnd, iv hbv, iv hd, rv txo, iv dpv, rv b19, rv dA, uu] [(.int (own_cI 1 2 c01 c02 c11 c00 ((own_tq (own_chr e1) (own_chr e2) (own_chr e3)) 1) ((own_tq (own_chr c1) (own_chr c2) (own_chr c3)) 2) ((own_tq (own_chr e1) (own_chr e2) (own_chr e3)) 0) ((own_tq (own_chr c1) (own_chr c2) (own_chr c3)) 1) hd hbv)), (.int (2 : Int32)), (.ref r1)]))
      obtain ⟨c12, h_c12⟩ : ∃ q : Int32, q = (own_cI 1 2 c01 c02 c11 c00 ((own_tq (own_chr e1) (own_chr e2) (own_chr e3)) 1) ((own_tq (own_chr c1) (own_chr c2) (own_chr c3)) 2) ((own_tq (own_chr e1) (own_chr e2) (own_chr e3)) 0) ((own_tq (own_chr c1) (own_chr c2) (own_chr c3)) 1) hd hbv) := ⟨_, rfl⟩
      rw [← h_c12]
      obtain ⟨T39, h39, X39, e39, W39, Aq39, st39⟩ := own_stI X38 hx hZ e38 V_r1 (j := (2 : Int32)) (i := 2) (x := c12) (by decide) (by decide) (g := (mkF m 353 #[iv p1, iv p2, iv p3, iv p4, iv p5, iv (Int32.ofNat n), rv b1, rv b9, iv br, iv bnd, iv hbv, iv hd, rv txo, iv dpv, rv b19, rv dA, uu] [(.int c12), (.int (2 : Int32)), (.ref r1)])) rfl rfl (hb hby at_353)
      refine own_of st39 ?_
      clear st39
      replace Zs := Nat.le_trans Zs (Keep.of_wr W39).1
      replace V_b1 := V_b1.other W39 ne_b1_r1
      replace V_b9 := V_b9.other W39 ne_b9_r1
      replace E_xo := E_xo.wr W39
      replace F_bound_xo := F_bound_xo.other W39 (Or.inl ne_b19_r1)
      replace F_headBound_xo := F_headBound_xo.other W39 (Or.inl ne_b19_r1)
      replace F_levels_xo := F_levels_xo.other W39 (Or.inl ne_b19_r1)
      replace F_columns_xo := F_columns_xo.other W39 (Or.inl ne_b19_r1)
      replace F_lastColumn_xo := F_lastColumn_xo.other W39 (Or.inl ne_b19_r1)
      replace F_outsideHead_xo := F_outsideHead_xo.other W39 (Or.inl ne_b19_r1)
      replace F_codePoints_xo := F_codePoints_xo.other W39 (Or.inl ne_b19_r1)
      replace F_columnsOf_xo := F_columnsOf_xo.other W39 (Or.inl ne_b19_r1)
      replace F_rows_xo := F_rows_xo.other W39 (Or.inl ne_b19_r1)
      replace F_matches_xo := F_matches_xo.other W39 (Or.inl ne_b19_r1)
      replace V_ac := V_ac.other W39 ne_ac_r1
      replace V_ao := V_ao.other W39 ne_ao_r1
      replace V_ar := V_ar.other W39 ne_ar_r1
      replace V_am := V_am.other W39 ne_am_r1
      replace V_dA := V_dA.other W39 ne_dA_r1
      replace V_r0 := V_r0.other W39 ne_r0_r1
      replace V_r2 := V_r2.other W39 (Ne.symm ne_r1_r2)
      replace V_r3 := V_r3.other W39 (Ne.symm ne_r1_r3)
      replace V_r1 := Aq39
      clear Aq39
      replace V_r1 := V_r1.fn (f' := fun k => .int ((own_upd (own_upd (own_upd (fun _ => (0 : Int32)) 0 c10) 1 c11) 2 c12) k)) (fun k hk => own_setI _ _ _ k)
      have N39 := Fr.snoc X39 N38 g_r1
      refine own_of (fun tgt kon => XS.aload X39.here hx rfl (hb hby at_354) rfl rfl kon) ?_
      refine own_of (fun tgt kon => XS.iconst X39.here hx rfl (hb hby at_356) kon) ?_
      refine own_aaloadA X39 hx hZ e39 V_dA (j := (1 : Int32)) (i := 1) (v := (.ref r1)) (by decide) (by decide) rfl rfl rfl (hb hby at_357) ?_
      refine own_of (fun tgt kon => XS.iconst X39.here hx rfl (hb hby at_358) kon) ?_
      show own_Wp _ _ _ _ (T39.setTop (mkF m 359 #[iv p1, iv p2, iv p3, iv p4, iv p5, iv (Int32.ofNat n), rv b1, rv b9, iv br, iv bnd, iv hbv, iv hd, rv txo, iv dpv, rv b19, rv dA, uu] [(.int (3 : Int32)), (.ref r1)]))
      refine own_of (fun tgt kon => XS.aload X39.here hx rfl (hb hby at_359) rfl rfl kon) ?_
      refine own_of (fun tgt kon => XS.iconst X39.here hx rfl (hb hby at_361) kon) ?_
      refine own_of (fun tgt kon => XS.iconst X39.here hx rfl (hb hby at_362) kon) ?_
      refine own_of (fun tgt kon => XS.aload X39.here hx rfl (hb hby at_363) rfl rfl kon) ?_
      refine own_of (fun tgt kon => XS.aload X39.here hx rfl (hb hby at_365) rfl rfl kon) ?_
      show own_Wp _ _ _ _ (T39.setTop (mkF m 367 #[iv p1, iv p2, iv p3, iv p4, iv p5, iv (Int32.ofNat n), rv b1, rv b9, iv br, iv bnd, iv hbv, iv hd, rv txo, iv dpv, rv b19, rv dA, uu] [(.ref b9), (.ref b1), (.int (3 : Int32)), (.int (1 : Int32)), (.ref dA), (.int (3 : Int32)), (.ref r1)]))
      refine own_of (fun tgt kon => XS.iload X39.here hx rfl (hb hby at_367) rfl kon) ?_
      refine own_of (fun tgt kon => XS.iload X39.here hx rfl (hb hby at_369) rfl kon) ?_
      refine own_callS X39 hx hZ (y := (⟨"com/example/close_words/closewords/BitRowsFillPinLaw", "cell", "([[III[I[III)I"⟩ : MethodName)) (argsL := [(.ref dA), (.int (1 : Int32)), (.int (3 : Int32)), (.ref b1), (.ref b9), (.int hd), (.int hbv)]) (rest := [(.int (3 : Int32)), (.ref r1)]) (W := 2) hown (ow hw 53 rfl) (ow hw 54 rfl) (ow hw 3 rfl) (ow hw 55 rfl) (by decide) e39 (rmcell l Z a0 hw [] dA 1 3 b1 b9 hd hbv (own_rr r0 r1 r2 r3) (own_ff (own_upd (own_upd (own_upd (own_upd (fun _ => (0 : Int32)) 0 c00) 1 c01) 2 c02) 3 c03) (own_upd (own_upd (own_upd (fun _ => (0 : Int32)) 0 c10) 1 c11) 2 c12) (own_upd (fun _ => (0 : Int32)) 0 c20) (own_upd (fun _ => (0 : Int32)) 0 c30)) (own_tq (own_chr c1) (own_chr c2) (own_chr c3)) (own_tq (own_chr e1) (own_chr e2) (own_chr e3)) h39 n0 Zs V_dA (own_rows4 V_r0 V_r1 V_r2 V_r3) V_b1 V_b9 (by decide) (by decide) (by decide) (by decide)) (by decide) (by decide) (by decide) (by decide) rfl (by rw [hml]; rfl) (lenOf own_pd7 rfl) rfl (by show 2 * 0 + _ ≤ _; exact Nat.le_of_eq rfl) (hb hby at_371) ?_
      rintro T40 L40 _ X40 ⟨rfl, N40q, e40⟩
      have N40 := Fr.app N39 N40q
      show own_Wp _ _ _ _ (T40.setTop (mkF m 374 #[iv p1, iv p2, iv p3, iv p4, iv p5, iv (Int32.ofNat n), rv b1, rv b9, iv br, iv bnd, iv hbv, iv hd, rv txo, iv dpv, rv b19, rv dA, uu] [(.int (own_cI 1 3 c02 c03 c12 c01 ((own_tq (own_chr e1) (own_chr e2) (own_chr e3)) 1) ((own_tq (own_chr c1) (own_chr c2) (own_chr c3)) 3) ((own_tq (own_chr e1) (own_chr e2) (own_chr e3)) 0) ((own_tq (own_chr c1) (own_chr c2) (own_chr c3)) 2) hd hbv)), (.int (3 : Int32)), (.ref r1)]))
      obtain ⟨c13, h_c13⟩ : ∃ q : Int32, q = (own_cI 1 3 c02 c03 c12 c01 ((own_tq (own_chr e1) (own_chr e2) (own_chr e3)) 1) ((own_tq (own_chr c1) (own_chr c2) (own_chr c3)) 3) ((own_tq (own_chr e1) (own_chr e2) (own_chr e3)) 0) ((own_tq (own_chr c1) (own_chr c2) (own_chr c3)) 2) hd hbv) := ⟨_, rfl⟩
      rw [← h_c13]
      obtain ⟨T41, h41, X41, e41, W41, Aq41, st41⟩ := own_stI X40 hx hZ e40 V_r1 (j := (3 : Int32)) (i := 3) (x := c13) (by decide) (by decide) (g := (mkF m 374 #[iv p1, iv p2, iv p3, iv p4, iv p5, iv (Int32.ofNat n), rv b1, rv b9, iv br, iv bnd, iv hbv, iv hd, rv txo, iv dpv, rv b19, rv dA, uu] [(.int c13), (.int (3 : Int32)), (.ref r1)])) rfl rfl (hb hby at_374)
      refine own_of st41 ?_
      clear st41
      replace Zs := Nat.le_trans Zs (Keep.of_wr W41).1
      replace V_b1 := V_b1.other W41 ne_b1_r1
      replace V_b9 := V_b9.other W41 ne_b9_r1
      replace E_xo := E_xo.wr W41
      replace F_bound_xo := F_bound_xo.other W41 (Or.inl ne_b19_r1)
      replace F_headBound_xo := F_headBound_xo.other W41 (Or.inl ne_b19_r1)
      replace F_levels_xo := F_levels_xo.other W41 (Or.inl ne_b19_r1)
      replace F_columns_xo := F_columns_xo.other W41 (Or.inl ne_b19_r1)
      replace F_lastColumn_xo := F_lastColumn_xo.other W41 (Or.inl ne_b19_r1)
      replace F_outsideHead_xo := F_outsideHead_xo.other W41 (Or.inl ne_b19_r1)
      replace F_codePoints_xo := F_codePoints_xo.other W41 (Or.inl ne_b19_r1)
      replace F_columnsOf_xo := F_columnsOf_xo.other W41 (Or.inl ne_b19_r1)
      replace F_rows_xo := F_rows_xo.other W41 (Or.inl ne_b19_r1)
      replace F_matches_xo := F_matches_xo.other W41 (Or.inl ne_b19_r1)
      replace V_ac := V_ac.other W41 ne_ac_r1
      replace V_ao := V_ao.other W41 ne_ao_r1
      replace V_ar := V_ar.other W41 ne_ar_r1
      replace V_am := V_am.other W41 ne_am_r1
      replace V_dA := V_dA.other W41 ne_dA_r1
      replace V_r0 := V_r0.other W41 ne_r0_r1
      replace V_r2 := V_r2.other W41 (Ne.symm ne_r1_r2)
      replace V_r3 := V_r3.other W41 (Ne.symm ne_r1_r3)
      replace V_r1 := Aq41
      clear Aq41
      replace V_r1 := V_r1.fn (f' := fun k => .int ((own_upd (own_upd (own_upd (own_upd (fun _ => (0 : Int32)) 0 c10) 1 c11) 2 c12) 3 c13) k)) (fun k hk => own_setI _ _ _ k)
      have N41 := Fr.snoc X41 N40 g_r1
      refine own_of (fun tgt kon => XS.aload X41.here hx rfl (hb hby at_375) rfl rfl kon) ?_
      refine own_of (fun tgt kon => XS.iconst X41.here hx rfl (hb hby at_377) kon) ?_
      refine own_aaloadA X41 hx hZ e41 V_dA (j := (2 : Int32)) (i := 2) (v := (.ref r2)) (by decide) (by decide) rfl rfl rfl (hb hby at_378) ?_
      refine own_of (fun tgt kon => XS.iconst X41.here hx rfl (hb hby at_379) kon) ?_
      show own_Wp _ _ _ _ (T41.setTop (mkF m 380 #[iv p1, iv p2, iv p3, iv p4, iv p5, iv (Int32.ofNat n), rv b1, rv b9, iv br, iv bnd, iv hbv, iv hd, rv txo, iv dpv, rv b19, rv dA, uu] [(.int (1 : Int32)), (.ref r2)]))
      refine own_of (fun tgt kon => XS.aload X41.here hx rfl (hb hby at_380) rfl rfl kon) ?_
      refine own_of (fun tgt kon => XS.iconst X41.here hx rfl (hb hby at_382) kon) ?_
      refine own_of (fun tgt kon => XS.iconst X41.here hx rfl (hb hby at_383) kon) ?_
      refine own_of (fun tgt kon => XS.aload X41.here hx rfl (hb hby at_384) rfl rfl kon) ?_
      refine own_of (fun tgt kon => XS.aload X41.here hx rfl (hb hby at_386) rfl rfl kon) ?_
      show own_Wp _ _ _ _ (T41.setTop (mkF m 388 #[iv p1, iv p2, iv p3, iv p4, iv p5, iv (Int32.ofNat n), rv b1, rv b9, iv br, iv bnd, iv hbv, iv hd, rv txo, iv dpv, rv b19, rv dA, uu] [(.ref b9), (.ref b1), (.int (1 : Int32)), (.int (2 : Int32)), (.ref dA), (.int (1 : Int32)), (.ref r2)]))
      refine own_of (fun tgt kon => XS.iload X41.here hx rfl (hb hby at_388) rfl kon) ?_
      refine own_of (fun tgt kon => XS.iload X41.here hx rfl (hb hby at_390) rfl kon) ?_
      refine own_callS X41 hx hZ (y := (⟨"com/example/close_words/closewords/BitRowsFillPinLaw", "cell", "([[III[I[III)I"⟩ : MethodName)) (argsL := [(.ref dA), (.int (2 : Int32)), (.int (1 : Int32)), (.ref b1), (.ref b9), (.int hd), (.int hbv)]) (rest := [(.int (1 : Int32)), (.ref r2)]) (W := 2) hown (ow hw 53 rfl) (ow hw 54 rfl) (ow hw 3 rfl) (ow hw 55 rfl) (by decide) e41 (rmcell l Z a0 hw [] dA 2 1 b1 b9 hd hbv (own_rr r0 r1 r2 r3) (own_ff (own_upd (own_upd (own_upd (own_upd (fun _ => (0 : Int32)) 0 c00) 1 c01) 2 c02) 3 c03) (own_upd (own_upd (own_upd (own_upd (fun _ => (0 : Int32)) 0 c10) 1 c11) 2 c12) 3 c13) (own_upd (fun _ => (0 : Int32)) 0 c20) (own_upd (fun _ => (0 : Int32)) 0 c30)) (own_tq (own_chr c1) (own_chr c2) (own_chr c3)) (own_tq (own_chr e1) (own_chr e2) (own_chr e3)) h41 n0 Zs V_dA (own_rows4 V_r0 V_r1 V_r2 V_r3) V_b1 V_b9 (by decide) (by decide) (by decide) (by decide)) (by decide) (by decide) (by decide) (by decide) rfl (by rw [hml]; rfl) (lenOf own_pd7 rfl) rfl (by show 2 * 0 + _ ≤ _; exact Nat.le_of_eq rfl) (hb hby at_392) ?_
      rintro T42 L42 _ X42 ⟨rfl, N42q, e42⟩
      have N42 := Fr.app N41 N42q
      show own_Wp _ _ _ _ (T42.setTop (mkF m 395 #[iv p1, iv p2, iv p3, iv p4, iv p5, iv (Int32.ofNat n), rv b1, rv b9, iv br, iv bnd, iv hbv, iv hd, rv txo, iv dpv, rv b19, rv dA, uu] [(.int (own_cI 2 1 c10 c11 c20 c00 ((own_tq (own_chr e1) (own_chr e2) (own_chr e3)) 2) ((own_tq (own_chr c1) (own_chr c2) (own_chr c3)) 1) ((own_tq (own_chr e1) (own_chr e2) (own_chr e3)) 1) ((own_tq (own_chr c1) (own_chr c2) (own_chr c3)) 0) hd hbv)), (.int (1 : Int32)), (.ref r2)]))
      obtain ⟨c21, h_c21⟩ : ∃ q : Int32, q = (own_cI 2 1 c10 c11 c20 c00 ((own_tq (own_chr e1) (own_chr e2) (own_chr e3)) 2) ((own_tq (own_chr c1) (own_chr c2) (own_chr c3)) 1) ((own_tq (own_chr e1) (own_chr e2) (own_chr e3)) 1) ((own_tq (own_chr c1) (own_chr c2) (own_chr c3)) 0) hd hbv) := ⟨_, rfl⟩
      rw [← h_c21]
      obtain ⟨T43, h43, X43, e43, W43, Aq43, st43⟩ := own_stI X42 hx hZ e42 V_r2 (j := (1 : Int32)) (i := 1) (x := c21) (by decide) (by decide) (g := (mkF m 395 #[iv p1, iv p2, iv p3, iv p4, iv p5, iv (Int32.ofNat n), rv b1, rv b9, iv br, iv bnd, iv hbv, iv hd, rv txo, iv dpv, rv b19, rv dA, uu] [(.int c21), (.int (1 : Int32)), (.ref r2)])) rfl rfl (hb hby at_395)
      refine own_of st43 ?_
      clear st43
      replace Zs := Nat.le_trans Zs (Keep.of_wr W43).1
      replace V_b1 := V_b1.other W43 ne_b1_r2
      replace V_b9 := V_b9.other W43 ne_b9_r2
      replace E_xo := E_xo.wr W43
      replace F_bound_xo := F_bound_xo.other W43 (Or.inl ne_b19_r2)
      replace F_headBound_xo := F_headBound_xo.other W43 (Or.inl ne_b19_r2)
      replace F_levels_xo := F_levels_xo.other W43 (Or.inl ne_b19_r2)
      replace F_columns_xo := F_columns_xo.other W43 (Or.inl ne_b19_r2)
      replace F_lastColumn_xo := F_lastColumn_xo.other W43 (Or.inl ne_b19_r2)
      replace F_outsideHead_xo := F_outsideHead_xo.other W43 (Or.inl ne_b19_r2)
      replace F_codePoints_xo := F_codePoints_xo.other W43 (Or.inl ne_b19_r2)
      replace F_columnsOf_xo := F_columnsOf_xo.other W43 (Or.inl ne_b19_r2)
      replace F_rows_xo := F_rows_xo.other W43 (Or.inl ne_b19_r2)
      replace F_matches_xo := F_matches_xo.other W43 (Or.inl ne_b19_r2)
      replace V_ac := V_ac.other W43 ne_ac_r2
      replace V_ao := V_ao.other W43 ne_ao_r2
      replace V_ar := V_ar.other W43 ne_ar_r2
      replace V_am := V_am.other W43 ne_am_r2
      replace V_dA := V_dA.other W43 ne_dA_r2
      replace V_r0 := V_r0.other W43 ne_r0_r2
      replace V_r1 := V_r1.other W43 ne_r1_r2
      replace V_r3 := V_r3.other W43 (Ne.symm ne_r2_r3)
      replace V_r2 := Aq43
      clear Aq43
      replace V_r2 := V_r2.fn (f' := fun k => .int ((own_upd (own_upd (fun _ => (0 : Int32)) 0 c20) 1 c21) k)) (fun k hk => own_setI _ _ _ k)
      have N43 := Fr.snoc X43 N42 g_r2
      refine own_of (fun tgt kon => XS.aload X43.here hx rfl (hb hby at_396) rfl rfl kon) ?_
      refine own_of (fun tgt kon => XS.iconst X43.here hx rfl (hb hby at_398) kon) ?_
      refine own_aaloadA X43 hx hZ e43 V_dA (j := (2 : Int32)) (i := 2) (v := (.ref r2)) (by decide) (by decide) rfl rfl rfl (hb hby at_399) ?_
      refine own_of (fun tgt kon => XS.iconst X43.here hx rfl (hb hby at_400) kon) ?_
      show own_Wp _ _ _ _ (T43.setTop (mkF m 401 #[iv p1, iv p2, iv p3, iv p4, iv p5, iv (Int32.ofNat n), rv b1, rv b9, iv br, iv bnd, iv hbv, iv hd, rv txo, iv dpv, rv b19, rv dA, uu] [(.int (2 : Int32)), (.ref r2)]))
      refine own_of (fun tgt kon => XS.aload X43.here hx rfl (hb hby at_401) rfl rfl kon) ?_
      refine own_of (fun tgt kon => XS.iconst X43.here hx rfl (hb hby at_403) kon) ?_
      refine own_of (fun tgt kon => XS.iconst X43.here hx rfl (hb hby at_404) kon) ?_
      refine own_of (fun tgt kon => XS.aload X43.here hx rfl (hb hby at_405) rfl rfl kon) ?_
      refine own_of (fun tgt kon => XS.aload X43.here hx rfl (hb hby at_407) rfl rfl kon) ?_
      show own_Wp _ _ _ _ (T43.setTop (mkF m 409 #[iv p1, iv p2, iv p3, iv p4, iv p5, iv (Int32.ofNat n), rv b1, rv b9, iv br, iv bnd, iv hbv, iv hd, rv txo, iv dpv, rv b19, rv dA, uu] [(.ref b9), (.ref b1), (.int (2 : Int32)), (.int (2 : Int32)), (.ref dA), (.int (2 : Int32)), (.ref r2)]))
      refine own_of (fun tgt kon => XS.iload X43.here hx rfl (hb hby at_409) rfl kon) ?_
      refine own_of (fun tgt kon => XS.iload X43.here hx rfl (hb hby at_411) rfl kon) ?_
      refine own_callS X43 hx hZ (y := (⟨"com/example/close_words/closewords/BitRowsFillPinLaw", "cell", "([[III[I[III)I"⟩ : MethodName)) (argsL := [(.ref dA), (.int (2 : Int32)), (.int (2 : Int32)), (.ref b1), (.ref b9), (.int hd), (.int hbv)]) (rest := [(.int (2 : Int32)), (.ref r2)]) (W := 2) hown (ow hw 53 rfl) (ow hw 54 rfl) (ow hw 3 rfl) (ow hw 55 rfl) (by decide) e43 (rmcell l Z a0 hw [] dA 2 2 b1 b9 hd hbv (own_rr r0 r1 r2 r3) (own_ff (own_upd (own_upd (own_upd (own_upd (fun _ => (0 : Int32)) 0 c00) 1 c01) 2 c02) 3 c03) (own_upd (own_upd (own_upd (own_upd (fun _ => (0 : Int32)) 0 c10) 1 c11) 2 c12) 3 c13) (own_upd (own_upd (fun _ => (0 : Int32)) 0 c20) 1 c21) (own_upd (fun _ => (0 : Int32)) 0 c30)) (own_tq (own_chr c1) (own_chr c2) (own_chr c3)) (own_tq (own_chr e1) (own_chr e2) (own_chr e3)) h43 n0 Zs V_dA (own_rows4 V_r0 V_r1 V_r2 V_r3) V_b1 V_b9 (by decide) (by decide) (by decide) (by decide)) (by decide) (by decide) (by decide) (by decide) rfl (by rw [hml]; rfl) (lenOf own_pd7 rfl) rfl (by show 2 * 0 + _ ≤ _; exact Nat.le_of_eq rfl) (hb hby at_413) ?_
      rintro T44 L44 _ X44 ⟨rfl, N44q, e44⟩
      have N44 := Fr.app N43 N44q
      show own_Wp _ _ _ _ (T44.setTop (mkF m 416 #[iv p1, iv p2, iv p3, iv p4, iv p5, iv (Int32.ofNat n), rv b1, rv b9, iv br, iv bnd, iv hbv, iv hd, rv txo, iv dpv, rv b19, rv dA, uu] [(.int (own_cI 2 2 c11 c12 c21 c00 ((own_tq (own_chr e1) (own_chr e2) (own_chr e3)) 2) ((own_tq (own_chr c1) (own_chr c2) (own_chr c3)) 2) ((own_tq (own_chr e1) (own_chr e2) (own_chr e3)) 1) ((own_tq (own_chr c1) (own_chr c2) (own_chr c3)) 1) hd hbv)), (.int (2 : Int32)), (.ref r2)]))
      obtain ⟨c22, h_c22⟩ : ∃ q : Int32, q = (own_cI 2 2 c11 c12 c21 c00 ((own_tq (own_chr e1) (own_chr e2) (own_chr e3)) 2) ((own_tq (own_chr c1) (own_chr c2) (own_chr c3)) 2) ((own_tq (own_chr e1) (own_chr e2) (own_chr e3)) 1) ((own_tq (own_chr c1) (own_chr c2) (own_chr c3)) 1) hd hbv) := ⟨_, rfl⟩
      rw [← h_c22]
      obtain ⟨T45, h45, X45, e45, W45, Aq45, st45⟩ := own_stI X44 hx hZ e44 V_r2 (j := (2 : Int32)) (i := 2) (x := c22) (by decide) (by decide) (g := (mkF m 416 #[iv p1, iv p2, iv p3, iv p4, iv p5, iv (Int32.ofNat n), rv b1, rv b9, iv br, iv bnd, iv hbv, iv hd, rv txo, iv dpv, rv b19, rv dA, uu] [(.int c22), (.int (2 : Int32)), (.ref r2)])) rfl rfl (hb hby at_416)
      refine own_of st45 ?_
      clear st45
      replace Zs := Nat.le_trans Zs (Keep.of_wr W45).1
      replace V_b1 := V_b1.other W45 ne_b1_r2
      replace V_b9 := V_b9.other W45 ne_b9_r2
      replace E_xo := E_xo.wr W45
      replace F_bound_xo := F_bound_xo.other W45 (Or.inl ne_b19_r2)
      replace F_headBound_xo := F_headBound_xo.other W45 (Or.inl ne_b19_r2)
      replace F_levels_xo := F_levels_xo.other W45 (Or.inl ne_b19_r2)
      replace F_columns_xo := F_columns_xo.other W45 (Or.inl ne_b19_r2)
      replace F_lastColumn_xo := F_lastColumn_xo.other W45 (Or.inl ne_b19_r2)
      replace F_outsideHead_xo := F_outsideHead_xo.other W45 (Or.inl ne_b19_r2)
      replace F_codePoints_xo := F_codePoints_xo.other W45 (Or.inl ne_b19_r2)
      replace F_columnsOf_xo := F_columnsOf_xo.other W45 (Or.inl ne_b19_r2)
      replace F_rows_xo := F_rows_xo.other W45 (Or.inl ne_b19_r2)
      replace F_matches_xo := F_matches_xo.other W45 (Or.inl ne_b19_r2)
      replace V_ac := V_ac.other W45 ne_ac_r2
      replace V_ao := V_ao.other W45 ne_ao_r2
      replace V_ar := V_ar.other W45 ne_ar_r2
      replace V_am := V_am.other W45 ne_am_r2
      replace V_dA := V_dA.other W45 ne_dA_r2
      replace V_r0 := V_r0.other W45 ne_r0_r2
      replace V_r1 := V_r1.other W45 ne_r1_r2
      replace V_r3 := V_r3.other W45 (Ne.symm ne_r2_r3)
      replace V_r2 := Aq45
      clear Aq45
      replace V_r2 := V_r2.fn (f' := fun k => .int ((own_upd (own_upd (own_upd (fun _ => (0 : Int32)) 0 c20) 1 c21) 2 c22) k)) (fun k hk => own_setI _ _ _ k)
      have N45 := Fr.snoc X45 N44 g_r2
      refine own_of (fun tgt kon => XS.aload X45.here hx rfl (hb hby at_417) rfl rfl kon) ?_
      refine own_of (fun tgt kon => XS.iconst X45.here hx rfl (hb hby at_419) kon) ?_
      refine own_aaloadA X45 hx hZ e45 V_dA (j := (2 : Int32)) (i := 2) (v := (.ref r2)) (by decide) (by decide) rfl rfl rfl (hb hby at_420) ?_
      refine own_of (fun tgt kon => XS.iconst X45.here hx rfl (hb hby at_421) kon) ?_
      show own_Wp _ _ _ _ (T45.setTop (mkF m 422 #[iv p1, iv p2, iv p3, iv p4, iv p5, iv (Int32.ofNat n), rv b1, rv b9, iv br, iv bnd, iv hbv, iv hd, rv txo, iv dpv, rv b19, rv dA, uu] [(.int (3 : Int32)), (.ref r2)]))
      refine own_of (fun tgt kon => XS.aload X45.here hx rfl (hb hby at_422) rfl rfl kon) ?_
      refine own_of (fun tgt kon => XS.iconst X45.here hx rfl (hb hby at_424) kon) ?_
      refine own_of (fun tgt kon => XS.iconst X45.here hx rfl (hb hby at_425) kon) ?_
      refine own_of (fun tgt kon => XS.aload X45.here hx rfl (hb hby at_426) rfl rfl kon) ?_
      refine own_of (fun tgt kon => XS.aload X45.here hx rfl (hb hby at_428) rfl rfl kon) ?_
      show own_Wp _ _ _ _ (T45.setTop (mkF m 430 #[iv p1, iv p2, iv p3, iv p4, iv p5, iv (Int32.ofNat n), rv b1, rv b9, iv br, iv bnd, iv hbv, iv hd, rv txo, iv dpv, rv b19, rv dA, uu] [(.ref b9), (.ref b1), (.int (3 : Int32)), (.int (2 : Int32)), (.ref dA), (.int (3 : Int32)), (.ref r2)]))
      refine own_of (fun tgt kon => XS.iload X45.here hx rfl (hb hby at_430) rfl kon) ?_
      refine own_of (fun tgt kon => XS.iload X45.here hx rfl (hb hby at_432) rfl kon) ?_
      refine own_callS X45 hx hZ (y := (⟨"com/example/close_words/closewords/BitRowsFillPinLaw", "cell", "([[III[I[III)I"⟩ : MethodName)) (argsL := [(.ref dA), (.int (2 : Int32)), (.int (3 : Int32)), (.ref b1), (.ref b9), (.int hd), (.int hbv)]) (rest := [(.int (3 : Int32)), (.ref r2)]) (W := 2) hown (ow hw 53 rfl) (ow hw 54 rfl) (ow hw 3 rfl) (ow hw 55 rfl) (by decide) e45 (rmcell l Z a0 hw [] dA 2 3 b1 b9 hd hbv (own_rr r0 r1 r2 r3) (own_ff (own_upd (own_upd (own_upd (own_upd (fun _ => (0 : Int32)) 0 c00) 1 c01) 2 c02) 3 c03) (own_upd (own_upd (own_upd (own_upd (fun _ => (0 : Int32)) 0 c10) 1 c11) 2 c12) 3 c13) (own_upd (own_upd (own_upd (fun _ => (0 : Int32)) 0 c20) 1 c21) 2 c22) (own_upd (fun _ => (0 : Int32)) 0 c30)) (own_tq (own_chr c1) (own_chr c2) (own_chr c3)) (own_tq (own_chr e1) (own_chr e2) (own_chr e3)) h45 n0 Zs V_dA (own_rows4 V_r0 V_r1 V_r2 V_r3) V_b1 V_b9 (by decide) (by decide) (by decide) (by decide)) (by decide) (by decide) (by decide) (by decide) rfl (by rw [hml]; rfl) (lenOf own_pd7 rfl) rfl (by show 2 * 0 + _ ≤ _; exact Nat.le_of_eq rfl) (hb hby at_434) ?_
      rintro T46 L46 _ X46 ⟨rfl, N46q, e46⟩
      have N46 := Fr.app N45 N46q
      show own_Wp _ _ _ _ (T46.setTop (mkF m 437 #[iv p1, iv p2, iv p3, iv p4, iv p5, iv (Int32.ofNat n), rv b1, rv b9, iv br, iv bnd, iv hbv, iv hd, rv txo, iv dpv, rv b19, rv dA, uu] [(.int (own_cI 2 3 c12 c13 c22 c01 ((own_tq (own_chr e1) (own_chr e2) (own_chr e3)) 2) ((own_tq (own_chr c1) (own_chr c2) (own_chr c3)) 3) ((own_tq (own_chr e1) (own_chr e2) (own_chr e3)) 1) ((own_tq (own_chr c1) (own_chr c2) (own_chr c3)) 2) hd hbv)), (.int (3 : Int32)), (.ref r2)]))
      obtain ⟨c23, h_c23⟩ : ∃ q : Int32, q = (own_cI 2 3 c12 c13 c22 c01 ((own_tq (own_chr e1) (own_chr e2) (own_chr e3)) 2) ((own_tq (own_chr c1) (own_chr c2) (own_chr c3)) 3) ((own_tq (own_chr e1) (own_chr e2) (own_chr e3)) 1) ((own_tq (own_chr c1) (own_chr c2) (own_chr c3)) 2) hd hbv) := ⟨_, rfl⟩
      rw [← h_c23]
      obtain ⟨T47, h47, X47, e47, W47, Aq47, st47⟩ := own_stI X46 hx hZ e46 V_r2 (j := (3 : Int32)) (i := 3) (x := c23) (by decide) (by decide) (g := (mkF m 437 #[iv p1, iv p2, iv p3, iv p4, iv p5, iv (Int32.ofNat n), rv b1, rv b9, iv br, iv bnd, iv hbv, iv hd, rv txo, iv dpv, rv b19, rv dA, uu] [(.int c23), (.int (3 : Int32)), (.ref r2)])) rfl rfl (hb hby at_437)
      refine own_of st47 ?_
      clear st47
      replace Zs := Nat.le_trans Zs (Keep.of_wr W47).1
      replace V_b1 := V_b1.other W47 ne_b1_r2
      replace V_b9 := V_b9.other W47 ne_b9_r2
      replace E_xo := E_xo.wr W47
      replace F_bound_xo := F_bound_xo.other W47 (Or.inl ne_b19_r2)
      replace F_headBound_xo := F_headBound_xo.other W47 (Or.inl ne_b19_r2)
      replace F_levels_xo := F_levels_xo.other W47 (Or.inl ne_b19_r2)
      replace F_columns_xo := F_columns_xo.other W47 (Or.inl ne_b19_r2)
      replace F_lastColumn_xo := F_lastColumn_xo.other W47 (Or.inl ne_b19_r2)
      replace F_outsideHead_xo := F_outsideHead_xo.other W47 (Or.inl ne_b19_r2)
      replace F_codePoints_xo := F_codePoints_xo.other W47 (Or.inl ne_b19_r2)
      replace F_columnsOf_xo := F_columnsOf_xo.other W47 (Or.inl ne_b19_r2)
      replace F_rows_xo := F_rows_xo.other W47 (Or.inl ne_b19_r2)
      replace F_matches_xo := F_matches_xo.other W47 (Or.inl ne_b19_r2)
      replace V_ac := V_ac.other W47 ne_ac_r2
      replace V_ao := V_ao.other W47 ne_ao_r2
      replace V_ar := V_ar.other W47 ne_ar_r2
      replace V_am := V_am.other W47 ne_am_r2
      replace V_dA := V_dA.other W47 ne_dA_r2
      replace V_r0 := V_r0.other W47 ne_r0_r2
      replace V_r1 := V_r1.other W47 ne_r1_r2
      replace V_r3 := V_r3.other W47 (Ne.symm ne_r2_r3)
      replace V_r2 := Aq47
      clear Aq47
      replace V_r2 := V_r2.fn (f' := fun k => .int ((own_upd (own_upd (own_upd (own_upd (fun _ => (0 : Int32)) 0 c20) 1 c21) 2 c22) 3 c23) k)) (fun k hk => own_setI _ _ _ k)
      have N47 := Fr.snoc X47 N46 g_r2
      refine own_of (fun tgt kon => XS.aload X47.here hx rfl (hb hby at_438) rfl rfl kon) ?_
      refine own_of (fun tgt kon => XS.iconst X47.here hx rfl (hb hby at_440) kon) ?_
      refine own_aaloadA X47 hx hZ e47 V_dA (j := (3 : Int32)) (i := 3) (v := (.ref r3)) (by decide) (by decide) rfl rfl rfl (hb hby at_441) ?_
      refine own_of (fun tgt kon => XS.iconst X47.here hx rfl (hb hby at_442) kon) ?_
      show own_Wp _ _ _ _ (T47.setTop (mkF m 443 #[iv p1, iv p2, iv p3, iv p4, iv p5, iv (Int32.ofNat n), rv b1, rv b9, iv br, iv bnd, iv hbv, iv hd, rv txo, iv dpv, rv b19, rv dA, uu] [(.int (1 : Int32)), (.ref r3)]))
      refine own_of (fun tgt kon => XS.aload X47.here hx rfl (hb hby at_443) rfl rfl kon) ?_
      refine own_of (fun tgt kon => XS.iconst X47.here hx rfl (hb hby at_445) kon) ?_
      refine own_of (fun tgt kon => XS.iconst X47.here hx rfl (hb hby at_446) kon) ?_
      refine own_of (fun tgt kon => XS.aload X47.here hx rfl (hb hby at_447) rfl rfl kon) ?_
      refine own_of (fun tgt kon => XS.aload X47.here hx rfl (hb hby at_449) rfl rfl kon) ?_
      show own_Wp _ _ _ _ (T47.setTop (mkF m 451 #[iv p1, iv p2, iv p3, iv p4, iv p5, iv (Int32.ofNat n), rv b1, rv b9, iv br, iv bnd, iv hbv, iv hd, rv txo, iv dpv, rv b19, rv dA, uu] [(.ref b9), (.ref b1), (.int (1 : Int32)), (.int (3 : Int32)), (.ref dA), (.int (1 : Int32)), (.ref r3)]))
      refine own_of (fun tgt kon => XS.iload X47.here hx rfl (hb hby at_451) rfl kon) ?_
      refine own_of (fun tgt kon => XS.iload X47.here hx rfl (hb hby at_453) rfl kon) ?_
      refine own_callS X47 hx hZ (y := (⟨"com/example/close_words/closewords/BitRowsFillPinLaw", "cell", "([[III[I[III)I"⟩ : MethodName)) (argsL := [(.ref dA), (.int (3 : Int32)), (.int (1 : Int32)), (.ref b1), (.ref b9), (.int hd), (.int hbv)]) (rest := [(.int (1 : Int32)), (.ref r3)]) (W := 2) hown (ow hw 53 rfl) (ow hw 54 rfl) (ow hw 3 rfl) (ow hw 55 rfl) (by decide) e47 (rmcell l Z a0 hw [] dA 3 1 b1 b9 hd hbv (own_rr r0 r1 r2 r3) (own_ff (own_upd (own_upd (own_upd (own_upd (fun _ => (0 : Int32)) 0 c00) 1 c01) 2 c02) 3 c03) (own_upd (own_upd (own_upd (own_upd (fun _ => (0 : Int32)) 0 c10) 1 c11) 2 c12) 3 c13) (own_upd (own_upd (own_upd (own_upd (fun _ => (0 : Int32)) 0 c20) 1 c21) 2 c22) 3 c23) (own_upd (fun _ => (0 : Int32)) 0 c30)) (own_tq (own_chr c1) (own_chr c2) (own_chr c3)) (own_tq (own_chr e1) (own_chr e2) (own_chr e3)) h47 n0 Zs V_dA (own_rows4 V_r0 V_r1 V_r2 V_r3) V_b1 V_b9 (by decide) (by decide) (by decide) (by decide)) (by decide) (by decide) (by decide) (by decide) rfl (by rw [hml]; rfl) (lenOf own_pd7 rfl) rfl (by show 2 * 0 + _ ≤ _; exact Nat.le_of_eq rfl) (hb hby at_455) ?_
      rintro T48 L48 _ X48 ⟨rfl, N48q, e48⟩
      have N48 := Fr.app N47 N48q
      show own_Wp _ _ _ _ (T48.setTop (mkF m 458 #[iv p1, iv p2, iv p3, iv p4, iv p5, iv (Int32.ofNat n), rv b1, rv b9, iv br, iv bnd, iv hbv, iv hd, rv txo, iv dpv, rv b19, rv dA, uu] [(.int (own_cI 3 1 c20 c21 c30 c10 ((own_tq (own_chr e1) (own_chr e2) (own_chr e3)) 3) ((own_tq (own_chr c1) (own_chr c2) (own_chr c3)) 1) ((own_tq (own_chr e1) (own_chr e2) (own_chr e3)) 2) ((own_tq (own_chr c1) (own_chr c2) (own_chr c3)) 0) hd hbv)), (.int (1 : Int32)), (.ref r3)]))
      obtain ⟨c31, h_c31⟩ : ∃ q : Int32, q = (own_cI 3 1 c20 c21 c30 c10 ((own_tq (own_chr e1) (own_chr e2) (own_chr e3)) 3) ((own_tq (own_chr c1) (own_chr c2) (own_chr c3)) 1) ((own_tq (own_chr e1) (own_chr e2) (own_chr e3)) 2) ((own_tq (own_chr c1) (own_chr c2) (own_chr c3)) 0) hd hbv) := ⟨_, rfl⟩
      rw [← h_c31]
      obtain ⟨T49, h49, X49, e49, W49, Aq49, st49⟩ := own_stI X48 hx hZ e48 V_r3 (j := (1 : Int32)) (i := 1) (x := c31) (by decide) (by decide) (g := (mkF m 458 #[iv p1, iv p2, iv p3, iv p4, iv p5, iv (Int32.ofNat n), rv b1, rv b9, iv br, iv bnd, iv hbv, iv hd, rv txo, iv dpv, rv b19, rv dA, uu] [(.int c31), (.int (1 : Int32)), (.ref r3)])) rfl rfl (hb hby at_458)
      refine own_of st49 ?_
      clear st49
      replace Zs := Nat.le_trans Zs (Keep.of_wr W49).1
      replace V_b1 := V_b1.other W49 ne_b1_r3
      replace V_b9 := V_b9.other W49 ne_b9_r3
      replace E_xo := E_xo.wr W49
      replace F_bound_xo := F_bound_xo.other W49 (Or.inl ne_b19_r3)
      replace F_headBound_xo := F_headBound_xo.other W49 (Or.inl ne_b19_r3)
      replace F_levels_xo := F_levels_xo.other W49 (Or.inl ne_b19_r3)
      replace F_columns_xo := F_columns_xo.other W49 (Or.inl ne_b19_r3)
      replace F_lastColumn_xo := F_lastColumn_xo.other W49 (Or.inl ne_b19_r3)
      replace F_outsideHead_xo := F_outsideHead_xo.other W49 (Or.inl ne_b19_r3)
      replace F_codePoints_xo := F_codePoints_xo.other W49 (Or.inl ne_b19_r3)
      replace F_columnsOf_xo := F_columnsOf_xo.other W49 (Or.inl ne_b19_r3)
      replace F_rows_xo := F_rows_xo.other W49 (Or.inl ne_b19_r3)
      replace F_matches_xo := F_matches_xo.other W49 (Or.inl ne_b19_r3)
      replace V_ac := V_ac.other W49 ne_ac_r3
      replace V_ao := V_ao.other W49 ne_ao_r3
      replace V_ar := V_ar.other W49 ne_ar_r3
      replace V_am := V_am.other W49 ne_am_r3
      replace V_dA := V_dA.other W49 ne_dA_r3
      replace V_r0 := V_r0.other W49 ne_r0_r3
      replace V_r1 := V_r1.other W49 ne_r1_r3
      replace V_r2 := V_r2.other W49 ne_r2_r3
      replace V_r3 := Aq49
      clear Aq49
      replace V_r3 := V_r3.fn (f' := fun k => .int ((own_upd (own_upd (fun _ => (0 : Int32)) 0 c30) 1 c31) k)) (fun k hk => own_setI _ _ _ k)
      have N49 := Fr.snoc X49 N48 g_r3
      refine own_of (fun tgt kon => XS.aload X49.here hx rfl (hb hby at_459) rfl rfl kon) ?_
      refine own_of (fun tgt kon => XS.iconst X49.here hx rfl (hb hby at_461) kon) ?_
      refine own_aaloadA X49 hx hZ e49 V_dA (j := (3 : Int32)) (i := 3) (v := (.ref r3)) (by decide) (by decide) rfl rfl rfl (hb hby at_462) ?_
      refine own_of (fun tgt kon => XS.iconst X49.here hx rfl (hb hby at_463) kon) ?_
      show own_Wp _ _ _ _ (T49.setTop (mkF m 464 #[iv p1, iv p2, iv p3, iv p4, iv p5, iv (Int32.ofNat n), rv b1, rv b9, iv br, iv bnd, iv hbv, iv hd, rv txo, iv dpv, rv b19, rv dA, uu] [(.int (2 : Int32)), (.ref r3)]))
      refine own_of (fun tgt kon => XS.aload X49.here hx rfl (hb hby at_464) rfl rfl kon) ?_
      refine own_of (fun tgt kon => XS.iconst X49.here hx rfl (hb hby at_466) kon) ?_
      refine own_of (fun tgt kon => XS.iconst X49.here hx rfl (hb hby at_467) kon) ?_
      refine own_of (fun tgt kon => XS.aload X49.here hx rfl (hb hby at_468) rfl rfl kon) ?_
      refine own_of (fun tgt kon => XS.aload X49.here hx rfl (hb hby at_470) rfl rfl kon) ?_
      show own_Wp _ _ _ _ (T49.setTop (mkF m 472 #[iv p1, iv p2, iv p3, iv p4, iv p5, iv (Int32.ofNat n), rv b1, rv b9, iv br, iv bnd, iv hbv, iv hd, rv txo, iv dpv, rv b19, rv dA, uu] [(.ref b9), (.ref b1), (.int (2 : Int32)), (.int (3 : Int32)), (.ref dA), (.int (2 : Int32)), (.ref r3)]))
      refine own_of (fun tgt kon => XS.iload X49.here hx rfl (hb hby at_472) rfl kon) ?_
      refine own_of (fun tgt kon => XS.iload X49.here hx rfl (hb hby at_474) rfl kon) ?_
      refine own_callS X49 hx hZ (y := (⟨"com/example/close_words/closewords/BitRowsFillPinLaw", "cell", "([[III[I[III)I"⟩ : MethodName)) (argsL := [(.ref dA), (.int (3 : Int32)), (.int (2 : Int32)), (.ref b1), (.ref b9), (.int hd), (.int hbv)]) (rest := [(.int (2 : Int32)), (.ref r3)]) (W := 2) hown (ow hw 53 rfl) (ow hw 54 rfl) (ow hw 3 rfl) (ow hw 55 rfl) (by decide) e49 (rmcell l Z a0 hw [] dA 3 2 b1 b9 hd hbv (own_rr r0 r1 r2 r3) (own_ff (own_upd (own_upd (own_upd (own_upd (fun _ => (0 : Int32)) 0 c00) 1 c01) 2 c02) 3 c03) (own_upd (own_upd (own_upd (own_upd (fun _ => (0 : Int32)) 0 c10) 1 c11) 2 c12) 3 c13) (own_upd (own_upd (own_upd (own_upd (fun _ => (0 : Int32)) 0 c20) 1 c21) 2 c22) 3 c23) (own_upd (own_upd (fun _ => (0 : Int32)) 0 c30) 1 c31)) (own_tq (own_chr c1) (own_chr c2) (own_chr c3)) (own_tq (own_chr e1) (own_chr e2) (own_chr e3)) h49 n0 Zs V_dA (own_rows4 V_r0 V_r1 V_r2 V_r3) V_b1 V_b9 (by decide) (by decide) (by decide) (by decide)) (by decide) (by decide) (by decide) (by decide) rfl (by rw [hml]; rfl) (lenOf own_pd7 rfl) rfl (by show 2 * 0 + _ ≤ _; exact Nat.le_of_eq rfl) (hb hby at_476) ?_
      rintro T50 L50 _ X50 ⟨rfl, N50q, e50⟩
      have N50 := Fr.app N49 N50q
      show own_Wp _ _ _ _ (T50.setTop (mkF m 479 #[iv p1, iv p2, iv p3, iv p4, iv p5, iv (Int32.ofNat n), rv b1, rv b9, iv br, iv bnd, iv hbv, iv hd, rv txo, iv dpv, rv b19, rv dA, uu] [(.int (own_cI 3 2 c21 c22 c31 c10 ((own_tq (own_chr e1) (own_chr e2) (own_chr e3)) 3) ((own_tq (own_chr c1) (own_chr c2) (own_chr c3)) 2) ((own_tq (own_chr e1) (own_chr e2) (own_chr e3)) 2) ((own_tq (own_chr c1) (own_chr c2) (own_chr c3)) 1) hd hbv)), (.int (2 : Int32)), (.ref r3)]))
      obtain ⟨c32, h_c32⟩ : ∃ q : Int32, q = (own_cI 3 2 c21 c22 c31 c10 ((own_tq (own_chr e1) (own_chr e2) (own_chr e3)) 3) ((own_tq (own_chr c1) (own_chr c2) (own_chr c3)) 2) ((own_tq (own_chr e1) (own_chr e2) (own_chr e3)) 2) ((own_tq (own_chr c1) (own_chr c2) (own_chr c3)) 1) hd hbv) := ⟨_, rfl⟩
      rw [← h_c32]
      obtain ⟨T51, h51, X51, e51, W51, Aq51, st51⟩ := own_stI X50 hx hZ e50 V_r3 (j := (2 : Int32)) (i := 2) (x := c32) (by decide) (by decide) (g := (mkF m 479 #[iv p1, iv p2, iv p3, iv p4, iv p5, iv (Int32.ofNat n), rv b1, rv b9, iv br, iv bnd, iv hbv, iv hd, rv txo, iv dpv, rv b19, rv dA, uu] [(.int c32), (.int (2 : Int32)), (.ref r3)])) rfl rfl (hb hby at_479)
      refine own_of st51 ?_
      clear st51
      replace Zs := Nat.le_trans Zs (Keep.of_wr W51).1
      replace V_b1 := V_b1.other W51 ne_b1_r3
      replace V_b9 := V_b9.other W51 ne_b9_r3
      replace E_xo := E_xo.wr W51
      replace F_bound_xo := F_bound_xo.other W51 (Or.inl ne_b19_r3)
      replace F_headBound_xo := F_headBound_xo.other W51 (Or.inl ne_b19_r3)
      replace F_levels_xo := F_levels_xo.other W51 (Or.inl ne_b19_r3)
      replace F_columns_xo := F_columns_xo.other W51 (Or.inl ne_b19_r3)
      replace F_lastColumn_xo := F_lastColumn_xo.other W51 (Or.inl ne_b19_r3)
      replace F_outsideHead_xo := F_outsideHead_xo.other W51 (Or.inl ne_b19_r3)
      replace F_codePoints_xo := F_codePoints_xo.other W51 (Or.inl ne_b19_r3)
      replace F_columnsOf_xo := F_columnsOf_xo.other W51 (Or.inl ne_b19_r3)
      replace F_rows_xo := F_rows_xo.other W51 (Or.inl ne_b19_r3)
      replace F_matches_xo := F_matches_xo.other W51 (Or.inl ne_b19_r3)
      replace V_ac := V_ac.other W51 ne_ac_r3
      replace V_ao := V_ao.other W51 ne_ao_r3
      replace V_ar := V_ar.other W51 ne_ar_r3
      replace V_am := V_am.other W51 ne_am_r3
      replace V_dA := V_dA.other W51 ne_dA_r3
      replace V_r0 := V_r0.other W51 ne_r0_r3
      replace V_r1 := V_r1.other W51 ne_r1_r3
      replace V_r2 := V_r2.other W51 ne_r2_r3
      replace V_r3 := Aq51
      clear Aq51
      replace V_r3 := V_r3.fn (f' := fun k => .int ((own_upd (own_upd (own_upd (fun _ => (0 : Int32)) 0 c30) 1 c31) 2 c32) k)) (fun k hk => own_setI _ _ _ k)
      have N51 := Fr.snoc X51 N50 g_r3
      refine own_of (fun tgt kon => XS.aload X51.here hx rfl (hb hby at_480) rfl rfl kon) ?_
      refine own_of (fun tgt kon => XS.iconst X51.here hx rfl (hb hby at_482) kon) ?_
      refine own_aaloadA X51 hx hZ e51 V_dA (j := (3 : Int32)) (i := 3) (v := (.ref r3)) (by decide) (by decide) rfl rfl rfl (hb hby at_483) ?_
      refine own_of (fun tgt kon => XS.iconst X51.here hx rfl (hb hby at_484) kon) ?_
      show own_Wp _ _ _ _ (T51.setTop (mkF m 485 #[iv p1, iv p2, iv p3, iv p4, iv p5, iv (Int32.ofNat n), rv b1, rv b9, iv br, iv bnd, iv hbv, iv hd, rv txo, iv dpv, rv b19, rv dA, uu] [(.int (3 : Int32)), (.ref r3)]))
      refine own_of (fun tgt kon => XS.aload X51.here hx rfl (hb hby at_485) rfl rfl kon) ?_
      refine own_of (fun tgt kon => XS.iconst X51.here hx rfl (hb hby at_487) kon) ?_
      refine own_of (fun tgt kon => XS.iconst X51.here hx rfl (hb hby at_488) kon) ?_
      refine own_of (fun tgt kon => XS.aload X51.here hx rfl (hb hby at_489) rfl rfl kon) ?_
      refine own_of (fun tgt kon => XS.aload X51.here hx rfl (hb hby at_491) rfl rfl kon) ?_
      show own_Wp _ _ _ _ (T51.setTop (mkF m 493 #[iv p1, iv p2, iv p3, iv p4, iv p5, iv (Int32.ofNat n), rv b1, rv b9, iv br, iv bnd, iv hbv, iv hd, rv txo, iv dpv, rv b19, rv dA, uu] [(.ref b9), (.ref b1), (.int (3 : Int32)), (.int (3 : Int32)), (.ref dA), (.int (3 : Int32)), (.ref r3)]))
      refine own_of (fun tgt kon => XS.iload X51.here hx rfl (hb hby at_493) rfl kon) ?_
      refine own_of (fun tgt kon => XS.iload X51.here hx rfl (hb hby at_495) rfl kon) ?_
      refine own_callS X51 hx hZ (y := (⟨"com/example/close_words/closewords/BitRowsFillPinLaw", "cell", "([[III[I[III)I"⟩ : MethodName)) (argsL := [(.ref dA), (.int (3 : Int32)), (.int (3 : Int32)), (.ref b1), (.ref b9), (.int hd), (.int hbv)]) (rest := [(.int (3 : Int32)), (.ref r3)]) (W := 2) hown (ow hw 53 rfl) (ow hw 54 rfl) (ow hw 3 rfl) (ow hw 55 rfl) (by decide) e51 (rmcell l Z a0 hw [] dA 3 3 b1 b9 hd hbv (own_rr r0 r1 r2 r3) (own_ff (own_upd (own_upd (own_upd (own_upd (fun _ => (0 : Int32)) 0 c00) 1 c01) 2 c02) 3 c03) (own_upd (own_upd (own_upd (own_upd (fun _ => (0 : Int32)) 0 c10) 1 c11) 2 c12) 3 c13) (own_upd (own_upd (own_upd (own_upd (fun _ => (0 : Int32)) 0 c20) 1 c21) 2 c22) 3 c23) (own_upd (own_upd (own_upd (fun _ => (0 : Int32)) 0 c30) 1 c31) 2 c32)) (own_tq (own_chr c1) (own_chr c2) (own_chr c3)) (own_tq (own_chr e1) (own_chr e2) (own_chr e3)) h51 n0 Zs V_dA (own_rows4 V_r0 V_r1 V_r2 V_r3) V_b1 V_b9 (by decide) (by decide) (by decide) (by decide)) (by decide) (by decide) (by decide) (by decide) rfl (by rw [hml]; rfl) (lenOf own_pd7 rfl) rfl (by show 2 * 0 + _ ≤ _; exact Nat.le_of_eq rfl) (hb hby at_497) ?_
      rintro T52 L52 _ X52 ⟨rfl, N52q, e52⟩
      have N52 := Fr.app N51 N52q
      show own_Wp _ _ _ _ (T52.setTop (mkF m 500 #[iv p1, iv p2, iv p3, iv p4, iv p5, iv (Int32.ofNat n), rv b1, rv b9, iv br, iv bnd, iv hbv, iv hd, rv txo, iv dpv, rv b19, rv dA, uu] [(.int (own_cI 3 3 c22 c23 c32 c11 ((own_tq (own_chr e1) (own_chr e2) (own_chr e3)) 3) ((own_tq (own_chr c1) (own_chr c2) (own_chr c3)) 3) ((own_tq (own_chr e1) (own_chr e2) (own_chr e3)) 2) ((own_tq (own_chr c1) (own_chr c2) (own_chr c3)) 2) hd hbv)), (.int (3 : Int32)), (.ref r3)]))
      obtain ⟨c33, h_c33⟩ : ∃ q : Int32, q = (own_cI 3 3 c22 c23 c32 c11 ((own_tq (own_chr e1) (own_chr e2) (own_chr e3)) 3) ((own_tq (own_chr c1) (own_chr c2) (own_chr c3)) 3) ((own_tq (own_chr e1) (own_chr e2) (own_chr e3)) 2) ((own_tq (own_chr c1) (own_chr c2) (own_chr c3)) 2) hd hbv) := ⟨_, rfl⟩
      rw [← h_c33]
      obtain ⟨T53, h53, X53, e53, W53, Aq53, st53⟩ := own_stI X52 hx hZ e52 V_r3 (j := (3 : Int32)) (i := 3) (x := c33) (by decide) (by decide) (g := (mkF m 500 #[iv p1, iv p2, iv p3, iv p4, iv p5, iv (Int32.ofNat n), rv b1, rv b9, iv br, iv bnd, iv hbv, iv hd, rv txo, iv dpv, rv b19, rv dA, uu] [(.int c33), (.int (3 : Int32)), (.ref r3)])) rfl rfl (hb hby at_500)
      refine own_of st53 ?_
      clear st53
      replace Zs := Nat.le_trans Zs (Keep.of_wr W53).1
      replace V_b1 := V_b1.other W53 ne_b1_r3
      replace V_b9 := V_b9.other W53 ne_b9_r3
      replace E_xo := E_xo.wr W53
      replace F_bound_xo := F_bound_xo.other W53 (Or.inl ne_b19_r3)
      replace F_headBound_xo := F_headBound_xo.other W53 (Or.inl ne_b19_r3)
      replace F_levels_xo := F_levels_xo.other W53 (Or.inl ne_b19_r3)
      replace F_columns_xo := F_columns_xo.other W53 (Or.inl ne_b19_r3)
      replace F_lastColumn_xo := F_lastColumn_xo.other W53 (Or.inl ne_b19_r3)
      replace F_outsideHead_xo := F_outsideHead_xo.other W53 (Or.inl ne_b19_r3)
      replace F_codePoints_xo := F_codePoints_xo.other W53 (Or.inl ne_b19_r3)
      replace F_columnsOf_xo := F_columnsOf_xo.other W53 (Or.inl ne_b19_r3)
      replace F_rows_xo := F_rows_xo.other W53 (Or.inl ne_b19_r3)
      replace F_matches_xo := F_matches_xo.other W53 (Or.inl ne_b19_r3)
      replace V_ac := V_ac.other W53 ne_ac_r3
      replace V_ao := V_ao.other W53 ne_ao_r3
      replace V_ar := V_ar.other W53 ne_ar_r3
      replace V_am := V_am.other W53 ne_am_r3
      replace V_dA := V_dA.other W53 ne_dA_r3
      replace V_r0 := V_r0.other W53 ne_r0_r3
      replace V_r1 := V_r1.other W53 ne_r1_r3
      replace V_r2 := V_r2.other W53 ne_r2_r3
      replace V_r3 := Aq53
      clear Aq53
      replace V_r3 := V_r3.fn (f' := fun k => .int ((own_upd (own_upd (own_upd (own_upd (fun _ => (0 : Int32)) 0 c30) 1 c31) 2 c32) 3 c33) k)) (fun k hk => own_setI _ _ _ k)
      have N53 := Fr.snoc X53 N52 g_r3
      show own_Wp _ _ _ _ (T53.setTop (mkF m 501 #[iv p1, iv p2, iv p3, iv p4, iv p5, iv (Int32.ofNat n), rv b1, rv b9, iv br, iv bnd, iv hbv, iv hd, rv txo, iv dpv, rv b19, rv dA, uu] []))
      replace V_r0 := V_r0.fn (f' := fun k => .int ((own_r4 c00 c01 c02 c03) k)) (by intro k hk; rcases k with _ | _ | _ | _ | k <;> first | rfl | omega)
      replace V_r1 := V_r1.fn (f' := fun k => .int ((own_r4 c10 c11 c12 c13) k)) (by intro k hk; rcases k with _ | _ | _ | _ | k <;> first | rfl | omega)
      replace V_r2 := V_r2.fn (f' := fun k => .int ((own_r4 c20 c21 c22 c23) k)) (by intro k hk; rcases k with _ | _ | _ | _ | k <;> first | rfl | omega)
      replace V_r3 := V_r3.fn (f' := fun k => .int ((own_r4 c30 c31 c32 c33) k)) (by intro k hk; rcases k with _ | _ | _ | _ | k <;> first | rfl | omega)
      obtain ⟨hg1, hg2, hg3, hq1, hq2, hq3⟩ := own_grid16 hhb (own_tq (own_chr c1) (own_chr c2) (own_chr c3)) (own_tq (own_chr e1) (own_chr e2) (own_chr e3)) h_c00 h_c01 h_c02 h_c03 h_c10 h_c20 h_c30 h_c11 h_c12 h_c13 h_c21 h_c22 h_c23 h_c31 h_c32 h_c33
      clear h_c00 h_c01 h_c02 h_c03 h_c10 h_c20 h_c30 h_c11 h_c12 h_c13 h_c21 h_c22 h_c23 h_c31 h_c32 h_c33
      have hb0 := own_bits0 (head := hd.toInt) hn hbd63 ho hrf0
      have hcols := own_Bt_cols hn
      refine own_of (fun tgt kon => XS.iconst X53.here hx rfl (hb hby at_501) kon) ?_
      refine own_of (fun tgt kon => XS.istore X53.here hx rfl (hb hby at_502) rfl (l' := #[iv p1, iv p2, iv p3, iv p4, iv p5, iv (Int32.ofNat n), rv b1, rv b9, iv br, iv bnd, iv hbv, iv hd, rv txo, iv dpv, rv b19, rv dA, iv (1 : Int32)]) rfl kon) ?_
      refine own_of (fun tgt kon => XS.iload X53.here hx rfl (hb hby at_504) rfl kon) ?_
      refine own_of (fun tgt kon => XS.iconst X53.here hx rfl (hb hby at_506) kon) ?_
      by_cases hc507 : dpv < (1 : Int32)
      · skip
        refine own_of (fun tgt kon => XS.icmpYes X53.here hx rfl (pc0 := 507) (pc' := 545) rfl (hb hby at_507) rfl (tlt hc507).1 (by decide) (by decide) kon) ?_
        refine own_of (fun tgt kon => XS.iload X53.here hx rfl (hb hby at_545) rfl kon) ?_
        show own_Wp _ _ _ _ (T53.setTop (mkF m 547 #[iv p1, iv p2, iv p3, iv p4, iv p5, iv (Int32.ofNat n), rv b1, rv b9, iv br, iv bnd, iv hbv, iv hd, rv txo, iv dpv, rv b19, rv dA, iv (1 : Int32)] [(.int dpv)]))
        refine own_of (fun tgt kon => XS.iconst X53.here hx rfl (hb hby at_547) kon) ?_
        have hc548 : dpv < (2 : Int32) := own_ltT hc507 (by decide)
        refine own_of (fun tgt kon => XS.icmpYes X53.here hx rfl (pc0 := 548) (pc' := 586) rfl (hb hby at_548) rfl (tlt hc548).1 (by decide) (by decide) kon) ?_
        refine own_of (fun tgt kon => XS.iload X53.here hx rfl (hb hby at_586) rfl kon) ?_
        refine own_of (fun tgt kon => XS.iconst X53.here hx rfl (hb hby at_588) kon) ?_
        have hc589 : dpv < (3 : Int32) := own_ltT hc548 (by decide)
        refine own_of (fun tgt kon => XS.icmpYes X53.here hx rfl (pc0 := 589) (pc' := 627) rfl (hb hby at_589) rfl (tlt hc589).1 (by decide) (by decide) kon) ?_
        refine own_of (fun tgt kon => XS.iload X53.here hx rfl (hb hby at_627) rfl kon) ?_
        show own_Wp _ _ _ _ (T53.setTop (mkF m 629 #[iv p1, iv p2, iv p3, iv p4, iv p5, iv (Int32.ofNat n), rv b1, rv b9, iv br, iv bnd, iv hbv, iv hd, rv txo, iv dpv, rv b19, rv dA, iv (1 : Int32)] [(.int (1 : Int32))]))
        refine own_ret X53 hlk (some (.int (1 : Int32))) (own_rtI hrt) (fun fs hr => retN X53 hx (t := .boolean) hrt (by simp) (hb hby at_629) hr) ?_ (by decide) (by decide)
        rw [e53]
        exact ⟨rfl, N53⟩
      · skip
        refine own_of (fun tgt kon => XS.icmpNo X53.here hx rfl (hb hby at_507) rfl (flt hc507).1 kon) ?_
        refine own_of (fun tgt kon => XS.iload X53.here hx rfl (hb hby at_510) rfl kon) ?_
        show own_Wp _ _ _ _ (T53.setTop (mkF m 512 #[iv p1, iv p2, iv p3, iv p4, iv p5, iv (Int32.ofNat n), rv b1, rv b9, iv br, iv bnd, iv hbv, iv hd, rv txo, iv dpv, rv b19, rv dA, iv (1 : Int32)] [(.int (1 : Int32))]))
        have hc512 : ¬ ((1 : Int32) = (0 : Int32)) := by decide
        refine own_of (fun tgt kon => XS.ifNo X53.here hx rfl (hb hby at_512) rfl ((if0 _ _).trans (feq hc512).1) kon) ?_
        refine own_of (fun tgt kon => XS.aload X53.here hx rfl (hb hby at_515) rfl rfl kon) ?_
        refine own_of (fun tgt kon => XS.iconst X53.here hx rfl (hb hby at_517) kon) ?_
        refine own_of (fun tgt kon => XS.aload X53.here hx rfl (hb hby at_518) rfl rfl kon) ?_
        refine own_of (fun tgt kon => XS.iconst X53.here hx rfl (hb hby at_520) kon) ?_
        show own_Wp _ _ _ _ (T53.setTop (mkF m 521 #[iv p1, iv p2, iv p3, iv p4, iv p5, iv (Int32.ofNat n), rv b1, rv b9, iv br, iv bnd, iv hbv, iv hd, rv txo, iv dpv, rv b19, rv dA, iv (1 : Int32)] [(.int (1 : Int32)), (.ref b9), (.int (1 : Int32)), (.ref b19)]))
        refine own_iaload X53 hx hZ e53 V_b9 (j := (1 : Int32)) (i := 1) (v := (own_chr e1)) (by decide) (by decide) rfl rfl rfl (hb hby at_521) ?_
        refine own_of (fun tgt kon => XS.iload X53.here hx rfl (hb hby at_522) rfl kon) ?_
        refine own_of (fun tgt kon => XS.aload X53.here hx rfl (hb hby at_524) rfl rfl kon) ?_
        refine own_of (fun tgt kon => XS.iconst X53.here hx rfl (hb hby at_526) kon) ?_
        refine own_aaloadA X53 hx hZ e53 V_dA (j := (1 : Int32)) (i := 1) (v := (.ref r1)) (by decide) (by decide) rfl rfl rfl (hb hby at_527) ?_
        show own_Wp _ _ _ _ (T53.setTop (mkF m 528 #[iv p1, iv p2, iv p3, iv p4, iv p5, iv (Int32.ofNat n), rv b1, rv b9, iv br, iv bnd, iv hbv, iv hd, rv txo, iv dpv, rv b19, rv dA, iv (1 : Int32)] [(.ref r1), (.int br), (.int (own_chr e1)), (.int (1 : Int32)), (.ref b19)]))
        refine own_of (fun tgt kon => XS.iload X53.here hx rfl (hb hby at_528) rfl kon) ?_
        refine own_of (fun tgt kon => XS.iload X53.here hx rfl (hb hby at_530) rfl kon) ?_
        have hi1 : 1 ≤ dp := own_geT hdp hc507 (by decide)
        obtain ⟨RK1, hRK1, hSK1, hLK1, hBK1⟩ := htab e1
        obtain ⟨F1, hF1⟩ : ∃ z, z = own_F (coF RK1) 0 (own_upTo (Int32.ofNat n)) out ph (fun d => rf0 ((0 * (bd + 1)) + d)) (fun d => rf0 ((0 * (bd + 1)) + d)) := ⟨_, rfl⟩
        have hB1 := own_bitsR1 (t := (own_tq (own_chr c1) (own_chr c2) (own_chr c3))) (k := (own_tq (own_chr e1) (own_chr e2) (own_chr e3))) hn hbd63 ho hcols hBK1 hb0 hF1
        refine own_callS X53 hx hZ (y := (⟨"com/example/close_words/closewords/BitRowsFillPinLaw", "rowOk", "(Lcom/example/close_words/closewords/BitRows;IIZ[III)Z"⟩ : MethodName)) (argsL := [(.ref b19), (.int (1 : Int32)), (.int (own_chr e1)), (.int br), (.ref r1), (.int (Int32.ofNat n)), (.int bnd)]) (rest := []) (W := 0) hown (ow hw 56 rfl) (ow hw 57 rfl) (ow hw 3 rfl) (ow hw 58 rfl) (by decide) e53 (rmrk1 l Z a0 hw [] b19 (own_chr e1) br ac ao ar am cpF coF rf0 (fun _ => (0 : Int64)) F1 (bnd + (1 : Int32)) hbv (own_upTo (Int32.ofNat n)) out bd ph ((dp + 1) * (bd + 1)) (dp + 1) RK1 r1 n bnd (own_R1r hd.toInt ph (own_tq (own_chr c1) (own_chr c2) (own_chr c3)) (own_tq (own_chr e1) (own_chr e2) (own_chr e3))) (own_r4 c10 c11 c12 c13) h53 n0 Zs E_xo F_columnsOf_xo F_codePoints_xo F_matches_xo F_rows_xo F_levels_xo F_columns_xo F_headBound_xo F_outsideHead_xo V_ac V_ao V_ar V_am ne_b19_ar ne_b19_am ne_ac_ar ne_ac_am ne_ao_ar ne_ao_am ne_am_ar g_ar g_am hlv hbd63 hhb hhb63 (Nat.mul_le_mul_right _ (by omega)) (by omega) hRK1 hSK1 hLK1 (by rw [hF1]; rfl) (by intro d; rw [hF1]; exact own_F_succ _ _ _ _ _ _ _ d) F_bound_xo F_lastColumn_xo V_r1 (Ne.symm ne_ar_r1) (Ne.symm ne_am_r1) hn hbd hg1 hq1 hB1) (by decide) (by decide) (by decide) (by decide) rfl (by rw [hml]; rfl) (lenOf own_pd8 rfl) rfl (by show 2 * 0 + _ ≤ _; exact Nat.le_of_eq rfl) (hb hby at_532) ?_
        rintro T54 L54 _ X54 ⟨rfl, N54q, Kq54, V_ar_q, V_am_q⟩
        have N54 := Fr.app N53 N54q
        show own_Wp _ _ _ _ (T54.setTop (mkF m 535 #[iv p1, iv p2, iv p3, iv p4, iv p5, iv (Int32.ofNat n), rv b1, rv b9, iv br, iv bnd, iv hbv, iv hd, rv txo, iv dpv, rv b19, rv dA, iv (1 : Int32)] [(.int (1 : Int32))]))
        replace Zs := Nat.le_trans Zs Kq54.1
        replace V_b1 := V_b1.keep Kq54 (ninS ne_b1_ar (ninS ne_b1_am nin0))
        replace V_b9 := V_b9.keep Kq54 (ninS ne_b9_ar (ninS ne_b9_am nin0))
        replace E_xo := E_xo.keep Kq54
        replace F_bound_xo := F_bound_xo.keep Kq54 (ninS ne_b19_ar (ninS ne_b19_am nin0))
        replace F_headBound_xo := F_headBound_xo.keep Kq54 (ninS ne_b19_ar (ninS ne_b19_am nin0))
        replace F_levels_xo := F_levels_xo.keep Kq54 (ninS ne_b19_ar (ninS ne_b19_am nin0))
        replace F_columns_xo := F_columns_xo.keep Kq54 (ninS ne_b19_ar (ninS ne_b19_am nin0))
        replace F_lastColumn_xo := F_lastColumn_xo.keep Kq54 (ninS ne_b19_ar (ninS ne_b19_am nin0))
        replace F_outsideHead_xo := F_outsideHead_xo.keep Kq54 (ninS ne_b19_ar (ninS ne_b19_am nin0))
        replace F_codePoints_xo := F_codePoints_xo.keep Kq54 (ninS ne_b19_ar (ninS ne_b19_am nin0))
        replace F_columnsOf_xo := F_columnsOf_xo.keep Kq54 (ninS ne_b19_ar (ninS ne_b19_am nin0))
        replace F_rows_xo := F_rows_xo.keep Kq54 (ninS ne_b19_ar (ninS ne_b19_am nin0))
        replace F_matches_xo := F_matches_xo.keep Kq54 (ninS ne_b19_ar (ninS ne_b19_am nin0))
        replace V_ac := V_ac.keep Kq54 (ninS ne_ac_ar (ninS ne_ac_am nin0))
        replace V_ao := V_ao.keep Kq54 (ninS ne_ao_ar (ninS ne_ao_am nin0))
        replace V_dA := V_dA.keep Kq54 (ninS (Ne.symm ne_ar_dA) (ninS (Ne.symm ne_am_dA) nin0))
        replace V_r0 := V_r0.keep Kq54 (ninS (Ne.symm ne_ar_r0) (ninS (Ne.symm ne_am_r0) nin0))
        replace V_r1 := V_r1.keep Kq54 (ninS (Ne.symm ne_ar_r1) (ninS (Ne.symm ne_am_r1) nin0))
        replace V_r2 := V_r2.keep Kq54 (ninS (Ne.symm ne_ar_r2) (ninS (Ne.symm ne_am_r2) nin0))
        replace V_r3 := V_r3.keep Kq54 (ninS (Ne.symm ne_ar_r3) (ninS (Ne.symm ne_am_r3) nin0))
        obtain ⟨rf1, hrf1⟩ : ∃ z, z = own_rk rf0 (1 * (bd + 1)) F1 (bd + 1) := ⟨_, rfl⟩
        clear V_ar V_am
        have V_ar := V_ar_q.fn (f' := fun y => .long (rf1 y)) (fun y hy => by rw [hrf1])
        have V_am := V_am_q
        clear V_ar_q V_am_q
        have hc535 : ¬ ((1 : Int32) = (0 : Int32)) := by decide
        refine own_of (fun tgt kon => XS.ifNo X54.here hx rfl (hb hby at_535) rfl ((if0 _ _).trans (feq hc535).1) kon) ?_
        refine own_of (fun tgt kon => XS.iconst X54.here hx rfl (hb hby at_538) kon) ?_
        refine own_of (fun tgt kon => XS.goto X54.here hx rfl (pc0 := 539) (pc' := 543) rfl (hb hby at_539) (by decide) (by decide) kon) ?_
        refine own_of (fun tgt kon => XS.istore X54.here hx rfl (hb hby at_543) rfl (l' := #[iv p1, iv p2, iv p3, iv p4, iv p5, iv (Int32.ofNat n), rv b1, rv b9, iv br, iv bnd, iv hbv, iv hd, rv txo, iv dpv, rv b19, rv dA, iv (1 : Int32)]) rfl kon) ?_
        refine own_of (fun tgt kon => XS.iload X54.here hx rfl (hb hby at_545) rfl kon) ?_
        show own_Wp _ _ _ _ (T54.setTop (mkF m 547 #[iv p1, iv p2, iv p3, iv p4, iv p5, iv (Int32.ofNat n), rv b1, rv b9, iv br, iv bnd, iv hbv, iv hd, rv txo, iv dpv, rv b19, rv dA, iv (1 : Int32)] [(.int dpv)]))
        refine own_of (fun tgt kon => XS.iconst X54.here hx rfl (hb hby at_547) kon) ?_
        by_cases hc548 : dpv < (2 : Int32)
        · skip
          refine own_of (fun tgt kon => XS.icmpYes X54.here hx rfl (pc0 := 548) (pc' := 586) rfl (hb hby at_548) rfl (tlt hc548).1 (by decide) (by decide) kon) ?_
          refine own_of (fun tgt kon => XS.iload X54.here hx rfl (hb hby at_586) rfl kon) ?_
          refine own_of (fun tgt kon => XS.iconst X54.here hx rfl (hb hby at_588) kon) ?_
          have hc589 : dpv < (3 : Int32) := own_ltT hc548 (by decide)
          refine own_of (fun tgt kon => XS.icmpYes X54.here hx rfl (pc0 := 589) (pc' := 627) rfl (hb hby at_589) rfl (tlt hc589).1 (by decide) (by decide) kon) ?_
          refine own_of (fun tgt kon => XS.iload X54.here hx rfl (hb hby at_627) rfl kon) ?_
          show own_Wp _ _ _ _ (T54.setTop (mkF m 629 #[iv p1, iv p2, iv p3, iv p4, iv p5, iv (Int32.ofNat n), rv b1, rv b9, iv br, iv bnd, iv hbv, iv hd, rv txo, iv dpv, rv b19, rv dA, iv (1 : Int32)] [(.int (1 : Int32))]))
          refine own_ret X54 hlk (some (.int (1 : Int32))) (own_rtI hrt) (fun fs hr => retN X54 hx (t := .boolean) hrt (by simp) (hb hby at_629) hr) ?_ (by decide) (by decide)
          exact ⟨rfl, N54⟩
        · skip
          refine own_of (fun tgt kon => XS.icmpNo X54.here hx rfl (hb hby at_548) rfl (flt hc548).1 kon) ?_
          refine own_of (fun tgt kon => XS.iload X54.here hx rfl (hb hby at_551) rfl kon) ?_
          have hc553 : ¬ ((1 : Int32) = (0 : Int32)) := by decide
          refine own_of (fun tgt kon => XS.ifNo X54.here hx rfl (hb hby at_553) rfl ((if0 _ _).trans (feq hc553).1) kon) ?_
          refine own_of (fun tgt kon => XS.aload X54.here hx rfl (hb hby at_556) rfl rfl kon) ?_
          show own_Wp _ _ _ _ (T54.setTop (mkF m 558 #[iv p1, iv p2, iv p3, iv p4, iv p5, iv (Int32.ofNat n), rv b1, rv b9, iv br, iv bnd, iv hbv, iv hd, rv txo, iv dpv, rv b19, rv dA, iv (1 : Int32)] [(.ref b19)]))
          refine own_of (fun tgt kon => XS.iconst X54.here hx rfl (hb hby at_558) kon) ?_
          refine own_of (fun tgt kon => XS.aload X54.here hx rfl (hb hby at_559) rfl rfl kon) ?_
          refine own_of (fun tgt kon => XS.iconst X54.here hx rfl (hb hby at_561) kon) ?_
          refine own_iaload X54 hx hZ rfl V_b9 (j := (2 : Int32)) (i := 2) (v := (own_chr e2)) (by decide) (by decide) rfl rfl rfl (hb hby at_562) ?_
          refine own_of (fun tgt kon => XS.iload X54.here hx rfl (hb hby at_563) rfl kon) ?_
          show own_Wp _ _ _ _ (T54.setTop (mkF m 565 #[iv p1, iv p2, iv p3, iv p4, iv p5, iv (Int32.ofNat n), rv b1, rv b9, iv br, iv bnd, iv hbv, iv hd, rv txo, iv dpv, rv b19, rv dA, iv (1 : Int32)] [(.int br), (.int (own_chr e2)), (.int (2 : Int32)), (.ref b19)]))
          refine own_of (fun tgt kon => XS.aload X54.here hx rfl (hb hby at_565) rfl rfl kon) ?_
          refine own_of (fun tgt kon => XS.iconst X54.here hx rfl (hb hby at_567) kon) ?_
          refine own_aaloadA X54 hx hZ rfl V_dA (j := (2 : Int32)) (i := 2) (v := (.ref r2)) (by decide) (by decide) rfl rfl rfl (hb hby at_568) ?_
          refine own_of (fun tgt kon => XS.iload X54.here hx rfl (hb hby at_569) rfl kon) ?_
          refine own_of (fun tgt kon => XS.iload X54.here hx rfl (hb hby at_571) rfl kon) ?_
          show own_Wp _ _ _ _ (T54.setTop (mkF m 573 #[iv p1, iv p2, iv p3, iv p4, iv p5, iv (Int32.ofNat n), rv b1, rv b9, iv br, iv bnd, iv hbv, iv hd, rv txo, iv dpv, rv b19, rv dA, iv (1 : Int32)] [(.int bnd), (.int (Int32.ofNat n)), (.ref r2), (.int br), (.int (own_chr e2)), (.int (2 : Int32)), (.ref b19)]))
          have hi2 : 2 ≤ dp := own_geT hdp hc548 (by decide)
          obtain ⟨RK2, hRK2, hSK2, hLK2, hBK2⟩ := htab e2
          obtain ⟨F2, hF2⟩ : ∃ z, z = own_F (coF RK2) (((coF RK2) <<< ((1 : Int32) &&& 0x3f).toInt64) &&& (coF RK1)) (own_upTo (Int32.ofNat n)) out ph (fun d => rf1 ((1 * (bd + 1)) + d)) (fun d => rf1 ((0 * (bd + 1)) + d)) := ⟨_, rfl⟩
          have hx0 := own_bitsLt (B' := 0 * (bd + 1)) (by omega) hb0 hrf1
          have hx1 := own_bitsIn hB1 hrf1
          have hB2 := own_bitsR2 (t := (own_tq (own_chr c1) (own_chr c2) (own_chr c3))) (k := (own_tq (own_chr e1) (own_chr e2) (own_chr e3))) hn hbd63 ho hcols hBK1 hBK2 hx1 hx0 hF2
          refine own_callS X54 hx hZ (y := (⟨"com/example/close_words/closewords/BitRowsFillPinLaw", "rowOk", "(Lcom/example/close_words/closewords/BitRows;IIZ[III)Z"⟩ : MethodName)) (argsL := [(.ref b19), (.int (2 : Int32)), (.int (own_chr e2)), (.int br), (.ref r2), (.int (Int32.ofNat n)), (.int bnd)]) (rest := []) (W := 0) hown (ow hw 56 rfl) (ow hw 57 rfl) (ow hw 3 rfl) (ow hw 58 rfl) (by decide) rfl (rmrk2 l Z a0 hw [] b19 (own_chr e2) br ac ao ar am cpF coF rf1 (own_upd (fun _ => (0 : Int64)) 1 (coF RK1)) F2 (bnd + (1 : Int32)) hbv (own_upTo (Int32.ofNat n)) out bd ph ((dp + 1) * (bd + 1)) (dp + 1) RK2 r2 n bnd (own_R2r hd.toInt ph (own_tq (own_chr c1) (own_chr c2) (own_chr c3)) (own_tq (own_chr e1) (own_chr e2) (own_chr e3))) (own_r4 c20 c21 c22 c23) T54.heap n0 Zs E_xo F_columnsOf_xo F_codePoints_xo F_matches_xo F_rows_xo F_levels_xo F_columns_xo F_headBound_xo F_outsideHead_xo V_ac V_ao V_ar V_am ne_b19_ar ne_b19_am ne_ac_ar ne_ac_am ne_ao_ar ne_ao_am ne_am_ar g_ar g_am hlv hbd63 hhb hhb63 (Nat.mul_le_mul_right _ (by omega)) (by omega) hRK2 hSK2 hLK2 (by rw [hF2]; rfl) (by intro d; rw [hF2]; exact own_F_succ _ _ _ _ _ _ _ d) F_bound_xo F_lastColumn_xo V_r2 (Ne.symm ne_ar_r2) (Ne.symm ne_am_r2) hn hbd hg2 hq2 hB2) (by decide) (by decide) (by decide) (by decide) rfl (by rw [hml]; rfl) (lenOf own_pd8 rfl) rfl (by show 2 * 0 + _ ≤ _; exact Nat.le_of_eq rfl) (hb hby at_573) ?_
          rintro T55 L55 _ X55 ⟨rfl, N55q, Kq55, V_ar_q, V_am_q⟩
          have N55 := Fr.app N54 N55q
          show own_Wp _ _ _ _ (T55.setTop (mkF m 576 #[iv p1, iv p2, iv p3, iv p4, iv p5, iv (Int32.ofNat n), rv b1, rv b9, iv br, iv bnd, iv hbv, iv hd, rv txo, iv dpv, rv b19, rv dA, iv (1 : Int32)] [(.int (1 : Int32))]))
          replace Zs := Nat.le_trans Zs Kq55.1
          replace V_b1 := V_b1.keep Kq55 (ninS ne_b1_ar (ninS ne_b1_am nin0))
          replace V_b9 := V_b9.keep Kq55 (ninS ne_b9_ar (ninS ne_b9_am nin0))
          replace E_xo := E_xo.keep Kq55
          replace F_bound_xo := F_bound_xo.keep Kq55 (ninS ne_b19_ar (ninS ne_b19_am nin0))
          replace F_headBound_xo := F_headBound_xo.keep Kq55 (ninS ne_b19_ar (ninS ne_b19_am nin0))
          replace F_levels_xo := F_levels_xo.keep Kq55 (ninS ne_b19_ar (ninS ne_b19_am nin0))
          replace F_columns_xo := F_columns_xo.keep Kq55 (ninS ne_b19_ar (ninS ne_b19_am nin0))
          replace F_lastColumn_xo := F_lastColumn_xo.keep Kq55 (ninS ne_b19_ar (ninS ne_b19_am nin0))
          replace F_outsideHead_xo := F_outsideHead_xo.keep Kq55 (ninS ne_b19_ar (ninS ne_b19_am nin0))
          replace F_codePoints_xo := F_codePoints_xo.keep Kq55 (ninS ne_b19_ar (ninS ne_b19_am nin0))
          replace F_columnsOf_xo := F_columnsOf_xo.keep Kq55 (ninS ne_b19_ar (ninS ne_b19_am nin0))
          replace F_rows_xo := F_rows_xo.keep Kq55 (ninS ne_b19_ar (ninS ne_b19_am nin0))
          replace F_matches_xo := F_matches_xo.keep Kq55 (ninS ne_b19_ar (ninS ne_b19_am nin0))
          replace V_ac := V_ac.keep Kq55 (ninS ne_ac_ar (ninS ne_ac_am nin0))
          replace V_ao := V_ao.keep Kq55 (ninS ne_ao_ar (ninS ne_ao_am nin0))
          replace V_dA := V_dA.keep Kq55 (ninS (Ne.symm ne_ar_dA) (ninS (Ne.symm ne_am_dA) nin0))
          replace V_r0 := V_r0.keep Kq55 (ninS (Ne.symm ne_ar_r0) (ninS (Ne.symm ne_am_r0) nin0))
          replace V_r1 := V_r1.keep Kq55 (ninS (Ne.symm ne_ar_r1) (ninS (Ne.symm ne_am_r1) nin0))
          replace V_r2 := V_r2.keep Kq55 (ninS (Ne.symm ne_ar_r2) (ninS (Ne.symm ne_am_r2) nin0))
          replace V_r3 := V_r3.keep Kq55 (ninS (Ne.symm ne_ar_r3) (ninS (Ne.symm ne_am_r3) nin0))
          obtain ⟨rf2, hrf2⟩ : ∃ z, z = own_rk rf1 (2 * (bd + 1)) F2 (bd + 1) := ⟨_, rfl⟩
          clear V_ar V_am
          have V_ar := V_ar_q.fn (f' := fun y => .long (rf2 y)) (fun y hy => by rw [hrf2])
          have V_am := V_am_q
          clear V_ar_q V_am_q
          have hc576 : ¬ ((1 : Int32) = (0 : Int32)) := by decide
          refine own_of (fun tgt kon => XS.ifNo X55.here hx rfl (hb hby at_576) rfl ((if0 _ _).trans (feq hc576).1) kon) ?_
          refine own_of (fun tgt kon => XS.iconst X55.here hx rfl (hb hby at_579) kon) ?_
          refine own_of (fun tgt kon => XS.goto X55.here hx rfl (pc0 := 580) (pc' := 584) rfl (hb hby at_580) (by decide) (by decide) kon) ?_
          refine own_of (fun tgt kon => XS.istore X55.here hx rfl (hb hby at_584) rfl (l' := #[iv p1, iv p2, iv p3, iv p4, iv p5, iv (Int32.ofNat n), rv b1, rv b9, iv br, iv bnd, iv hbv, iv hd, rv txo, iv dpv, rv b19, rv dA, iv (1 : Int32)]) rfl kon) ?_
          refine own_of (fun tgt kon => XS.iload X55.here hx rfl (hb hby at_586) rfl kon) ?_
          show own_Wp _ _ _ _ (T55.setTop (mkF m 588 #[iv p1, iv p2, iv p3, iv p4, iv p5, iv (Int32.ofNat n), rv b1, rv b9, iv br, iv bnd, iv hbv, iv hd, rv txo, iv dpv, rv b19, rv dA, iv (1 : Int32)] [(.int dpv)]))
          refine own_of (fun tgt kon => XS.iconst X55.here hx rfl (hb hby at_588) kon) ?_
          by_cases hc589 : dpv < (3 : Int32)
          · skip
            refine own_of (fun tgt kon => XS.icmpYes X55.here hx rfl (pc0 := 589) (pc' := 627) rfl (hb hby at_589) rfl (tlt hc589).1 (by decide) (by decide) kon) ?_
            refine own_of (fun tgt kon => XS.iload X55.here hx rfl (hb hby at_627) rfl kon) ?_
            show own_Wp _ _ _ _ (T55.setTop (mkF m 629 #[iv p1, iv p2, iv p3, iv p4, iv p5, iv (Int32.ofNat n), rv b1, rv b9, iv br, iv bnd, iv hbv, iv hd, rv txo, iv dpv, rv b19, rv dA, iv (1 : Int32)] [(.int (1 : Int32))]))
            refine own_ret X55 hlk (some (.int (1 : Int32))) (own_rtI hrt) (fun fs hr => retN X55 hx (t := .boolean) hrt (by simp) (hb hby at_629) hr) ?_ (by decide) (by decide)
            exact ⟨rfl, N55⟩
          · skip
            refine own_of (fun tgt kon => XS.icmpNo X55.here hx rfl (hb hby at_589) rfl (flt hc589).1 kon) ?_
            refine own_of (fun tgt kon => XS.iload X55.here hx rfl (hb hby at_592) rfl kon) ?_
            have hc594 : ¬ ((1 : Int32) = (0 : Int32)) := by decide
            refine own_of (fun tgt kon => XS.ifNo X55.here hx rfl (hb hby at_594) rfl ((if0 _ _).trans (feq hc594).1) kon) ?_
            refine own_of (fun tgt kon => XS.aload X55.here hx rfl (hb hby at_597) rfl rfl kon) ?_
            show own_Wp _ _ _ _ (T55.setTop (mkF m 599 #[iv p1, iv p2, iv p3, iv p4, iv p5, iv (Int32.ofNat n), rv b1, rv b9, iv br, iv bnd, iv hbv, iv hd, rv txo, iv dpv, rv b19, rv dA, iv (1 : Int32)] [(.ref b19)]))
            refine own_of (fun tgt kon => XS.iconst X55.here hx rfl (hb hby at_599) kon) ?_
            refine own_of (fun tgt kon => XS.aload X55.here hx rfl (hb hby at_600) rfl rfl kon) ?_
            refine own_of (fun tgt kon => XS.iconst X55.here hx rfl (hb hby at_602) kon) ?_
            refine own_iaload X55 hx hZ rfl V_b9 (j := (3 : Int32)) (i := 3) (v := (own_chr e3)) (by decide) (by decide) rfl rfl rfl (hb hby at_603) ?_
            refine own_of (fun tgt kon => XS.iload X55.here hx rfl (hb hby at_604) rfl kon) ?_
            show own_Wp _ _ _ _ (T55.setTop (mkF m 606 #[iv p1, iv p2, iv p3, iv p4, iv p5, iv (Int32.ofNat n), rv b1, rv b9, iv br, iv bnd, iv hbv, iv hd, rv txo, iv dpv, rv b19, rv dA, iv (1 : Int32)] [(.int br), (.int (own_chr e3)), (.int (3 : Int32)), (.ref b19)]))
            refine own_of (fun tgt kon => XS.aload X55.here hx rfl (hb hby at_606) rfl rfl kon) ?_
            refine own_of (fun tgt kon => XS.iconst X55.here hx rfl (hb hby at_608) kon) ?_
            refine own_aaloadA X55 hx hZ rfl V_dA (j := (3 : Int32)) (i := 3) (v := (.ref r3)) (by decide) (by decide) rfl rfl rfl (hb hby at_609) ?_
            refine own_of (fun tgt kon => XS.iload X55.here hx rfl (hb hby at_610) rfl kon) ?_
            refine own_of (fun tgt kon => XS.iload X55.here hx rfl (hb hby at_612) rfl kon) ?_
            show own_Wp _ _ _ _ (T55.setTop (mkF m 614 #[iv p1, iv p2, iv p3, iv p4, iv p5, iv (Int32.ofNat n), rv b1, rv b9, iv br, iv bnd, iv hbv, iv hd, rv txo, iv dpv, rv b19, rv dA, iv (1 : Int32)] [(.int bnd), (.int (Int32.ofNat n)), (.ref r3), (.int br), (.int (own_chr e3)), (.int (3 : Int32)), (.ref b19)]))
            have hi3 : 3 ≤ dp := own_geT hdp hc589 (by decide)
            obtain ⟨RK3, hRK3, hSK3, hLK3, hBK3⟩ := htab e3
            obtain ⟨F3, hF3⟩ : ∃ z, z = own_F (coF RK3) (((coF RK3) <<< ((1 : Int32) &&& 0x3f).toInt64) &&& (coF RK2)) (own_upTo (Int32.ofNat n)) out ph (fun d => rf2 ((2 * (bd + 1)) + d)) (fun d => rf2 ((1 * (bd + 1)) + d)) := ⟨_, rfl⟩
            have hy1 := own_bitsLt (B' := 1 * (bd + 1)) (by omega) hx1 hrf2
            have hy2 := own_bitsIn hB2 hrf2
            have hB3 := own_bitsR3 (t := (own_tq (own_chr c1) (own_chr c2) (own_chr c3))) (k := (own_tq (own_chr e1) (own_chr e2) (own_chr e3))) hn hbd63 ho hcols hBK2 hBK3 hy2 hy1 hF3
            refine own_callS X55 hx hZ (y := (⟨"com/example/close_words/closewords/BitRowsFillPinLaw", "rowOk", "(Lcom/example/close_words/closewords/BitRows;IIZ[III)Z"⟩ : MethodName)) (argsL := [(.ref b19), (.int (3 : Int32)), (.int (own_chr e3)), (.int br), (.ref r3), (.int (Int32.ofNat n)), (.int bnd)]) (rest := []) (W := 0) hown (ow hw 56 rfl) (ow hw 57 rfl) (ow hw 3 rfl) (ow hw 58 rfl) (by decide) rfl (rmrk3 l Z a0 hw [] b19 (own_chr e3) br ac ao ar am cpF coF rf2 (own_upd (own_upd (fun _ => (0 : Int64)) 1 (coF RK1)) 2 (coF RK2)) F3 (bnd + (1 : Int32)) hbv (own_upTo (Int32.ofNat n)) out bd ph ((dp + 1) * (bd + 1)) (dp + 1) RK3 r3 n bnd (own_R3r hd.toInt ph (own_tq (own_chr c1) (own_chr c2) (own_chr c3)) (own_tq (own_chr e1) (own_chr e2) (own_chr e3))) (own_r4 c30 c31 c32 c33) T55.heap n0 Zs E_xo F_columnsOf_xo F_codePoints_xo F_matches_xo F_rows_xo F_levels_xo F_columns_xo F_headBound_xo F_outsideHead_xo V_ac V_ao V_ar V_am ne_b19_ar ne_b19_am ne_ac_ar ne_ac_am ne_ao_ar ne_ao_am ne_am_ar g_ar g_am hlv hbd63 hhb hhb63 (Nat.mul_le_mul_right _ (by omega)) (by omega) hRK3 hSK3 hLK3 (by rw [hF3]; rfl) (by intro d; rw [hF3]; exact own_F_succ _ _ _ _ _ _ _ d) F_bound_xo F_lastColumn_xo V_r3 (Ne.symm ne_ar_r3) (Ne.symm ne_am_r3) hn hbd hg3 hq3 hB3) (by decide) (by decide) (by decide) (by decide) rfl (by rw [hml]; rfl) (lenOf own_pd8 rfl) rfl (by show 2 * 0 + _ ≤ _; exact Nat.le_of_eq rfl) (hb hby at_614) ?_
            rintro T56 L56 _ X56 ⟨rfl, N56q, Kq56, V_ar_q, V_am_q⟩
            have N56 := Fr.app N55 N56q
            show own_Wp _ _ _ _ (T56.setTop (mkF m 617 #[iv p1, iv p2, iv p3, iv p4, iv p5, iv (Int32.ofNat n), rv b1, rv b9, iv br, iv bnd, iv hbv, iv hd, rv txo, iv dpv, rv b19, rv dA, iv (1 : Int32)] [(.int (1 : Int32))]))
            replace Zs := Nat.le_trans Zs Kq56.1
            replace V_b1 := V_b1.keep Kq56 (ninS ne_b1_ar (ninS ne_b1_am nin0))
            replace V_b9 := V_b9.keep Kq56 (ninS ne_b9_ar (ninS ne_b9_am nin0))
            replace E_xo := E_xo.keep Kq56
            replace F_bound_xo := F_bound_xo.keep Kq56 (ninS ne_b19_ar (ninS ne_b19_am nin0))
            replace F_headBound_xo := F_headBound_xo.keep Kq56 (ninS ne_b19_ar (ninS ne_b19_am nin0))
            replace F_levels_xo := F_levels_xo.keep Kq56 (ninS ne_b19_ar (ninS ne_b19_am nin0))
            replace F_columns_xo := F_columns_xo.keep Kq56 (ninS ne_b19_ar (ninS ne_b19_am nin0))
            replace F_lastColumn_xo := F_lastColumn_xo.keep Kq56 (ninS ne_b19_ar (ninS ne_b19_am nin0))
            replace F_outsideHead_xo := F_outsideHead_xo.keep Kq56 (ninS ne_b19_ar (ninS ne_b19_am nin0))
            replace F_codePoints_xo := F_codePoints_xo.keep Kq56 (ninS ne_b19_ar (ninS ne_b19_am nin0))
            replace F_columnsOf_xo := F_columnsOf_xo.keep Kq56 (ninS ne_b19_ar (ninS ne_b19_am nin0))
            replace F_rows_xo := F_rows_xo.keep Kq56 (ninS ne_b19_ar (ninS ne_b19_am nin0))
            replace F_matches_xo := F_matches_xo.keep Kq56 (ninS ne_b19_ar (ninS ne_b19_am nin0))
            replace V_ac := V_ac.keep Kq56 (ninS ne_ac_ar (ninS ne_ac_am nin0))
            replace V_ao := V_ao.keep Kq56 (ninS ne_ao_ar (ninS ne_ao_am nin0))
            replace V_dA := V_dA.keep Kq56 (ninS (Ne.symm ne_ar_dA) (ninS (Ne.symm ne_am_dA) nin0))
            replace V_r0 := V_r0.keep Kq56 (ninS (Ne.symm ne_ar_r0) (ninS (Ne.symm ne_am_r0) nin0))
            replace V_r1 := V_r1.keep Kq56 (ninS (Ne.symm ne_ar_r1) (ninS (Ne.symm ne_am_r1) nin0))
            replace V_r2 := V_r2.keep Kq56 (ninS (Ne.symm ne_ar_r2) (ninS (Ne.symm ne_am_r2) nin0))
            replace V_r3 := V_r3.keep Kq56 (ninS (Ne.symm ne_ar_r3) (ninS (Ne.symm ne_am_r3) nin0))
            obtain ⟨rf3, hrf3⟩ : ∃ z, z = own_rk rf2 (3 * (bd + 1)) F3 (bd + 1) := ⟨_, rfl⟩
            clear V_ar V_am
            have V_ar := V_ar_q.fn (f' := fun y => .long (rf3 y)) (fun y hy => by rw [hrf3])
            have V_am := V_am_q
            clear V_ar_q V_am_q
            have hc617 : ¬ ((1 : Int32) = (0 : Int32)) := by decide
            refine own_of (fun tgt kon => XS.ifNo X56.here hx rfl (hb hby at_617) rfl ((if0 _ _).trans (feq hc617).1) kon) ?_
            refine own_of (fun tgt kon => XS.iconst X56.here hx rfl (hb hby at_620) kon) ?_
            refine own_of (fun tgt kon => XS.goto X56.here hx rfl (pc0 := 621) (pc' := 625) rfl (hb hby at_621) (by decide) (by decide) kon) ?_
            refine own_of (fun tgt kon => XS.istore X56.here hx rfl (hb hby at_625) rfl (l' := #[iv p1, iv p2, iv p3, iv p4, iv p5, iv (Int32.ofNat n), rv b1, rv b9, iv br, iv bnd, iv hbv, iv hd, rv txo, iv dpv, rv b19, rv dA, iv (1 : Int32)]) rfl kon) ?_
            refine own_of (fun tgt kon => XS.iload X56.here hx rfl (hb hby at_627) rfl kon) ?_
            show own_Wp _ _ _ _ (T56.setTop (mkF m 629 #[iv p1, iv p2, iv p3, iv p4, iv p5, iv (Int32.ofNat n), rv b1, rv b9, iv br, iv bnd, iv hbv, iv hd, rv txo, iv dpv, rv b19, rv dA, iv (1 : Int32)] [(.int (1 : Int32))]))
            refine own_ret X56 hlk (some (.int (1 : Int32))) (own_rtI hrt) (fun fs hr => retN X56 hx (t := .boolean) hrt (by simp) (hb hby at_629) hr) ?_ (by decide) (by decide)
            exact ⟨rfl, N56⟩
    show own_Wp _ _ _ _ (T16.setTop (mkF m 121 #[iv p1, iv p2, iv p3, iv p4, iv p5, iv (Int32.ofNat n), rv b1, rv b9, iv br, iv bnd, iv hbv, iv hd, uu, uu, uu, uu, uu] []))
    have h4 : n = 0 ∨ n = 1 ∨ n = 2 ∨ n = 3 := by omega
    rcases h4 with rfl | rfl | rfl | rfl
    · skip
      show own_Wp _ _ _ _ (T16.setTop (mkF m 121 #[iv p1, iv p2, iv p3, iv p4, iv p5, iv (0 : Int32), rv b1, rv b9, iv br, iv bnd, iv hbv, iv hd, uu, uu, uu, uu, uu] []))
      refine own_of (fun tgt kon => XS.iload X16.here hx rfl (hb hby at_121) rfl kon) ?_
      obtain ⟨T57, h57, k57, X57, e57, E57, A57, st57⟩ := newP X16 hx hZ (ow hw 0 rfl) e16 (g := (mkF m 123 #[iv p1, iv p2, iv p3, iv p4, iv p5, iv (0 : Int32), rv b1, rv b9, iv br, iv bnd, iv hbv, iv hd, uu, uu, uu, uu, uu] [(.int (0 : Int32))])) rfl (hb hby at_123) rfl (by decide) (cap := 0) (by decide) (by decide) (by decide) (by decide)
      refine own_of st57 ?_
      clear st57
      obtain ⟨b57, gq57⟩ : ∃ z, z = h16.size := ⟨_, rfl⟩
      rw [← gq57] at A57 ⊢
      have ne_b1_b57 : b1 ≠ b57 := Nat.ne_of_lt (Nat.lt_of_lt_of_le V_b1.lt (Nat.le_of_eq gq57.symm))
      have ne_b9_b57 : b9 ≠ b57 := Nat.ne_of_lt (Nat.lt_of_lt_of_le V_b9.lt (Nat.le_of_eq gq57.symm))
      have g_b57 : n0 ≤ b57 := Nat.le_trans Zs (Nat.le_of_eq gq57.symm)
      replace Zs := Nat.le_trans Zs E57.1
      replace V_b1 := V_b1.ext E57
      replace V_b9 := V_b9.ext E57
      have V_b57 : own_Ar Z h57 b57 .int 0 (fun _ => (.int (0 : Int32))) := own_Ar.new A57 (by decide) rfl
      refine own_of (fun tgt kon => XS.astore X57.here hx rfl (hb hby at_125) rfl rfl (l' := #[iv p1, iv p2, iv p3, iv p4, iv p5, iv (0 : Int32), rv b1, rv b9, iv br, iv bnd, iv hbv, iv hd, rv b57, uu, uu, uu, uu]) rfl kon) ?_
      refine own_of (fun tgt kon => XS.iload X57.here hx rfl (hb hby at_127) rfl kon) ?_
      refine own_of (fun tgt kon => XS.iconst X57.here hx rfl (hb hby at_129) kon) ?_
      show own_Wp _ _ _ _ (T57.setTop (mkF m 130 #[iv p1, iv p2, iv p3, iv p4, iv p5, iv (0 : Int32), rv b1, rv b9, iv br, iv bnd, iv hbv, iv hd, rv b57, uu, uu, uu, uu] [(.int (1 : Int32)), (.int (0 : Int32))]))
      have hc130 : (0 : Int32) < (1 : Int32) := by decide
      refine own_of (fun tgt kon => XS.icmpYes X57.here hx rfl (pc0 := 130) (pc' := 141) rfl (hb hby at_130) rfl (tlt hc130).1 (by decide) (by decide) kon) ?_
      refine own_of (fun tgt kon => XS.iload X57.here hx rfl (hb hby at_141) rfl kon) ?_
      refine own_of (fun tgt kon => XS.iconst X57.here hx rfl (hb hby at_143) kon) ?_
      have hc144 : (0 : Int32) < (2 : Int32) := by decide
      refine own_of (fun tgt kon => XS.icmpYes X57.here hx rfl (pc0 := 144) (pc' := 155) rfl (hb hby at_144) rfl (tlt hc144).1 (by decide) (by decide) kon) ?_
      refine own_of (fun tgt kon => XS.iload X57.here hx rfl (hb hby at_155) rfl kon) ?_
      show own_Wp _ _ _ _ (T57.setTop (mkF m 157 #[iv p1, iv p2, iv p3, iv p4, iv p5, iv (0 : Int32), rv b1, rv b9, iv br, iv bnd, iv hbv, iv hd, rv b57, uu, uu, uu, uu] [(.int (0 : Int32))]))
      refine own_of (fun tgt kon => XS.iconst X57.here hx rfl (hb hby at_157) kon) ?_
      have hc158 : (0 : Int32) < (3 : Int32) := by decide
      refine own_of (fun tgt kon => XS.icmpYes X57.here hx rfl (pc0 := 158) (pc' := 169) rfl (hb hby at_158) rfl (tlt hc158).1 (by decide) (by decide) kon) ?_
      show own_Wp _ _ _ _ (T57.setTop (mkF m 169 #[iv p1, iv p2, iv p3, iv p4, iv p5, iv (0 : Int32), rv b1, rv b9, iv br, iv bnd, iv hbv, iv hd, rv b57, uu, uu, uu, uu] []))
      have V_txo := V_b57.fn (f' := fun k => .int ((own_tx3 (own_chr c1) (own_chr c2) (own_chr c3)) k)) (by intro k hk; rcases k with _ | k <;> first | rfl | omega)
      exact J169 T57 _ _ (b57) (own_more X57 (by decide) (by decide)) e57 N16 Zs V_b1 V_b9 V_txo
    · skip
      show own_Wp _ _ _ _ (T16.setTop (mkF m 121 #[iv p1, iv p2, iv p3, iv p4, iv p5, iv (1 : Int32), rv b1, rv b9, iv br, iv bnd, iv hbv, iv hd, uu, uu, uu, uu, uu] []))
      refine own_of (fun tgt kon => XS.iload X16.here hx rfl (hb hby at_121) rfl kon) ?_
      obtain ⟨T58, h58, k58, X58, e58, E58, A58, st58⟩ := newP X16 hx hZ (ow hw 0 rfl) e16 (g := (mkF m 123 #[iv p1, iv p2, iv p3, iv p4, iv p5, iv (1 : Int32), rv b1, rv b9, iv br, iv bnd, iv hbv, iv hd, uu, uu, uu, uu, uu] [(.int (1 : Int32))])) rfl (hb hby at_123) rfl (by decide) (cap := 1) (by decide) (by decide) (by decide) (by decide)
      refine own_of st58 ?_
      clear st58
      obtain ⟨b58, gq58⟩ : ∃ z, z = h16.size := ⟨_, rfl⟩
      rw [← gq58] at A58 ⊢
      have ne_b1_b58 : b1 ≠ b58 := Nat.ne_of_lt (Nat.lt_of_lt_of_le V_b1.lt (Nat.le_of_eq gq58.symm))
      have ne_b9_b58 : b9 ≠ b58 := Nat.ne_of_lt (Nat.lt_of_lt_of_le V_b9.lt (Nat.le_of_eq gq58.symm))
      have g_b58 : n0 ≤ b58 := Nat.le_trans Zs (Nat.le_of_eq gq58.symm)
      replace Zs := Nat.le_trans Zs E58.1
      replace V_b1 := V_b1.ext E58
      replace V_b9 := V_b9.ext E58
      have V_b58 : own_Ar Z h58 b58 .int 1 (fun _ => (.int (0 : Int32))) := own_Ar.new A58 (by decide) rfl
      refine own_of (fun tgt kon => XS.astore X58.here hx rfl (hb hby at_125) rfl rfl (l' := #[iv p1, iv p2, iv p3, iv p4, iv p5, iv (1 : Int32), rv b1, rv b9, iv br, iv bnd, iv hbv, iv hd, rv b58, uu, uu, uu, uu]) rfl kon) ?_
      refine own_of (fun tgt kon => XS.iload X58.here hx rfl (hb hby at_127) rfl kon) ?_
      refine own_of (fun tgt kon => XS.iconst X58.here hx rfl (hb hby at_129) kon) ?_
      show own_Wp _ _ _ _ (T58.setTop (mkF m 130 #[iv p1, iv p2, iv p3, iv p4, iv p5, iv (1 : Int32), rv b1, rv b9, iv br, iv bnd, iv hbv, iv hd, rv b58, uu, uu, uu, uu] [(.int (1 : Int32)), (.int (1 : Int32))]))
      have hc130 : ¬ ((1 : Int32) < (1 : Int32)) := by decide
      refine own_of (fun tgt kon => XS.icmpNo X58.here hx rfl (hb hby at_130) rfl (flt hc130).1 kon) ?_
      refine own_of (fun tgt kon => XS.aload X58.here hx rfl (hb hby at_133) rfl rfl kon) ?_
      refine own_of (fun tgt kon => XS.iconst X58.here hx rfl (hb hby at_135) kon) ?_
      refine own_of (fun tgt kon => XS.aload X58.here hx rfl (hb hby at_136) rfl rfl kon) ?_
      refine own_of (fun tgt kon => XS.iconst X58.here hx rfl (hb hby at_138) kon) ?_
      show own_Wp _ _ _ _ (T58.setTop (mkF m 139 #[iv p1, iv p2, iv p3, iv p4, iv p5, iv (1 : Int32), rv b1, rv b9, iv br, iv bnd, iv hbv, iv hd, rv b58, uu, uu, uu, uu] [(.int (1 : Int32)), (.ref b1), (.int (0 : Int32)), (.ref b58)]))
      refine own_iaload X58 hx hZ e58 V_b1 (j := (1 : Int32)) (i := 1) (v := (own_chr c1)) (by decide) (by decide) rfl rfl rfl (hb hby at_139) ?_
      obtain ⟨T59, h59, X59, e59, W59, Aq59, st59⟩ := own_stI X58 hx hZ e58 V_b58 (j := (0 : Int32)) (i := 0) (x := (own_chr c1)) (by decide) (by decide) (g := (mkF m 140 #[iv p1, iv p2, iv p3, iv p4, iv p5, iv (1 : Int32), rv b1, rv b9, iv br, iv bnd, iv hbv, iv hd, rv b58, uu, uu, uu, uu] [(.int (own_chr c1)), (.int (0 : Int32)), (.ref b58)])) rfl rfl (hb hby at_140)
      refine own_of st59 ?_
      clear st59
      replace Zs := Nat.le_trans Zs (Keep.of_wr W59).1
      replace V_b1 := V_b1.other W59 ne_b1_b58
      replace V_b9 := V_b9.other W59 ne_b9_b58
      replace V_b58 := Aq59
      clear Aq59
      have N59 := Fr.snoc X59 N16 g_b58
      refine own_of (fun tgt kon => XS.iload X59.here hx rfl (hb hby at_141) rfl kon) ?_
      refine own_of (fun tgt kon => XS.iconst X59.here hx rfl (hb hby at_143) kon) ?_
      have hc144 : (1 : Int32) < (2 : Int32) := by decide
      refine own_of (fun tgt kon => XS.icmpYes X59.here hx rfl (pc0 := 144) (pc' := 155) rfl (hb hby at_144) rfl (tlt hc144).1 (by decide) (by decide) kon) ?_
      refine own_of (fun tgt kon => XS.iload X59.here hx rfl (hb hby at_155) rfl kon) ?_
      show own_Wp _ _ _ _ (T59.setTop (mkF m 157 #[iv p1, iv p2, iv p3, iv p4, iv p5, iv (1 : Int32), rv b1, rv b9, iv br, iv bnd, iv hbv, iv hd, rv b58, uu, uu, uu, uu] [(.int (1 : Int32))]))
      refine own_of (fun tgt kon => XS.iconst X59.here hx rfl (hb hby at_157) kon) ?_
      have hc158 : (1 : Int32) < (3 : Int32) := by decide
      refine own_of (fun tgt kon => XS.icmpYes X59.here hx rfl (pc0 := 158) (pc' := 169) rfl (hb hby at_158) rfl (tlt hc158).1 (by decide) (by decide) kon) ?_
      show own_Wp _ _ _ _ (T59.setTop (mkF m 169 #[iv p1, iv p2, iv p3, iv p4, iv p5, iv (1 : Int32), rv b1, rv b9, iv br, iv bnd, iv hbv, iv hd, rv b58, uu, uu, uu, uu] []))
      have V_txo := V_b58.fn (f' := fun k => .int ((own_tx3 (own_chr c1) (own_chr c2) (own_chr c3)) k)) (by intro k hk; rcases k with _ | k <;> first | rfl | omega)
      exact J169 T59 _ _ (b58) (own_more X59 (by decide) (by decide)) e59 N59 Zs V_b1 V_b9 V_txo
    · skip
      show own_Wp _ _ _ _ (T16.setTop (mkF m 121 #[iv p1, iv p2, iv p3, iv p4, iv p5, iv (2 : Int32), rv b1, rv b9, iv br, iv bnd, iv hbv, iv hd, uu, uu, uu, uu, uu] []))
      refine own_of (fun tgt kon => XS.iload X16.here hx rfl (hb hby at_121) rfl kon) ?_
      obtain ⟨T60, h60, k60, X60, e60, E60, A60, st60⟩ := newP X16 hx hZ (ow hw 0 rfl) e16 (g := (mkF m 123 #[iv p1, iv p2, iv p3, iv p4, iv p5, iv (2 : Int32), rv b1, rv b9, iv br, iv bnd, iv hbv, iv hd, uu, uu, uu, uu, uu] [(.int (2 : Int32))])) rfl (hb hby at_123) rfl (by decide) (cap := 2) (by decide) (by decide) (by decide) (by decide)
      refine own_of st60 ?_
      clear st60
      obtain ⟨b60, gq60⟩ : ∃ z, z = h16.size := ⟨_, rfl⟩
      rw [← gq60] at A60 ⊢
      have ne_b1_b60 : b1 ≠ b60 := Nat.ne_of_lt (Nat.lt_of_lt_of_le V_b1.lt (Nat.le_of_eq gq60.symm))
      have ne_b9_b60 : b9 ≠ b60 := Nat.ne_of_lt (Nat.lt_of_lt_of_le V_b9.lt (Nat.le_of_eq gq60.symm))
      have g_b60 : n0 ≤ b60 := Nat.le_trans Zs (Nat.le_of_eq gq60.symm)
      replace Zs := Nat.le_trans Zs E60.1
      replace V_b1 := V_b1.ext E60
      replace V_b9 := V_b9.ext E60
      have V_b60 : own_Ar Z h60 b60 .int 2 (fun _ => (.int (0 : Int32))) := own_Ar.new A60 (by decide) rfl
      refine own_of (fun tgt kon => XS.astore X60.here hx rfl (hb hby at_125) rfl rfl (l' := #[iv p1, iv p2, iv p3, iv p4, iv p5, iv (2 : Int32), rv b1, rv b9, iv br, iv bnd, iv hbv, iv hd, rv b60, uu, uu, uu, uu]) rfl kon) ?_
      refine own_of (fun tgt kon => XS.iload X60.here hx rfl (hb hby at_127) rfl kon) ?_
      refine own_of (fun tgt kon => XS.iconst X60.here hx rfl (hb hby at_129) kon) ?_
      show own_Wp _ _ _ _ (T60.setTop (mkF m 130 #[iv p1, iv p2, iv p3, iv p4, iv p5, iv (2 : Int32), rv b1, rv b9, iv br, iv bnd, iv hbv, iv hd, rv b60, uu, uu, uu, uu] [(.int (1 : Int32)), (.int (2 : Int32))]))
      have hc130 : ¬ ((2 : Int32) < (1 : Int32)) := by decide
      refine own_of (fun tgt kon => XS.icmpNo X60.here hx rfl (hb hby at_130) rfl (flt hc130).1 kon) ?_
      refine own_of (fun tgt kon => XS.aload X60.here hx rfl (hb hby at_133) rfl rfl kon) ?_
      refine own_of (fun tgt kon => XS.iconst X60.here hx rfl (hb hby at_135) kon) ?_
      refine own_of (fun tgt kon => XS.aload X60.here hx rfl (hb hby at_136) rfl rfl kon) ?_
      refine own_of (fun tgt kon => XS.iconst X60.here hx rfl (hb hby at_138) kon) ?_
      show own_Wp _ _ _ _ (T60.setTop (mkF m 139 #[iv p1, iv p2, iv p3, iv p4, iv p5, iv (2 : Int32), rv b1, rv b9, iv br, iv bnd, iv hbv, iv hd, rv b60, uu, uu, uu, uu] [(.int (1 : Int32)), (.ref b1), (.int (0 : Int32)), (.ref b60)]))
      refine own_iaload X60 hx hZ e60 V_b1 (j := (1 : Int32)) (i := 1) (v := (own_chr c1)) (by decide) (by decide) rfl rfl rfl (hb hby at_139) ?_
      obtain ⟨T61, h61, X61, e61, W61, Aq61, st61⟩ := own_stI X60 hx hZ e60 V_b60 (j := (0 : Int32)) (i := 0) (x := (own_chr c1)) (by decide) (by decide) (g := (mkF m 140 #[iv p1, iv p2, iv p3, iv p4, iv p5, iv (2 : Int32), rv b1, rv b9, iv br, iv bnd, iv hbv, iv hd, rv b60, uu, uu, uu, uu] [(.int (own_chr c1)), (.int (0 : Int32)), (.ref b60)])) rfl rfl (hb hby at_140)
      refine own_of st61 ?_
      clear st61
      replace Zs := Nat.le_trans Zs (Keep.of_wr W61).1
      replace V_b1 := V_b1.other W61 ne_b1_b60
      replace V_b9 := V_b9.other W61 ne_b9_b60
      replace V_b60 := Aq61
      clear Aq61
      have N61 := Fr.snoc X61 N16 g_b60
      refine own_of (fun tgt kon => XS.iload X61.here hx rfl (hb hby at_141) rfl kon) ?_
      refine own_of (fun tgt kon => XS.iconst X61.here hx rfl (hb hby at_143) kon) ?_
      have hc144 : ¬ ((2 : Int32) < (2 : Int32)) := by decide
      refine own_of (fun tgt kon => XS.icmpNo X61.here hx rfl (hb hby at_144) rfl (flt hc144).1 kon) ?_
      refine own_of (fun tgt kon => XS.aload X61.here hx rfl (hb hby at_147) rfl rfl kon) ?_
      show own_Wp _ _ _ _ (T61.setTop (mkF m 149 #[iv p1, iv p2, iv p3, iv p4, iv p5, iv (2 : Int32), rv b1, rv b9, iv br, iv bnd, iv hbv, iv hd, rv b60, uu, uu, uu, uu] [(.ref b60)]))
      refine own_of (fun tgt kon => XS.iconst X61.here hx rfl (hb hby at_149) kon) ?_
      refine own_of (fun tgt kon => XS.aload X61.here hx rfl (hb hby at_150) rfl rfl kon) ?_
      refine own_of (fun tgt kon => XS.iconst X61.here hx rfl (hb hby at_152) kon) ?_
      refine own_iaload X61 hx hZ e61 V_b1 (j := (2 : Int32)) (i := 2) (v := (own_chr c2)) (by decide) (by decide) rfl rfl rfl (hb hby at_153) ?_
      obtain ⟨T62, h62, X62, e62, W62, Aq62, st62⟩ := own_stI X61 hx hZ e61 V_b60 (j := (1 : Int32)) (i := 1) (x := (own_chr c2)) (by decide) (by decide) (g := (mkF m 154 #[iv p1, iv p2, iv p3, iv p4, iv p5, iv (2 : Int32), rv b1, rv b9, iv br, iv bnd, iv hbv, iv hd, rv b60, uu, uu, uu, uu] [(.int (own_chr c2)), (.int (1 : Int32)), (.ref b60)])) rfl rfl (hb hby at_154)
      refine own_of st62 ?_
      clear st62
      replace Zs := Nat.le_trans Zs (Keep.of_wr W62).1
      replace V_b1 := V_b1.other W62 ne_b1_b60
      replace V_b9 := V_b9.other W62 ne_b9_b60
      replace V_b60 := Aq62
      clear Aq62
      have N62 := Fr.snoc X62 N61 g_b60
      show own_Wp _ _ _ _ (T62.setTop (mkF m 155 #[iv p1, iv p2, iv p3, iv p4, iv p5, iv (2 : Int32), rv b1, rv b9, iv br, iv bnd, iv hbv, iv hd, rv b60, uu, uu, uu, uu] []))
      refine own_of (fun tgt kon => XS.iload X62.here hx rfl (hb hby at_155) rfl kon) ?_
      refine own_of (fun tgt kon => XS.iconst X62.here hx rfl (hb hby at_157) kon) ?_
      have hc158 : (2 : Int32) < (3 : Int32) := by decide
      refine own_of (fun tgt kon => XS.icmpYes X62.here hx rfl (pc0 := 158) (pc' := 169) rfl (hb hby at_158) rfl (tlt hc158).1 (by decide) (by decide) kon) ?_
      show own_Wp _ _ _ _ (T62.setTop (mkF m 169 #[iv p1, iv p2, iv p3, iv p4, iv p5, iv (2 : Int32), rv b1, rv b9, iv br, iv bnd, iv hbv, iv hd, rv b60, uu, uu, uu, uu] []))
      have V_txo := V_b60.fn (f' := fun k => .int ((own_tx3 (own_chr c1) (own_chr c2) (own_chr c3)) k)) (by intro k hk; rcases k with _ | _ | k <;> first | rfl | omega)
      exact J169 T62 _ _ (b60) (own_more X62 (by decide) (by decide)) e62 N62 Zs V_b1 V_b9 V_txo
    · skip
      show own_Wp _ _ _ _ (T16.setTop (mkF m 121 #[iv p1, iv p2, iv p3, iv p4, iv p5, iv (3 : Int32), rv b1, rv b9, iv br, iv bnd, iv hbv, iv hd, uu, uu, uu, uu, uu] []))
      refine own_of (fun tgt kon => XS.iload X16.here hx rfl (hb hby at_121) rfl kon) ?_
      obtain ⟨T63, h63, k63, X63, e63, E63, A63, st63⟩ := newP X16 hx hZ (ow hw 0 rfl) e16 (g := (mkF m 123 #[iv p1, iv p2, iv p3, iv p4, iv p5, iv (3 : Int32), rv b1, rv b9, iv br, iv bnd, iv hbv, iv hd, uu, uu, uu, uu, uu] [(.int (3 : Int32))])) rfl (hb hby at_123) rfl (by decide) (cap := 3) (by decide) (by decide) (by decide) (by decide)
      refine own_of st63 ?_
      clear st63
      obtain ⟨b63, gq63⟩ : ∃ z, z = h16.size := ⟨_, rfl⟩
      rw [← gq63] at A63 ⊢
      have ne_b1_b63 : b1 ≠ b63 := Nat.ne_of_lt (Nat.lt_of_lt_of_le V_b1.lt (Nat.le_of_eq gq63.symm))
      have ne_b9_b63 : b9 ≠ b63 := Nat.ne_of_lt (Nat.lt_of_lt_of_le V_b9.lt (Nat.le_of_eq gq63.symm))
      have g_b63 : n0 ≤ b63 := Nat.le_trans Zs (Nat.le_of_eq gq63.symm)
      replace Zs := Nat.le_trans Zs E63.1
      replace V_b1 := V_b1.ext E63
      replace V_b9 := V_b9.ext E63
      have V_b63 : own_Ar Z h63 b63 .int 3 (fun _ => (.int (0 : Int32))) := own_Ar.new A63 (by decide) rfl
      refine own_of (fun tgt kon => XS.astore X63.here hx rfl (hb hby at_125) rfl rfl (l' := #[iv p1, iv p2, iv p3, iv p4, iv p5, iv (3 : Int32), rv b1, rv b9, iv br, iv bnd, iv hbv, iv hd, rv b63, uu, uu, uu, uu]) rfl kon) ?_
      refine own_of (fun tgt kon => XS.iload X63.here hx rfl (hb hby at_127) rfl kon) ?_
      refine own_of (fun tgt kon => XS.iconst X63.here hx rfl (hb hby at_129) kon) ?_
      show own_Wp _ _ _ _ (T63.setTop (mkF m 130 #[iv p1, iv p2, iv p3, iv p4, iv p5, iv (3 : Int32), rv b1, rv b9, iv br, iv bnd, iv hbv, iv hd, rv b63, uu, uu, uu, uu] [(.int (1 : Int32)), (.int (3 : Int32))]))
      have hc130 : ¬ ((3 : Int32) < (1 : Int32)) := by decide
      refine own_of (fun tgt kon => XS.icmpNo X63.here hx rfl (hb hby at_130) rfl (flt hc130).1 kon) ?_
      refine own_of (fun tgt kon => XS.aload X63.here hx rfl (hb hby at_133) rfl rfl kon) ?_
      refine own_of (fun tgt kon => XS.iconst X63.here hx rfl (hb hby at_135) kon) ?_
      refine own_of (fun tgt kon => XS.aload X63.here hx rfl (hb hby at_136) rfl rfl kon) ?_
      refine own_of (fun tgt kon => XS.iconst X63.here hx rfl (hb hby at_138) kon) ?_
      show own_Wp _ _ _ _ (T63.setTop (mkF m 139 #[iv p1, iv p2, iv p3, iv p4, iv p5, iv (3 : Int32), rv b1, rv b9, iv br, iv bnd, iv hbv, iv hd, rv b63, uu, uu, uu, uu] [(.int (1 : Int32)), (.ref b1), (.int (0 : Int32)), (.ref b63)]))
      refine own_iaload X63 hx hZ e63 V_b1 (j := (1 : Int32)) (i := 1) (v := (own_chr c1)) (by decide) (by decide) rfl rfl rfl (hb hby at_139) ?_
      obtain ⟨T64, h64, X64, e64, W64, Aq64, st64⟩ := own_stI X63 hx hZ e63 V_b63 (j := (0 : Int32)) (i := 0) (x := (own_chr c1)) (by decide) (by decide) (g := (mkF m 140 #[iv p1, iv p2, iv p3, iv p4, iv p5, iv (3 : Int32), rv b1, rv b9, iv br, iv bnd, iv hbv, iv hd, rv b63, uu, uu, uu, uu] [(.int (own_chr c1)), (.int (0 : Int32)), (.ref b63)])) rfl rfl (hb hby at_140)
      refine own_of st64 ?_
      clear st64
      replace Zs := Nat.le_trans Zs (Keep.of_wr W64).1
      replace V_b1 := V_b1.other W64 ne_b1_b63
      replace V_b9 := V_b9.other W64 ne_b9_b63
      replace V_b63 := Aq64
      clear Aq64
      have N64 := Fr.snoc X64 N16 g_b63
      refine own_of (fun tgt kon => XS.iload X64.here hx rfl (hb hby at_141) rfl kon) ?_
      refine own_of (fun tgt kon => XS.iconst X64.here hx rfl (hb hby at_143) kon) ?_
      have hc144 : ¬ ((3 : Int32) < (2 : Int32)) := by decide
      refine own_of (fun tgt kon => XS.icmpNo X64.here hx rfl (hb hby at_144) rfl (flt hc144).1 kon) ?_
      refine own_of (fun tgt kon => XS.aload X64.here hx rfl (hb hby at_147) rfl rfl kon) ?_
      show own_Wp _ _ _ _ (T64.setTop (mkF m 149 #[iv p1, iv p2, iv p3, iv p4, iv p5, iv (3 : Int32), rv b1, rv b9, iv br, iv bnd, iv hbv, iv hd, rv b63, uu, uu, uu, uu] [(.ref b63)]))
      refine own_of (fun tgt kon => XS.iconst X64.here hx rfl (hb hby at_149) kon) ?_
      refine own_of (fun tgt kon => XS.aload X64.here hx rfl (hb hby at_150) rfl rfl kon) ?_
      refine own_of (fun tgt kon => XS.iconst X64.here hx rfl (hb hby at_152) kon) ?_
      refine own_iaload X64 hx hZ e64 V_b1 (j := (2 : Int32)) (i := 2) (v := (own_chr c2)) (by decide) (by decide) rfl rfl rfl (hb hby at_153) ?_
      obtain ⟨T65, h65, X65, e65, W65, Aq65, st65⟩ := own_stI X64 hx hZ e64 V_b63 (j := (1 : Int32)) (i := 1) (x := (own_chr c2)) (by decide) (by decide) (g := (mkF m 154 #[iv p1, iv p2, iv p3, iv p4, iv p5, iv (3 : Int32), rv b1, rv b9, iv br, iv bnd, iv hbv, iv hd, rv b63, uu, uu, uu, uu] [(.int (own_chr c2)), (.int (1 : Int32)), (.ref b63)])) rfl rfl (hb hby at_154)
      refine own_of st65 ?_
      clear st65
      replace Zs := Nat.le_trans Zs (Keep.of_wr W65).1
      replace V_b1 := V_b1.other W65 ne_b1_b63
      replace V_b9 := V_b9.other W65 ne_b9_b63
      replace V_b63 := Aq65
      clear Aq65
      have N65 := Fr.snoc X65 N64 g_b63
      show own_Wp _ _ _ _ (T65.setTop (mkF m 155 #[iv p1, iv p2, iv p3, iv p4, iv p5, iv (3 : Int32), rv b1, rv b9, iv br, iv bnd, iv hbv, iv hd, rv b63, uu, uu, uu, uu] []))
      refine own_of (fun tgt kon => XS.iload X65.here hx rfl (hb hby at_155) rfl kon) ?_
      refine own_of (fun tgt kon => XS.iconst X65.here hx rfl (hb hby at_157) kon) ?_
      have hc158 : ¬ ((3 : Int32) < (3 : Int32)) := by decide
      refine own_of (fun tgt kon => XS.icmpNo X65.here hx rfl (hb hby at_158) rfl (flt hc158).1 kon) ?_
      refine own_of (fun tgt kon => XS.aload X65.here hx rfl (hb hby at_161) rfl rfl kon) ?_
      refine own_of (fun tgt kon => XS.iconst X65.here hx rfl (hb hby at_163) kon) ?_
      show own_Wp _ _ _ _ (T65.setTop (mkF m 164 #[iv p1, iv p2, iv p3, iv p4, iv p5, iv (3 : Int32), rv b1, rv b9, iv br, iv bnd, iv hbv, iv hd, rv b63, uu, uu, uu, uu] [(.int (2 : Int32)), (.ref b63)]))
      refine own_of (fun tgt kon => XS.aload X65.here hx rfl (hb hby at_164) rfl rfl kon) ?_
      refine own_of (fun tgt kon => XS.iconst X65.here hx rfl (hb hby at_166) kon) ?_
      refine own_iaload X65 hx hZ e65 V_b1 (j := (3 : Int32)) (i := 3) (v := (own_chr c3)) (by decide) (by decide) rfl rfl rfl (hb hby at_167) ?_
      obtain ⟨T66, h66, X66, e66, W66, Aq66, st66⟩ := own_stI X65 hx hZ e65 V_b63 (j := (2 : Int32)) (i := 2) (x := (own_chr c3)) (by decide) (by decide) (g := (mkF m 168 #[iv p1, iv p2, iv p3, iv p4, iv p5, iv (3 : Int32), rv b1, rv b9, iv br, iv bnd, iv hbv, iv hd, rv b63, uu, uu, uu, uu] [(.int (own_chr c3)), (.int (2 : Int32)), (.ref b63)])) rfl rfl (hb hby at_168)
      refine own_of st66 ?_
      clear st66
      replace Zs := Nat.le_trans Zs (Keep.of_wr W66).1
      replace V_b1 := V_b1.other W66 ne_b1_b63
      replace V_b9 := V_b9.other W66 ne_b9_b63
      replace V_b63 := Aq66
      clear Aq66
      have N66 := Fr.snoc X66 N65 g_b63
      show own_Wp _ _ _ _ (T66.setTop (mkF m 169 #[iv p1, iv p2, iv p3, iv p4, iv p5, iv (3 : Int32), rv b1, rv b9, iv br, iv bnd, iv hbv, iv hd, rv b63, uu, uu, uu, uu] []))
      have V_txo := V_b63.fn (f' := fun k => .int ((own_tx3 (own_chr c1) (own_chr c2) (own_chr c3)) k)) (by intro k hk; rcases k with _ | _ | _ | k <;> first | rfl | omega)
      exact J169 T66 _ _ (b63) X66 e66 N66 Zs V_b1 V_b9 V_txo
  show own_Wp _ _ _ _ (T16.setTop (mkF m 84 #[iv p1, iv p2, iv p3, iv p4, iv p5, iv (Int32.ofNat n), rv b1, rv b9, uu, uu, uu, uu, uu, uu, uu, uu, uu] [(.int (((p2.toUInt32 >>> ((9 : Int32) &&& 31).toUInt32).toInt32) &&& (1 : Int32)))]))
  by_cases hc84 : (((p2.toUInt32 >>> ((9 : Int32) &&& 31).toUInt32).toInt32) &&& (1 : Int32)) = (0 : Int32)
  · skip
    refine own_of (fun tgt kon => XS.ifYes X16.here hx rfl (pc0 := 84) (pc' := 91) rfl (hb hby at_84) rfl ((if0 _ _).trans (teq hc84).1) (by decide) (by decide) kon) ?_
    refine own_of (fun tgt kon => XS.iconst X16.here hx rfl (hb hby at_91) kon) ?_
    show own_Wp _ _ _ _ (T16.setTop (mkF m 92 #[iv p1, iv p2, iv p3, iv p4, iv p5, iv (Int32.ofNat n), rv b1, rv b9, uu, uu, uu, uu, uu, uu, uu, uu, uu] [(.int (0 : Int32))]))
    exact J92 ((0 : Int32)) (by exact (if_pos hc84).symm)
  · skip
    refine own_of (fun tgt kon => XS.ifNo X16.here hx rfl (hb hby at_84) rfl ((if0 _ _).trans (feq hc84).1) kon) ?_
    refine own_of (fun tgt kon => XS.iconst X16.here hx rfl (hb hby at_87) kon) ?_
    refine own_of (fun tgt kon => XS.goto X16.here hx rfl (pc0 := 88) (pc' := 92) rfl (hb hby at_88) (by decide) (by decide) kon) ?_
    show own_Wp _ _ _ _ (T16.setTop (mkF m 92 #[iv p1, iv p2, iv p3, iv p4, iv p5, iv (Int32.ofNat n), rv b1, rv b9, uu, uu, uu, uu, uu, uu, uu, uu, uu] [(.int (1 : Int32))]))
    exact J92 ((1 : Int32)) (by exact (if_neg hc84).symm)
set_option maxRecDepth 65536 in
set_option maxHeartbeats 40000000 in
theorem comes_1 {Post : Tables → Env → Array Value → State → Outcome → State → Prop} (hpost : ∀ tb e args s v u, (limb_1_1.after args s (.returned v) u = true ∧ limb_1_2.after args s (.returned v) u = true ∧ True) → FrameEnd s (.returned v) u (Jvm.fieldLocs frame_1_writes args s ++ Jvm.arrayLocs frame_1_arrays args s ++ Jvm.staticLocs frame_1_statics s) 40 1216 → Post tb e args s (.returned v) u) :
    ArmFor flags0 classFile x code maxLocals ret World_1 tables_1 room_1 Calls_1 rest_1 Pre_1 Post := by
  intro l hfl _ _ p e ha hc hk s m args below hf hA hF happ hP
  obtain ⟨hcalls, hrest, hpre⟩ := hP
  obtain ⟨-, -, -, hnamed, -, -, -, hat⟩ := (Spec.applies_iff hf).mp happ
  obtain ⟨hg, hn⟩ := and_e (Cond.before_iff.mp (show (Jvm.Cond.and given_1 narrow_1).before args s = true from hpre))
  obtain ⟨g1, g2⟩ := and_e hg
  obtain ⟨g3, g4⟩ := and_e g2
  obtain ⟨g5, g6⟩ := and_e g4
  obtain ⟨g7, g8⟩ := and_e g6
  obtain ⟨g9, g10⟩ := and_e g8
  obtain ⟨w0, w1, w2, w3, w4, rfl⟩ : ∃ w0 w1 w2 w3 w4 : Value, args = #[w0, w1, w2, w3, w4] := by
    have hs : args.size = 5 := by simpa [Cond.value, given_1] using g1
    obtain ⟨L⟩ := args
    match L, hs with
    | [w0, w1, w2, w3, w4], _ => exact ⟨w0, w1, w2, w3, w4, rfl⟩
  have hw := fun d (hd : d ∈ tables_1) => atoms_spec (ws := Jvm.Cond.code x code maxLocals ret :: tables_1) hat d (List.mem_cons_of_mem _ hd)
  have hfit : Fit s := fun {y c} hc i hi => by
    obtain ⟨ha, rfl⟩ := Array.getElem?_eq_some_iff.mp hc
    have q := List.all_eq_true.mp ((Array.all_eq_true_iff_forall_mem.mp hF) _ (Array.getElem_mem ha)) i (List.mem_range.mpr hi)
    simpa [Array.getElem?_eq_getElem hi] using q
  obtain ⟨i0, ei0⟩ := is_v g3
  obtain rfl : w0 = (.int i0) := Option.some.inj ei0
  obtain ⟨i1, ei1⟩ := is_v g5
  obtain rfl : w1 = (.int i1) := Option.some.inj ei1
  obtain ⟨i2, ei2⟩ := is_v g7
  obtain rfl : w2 = (.int i2) := Option.some.inj ei2
  obtain ⟨i3, ei3⟩ := is_v g9
  obtain rfl : w3 = (.int i3) := Option.some.inj ei3
  obtain ⟨i4, ei4⟩ := is_v g10
  obtain rfl : w4 = (.int i4) := Option.some.inj ei4
  obtain ⟨n, o, h1, h2, h3, _, L, rfl, ⟨rfl, N⟩, hq⟩ := rm0 l s _ hw tables_1 i0 i1 i2 i3 i4  s.heap s.heap.size (Nat.le_refl _)  p e ha hc hk s m _ below hf ((Spec.applies_iff_loose hf).mp happ).1 ⟨rfl, State.Warmed39.refl s, rfl⟩ trivial
  refine ⟨n, _, h1, h2, h3, hpost _ _ _ _ _ _ ⟨Cond.after_iff.mpr rfl, Cond.after_iff.mpr (eq_i res_at (Term.int_eval (1)) rfl), trivial⟩ ⟨hq.1, hq.2.1, (hq.2.2.sift fun y hy => Or.inr (N y hy)).mono (by decide) (by decide)⟩⟩
theorem main_1_1 : Claimed_1_1 := comes_1 fun _ _ _ _ _ _ h hF => ⟨h.1, hF⟩
theorem main_1_2 : Claimed_1_2 := comes_1 fun _ _ _ _ _ _ h hF => ⟨h.2.1, hF⟩
end Jvm.Pilot.@@N@@
namespace Jvm.Pilot.@@N@@
open Jvm Jvm.ClassFile Sem Op Lib Jvm.Free Jvm.Stand Jvm.Pilot.@@N@@.Jvm.D
/-! MADE BY PROGRAM (witnessworld.py) out of the Statement's table words and the real class files: 14 classes; the members and pool entries that the words name. The judged class is class 1, her method 5. -/
namespace start1
open Jvm.ClassFile
def u (s : String) : CpInfo := .utf8 (stringToUtf16 s)
/-- a pool by its gaps: so many unusable entries, then the entry; so many at the end -/
def gap : Nat → List CpInfo → List CpInfo
  | 0, r => r
  | n + 1, r => .unusable :: gap n r
def poolList (es : List (Nat × CpInfo)) (last : Nat) : List CpInfo := es.foldr (fun e r => gap e.1 (e.2 :: r)) (gap last [])
def pool (es : List (Nat × CpInfo)) (last : Nat) : Array CpInfo := ⟨poolList es last⟩
def fileOf (pool : Array CpInfo) (this : Nat) (attrs : Array Attribute := #[]) (ms : Array MethodInfo := #[]) (fl : Nat := 33) (sup : Nat := 0) (ifs : Array Nat := #[]) (fds : Array FieldInfo := #[]) : ClassFile where
  minorVersion := 0
  majorVersion := 65
  constantPool := pool
  accessFlags := fl
  thisClass := this
  superClass := sup
  interfaces := ifs
  fields := fds
  methods := ms
  attributes := attrs
def plain (name : String) (sup : Option ClassId) : Class where
  name := name
  kind := .ordinary
  loader := none
  accessFlags := 33
  super := sup
  interfaces := #[]
  cf := none
  fields := #[]
  methods := #[]
  instanceTypes := #[]
  staticTypes := #[]
  resolved := #[]
  callSites := []
  init := .initialized
  statics := none
  mirror := none

def pool0 : Array CpInfo := pool [(5, u "<init>"), (0, u "()V"), (1, .class_ 10), (1, u "java/lang/Object")] 113

def k0c0 : Code := { maxStack := 0, maxLocals := 1, code := object_method_1_code, exceptionTable := #[], attributes := #[] }
def k0m0 : Method := { name := "<init>", desc := "()V", sig := { parameters := [], returnType := none }, accessFlags := 1, code := some k0c0 }
/-- java/lang/Object -/
def k0 : Class := { plain "java/lang/Object" none with
  accessFlags := 33
  interfaces := #[]
  cf := some (fileOf pool0 8 #[] #[{ accessFlags := 1, nameIndex := 5, descriptorIndex := 6, attributes := #[] }] 33 0 #[] #[])
  fields := #[]
  methods := #[k0m0]
  instanceTypes := #[]
  staticTypes := #[]
  resolved := Array.replicate 124 none
  statics := none }

def pool1 : Array CpInfo := pool [(2, .class_ 4), (1, u "java/lang/Object"), (0, u "<init>"), (0, u "()V"), (0, .methodref 8 9), (0, .class_ 10), (0, .nameAndType 11 12), (0, u "java/lang/Math"), (0, u "min"), (0, u "(II)I"), (0, .methodref 14 15), (0, .class_ 16), (0, .nameAndType 17 18), (0, u "com/example/close_words/closewords/BitRowsFillPinLaw"), (0, u "cap"), (0, u "(IIII)I"), (0, .methodref 20 21), (0, .class_ 22), (0, .nameAndType 23 24), (0, u "com/example/close_words/closewords/BitRows"), (0, u "fill"), (0, u "(IIZ)Z"), (0, .methodref 20 26), (0, .nameAndType 27 28), (0, u "distance"), (0, u "(I)I"), (0, .methodref 14 30), (0, .nameAndType 31 28), (0, u "cp"), (0, .methodref 20 33), (0, .nameAndType 5 34), (0, u "([IIIII)V"), (0, .class_ 36), (0, u "[[I"), (0, .methodref 14 38), (0, .nameAndType 39 40), (0, u "cell"), (0, u "([[III[I[III)I"), (0, .methodref 14 42), (0, .nameAndType 43 44), (0, u "rowOk"), (0, u "(Lcom/example/close_words/closewords/BitRows;IIZ[III)Z"), (5, u "law"), (0, u "(IIIII)Z")] 2

def k1m0 : Method := { name := "<init>", desc := "()V", sig := { parameters := [], returnType := none }, accessFlags := 1, code := none }
def k1c1 : Code := { maxStack := 3, maxLocals := 1, code := method_2_code, exceptionTable := #[], attributes := #[] }
def k1m1 : Method := { name := "cp", desc := "(I)I", sig := { parameters := [.int], returnType := some .int }, accessFlags := 10, code := some k1c1 }
def k1c2 : Code := { maxStack := 2, maxLocals := 4, code := method_3_code, exceptionTable := #[], attributes := #[] }
def k1m2 : Method := { name := "cap", desc := "(IIII)I", sig := { parameters := [.int, .int, .int, .int], returnType := some .int }, accessFlags := 10, code := some k1c2 }
def k1c3 : Code := { maxStack := 5, maxLocals := 8, code := method_4_code, exceptionTable := #[], attributes := #[] }
def k1m3 : Method := { name := "cell", desc := "([[III[I[III)I", sig := { parameters := [(.array (.array .int)), .int, .int, (.array .int), (.array .int), .int, .int], returnType := some .int }, accessFlags := 10, code := some k1c3 }
def k1c4 : Code := { maxStack := 4, maxLocals := 10, code := method_5_code, exceptionTable := #[], attributes := #[] }
def k1m4 : Method := { name := "rowOk", desc := "(Lcom/example/close_words/closewords/BitRows;IIZ[III)Z", sig := { parameters := [(.object "com/example/close_words/closewords/BitRows"), .int, .int, .boolean, (.array .int), .int, .int], returnType := some .boolean }, accessFlags := 10, code := some k1c4 }
def k1c5 : Code := { maxStack := 9, maxLocals := 17, code := code, exceptionTable := #[], attributes := #[] }
def k1m5 : Method := { name := "law", desc := "(IIIII)Z", sig := { parameters := [.int, .int, .int, .int, .int], returnType := some .boolean }, accessFlags := 9, code := some k1c5 }
/-- com/example/close_words/closewords/BitRowsFillPinLaw -/
def k1 : Class := { plain "com/example/close_words/closewords/BitRowsFillPinLaw" (some 0) with
  accessFlags := 49
  interfaces := #[]
  cf := some (fileOf pool1 14 #[] #[{ accessFlags := 1, nameIndex := 5, descriptorIndex := 6, attributes := #[] }, { accessFlags := 10, nameIndex := 31, descriptorIndex := 28, attributes := #[] }, { accessFlags := 10, nameIndex := 17, descriptorIndex := 18, attributes := #[] }, { accessFlags := 10, nameIndex := 39, descriptorIndex := 40, attributes := #[] }, { accessFlags := 10, nameIndex := 43, descriptorIndex := 44, attributes := #[] }, { accessFlags := 9, nameIndex := 50, descriptorIndex := 51, attributes := #[] }] 49 2 #[] #[])
  fields := #[]
  methods := #[k1m0, k1m1, k1m2, k1m3, k1m4, k1m5]
  instanceTypes := #[]
  staticTypes := #[]
  resolved := Array.replicate 54 none
  statics := none }

def pool2 : Array CpInfo := pool [(1, .class_ 2), (0, u "java/lang/Math"), (1, .class_ 6), (1, u "java/lang/Object"), (0, u "<init>"), (0, u "()V"), (89, .class_ 100), (1, u "java/lang/Math$RandomNumberGeneratorHolder"), (71, u "negativeZeroFloatBits"), (0, u "J"), (2, u "negativeZeroDoubleBits"), (24, u "min"), (43, u "$assertionsDisabled"), (0, u "Z"), (88, u "(II)I"), (2, u "twoToTheDoubleScaleDown"), (0, u "D"), (4, u "twoToTheDoubleScaleUp"), (9, u "E"), (3, u "PI"), (2, u "TAU"), (2, u "DEGREES_TO_RADIANS"), (0, u "RADIANS_TO_DEGREES")] 94

def k2m0 : Method := { name := "<init>", desc := "()V", sig := { parameters := [], returnType := none }, accessFlags := 2, code := none }
def k2c1 : Code := { maxStack := 2, maxLocals := 2, code := jdk_29_method_69_code, exceptionTable := #[], attributes := #[] }
def k2m1 : Method := { name := "min", desc := "(II)I", sig := { parameters := [.int, .int], returnType := some .int }, accessFlags := 9, code := some k2c1 }
/-- java/lang/Math -/
def k2 : Class := { plain "java/lang/Math" (some 0) with
  accessFlags := 49
  interfaces := #[]
  cf := some (fileOf pool2 1 #[.nestMembers #[98]] #[{ accessFlags := 2, nameIndex := 7, descriptorIndex := 8, attributes := #[] }, { accessFlags := 9, nameIndex := 201, descriptorIndex := 335, attributes := #[] }] 49 4 #[] #[{ accessFlags := 25, nameIndex := 354, descriptorIndex := 339, attributes := #[] }, { accessFlags := 25, nameIndex := 358, descriptorIndex := 339, attributes := #[] }, { accessFlags := 25, nameIndex := 361, descriptorIndex := 339, attributes := #[] }, { accessFlags := 26, nameIndex := 364, descriptorIndex := 339, attributes := #[] }, { accessFlags := 26, nameIndex := 365, descriptorIndex := 339, attributes := #[] }, { accessFlags := 26, nameIndex := 172, descriptorIndex := 173, attributes := #[] }, { accessFlags := 26, nameIndex := 176, descriptorIndex := 173, attributes := #[] }, { accessFlags := 8, nameIndex := 344, descriptorIndex := 339, attributes := #[] }, { accessFlags := 8, nameIndex := 338, descriptorIndex := 339, attributes := #[] }, { accessFlags := 4120, nameIndex := 245, descriptorIndex := 246, attributes := #[] }])
  fields := #[{ name := "E", type := .double, accessFlags := 25, slot := 0, constantValue := 0 }, { name := "PI", type := .double, accessFlags := 25, slot := 1, constantValue := 0 }, { name := "TAU", type := .double, accessFlags := 25, slot := 2, constantValue := 0 }, { name := "DEGREES_TO_RADIANS", type := .double, accessFlags := 26, slot := 3, constantValue := 0 }, { name := "RADIANS_TO_DEGREES", type := .double, accessFlags := 26, slot := 4, constantValue := 0 }, { name := "negativeZeroFloatBits", type := .long, accessFlags := 26, slot := 5, constantValue := 0 }, { name := "negativeZeroDoubleBits", type := .long, accessFlags := 26, slot := 6, constantValue := 0 }, { name := "twoToTheDoubleScaleUp", type := .double, accessFlags := 8, slot := 7, constantValue := 0 }, { name := "twoToTheDoubleScaleDown", type := .double, accessFlags := 8, slot := 8, constantValue := 0 }, { name := "$assertionsDisabled", type := .boolean, accessFlags := 4120, slot := 9, constantValue := 0 }]
  methods := #[k2m0, k2m1]
  instanceTypes := #[]
  staticTypes := #[.double, .double, .double, .double, .double, .long, .long, .double, .double, .boolean]
  resolved := Array.replicate 460 none
  statics := none }

def pool3 : Array CpInfo := pool [(10, .class_ 11), (0, u "com/example/close_words/closewords/AlignmentRows"), (0, .class_ 13), (0, u "java/lang/Object")] 11

/-- com/example/close_words/closewords/AlignmentRows -/
def k3 : Class := { plain "com/example/close_words/closewords/AlignmentRows" (some 0) with
  accessFlags := 1536
  interfaces := #[]
  cf := some (fileOf pool3 10 #[] #[] 1536 12 #[] #[])
  fields := #[]
  methods := #[]
  instanceTypes := #[]
  staticTypes := #[]
  resolved := Array.replicate 25 none
  statics := none }

def pool4 : Array CpInfo := pool [(3, .methodref 4 5), (0, .class_ 6), (0, .nameAndType 7 8), (0, u "java/lang/Object"), (0, u "<init>"), (0, u "()V"), (0, .fieldref 10 11), (0, .class_ 12), (0, .nameAndType 13 14), (0, u "com/example/close_words/closewords/BitRows"), (0, u "bound"), (0, u "I"), (0, .fieldref 10 16), (0, .nameAndType 17 14), (0, u "headBound"), (0, .fieldref 10 19), (0, .nameAndType 20 14), (0, u "levels"), (0, .methodref 10 22), (0, .nameAndType 23 24), (0, u "upTo"), (0, u "(I)J"), (0, .fieldref 10 26), (0, .nameAndType 27 28), (0, u "columns"), (0, u "J"), (0, .fieldref 10 30), (0, .nameAndType 31 28), (0, u "lastColumn"), (0, .long 18446744073709551615), (1, .fieldref 10 35), (0, .nameAndType 36 28), (0, u "outsideHead"), (0, .fieldref 10 38), (0, .nameAndType 39 40), (0, u "codePoints"), (0, u "[I"), (0, .fieldref 10 42), (0, .nameAndType 43 44), (0, u "columnsOf"), (0, u "[J"), (0, .fieldref 10 46), (0, .nameAndType 47 44), (0, u "rows"), (0, .fieldref 10 49), (0, .nameAndType 50 44), (0, u "matches"), (0, .methodref 52 53), (0, .class_ 54), (0, .nameAndType 55 56), (0, u "java/util/Arrays"), (0, u "fill"), (0, u "([II)V"), (0, .methodref 10 58), (0, .nameAndType 59 60), (0, u "slot"), (0, u "(I)I"), (0, .methodref 62 63), (0, .class_ 64), (0, .nameAndType 65 66), (0, u "java/lang/Math"), (0, u "min"), (0, u "(II)I"), (0, .class_ 68), (0, u "com/example/close_words/closewords/AlignmentRows"), (0, u "LONGEST_TEXT"), (2, u "BOUND_LIMIT"), (1, u "EMPTY"), (1, u "SLOTS"), (1, u "([IIIII)V"), (5, u "(IIZ)Z"), (0, u "distance")] 2

def k4c0 : Code := { maxStack := 8, maxLocals := 10, code := prog_6_method_1_code, exceptionTable := #[], attributes := #[] }
def k4m0 : Method := { name := "<init>", desc := "([IIIII)V", sig := { parameters := [(.array .int), .int, .int, .int, .int], returnType := none }, accessFlags := 0, code := some k4c0 }
def k4c1 : Code := { maxStack := 7, maxLocals := 18, code := prog_6_method_2_code, exceptionTable := #[], attributes := #[] }
def k4m1 : Method := { name := "fill", desc := "(IIZ)Z", sig := { parameters := [.int, .int, .boolean], returnType := some .boolean }, accessFlags := 1, code := some k4c1 }
def k4c2 : Code := { maxStack := 4, maxLocals := 4, code := prog_6_method_3_code, exceptionTable := #[], attributes := #[] }
def k4m2 : Method := { name := "distance", desc := "(I)I", sig := { parameters := [.int], returnType := some .int }, accessFlags := 1, code := some k4c2 }
def k4c3 : Code := { maxStack := 2, maxLocals := 3, code := prog_6_method_4_code, exceptionTable := #[], attributes := #[] }
def k4m3 : Method := { name := "slot", desc := "(I)I", sig := { parameters := [.int], returnType := some .int }, accessFlags := 2, code := some k4c3 }
def k4c4 : Code := { maxStack := 4, maxLocals := 1, code := prog_6_method_5_code, exceptionTable := #[], attributes := #[] }
def k4m4 : Method := { name := "upTo", desc := "(I)J", sig := { parameters := [.int], returnType := some .long }, accessFlags := 10, code := some k4c4 }
/-- com/example/close_words/closewords/BitRows -/
def k4 : Class := { plain "com/example/close_words/closewords/BitRows" (some 0) with
  accessFlags := 48
  interfaces := #[3]
  cf := some (fileOf pool4 10 #[] #[{ accessFlags := 0, nameIndex := 7, descriptorIndex := 78, attributes := #[] }, { accessFlags := 1, nameIndex := 55, descriptorIndex := 84, attributes := #[] }, { accessFlags := 1, nameIndex := 85, descriptorIndex := 60, attributes := #[] }, { accessFlags := 2, nameIndex := 59, descriptorIndex := 60, attributes := #[] }, { accessFlags := 10, nameIndex := 23, descriptorIndex := 24, attributes := #[] }] 48 4 #[67] #[{ accessFlags := 24, nameIndex := 69, descriptorIndex := 14, attributes := #[] }, { accessFlags := 24, nameIndex := 72, descriptorIndex := 14, attributes := #[] }, { accessFlags := 26, nameIndex := 74, descriptorIndex := 14, attributes := #[] }, { accessFlags := 26, nameIndex := 76, descriptorIndex := 14, attributes := #[] }, { accessFlags := 18, nameIndex := 13, descriptorIndex := 14, attributes := #[] }, { accessFlags := 18, nameIndex := 17, descriptorIndex := 14, attributes := #[] }, { accessFlags := 18, nameIndex := 20, descriptorIndex := 14, attributes := #[] }, { accessFlags := 18, nameIndex := 27, descriptorIndex := 28, attributes := #[] }, { accessFlags := 18, nameIndex := 31, descriptorIndex := 28, attributes := #[] }, { accessFlags := 18, nameIndex := 36, descriptorIndex := 28, attributes := #[] }, { accessFlags := 18, nameIndex := 39, descriptorIndex := 40, attributes := #[] }, { accessFlags := 18, nameIndex := 43, descriptorIndex := 44, attributes := #[] }, { accessFlags := 18, nameIndex := 47, descriptorIndex := 44, attributes := #[] }, { accessFlags := 18, nameIndex := 50, descriptorIndex := 44, attributes := #[] }])
  fields := #[{ name := "LONGEST_TEXT", type := .int, accessFlags := 24, slot := 0, constantValue := 0 }, { name := "BOUND_LIMIT", type := .int, accessFlags := 24, slot := 1, constantValue := 0 }, { name := "EMPTY", type := .int, accessFlags := 26, slot := 2, constantValue := 0 }, { name := "SLOTS", type := .int, accessFlags := 26, slot := 3, constantValue := 0 }, { name := "bound", type := .int, accessFlags := 18, slot := 0, constantValue := 0 }, { name := "headBound", type := .int, accessFlags := 18, slot := 1, constantValue := 0 }, { name := "levels", type := .int, accessFlags := 18, slot := 2, constantValue := 0 }, { name := "columns", type := .long, accessFlags := 18, slot := 3, constantValue := 0 }, { name := "lastColumn", type := .long, accessFlags := 18, slot := 4, constantValue := 0 }, { name := "outsideHead", type := .long, accessFlags := 18, slot := 5, constantValue := 0 }, { name := "codePoints", type := (.array .int), accessFlags := 18, slot := 6, constantValue := 0 }, { name := "columnsOf", type := (.array .long), accessFlags := 18, slot := 7, constantValue := 0 }, { name := "rows", type := (.array .long), accessFlags := 18, slot := 8, constantValue := 0 }, { name := "matches", type := (.array .long), accessFlags := 18, slot := 9, constantValue := 0 }]
  methods := #[k4m0, k4m1, k4m2, k4m3, k4m4]
  instanceTypes := #[.int, .int, .int, .long, .long, .long, (.array .int), (.array .long), (.array .long), (.array .long)]
  staticTypes := #[.int, .int, .int, .int]
  resolved := Array.replicate 88 none
  statics := none }

def pool5 : Array CpInfo := pool [(2, .class_ 4), (1, u "java/lang/Object"), (0, u "<init>"), (0, u "()V"), (7, .class_ 16), (1, u "java/util/Arrays"), (57, .class_ 76), (1, u "java/util/Arrays$NaturalOrder"), (36, .class_ 115), (1, u "java/util/Arrays$LegacyMergeSort"), (1, u "Z"), (257, .class_ 376), (0, u "java/util/Arrays$ArrayList"), (68, u "$assertionsDisabled"), (269, u "MIN_ARRAY_SORT_GRAN"), (0, u "I"), (2, u "INSERTIONSORT_THRESHOLD"), (120, u "fill"), (4, u "([II)V"), (129, .class_ 976), (0, u "java/util/Arrays$ArrayItr")] 52

def k5m0 : Method := { name := "<init>", desc := "()V", sig := { parameters := [], returnType := none }, accessFlags := 2, code := none }
def k5c1 : Code := { maxStack := 3, maxLocals := 4, code := jdk_65_method_103_code, exceptionTable := #[], attributes := #[] }
def k5m1 : Method := { name := "fill", desc := "([II)V", sig := { parameters := [(.array .int), .int], returnType := none }, accessFlags := 9, code := some k5c1 }
/-- java/util/Arrays -/
def k5 : Class := { plain "java/util/Arrays" (some 0) with
  accessFlags := 49
  interfaces := #[]
  cf := some (fileOf pool5 14 #[.nestMembers #[975, 375, 113, 74]] #[{ accessFlags := 2, nameIndex := 5, descriptorIndex := 6, attributes := #[] }, { accessFlags := 9, nameIndex := 840, descriptorIndex := 845, attributes := #[] }] 49 2 #[] #[{ accessFlags := 26, nameIndex := 715, descriptorIndex := 716, attributes := #[] }, { accessFlags := 26, nameIndex := 719, descriptorIndex := 716, attributes := #[] }, { accessFlags := 4120, nameIndex := 445, descriptorIndex := 117, attributes := #[] }])
  fields := #[{ name := "MIN_ARRAY_SORT_GRAN", type := .int, accessFlags := 26, slot := 0, constantValue := 0 }, { name := "INSERTIONSORT_THRESHOLD", type := .int, accessFlags := 26, slot := 1, constantValue := 0 }, { name := "$assertionsDisabled", type := .boolean, accessFlags := 4120, slot := 2, constantValue := 0 }]
  methods := #[k5m0, k5m1]
  instanceTypes := #[]
  staticTypes := #[.int, .int, .boolean]
  resolved := Array.replicate 1029 none
  statics := none }

def pool6 : Array CpInfo := pool [(1, u "java/lang/Cloneable"), (0, .class_ 1), (0, u "java/lang/Object"), (0, .class_ 3)] 3

/-- java/lang/Cloneable -/
def k6 : Class := { plain "java/lang/Cloneable" (some 0) with
  accessFlags := 1537
  interfaces := #[]
  cf := some (fileOf pool6 2 #[] #[] 1537 4 #[] #[])
  fields := #[]
  methods := #[]
  instanceTypes := #[]
  staticTypes := #[]
  resolved := Array.replicate 8 none
  statics := none }

def pool7 : Array CpInfo := pool [(1, u "java/io/Serializable"), (0, .class_ 1), (0, u "java/lang/Object"), (0, .class_ 3)] 3

/-- java/io/Serializable -/
def k7 : Class := { plain "java/io/Serializable" (some 0) with
  accessFlags := 1537
  interfaces := #[]
  cf := some (fileOf pool7 2 #[] #[] 1537 4 #[] #[])
  fields := #[]
  methods := #[]
  instanceTypes := #[]
  staticTypes := #[]
  resolved := Array.replicate 8 none
  statics := none }

/-- the primitive byte -/
def k8 : Class := { plain "byte" none with kind := .primitive 'B', accessFlags := 0x411 }
/-- [B -/
def k9 : Class := { plain "[B" (some 0) with kind := .array 8 .byte, interfaces := #[6, 7], accessFlags := 1041 }

/-- the primitive int -/
def k10 : Class := { plain "int" none with kind := .primitive 'I', accessFlags := 0x411 }
/-- [I -/
def k11 : Class := { plain "[I" (some 0) with kind := .array 10 .int, interfaces := #[6, 7], accessFlags := 1041 }

/-- the primitive long -/
def k12 : Class := { plain "long" none with kind := .primitive 'J', accessFlags := 0x411 }
/-- [J -/
def k13 : Class := { plain "[J" (some 0) with kind := .array 12 .long, interfaces := #[6, 7], accessFlags := 1041 }
/-- [[I -/
def k14 : Class := { plain "[[I" (some 0) with kind := .array 11 (.array .int), interfaces := #[6, 7], accessFlags := 1041 }

def heap : Heap := #[]
def classes : Array Class := #[k0, k1, k2, k3, k4, k5, k6, k7, k8, k9, k10, k11, k12, k13, k14]
def interned : List (Array UInt16 × Addr) := []
def slotsUsed : Nat := 0
def theMethod : MethodId := ⟨1, 5⟩
def args0 : Array Value := #[.int 1041, .int 10, .int 3, .int 1, .int 2]
def aboutOver (below : List Frame) : State where
  vm := { classes := classes, interned := interned.toArray }
  heap := heap
  slotsUsed := slotsUsed
  threads := #[{ frames := .invoking theMethod args0 :: below }]
def below0 : List Frame := [.native { method := ⟨0, 0⟩, args := #[] }]
def about1 : State := aboutOver below0
def p0 : Program := .bare "" "" ""
def e0 : Env := launch0.env 0 0 0
theorem w_frames : about1.frames = Frame.invoking theMethod args0 :: below0 := rfl
set_option maxRecDepth 65536 in
theorem w_args : argsFit about1.vm theMethod args0 = true := by decide +kernel
set_option maxRecDepth 65536 in
theorem w_heap : heapFits about1 = true := by decide +kernel
set_option maxRecDepth 65536 in
theorem w_runnable : about1.curStatus? = some .runnable := by decide +kernel
set_option maxRecDepth 65536 in
theorem w_alone : about1.alone = true := by decide +kernel
set_option maxRecDepth 65536 in
theorem w_named : about1.methodNamed? x = some theMethod := by decide +kernel
set_option maxRecDepth 65536 in
theorem w_hears : about1.hears theMethod below0 = true := by decide +kernel
set_option maxRecDepth 65536 in
theorem w_ripe : about1.ripe theMethod args0 below0 = true := by decide +kernel
theorem w_running : about1.status = .running := rfl
set_option maxRecDepth 65536 in
theorem w_room : about1.hasRoom e0.platform room_1 = true :=
  launch0.hasRoom_least _ room_1 (by decide +kernel) (by decide +kernel) (by decide +kernel) (by decide +kernel) (by decide +kernel) (by decide +kernel)
theorem allAtoms_all (ts : List Jvm.Cond) (a : Array Jvm.Value) (st : Jvm.State) : (allAtoms ts).before a st = ts.all (fun c => c.before a st) := by
  induction ts with
  | nil => rfl
  | cons c t ih =>
    show (Jvm.Cond.and c (allAtoms t)).before a st = _
    rw [Jvm.Cond.before_and, ih, List.all_cons]
def words1 : List Jvm.Cond := Jvm.Cond.code x code maxLocals ret :: tables_1
/-- a 'code' word, met by the world's own term for the bytes: nothing is compared byte by byte -/
theorem code_word {y : MethodName} {bytes : ByteArray} {mx : Nat} {rt : Option FieldType} {a : Array Value} {s : State} {m : MethodId} {meth : Method} {c : Code} (h1 : s.methodNamed? y = some m) (h2 : s.vm.method? m = some meth) (h3 : meth.code = some c) (h4 : c.code = bytes)
    (h5 : (c.maxLocals == mx && c.exceptionTable.isEmpty && decide (c.maxStack ≤ mostOperands) && decide (meth.sig.returnType = rt) && !meth.locks && decide (parseMethodDescriptor y.desc = some meth.sig)) = true) : (Jvm.Cond.code y bytes mx rt).before a s = true := by
  simp only [Bool.and_eq_true, beq_iff_eq, Bool.not_eq_true', decide_eq_true_eq] at h5
  obtain ⟨⟨⟨⟨⟨g1, g2⟩, g3⟩, g4⟩, g5⟩, g6⟩ := h5
  simp [Cond.before, Cond.holds, Cond.value, h1, h2, h3, h4, g1, g2, g3, g4, g5, g6]
def isCode : Jvm.Cond → Bool
  | .code _ _ _ _ => true
  | _ => false
theorem all_split {L : List Jvm.Cond} {P : Jvm.Cond → Bool} (h1 : L.all (fun c => isCode c || P c) = true) (h2 : ∀ c ∈ L.filter isCode, P c = true) : L.all P = true := by
  refine List.all_eq_true.mpr fun c hc => ?_
  have h := List.all_eq_true.mp h1 c hc
  rcases Bool.eq_false_or_eq_true (isCode c) with hi | hi
  · exact h2 c (List.mem_filter.mpr ⟨hc, hi⟩)
  · simpa [hi] using h
set_option maxRecDepth 65536 in
theorem w_c0 : (Jvm.Cond.code x code maxLocals ret).before args0 about1 = true := code_word (m := ⟨1, 5⟩) (meth := k1m5) (c := k1c5) (by decide +kernel) rfl rfl rfl (by decide +kernel)
set_option maxRecDepth 65536 in
theorem w_c1 : (Jvm.Cond.code ({ cls := "com/example/close_words/closewords/BitRowsFillPinLaw", name := "cp", desc := "(I)I" } : Jvm.MethodName) method_2_code (1 : Nat) (Option.some Jvm.ClassFile.FieldType.int)).before args0 about1 = true := code_word (m := ⟨1, 1⟩) (meth := k1m1) (c := k1c1) (by decide +kernel) rfl rfl rfl (by decide +kernel)
set_option maxRecDepth 65536 in
theorem w_c2 : (Jvm.Cond.code ({ cls := "java/lang/Math", name := "min", desc := "(II)I" } : Jvm.MethodName) jdk_29_method_69_code (2 : Nat) (Option.some Jvm.ClassFile.FieldType.int)).before args0 about1 = true := code_word (m := ⟨2, 1⟩) (meth := k2m1) (c := k2c1) (by decide +kernel) rfl rfl rfl (by decide +kernel)
set_option maxRecDepth 65536 in
theorem w_c3 : (Jvm.Cond.code ({ cls := "com/example/close_words/closewords/BitRows", name := "<init>", desc := "([IIIII)V" } : Jvm.MethodName) prog_6_method_1_code (10 : Nat) (Option.none : Option Jvm.ClassFile.FieldType)).before args0 about1 = true := code_word (m := ⟨4, 0⟩) (meth := k4m0) (c := k4c0) (by decide +kernel) rfl rfl rfl (by decide +kernel)
set_option maxRecDepth 65536 in
theorem w_c4 : (Jvm.Cond.code ({ cls := "java/lang/Object", name := "<init>", desc := "()V" } : Jvm.MethodName) object_method_1_code (1 : Nat) (Option.none : Option Jvm.ClassFile.FieldType)).before args0 about1 = true := code_word (m := ⟨0, 0⟩) (meth := k0m0) (c := k0c0) (by decide +kernel) rfl rfl rfl (by decide +kernel)
set_option maxRecDepth 65536 in
theorem w_c5 : (Jvm.Cond.code ({ cls := "com/example/close_words/closewords/BitRows", name := "upTo", desc := "(I)J" } : Jvm.MethodName) prog_6_method_5_code (1 : Nat) (Option.some Jvm.ClassFile.FieldType.long)).before args0 about1 = true := code_word (m := ⟨4, 4⟩) (meth := k4m4) (c := k4c4) (by decide +kernel) rfl rfl rfl (by decide +kernel)
set_option maxRecDepth 65536 in
theorem w_c6 : (Jvm.Cond.code ({ cls := "java/util/Arrays", name := "fill", desc := "([II)V" } : Jvm.MethodName) jdk_65_method_103_code (4 : Nat) (Option.none : Option Jvm.ClassFile.FieldType)).before args0 about1 = true := code_word (m := ⟨5, 1⟩) (meth := k5m1) (c := k5c1) (by decide +kernel) rfl rfl rfl (by decide +kernel)
set_option maxRecDepth 65536 in
theorem w_c7 : (Jvm.Cond.code ({ cls := "com/example/close_words/closewords/BitRowsFillPinLaw", name := "cap", desc := "(IIII)I" } : Jvm.MethodName) method_3_code (4 : Nat) (Option.some Jvm.ClassFile.FieldType.int)).before args0 about1 = true := code_word (m := ⟨1, 2⟩) (meth := k1m2) (c := k1c2) (by decide +kernel) rfl rfl rfl (by decide +kernel)
set_option maxRecDepth 65536 in
theorem w_c8 : (Jvm.Cond.code ({ cls := "com/example/close_words/closewords/BitRowsFillPinLaw", name := "cell", desc := "([[III[I[III)I" } : Jvm.MethodName) method_4_code (8 : Nat) (Option.some Jvm.ClassFile.FieldType.int)).before args0 about1 = true := code_word (m := ⟨1, 3⟩) (meth := k1m3) (c := k1c3) (by decide +kernel) rfl rfl rfl (by decide +kernel)
set_option maxRecDepth 65536 in
theorem w_c9 : (Jvm.Cond.code ({ cls := "com/example/close_words/closewords/BitRowsFillPinLaw", name := "rowOk", desc := "(Lcom/example/close_words/closewords/BitRows;IIZ[III)Z" } : Jvm.MethodName) method_5_code (10 : Nat) (Option.some Jvm.ClassFile.FieldType.boolean)).before args0 about1 = true := code_word (m := ⟨1, 4⟩) (meth := k1m4) (c := k1c4) (by decide +kernel) rfl rfl rfl (by decide +kernel)
set_option maxRecDepth 65536 in
theorem w_c10 : (Jvm.Cond.code ({ cls := "com/example/close_words/closewords/BitRows", name := "fill", desc := "(IIZ)Z" } : Jvm.MethodName) prog_6_method_2_code (18 : Nat) (Option.some Jvm.ClassFile.FieldType.boolean)).before args0 about1 = true := code_word (m := ⟨4, 1⟩) (meth := k4m1) (c := k4c1) (by decide +kernel) rfl rfl rfl (by decide +kernel)
set_option maxRecDepth 65536 in
theorem w_c11 : (Jvm.Cond.code ({ cls := "com/example/close_words/closewords/BitRows", name := "slot", desc := "(I)I" } : Jvm.MethodName) prog_6_method_4_code (3 : Nat) (Option.some Jvm.ClassFile.FieldType.int)).before args0 about1 = true := code_word (m := ⟨4, 3⟩) (meth := k4m3) (c := k4c3) (by decide +kernel) rfl rfl rfl (by decide +kernel)
set_option maxRecDepth 65536 in
theorem w_c12 : (Jvm.Cond.code ({ cls := "com/example/close_words/closewords/BitRows", name := "distance", desc := "(I)I" } : Jvm.MethodName) prog_6_method_3_code (4 : Nat) (Option.some Jvm.ClassFile.FieldType.int)).before args0 about1 = true := code_word (m := ⟨4, 2⟩) (meth := k4m2) (c := k4c2) (by decide +kernel) rfl rfl rfl (by decide +kernel)
def codes1 : List Jvm.Cond := [Jvm.Cond.code x code maxLocals ret, Jvm.Cond.code ({ cls := "com/example/close_words/closewords/BitRowsFillPinLaw", name := "cp", desc := "(I)I" } : Jvm.MethodName) method_2_code (1 : Nat) (Option.some Jvm.ClassFile.FieldType.int), Jvm.Cond.code ({ cls := "java/lang/Math", name := "min", desc := "(II)I" } : Jvm.MethodName) jdk_29_method_69_code (2 : Nat) (Option.some Jvm.ClassFile.FieldType.int), Jvm.Cond.code ({ cls := "com/example/close_words/closewords/BitRows", name := "<init>", desc := "([IIIII)V" } : Jvm.MethodName) prog_6_method_1_code (10 : Nat) (Option.none : Option Jvm.ClassFile.FieldType), Jvm.Cond.code ({ cls := "java/lang/Object", name := "<init>", desc := "()V" } : Jvm.MethodName) object_method_1_code (1 : Nat) (Option.none : Option Jvm.ClassFile.FieldType), Jvm.Cond.code ({ cls := "com/example/close_words/closewords/BitRows", name := "upTo", desc := "(I)J" } : Jvm.MethodName) prog_6_method_5_code (1 : Nat) (Option.some Jvm.ClassFile.FieldType.long), Jvm.Cond.code ({ cls := "java/util/Arrays", name := "fill", desc := "([II)V" } : Jvm.MethodName) jdk_65_method_103_code (4 : Nat) (Option.none : Option Jvm.ClassFile.FieldType), Jvm.Cond.code ({ cls := "com/example/close_words/closewords/BitRowsFillPinLaw", name := "cap", desc := "(IIII)I" } : Jvm.MethodName) method_3_code (4 : Nat) (Option.some Jvm.ClassFile.FieldType.int), Jvm.Cond.code ({ cls := "com/example/close_words/closewords/BitRowsFillPinLaw", name := "cell", desc := "([[III[I[III)I" } : Jvm.MethodName) method_4_code (8 : Nat) (Option.some Jvm.ClassFile.FieldType.int), Jvm.Cond.code ({ cls := "com/example/close_words/closewords/BitRowsFillPinLaw", name := "rowOk", desc := "(Lcom/example/close_words/closewords/BitRows;IIZ[III)Z" } : Jvm.MethodName) method_5_code (10 : Nat) (Option.some Jvm.ClassFile.FieldType.boolean), Jvm.Cond.code ({ cls := "com/example/close_words/closewords/BitRows", name := "fill", desc := "(IIZ)Z" } : Jvm.MethodName) prog_6_method_2_code (18 : Nat) (Option.some Jvm.ClassFile.FieldType.boolean), Jvm.Cond.code ({ cls := "com/example/close_words/closewords/BitRows", name := "slot", desc := "(I)I" } : Jvm.MethodName) prog_6_method_4_code (3 : Nat) (Option.some Jvm.ClassFile.FieldType.int), Jvm.Cond.code ({ cls := "com/example/close_words/closewords/BitRows", name := "distance", desc := "(I)I" } : Jvm.MethodName) prog_6_method_3_code (4 : Nat) (Option.some Jvm.ClassFile.FieldType.int)]
set_option maxRecDepth 65536 in
theorem codes_eq : words1.filter isCode = codes1 := rfl
theorem w_codes : ∀ c ∈ words1.filter isCode, c.before args0 about1 = true := by
  rw [codes_eq]
  intro c hc
  simp only [codes1, List.mem_cons, List.not_mem_nil, or_false] at hc
  rcases hc with rfl | rfl | rfl | rfl | rfl | rfl | rfl | rfl | rfl | rfl | rfl | rfl | rfl
  · exact w_c0
  · exact w_c1
  · exact w_c2
  · exact w_c3
  · exact w_c4
  · exact w_c5
  · exact w_c6
  · exact w_c7
  · exact w_c8
  · exact w_c9
  · exact w_c10
  · exact w_c11
  · exact w_c12
set_option maxRecDepth 65536 in
theorem w_t1 : (words1.take 24).all (fun c => isCode c || c.before args0 about1) = true := by decide +kernel
set_option maxRecDepth 65536 in
theorem w_t2 : ((words1.drop 24).take 24).all (fun c => isCode c || c.before args0 about1) = true := by decide +kernel
set_option maxRecDepth 65536 in
theorem w_t3 : (((words1.drop 24).drop 24).take 24).all (fun c => isCode c || c.before args0 about1) = true := by decide +kernel
set_option maxRecDepth 65536 in
theorem w_t4 : (((words1.drop 24).drop 24).drop 24).all (fun c => isCode c || c.before args0 about1) = true := by decide +kernel
theorem w_tables : (allAtoms (Jvm.Cond.code x code maxLocals ret :: tables_1)).before args0 about1 = true := by
  rw [allAtoms_all]
  show words1.all (fun c => c.before args0 about1) = true
  refine all_split ?_ w_codes
  rw [← List.take_append_drop 24 words1, List.all_append, w_t1, ← List.take_append_drop 24 (words1.drop 24), List.all_append, w_t2, ← List.take_append_drop 24 ((words1.drop 24).drop 24), List.all_append, w_t3, w_t4]
  rfl
set_option maxRecDepth 65536 in
theorem w_case : (Jvm.Cond.and given_1 narrow_1).before args0 about1 = true := by decide +kernel
theorem w_applies : (headSpec (Jvm.Cond.code x code maxLocals ret :: tables_1) room_1).applies x e0.platform about1 = true :=
  (Spec.applies_iff w_frames).mpr ⟨w_running, w_runnable, w_alone, w_named, w_hears, w_ripe, w_room, w_tables⟩
theorem atStart : AtStart classFile x code maxLocals ret World_1 tables_1 room_1 Calls_1 rest_1 Pre_1 launch0 p0 e0 about1 theMethod args0 below0 :=
  ⟨lists_1, trivial, launch0.admits_env _ _ _, launch0.least_env, fairChoices_fair.cas, fairChoices_fair.clock, w_frames, w_args, w_heap, w_applies, trivial, trivial, w_case⟩
end start1
theorem witness_1 : WitnessClaimed_1 := ⟨start1.p0, start1.e0, start1.about1, start1.theMethod, start1.args0, start1.below0, start1.atStart⟩
end Jvm.Pilot.@@N@@
