import JvmDerived
import JvmDerived.Pilot.@@N@@Statement
import JvmDerived.Pilot.@@N@@Code
set_option linter.unusedVariables false
set_option linter.unusedSimpArgs false
@@BLOCK:NumsL.lean.txt@@
namespace Jvm.Pilot.@@N@@
open Jvm Jvm.ClassFile Sem Op Lib Jvm.Free Jvm.Stand Jvm.LawKit Jvm.RoadKit Bundle Jvm.Pilot.@@N@@.Jvm.D
theorem ow {a0 : Array Value} {Z : State} (hw : ∀ d ∈ tables_1, d.before a0 Z = true) (i : Nat) {d : Jvm.Cond} (h : tables_1[i]? = some d) : d.before a0 Z = true := hw _ (List.mem_of_getElem? h)
section OwnKit
abbrev uu : Slot := .unset
abbrev ss : Slot := .second
abbrev jv (x : Int64) : Slot := .val (.long x)
variable {p : Program} {l : Launch} {e : Env} {R : Room} {s : State} {m : MethodId} {args : Array Value} {below : List Frame} {meth : Method} {c : Code} {T : State} {locs : List Loc} {cells slots : Nat} {Z : State} {a0 : Array Value} {h h' : Heap} {K : State → Outcome → Prop}
/-- from here the run comes to an end that K takes -/
def own_Wp (tb : Tables) (e : Env) (below : List Frame) (K : State → Outcome → Prop) (st : State) : Prop := ∃ s₂ o, Steps tb e below st s₂ ∧ K s₂ o
theorem own_of {tb : Tables} {A B : State} (h : ∀ t, Steps tb e below B t → Steps tb e below A t) (w : own_Wp tb e below K B) : own_Wp tb e below K A := by
  obtain ⟨s₂, o, h1, h2⟩ := w
  exact ⟨s₂, o, h _ h1, h2⟩
def own_K (R : Room) (s : State) (below : List Frame) (Q : Option Value → Heap → List Loc → Prop) (s₂ : State) (o : Outcome) : Prop :=
  s₂.status = .running ∧ Ended s₂ below o ∧ ∃ v L, o = .returned v ∧ Q v s₂.heap L ∧ FrameEnd s o s₂ L R.cells R.slots
theorem own_ret {Q : Option Value → Heap → List Loc → Prop} (X : Stand p l e R s m args below meth c T locs cells slots) (hlk : meth.locks = false) (v : Option Value) (hv : meth.sig.returnType = none → v = none) {f : JFrame}
    (hs : ∀ fs, (∀ (f : JFrame) (acts : List Action), f.method = m → f.locked = none → f.entered = [] → (doReturn e (T.setTop f) acts v).1 = T.setFrames fs) → Steps p.tables e below (T.setTop f) (T.setFrames fs))
    (hQ : Q v T.heap locs) (hc : cells ≤ R.cells) (hsl : slots ≤ R.slots) : own_Wp p.tables e below (own_K R s below Q) (T.setTop f) := by
  obtain ⟨fs, hr, hrun, hended, hW, hsame⟩ := X.leave (v := v) hv hlk
  exact ⟨_, _, hs fs hr, hrun, hended, _, _, rfl, hQ, ⟨_, rfl⟩, hW, hsame.mono hc hsl⟩
theorem own_rtI {i : FieldType} {v : Option Value} {r : Option FieldType} (h1 : r = some i) : r = none → v = none := fun h => by rw [h1] at h; cases h
theorem own_retI (X : Stand p l e R s m args below meth c T locs cells slots) (hx : p.tables.exec = Jvm.exec) {pc : Nat} {Ls : Array Slot} {z : Int32} {rest : List Value} (hret : meth.sig.returnType = some .int) (hd : decode c.code pc = .ok (.ireturn, 1)) {fs : List Frame}
    (hl : ∀ (f : JFrame) (acts : List Action), f.method = m → f.locked = none → f.entered = [] → (doReturn e (T.setTop f) acts (some (.int z))).1 = T.setFrames fs) : Steps p.tables e below (T.setTop (mkF m pc Ls (.int z :: rest))) (T.setFrames fs) :=
  retOut X hx hret rfl (Or.inl ⟨rfl, Or.inl rfl, z, rfl⟩) hd hl
theorem own_retJ (X : Stand p l e R s m args below meth c T locs cells slots) (hx : p.tables.exec = Jvm.exec) {pc : Nat} {Ls : Array Slot} {z : Int64} {rest : List Value} (hret : meth.sig.returnType = some .long) (hd : decode c.code pc = .ok (.lreturn, 1)) {fs : List Frame}
    (hl : ∀ (f : JFrame) (acts : List Action), f.method = m → f.locked = none → f.entered = [] → (doReturn e (T.setTop f) acts (some (.long z))).1 = T.setFrames fs) : Steps p.tables e below (T.setTop (mkF m pc Ls (.long z :: rest))) (T.setFrames fs) :=
  retOut X hx hret rfl (Or.inr (Or.inl ⟨rfl, rfl, z, rfl⟩)) hd hl
theorem own_retR (X : Stand p l e R s m args below meth c T locs cells slots) (hx : p.tables.exec = Jvm.exec) {pc : Nat} {Ls : Array Slot} {w : Value} {t : FieldType} {rest : List Value} (hret : meth.sig.returnType = some t) (hw : w.isRef = true) (ht : t.isReference = true) (hn : narrow t w = w) (hd : decode c.code pc = .ok (.areturn, 1)) {fs : List Frame}
    (hl : ∀ (f : JFrame) (acts : List Action), f.method = m → f.locked = none → f.entered = [] → (doReturn e (T.setTop f) acts (some w)).1 = T.setFrames fs) : Steps p.tables e below (T.setTop (mkF m pc Ls (w :: rest))) (T.setFrames fs) :=
  retOut X hx hret hn (Or.inr (Or.inr (Or.inr (Or.inr ⟨rfl, ht, hw⟩)))) hd hl
/-- a method's contract: called so, at the heap h0, it returns as Q says -/
abbrev own_Ctr (l : Launch) (Z : State) (y : MethodName) (bytes : ByteArray) (maxL : Nat) (ret : Option FieldType) (ws : List Jvm.Cond) (rm : Room) (as' : Array Value) (h0 : Heap) (Q : Option Value → Heap → List Loc → Prop) : Prop :=
  MetFree l y (head1 (Jvm.Cond.code y bytes maxL ret :: ws) rm) (fun a U => a = as' ∧ Z.Warmed39 U.vm ∧ U.heap = h0) (fun _ _ _ _ _ => True) (fun _ U o U' => ∃ v L, o = .returned v ∧ Q v U'.heap L ∧ FrameEnd U o U' L rm.cells rm.slots)
theorem own_enter {y : MethodName} {bytes : ByteArray} {maxL : Nat} {ret : Option FieldType} {ws : List Jvm.Cond} {rm : Room} {as' : Array Value} {h0 : Heap} {Q : Option Value → Heap → List Loc → Prop} (hpl : plainFor y = true)
    (body : ∀ (p : Program) (e : Env) (s : State) (m : MethodId) (below : List Frame) (meth : Method) (c : Code) (s₁ : State), Stand p l e rm s m as' below meth c s₁ [] 0 0 → p.tables.exec = Jvm.exec → c.code = bytes → c.maxLocals = maxL → meth.sig.returnType = ret → meth.locks = false → Z.Warmed39 s.vm → s.vm.findClass y.cls = some m.cls → meth.name = y.name → s₁.heap = h0 → own_Wp p.tables e below (own_K rm s below Q) (s₁.setTop (entryFrame m as' maxL))) :
    own_Ctr l Z y bytes maxL ret ws rm as' h0 Q := by
  refine MetFree.of_bodySF hpl hisR ?_
  intro p e s m args below meth c s₁ Bd hml0 hP hK
  obtain ⟨rfl, hZ, hh⟩ := hP
  obtain ⟨s₂, o, h1, h2, h3, h4⟩ := body p e s m below meth c s₁ (Stand.of_body Bd) Bd.exec Bd.bytes hml0 Bd.returns Bd.notSynchronized hZ (findClass_of_methodNamed Bd.named) (name_of_methodNamed Bd.named Bd.method).1 (by rw [← hh, Bd.state]; rfl)
  exact ⟨s₂, o, h1, h2, h3, h4⟩
section Calls
variable {own C : String} {index maxL W : Nat} {y z : MethodName} {bytes : ByteArray} {ret : Option FieldType} {rm : Room} {Q : Option Value → Heap → List Loc → Prop} {argsL rest : List Value} {g : JFrame} {a : Addr}
theorem own_callS (X : Stand p l e R s m args below meth c T locs cells slots) (hx : p.tables.exec = Jvm.exec) (hZ : Z.Warmed39 s.vm) (hown : s.vm.findClass own = some m.cls)
    (w1 : (Jvm.Cond.methodLink own index y).before a0 Z = true) (w2 : (Jvm.Cond.static y).before a0 Z = true) (w3 : (Jvm.Cond.initialized y.cls).before a0 Z = true) (w4 : (Jvm.Cond.code y bytes maxL ret).before a0 Z = true)
    (hy : y.cls ≠ "java/lang/invoke/MethodHandle" ∧ y.cls ≠ "java/lang/invoke/VarHandle") (eT : T.heap = h) (hM : own_Ctr l Z y bytes maxL ret [] rm argsL.toArray h Q)
    (hf : rm.frames + 1 ≤ R.frames) (hl : W + (maxL + 11) + rm.locals ≤ R.locals) (hc : cells + rm.cells ≤ R.cells) (hs : slots + rm.slots ≤ R.slots)
    (hg : g.method = m) (hsize : g.locals.size = c.maxLocals) (hlen : ∀ sig, parseMethodDescriptor y.desc = some sig → argsL.length = sig.parameters.length) (hstack : g.stack = argsL.reverse ++ rest) (hW : 2 * g.monitorRoom + (rest.map fun v => v.category).sum ≤ W) (hdg : decode c.code g.pc = .ok (.invokestatic index, 3))
    (k : ∀ (T' : State) (L : List Loc) (v : Option Value), Stand p l e R s m args below meth c T' (locs ++ L) (cells + rm.cells) (slots + rm.slots) → Q v T'.heap L → own_Wp p.tables e below K (T'.setTop { g with pc := g.pc + 3, stack := v.toList ++ rest })) :
    own_Wp p.tables e below K (T.setTop g) := by
  obtain ⟨v, _, ⟨T', L', k', n'⟩, -, X', ⟨Lc, hQ, l1, y1, z1⟩, st⟩ := Jvm.LawKit.callS X hx hown (mvT hZ w1) (mvT hZ w2) (mvT hZ w3) (mvT hZ w4) hy (backOf (W := W) hM hZ w4 w3 hf hl) hg hsize hlen hstack hW hdg (fun _ _ => ⟨rfl, eT, hc, hs⟩)
  dsimp only [Pt.U, Pt.locs, Pt.cells, Pt.slots] at X' l1 y1 z1 st hQ
  subst l1 y1 z1
  exact own_of st (k _ _ _ X' hQ)
theorem own_callI (X : Stand p l e R s m args below meth c T locs cells slots) (hx : p.tables.exec = Jvm.exec) (hZ : Z.Warmed39 s.vm) (hy1 : y.name = "<init>") (hown : s.vm.findClass own = some m.cls)
    (w1 : (Jvm.Cond.methodLink own index y).before a0 Z = true) (w2 : (Jvm.Cond.instanceMethod y).before a0 Z = true) (w3 : (Jvm.Cond.initialized y.cls).before a0 Z = true) (w4 : (Jvm.Cond.code y bytes maxL none).before a0 Z = true)
    (hy : y.cls ≠ "java/lang/invoke/MethodHandle" ∧ y.cls ≠ "java/lang/invoke/VarHandle") (eT : T.heap = h) (hM : own_Ctr l Z y bytes maxL none [] rm (.ref a :: argsL).toArray h Q)
    (hf : rm.frames + 1 ≤ R.frames) (hl : W + (maxL + 11) + rm.locals ≤ R.locals) (hc : cells + rm.cells ≤ R.cells) (hs : slots + rm.slots ≤ R.slots)
    (hg : g.method = m) (hsize : g.locals.size = c.maxLocals) (hlen : ∀ sig, parseMethodDescriptor y.desc = some sig → argsL.length = sig.parameters.length) (hstack : g.stack = argsL.reverse ++ .ref a :: rest) (hW : 2 * g.monitorRoom + (rest.map fun v => v.category).sum ≤ W) (hdg : decode c.code g.pc = .ok (.invokespecial index, 3))
    (k : ∀ (T' : State) (L : List Loc) (v : Option Value), Stand p l e R s m args below meth c T' (locs ++ L) (cells + rm.cells) (slots + rm.slots) → Q v T'.heap L → own_Wp p.tables e below K (T'.setTop { g with pc := g.pc + 3, stack := v.toList ++ rest })) :
    own_Wp p.tables e below K (T.setTop g) := by
  obtain ⟨v, _, ⟨T', L', k', n'⟩, -, X', ⟨Lc, hQ, l1, y1, z1⟩, st⟩ := X.specialBack hx hy1 hown (mvT hZ w1) (mvT hZ w2) (mvT hZ w4) hy (backOf (W := W) hM hZ w4 w3 hf hl) hg hsize (Steps.refl _) hlen hstack hW hdg (fun _ _ => ⟨rfl, eT, hc, hs⟩)
  dsimp only [Pt.U, Pt.locs, Pt.cells, Pt.slots] at X' l1 y1 z1 st hQ
  subst l1 y1 z1
  exact own_of (fun t q => st.trans q) (k _ _ _ X' hQ)
theorem own_callV (X : Stand p l e R s m args below meth c T locs cells slots) (hx : p.tables.exec = Jvm.exec) (hZ : Z.Warmed39 s.vm) (hown : s.vm.findClass own = some m.cls)
    (w1 : (Jvm.Cond.methodLink own index y).before a0 Z = true) (w2 : (Jvm.Cond.declares y).before a0 Z = true) (w5 : (Jvm.Cond.selects C y y).before a0 Z = true) (w6 : (Jvm.Cond.instanceMethod y).before a0 Z = true) (w3 : (Jvm.Cond.initialized y.cls).before a0 Z = true) (w4 : (Jvm.Cond.code y bytes maxL ret).before a0 Z = true)
    (hy : y.cls ≠ "java/lang/invoke/MethodHandle" ∧ y.cls ≠ "java/lang/invoke/VarHandle") (eT : T.heap = h) (E : Exa Z h a C) (hM : own_Ctr l Z y bytes maxL ret [] rm (.ref a :: argsL).toArray h Q)
    (hf : rm.frames + 1 ≤ R.frames) (hl : W + (maxL + 11) + rm.locals ≤ R.locals) (hc : cells + rm.cells ≤ R.cells) (hs : slots + rm.slots ≤ R.slots)
    (hg : g.method = m) (hsize : g.locals.size = c.maxLocals) (hlen : ∀ sig, parseMethodDescriptor y.desc = some sig → argsL.length = sig.parameters.length) (hstack : g.stack = argsL.reverse ++ .ref a :: rest) (hW : 2 * g.monitorRoom + (rest.map fun v => v.category).sum ≤ W) (hdg : decode c.code g.pc = .ok (.invokevirtual index, 3))
    (k : ∀ (T' : State) (L : List Loc) (v : Option Value), Stand p l e R s m args below meth c T' (locs ++ L) (cells + rm.cells) (slots + rm.slots) → Q v T'.heap L → own_Wp p.tables e below K (T'.setTop { g with pc := g.pc + 3, stack := v.toList ++ rest })) :
    own_Wp p.tables e below K (T.setTop g) := by
  obtain ⟨cq, kq, qa, qb, qc⟩ := isOf hZ eT E
  obtain ⟨v, _, ⟨T', L', k', n'⟩, -, X', ⟨Lc, hQ, l1, y1, z1⟩, st⟩ := X.virtualBack hx hown (mvT hZ w1) (mvT hZ w2) (notFace_of_selects (args := #[]) (mvT hZ w5)) (mvT hZ w5) (mvT hZ w6) hy (backOf (W := W) hM hZ w4 w3 hf hl) qa qc hg hsize (Steps.refl _) hlen hstack hW hdg (fun _ _ => ⟨rfl, eT, hc, hs⟩)
  dsimp only [Pt.U, Pt.locs, Pt.cells, Pt.slots] at X' l1 y1 z1 st hQ
  subst l1 y1 z1
  exact own_of (fun t q => st.trans q) (k _ _ _ X' hQ)
theorem own_callP {nI : Nat} {C0 : String} (X : Stand p l e R s m args below meth c T locs cells slots) (hx : p.tables.exec = Jvm.exec) (hZ : Z.Warmed39 s.vm) (hown : s.vm.findClass own = some m.cls)
    (w1 : (Jvm.Cond.methodLink own index y).before a0 Z = true) (w2 : (Jvm.Cond.instanceMethod y).before a0 Z = true) (wi : (Jvm.Cond.instantiable y.cls nI).before a0 Z = true) (wp : (Jvm.Cond.privateMethod y).before a0 Z = true) (w3 : (Jvm.Cond.initialized y.cls).before a0 Z = true) (w4 : (Jvm.Cond.code y bytes maxL ret).before a0 Z = true)
    (hy : y.cls ≠ "java/lang/invoke/MethodHandle" ∧ y.cls ≠ "java/lang/invoke/VarHandle") (eT : T.heap = h) (E : Exa Z h a C0) (hM : own_Ctr l Z y bytes maxL ret [] rm (.ref a :: argsL).toArray h Q)
    (hf : rm.frames + 1 ≤ R.frames) (hl : W + (maxL + 11) + rm.locals ≤ R.locals) (hc : cells + rm.cells ≤ R.cells) (hs : slots + rm.slots ≤ R.slots)
    (hg : g.method = m) (hsize : g.locals.size = c.maxLocals) (hlen : ∀ sig, parseMethodDescriptor y.desc = some sig → argsL.length = sig.parameters.length) (hstack : g.stack = argsL.reverse ++ .ref a :: rest) (hW : 2 * g.monitorRoom + (rest.map fun v => v.category).sum ≤ W) (hdg : decode c.code g.pc = .ok (.invokevirtual index, 3))
    (k : ∀ (T' : State) (L : List Loc) (v : Option Value), Stand p l e R s m args below meth c T' (locs ++ L) (cells + rm.cells) (slots + rm.slots) → Q v T'.heap L → own_Wp p.tables e below K (T'.setTop { g with pc := g.pc + 3, stack := v.toList ++ rest })) :
    own_Wp p.tables e below K (T.setTop g) := by
  obtain ⟨cq, q1, q2⟩ := E.cell
  obtain ⟨ci, ki, i1, i2, -, i4, -⟩ := Cond.instantiable_spec (mvT (args := args) hZ wi)
  simp only [Bool.or_eq_false_iff] at i4
  have hpr : s.PrivateAt y := Cond.privateMethod_at (mvP hZ wp (args := #[]))
  have hsel : (Jvm.Cond.selects y.cls y y).before args s = true := selects_self_of_private i1 i2 i4.1 hpr (mvT hZ w2) hy
  obtain ⟨v, _, ⟨T', L', k', n'⟩, -, X', ⟨Lc, hQ, l1, y1, z1⟩, st⟩ := X.privateBack hx hown (mvT hZ w1) (mvT hZ w2) hsel hpr (mvT hZ w4) hy (backOf (W := W) hM hZ w4 w3 hf hl) hg hsize (Steps.refl _) (by rw [eT]; exact q1) q2 hlen hstack hW hdg (fun _ _ => ⟨rfl, eT, hc, hs⟩)
  dsimp only [Pt.U, Pt.locs, Pt.cells, Pt.slots] at X' l1 y1 z1 st hQ
  subst l1 y1 z1
  exact own_of (fun t q => st.trans q) (k _ _ _ X' hQ)
end Calls
end OwnKit
section OwnArr
variable {p : Program} {l : Launch} {e : Env} {R : Room} {s : State} {m : MethodId} {args : Array Value} {below : List Frame} {meth : Method} {c : Code} {T : State} {locs : List Loc} {cells slots : Nat} {Z : State} {a0 : Array Value} {h h' : Heap} {K : State → Outcome → Prop}
variable {a b : Addr} {ty : FieldType} {n sl : Nat} {f : Nat → Value} {v : Value} {ws : List Addr}
theorem own_nat {j : Int32} {i : Nat} (hj : j.toInt = (i : Int)) : j.toNatClampNeg = i := by
  show j.toInt.toNat = i
  rw [hj]; exact Int.toNat_natCast i
theorem own_nneg {j : Int32} {i : Nat} (hj : j.toInt = (i : Int)) : ¬ j < 0 := by
  rw [Int32.lt_iff_toInt_lt, hj]
  show ¬ ((i : Int) < 0)
  omega
/-- the array at a: its kind, its length, its elements -/
def own_Ar (Z : State) (h : Heap) (a : Addr) (ty : FieldType) (n : Nat) (f : Nat → Value) : Prop := n < 2147483648 ∧ ∃ c : Cell, Arr Z h a c ty ∧ c.slots.size = n ∧ ∀ i, i < n → c.slots[i]? = some (f i)
def own_set (f : Nat → Value) (i : Nat) (v : Value) : Nat → Value := fun k => if k = i then v else f k
theorem own_set_eq (f : Nat → Value) (i : Nat) (v : Value) : own_set f i v i = v := if_pos rfl
theorem own_set_ne {f : Nat → Value} {i k : Nat} {v : Value} (q : k ≠ i) : own_set f i v k = f k := if_neg q
theorem own_Ar.lt (F : own_Ar Z h a ty n f) : a < h.size := by obtain ⟨_, c, A, -⟩ := F; exact A.lt
theorem own_Ar.ext (F : own_Ar Z h a ty n f) (E : Ext h h') : own_Ar Z h' a ty n f := by obtain ⟨q, c, A, r⟩ := F; exact ⟨q, c, A.ext E, r⟩
theorem own_Ar.other (F : own_Ar Z h a ty n f) (W : Wr h h' b sl v) (q : a ≠ b) : own_Ar Z h' a ty n f := by obtain ⟨q0, c, A, r⟩ := F; exact ⟨q0, c, A.other W q, r⟩
theorem own_Ar.keep (F : own_Ar Z h a ty n f) (K : Keep h h' ws) (q : a ∉ ws) : own_Ar Z h' a ty n f := by obtain ⟨q0, c, A, r⟩ := F; exact ⟨q0, c, ⟨K.2.1 a c A.1 q, A.2⟩, r⟩
theorem own_Ar.fn {f' : Nat → Value} (F : own_Ar Z h a ty n f) (q : ∀ i, i < n → f i = f' i) : own_Ar Z h a ty n f' := by obtain ⟨q0, c, A, r1, r2⟩ := F; exact ⟨q0, c, A, r1, fun i hi => by rw [← q i hi]; exact r2 i hi⟩
theorem own_Ar.new {k : ClassId} {z : Int32} (A : Arr Z h a (newA k ty z) ty) (q : ¬ z < 0) (e : z.toNatClampNeg = n) : own_Ar Z h a ty n (fun _ => defaultValue ty) := by
  refine ⟨by rw [← e]; exact (back32 q).2, _, A, by rw [sz_new, e], fun i hi => ?_⟩
  simp [newA, e, hi]
theorem own_Ar.start (A : Arr Z h a c' ty) (hs : c'.slots.size < 2147483648) (H : ∀ i, i < c'.slots.size → c'.slots[i]? = some (f i)) : own_Ar Z h a ty c'.slots.size f := ⟨hs, _, A, rfl, H⟩
section Steps
variable {j : Int32} {i : Nat} {g : JFrame} {rest : List Value}
theorem own_in {cl : Cell} (hj : j.toInt = (i : Int)) (hi : i < n) (hsz : cl.slots.size = n) : ¬ (j < 0 ∨ cl.slots.size ≤ j.toNatClampNeg) := by
  rw [own_nat hj, hsz]
  rintro (q | q)
  · exact own_nneg hj q
  · omega
theorem own_iaload {v : Int32} (X : Stand p l e R s m args below meth c T locs cells slots) (hx : p.tables.exec = Jvm.exec) (hZ : Z.Warmed39 s.vm) (eT : T.heap = h) (A : own_Ar Z h a .int n f) (hj : j.toInt = (i : Int)) (hi : i < n) (hv : f i = .int v)
    (hg : g.method = m) (hs : g.stack = .int j :: .ref a :: rest) (hd : decode c.code g.pc = .ok (.iaload, 1)) (k : own_Wp p.tables e below K (T.setTop { g with pc := g.pc + 1, stack := .int v :: rest })) : own_Wp p.tables e below K (T.setTop g) := by
  obtain ⟨-, cl, A, hsz, H⟩ := A
  exact own_of (X.iaload hx (by rw [eT]; exact A.1) (State.isArrayOf_alike hZ.alike A.2.1) A.2.2 (own_in hj hi hsz) (by rw [own_nat hj, H i hi, hv]) hg hs hd) k
theorem own_laload {v : Int64} (X : Stand p l e R s m args below meth c T locs cells slots) (hx : p.tables.exec = Jvm.exec) (hZ : Z.Warmed39 s.vm) (eT : T.heap = h) (A : own_Ar Z h a .long n f) (hj : j.toInt = (i : Int)) (hi : i < n) (hv : f i = .long v)
    (hg : g.method = m) (hs : g.stack = .int j :: .ref a :: rest) (hd : decode c.code g.pc = .ok (.laload, 1)) (k : own_Wp p.tables e below K (T.setTop { g with pc := g.pc + 1, stack := .long v :: rest })) : own_Wp p.tables e below K (T.setTop g) := by
  obtain ⟨-, cl, A, hsz, H⟩ := A
  exact own_of (X.laload hx (by rw [eT]; exact A.1) (State.isArrayOf_alike hZ.alike A.2.1) A.2.2 (own_in hj hi hsz) (by rw [own_nat hj, H i hi, hv]) hg hs hd) k
theorem own_baload {v : Int32} (X : Stand p l e R s m args below meth c T locs cells slots) (hx : p.tables.exec = Jvm.exec) (hZ : Z.Warmed39 s.vm) (eT : T.heap = h) (A : own_Ar Z h a .byte n f) (hj : j.toInt = (i : Int)) (hi : i < n) (hv : f i = .int v)
    (hg : g.method = m) (hs : g.stack = .int j :: .ref a :: rest) (hd : decode c.code g.pc = .ok (.baload, 1)) (k : own_Wp p.tables e below K (T.setTop { g with pc := g.pc + 1, stack := .int v :: rest })) : own_Wp p.tables e below K (T.setTop g) := by
  obtain ⟨-, cl, A, hsz, H⟩ := A
  exact own_of (X.baloadBytes hx (by rw [eT]; exact A.1) (State.isArrayOf_alike hZ.alike A.2.1) A.2.2 (own_in hj hi hsz) (by rw [own_nat hj, H i hi, hv]) hg hs hd) k
theorem own_caload {v : Int32} (X : Stand p l e R s m args below meth c T locs cells slots) (hx : p.tables.exec = Jvm.exec) (hZ : Z.Warmed39 s.vm) (eT : T.heap = h) (A : own_Ar Z h a .char n f) (hj : j.toInt = (i : Int)) (hi : i < n) (hv : f i = .int v)
    (hg : g.method = m) (hs : g.stack = .int j :: .ref a :: rest) (hd : decode c.code g.pc = .ok (.caload, 1)) (k : own_Wp p.tables e below K (T.setTop { g with pc := g.pc + 1, stack := .int v :: rest })) : own_Wp p.tables e below K (T.setTop g) := by
  obtain ⟨-, cl, A, hsz, H⟩ := A
  exact own_of (X.caload hx (by rw [eT]; exact A.1) (State.isArrayOf_alike hZ.alike A.2.1) A.2.2 (own_in hj hi hsz) (by rw [own_nat hj, H i hi, hv]) hg hs hd) k
theorem own_zaload {v : Int32} (X : Stand p l e R s m args below meth c T locs cells slots) (hx : p.tables.exec = Jvm.exec) (hZ : Z.Warmed39 s.vm) (eT : T.heap = h) (A : own_Ar Z h a .boolean n f) (hj : j.toInt = (i : Int)) (hi : i < n) (hv : f i = .int v)
    (hg : g.method = m) (hs : g.stack = .int j :: .ref a :: rest) (hd : decode c.code g.pc = .ok (.baload, 1)) (k : own_Wp p.tables e below K (T.setTop { g with pc := g.pc + 1, stack := .int v :: rest })) : own_Wp p.tables e below K (T.setTop g) := by
  obtain ⟨-, cl, A, hsz, H⟩ := A
  exact own_of (X.baloadBooleans hx (by rw [eT]; exact A.1) (State.isArrayOf_alike hZ.alike A.2.1) A.2.2 (own_in hj hi hsz) (by rw [own_nat hj, H i hi, hv]) hg hs hd) k
theorem own_aaload {C : String} {v : Value} (X : Stand p l e R s m args below meth c T locs cells slots) (hx : p.tables.exec = Jvm.exec) (hZ : Z.Warmed39 s.vm) (eT : T.heap = h) (A : own_Ar Z h a (.object C) n f) (hj : j.toInt = (i : Int)) (hi : i < n) (hv : f i = v)
    (hg : g.method = m) (hs : g.stack = .int j :: .ref a :: rest) (hd : decode c.code g.pc = .ok (.aaload, 1)) (k : own_Wp p.tables e below K (T.setTop { g with pc := g.pc + 1, stack := v :: rest })) : own_Wp p.tables e below K (T.setTop g) := by
  obtain ⟨-, cl, A, hsz, H⟩ := A
  exact own_of (X.aaload hx (by rw [eT]; exact A.1) (State.isArrayOf_alike hZ.alike A.2.1) rfl A.2.2 (own_in hj hi hsz) (by rw [own_nat hj, H i hi, hv]) hg hs hd) k
theorem own_len {z : Int32} (X : Stand p l e R s m args below meth c T locs cells slots) (hx : p.tables.exec = Jvm.exec) (hZ : Z.Warmed39 s.vm) (eT : T.heap = h) (A : own_Ar Z h a ty n f) (hz : z.toInt = (n : Int))
    (hg : g.method = m) (hs : g.stack = .ref a :: rest) (hd : decode c.code g.pc = .ok (.arraylength, 1)) (k : own_Wp p.tables e below K (T.setTop { g with pc := g.pc + 1, stack := .int z :: rest })) : own_Wp p.tables e below K (T.setTop g) := by
  obtain ⟨-, cl, A, hsz, H⟩ := A
  have q : cl.slots.size.toInt32 = z := by rw [hsz, ← own_nat hz]; exact (back32 (own_nneg hz)).1
  rw [← q] at k
  exact own_of (X.arraylength hx (by rw [eT]; exact A.1) (State.isArrayOf_alike hZ.alike A.2.1) hg hs hd) k
theorem own_Ar.set {cl : Cell} {hn : n < 2147483648} (A : Arr Z h a cl ty) (hsz : cl.slots.size = n) (H : ∀ i, i < n → cl.slots[i]? = some (f i)) (hi : i < n) (W : Wr h h' a i v) : own_Ar Z h' a ty n (own_set f i v) := by
  refine ⟨hn, _, A.same W, by rw [sz_set]; exact hsz, fun q hq => ?_⟩
  by_cases e : q = i
  · subst e; rw [own_set_eq]; simp [Cell.setSlot, hsz, hq]
  · rw [own_set_ne e, ← H q hq]; exact Array.getElem?_setIfInBounds_ne (Ne.symm e)
theorem own_stI {x : Int32} (X : Stand p l e R s m args below meth c T locs cells slots) (hx : p.tables.exec = Jvm.exec) (hZ : Z.Warmed39 s.vm) (eT : T.heap = h) (A : own_Ar Z h a .int n f) (hj : j.toInt = (i : Int)) (hi : i < n)
    (hg : g.method = m) (hs : g.stack = .int x :: .int j :: .ref a :: rest) (hd : decode c.code g.pc = .ok (.iastore, 1)) :
    ∃ T' h', Stand p l e R s m args below meth c T' (locs ++ [⟨a, i⟩]) cells slots ∧ T'.heap = h' ∧ Wr h h' a i (.int x) ∧ own_Ar Z h' a .int n (own_set f i (.int x)) ∧ ∀ target, Steps p.tables e below (T'.setTop { g with pc := g.pc + 1, stack := rest }) target → Steps p.tables e below (T.setTop g) target := by
  obtain ⟨hn, cl, A, hsz, H⟩ := A
  obtain ⟨T', h', X', e', W, st⟩ := stI X hx hZ eT A (own_in hj hi hsz) hg hs hd
  rw [own_nat hj] at X' W
  exact ⟨T', h', X', e', W, own_Ar.set (hn := hn) A hsz H hi W, st⟩
theorem own_stJ {x : Int64} (X : Stand p l e R s m args below meth c T locs cells slots) (hx : p.tables.exec = Jvm.exec) (hZ : Z.Warmed39 s.vm) (eT : T.heap = h) (A : own_Ar Z h a .long n f) (hj : j.toInt = (i : Int)) (hi : i < n)
    (hg : g.method = m) (hs : g.stack = .long x :: .int j :: .ref a :: rest) (hd : decode c.code g.pc = .ok (.lastore, 1)) :
    ∃ T' h', Stand p l e R s m args below meth c T' (locs ++ [⟨a, i⟩]) cells slots ∧ T'.heap = h' ∧ Wr h h' a i (.long x) ∧ own_Ar Z h' a .long n (own_set f i (.long x)) ∧ ∀ target, Steps p.tables e below (T'.setTop { g with pc := g.pc + 1, stack := rest }) target → Steps p.tables e below (T.setTop g) target := by
  obtain ⟨hn, cl, A, hsz, H⟩ := A
  obtain ⟨T', h', X', e', W, st⟩ := stJ X hx hZ eT A (own_in hj hi hsz) hg hs hd
  rw [own_nat hj] at X' W
  exact ⟨T', h', X', e', W, own_Ar.set (hn := hn) A hsz H hi W, st⟩
theorem own_stB {x : Int32} (X : Stand p l e R s m args below meth c T locs cells slots) (hx : p.tables.exec = Jvm.exec) (hZ : Z.Warmed39 s.vm) (eT : T.heap = h) (A : own_Ar Z h a .byte n f) (hj : j.toInt = (i : Int)) (hi : i < n)
    (hg : g.method = m) (hs : g.stack = .int x :: .int j :: .ref a :: rest) (hd : decode c.code g.pc = .ok (.bastore, 1)) :
    ∃ T' h', Stand p l e R s m args below meth c T' (locs ++ [⟨a, i⟩]) cells slots ∧ T'.heap = h' ∧ Wr h h' a i (.int x.toInt8.toInt32) ∧ own_Ar Z h' a .byte n (own_set f i (.int x.toInt8.toInt32)) ∧ ∀ target, Steps p.tables e below (T'.setTop { g with pc := g.pc + 1, stack := rest }) target → Steps p.tables e below (T.setTop g) target := by
  obtain ⟨hn, cl, A, hsz, H⟩ := A
  obtain ⟨T', h', X', e', W, st⟩ := stB X hx hZ eT A (own_in hj hi hsz) hg hs hd
  rw [own_nat hj] at X' W
  exact ⟨T', h', X', e', W, own_Ar.set (hn := hn) A hsz H hi W, st⟩
theorem own_stC {x : Int32} (X : Stand p l e R s m args below meth c T locs cells slots) (hx : p.tables.exec = Jvm.exec) (hZ : Z.Warmed39 s.vm) (eT : T.heap = h) (A : own_Ar Z h a .char n f) (hj : j.toInt = (i : Int)) (hi : i < n)
    (hg : g.method = m) (hs : g.stack = .int x :: .int j :: .ref a :: rest) (hd : decode c.code g.pc = .ok (.castore, 1)) :
    ∃ T' h', Stand p l e R s m args below meth c T' (locs ++ [⟨a, i⟩]) cells slots ∧ T'.heap = h' ∧ Wr h h' a i (.int (nar .char x)) ∧ own_Ar Z h' a .char n (own_set f i (.int (nar .char x))) ∧ ∀ target, Steps p.tables e below (T'.setTop { g with pc := g.pc + 1, stack := rest }) target → Steps p.tables e below (T.setTop g) target := by
  obtain ⟨hn, cl, A, hsz, H⟩ := A
  obtain ⟨T', h', X', e', W, st⟩ := stC X hx hZ eT A (own_in hj hi hsz) hg hs hd
  rw [own_nat hj] at X' W
  exact ⟨T', h', X', e', W, own_Ar.set (hn := hn) A hsz H hi W, st⟩
end Steps
theorem own_more {cells' slots' : Nat} (X : Stand p l e R s m args below meth c T locs cells slots) (h1 : cells ≤ cells') (h2 : slots ≤ slots') : Stand p l e R s m args below meth c T locs cells' slots' := { X with same := X.same.mono h1 h2 }
section Start
variable {C nm d : String}
theorem own_refArr {t : Term} (ha : (Jvm.Cond.arrayOf t ty).value args s none s [] = some true) : ∃ (a : Addr) (cl : Cell), Arr s s.heap a cl ty ∧ s.arrayAt? a = some cl ∧ t.eval args s none [] s = some (.ref a) := by
  obtain ⟨a, ev⟩ : ∃ a, t.eval args s none [] s = some (.ref a) := by
    simp only [Cond.value] at ha
    split at ha
    · cases ha
    · split at ha
      · exact ⟨_, by assumption⟩
      · cases ha
      · cases ha
  obtain ⟨cl, A⟩ := Arr.start ev ha
  exact ⟨a, cl, A, IntBox.arrayAt_of A.1 A.2.1 A.2.2, ev⟩
theorem own_exaRef {t : Term} {K : String} (h : (Jvm.Cond.exactly t K).value args s none s [] = some true) : ∃ a, Exa s s.heap a K ∧ t.eval args s none [] s = some (.ref a) := by
  obtain ⟨a', c', cell, k, e1, -⟩ := Cond.exactly_spec (Cond.before_iff.mpr h)
  exact ⟨a', Exa.start e1 h, e1⟩
theorem own_fldOf {t : Term} {v : Value} {O : String} (ev : t.eval args s none [] s = some (.ref a)) (e : (Term.field t O nm d).eval args s none [] s = some v) : Fld s s.heap a O nm d v := by
  simp only [Term.eval, ev, Option.bind_eq_bind, Option.bind_some] at e
  exact Fld.start e
theorem own_fldI {t : Term} {x : Int32} {O : String} (ev : t.eval args s none [] s = some (.ref a)) (h : (Jvm.Cond.eq (.field t O nm d) (.int x)).value args s none s [] = some true) : Fld s s.heap a O nm d (.int x) := by
  cases he : (Term.field t O nm d).eval args s none [] s with
  | none => simp [Cond.value, he] at h
  | some w =>
    have : w = .int x := by
      simp only [Cond.value, he] at h
      rw [show (Term.int x).eval args s none [] s = some (.int x) from rfl] at h
      cases w <;> simp at h
      subst h; rfl
    subst this
    exact own_fldOf ev he
theorem own_isRef {t : Term} (h : (Jvm.Cond.isRef t).value args s none s [] = some true) : ∃ v, t.eval args s none [] s = some v ∧ (v = .null ∨ ∃ b, v = .ref b) := by
  simp only [Cond.value] at h
  cases he : t.eval args s none [] s with
  | none => simp [he] at h
  | some w => rw [he] at h; cases w <;> simp at h <;> simp
theorem own_notZero {t : Term} {x : Int32} (ev : t.eval args s none [] s = some (.int x)) (h : (Jvm.Cond.not (Jvm.Cond.eq t (.int 0))).value args s none s [] = some true) : ¬ x = 0 := by
  intro q
  subst q
  simp [Cond.value, ev, Term.eval] at h
theorem own_ltOf {x y : Int32} {i k : Nat} (h1 : x.toInt = (i : Int)) (h2 : y.toInt = (k : Int)) (h : i < k) : x < y := by
  rw [Int32.lt_iff_toInt_lt, h1, h2]; omega
theorem own_Ar.some {cl : Cell} (A : Arr Z h a cl ty) (hs : cl.slots.size < 2147483648) : own_Ar Z h a ty cl.slots.size (fun k => (cl.slots[k]?).getD .null) :=
  ⟨hs, _, A, rfl, fun i hi => by simp [Array.getElem?_eq_getElem hi]⟩
/-- a static that holds an array, at the start -/
theorem own_staArr (hi : (Jvm.Cond.initialized C).before args s = true) (hl : (Jvm.Cond.laysStatic C nm d).before args s = true) (ha : (Jvm.Cond.arrayOf (.static C nm d) ty).value args s none s [] = some true) :
    ∃ (a : Addr) (cl : Cell), Sta s s.heap C nm d (.ref a) ∧ Arr s s.heap a cl ty ∧ s.arrayAt? a = some cl ∧ (Term.static C nm d).eval args s none [] s = some (.ref a) := by
  obtain ⟨a, ev⟩ : ∃ a, (Term.static C nm d).eval args s none [] s = some (.ref a) := by
    simp only [Cond.value] at ha
    split at ha
    · cases ha
    · split at ha
      · exact ⟨_, by assumption⟩
      · cases ha
      · cases ha
  obtain ⟨cl, A⟩ := Arr.start ev ha
  exact ⟨a, cl, Sta.start ev (Or.inr ⟨hi, hl⟩), A, IntBox.arrayAt_of A.1 A.2.1 A.2.2, ev⟩
/-- an element that the case names -/
theorem own_elemEq {t i b : Term} {x : Int32} {cl : Cell} {jj : Int32} {idx : List Nat} (ev : t.eval args s none idx s = some (.ref a)) (hat : s.arrayAt? a = some cl) (hi : i.eval args s none idx s = some (.int jj)) (hb : b.eval args s none idx s = some (.int x)) (h : (Jvm.Cond.eq (.elem t i) b).value args s none s idx = some true) : ¬ jj < 0 ∧ cl.slots[jj.toNatClampNeg]? = some (.int x) := by
  simp only [Cond.value, hb] at h
  cases he : (Term.elem t i).eval args s none idx s with
  | none => simp [he] at h
  | some w =>
    obtain ⟨a', j', cl', q1, q2, q3, q4, q5⟩ := Term.elem_spec he
    cases ev.symm.trans q1
    cases hi.symm.trans q2
    cases hat.symm.trans q3
    rw [he] at h
    cases w <;> simp at h
    subst h
    exact ⟨fun z => q4 (Or.inl z), q5⟩
theorem own_lenEq {t : Term} {x : Int32} {cl : Cell} (ev : t.eval args s none [] s = some (.ref a)) (hat : s.arrayAt? a = some cl) (h : (Jvm.Cond.eq (.length t) (.int x)).value args s none s [] = some true) : (cl.slots.size : Int) = x.toInt := by
  simp only [Cond.value, Term.eval, ev, hat, Option.bind_eq_bind, Option.bind_some] at h
  by_cases q : cl.slots.size < 2147483648
  · simp [q] at h
    rw [← h]
    exact (Int32.toInt_ofNat_of_lt q).symm
  · simp [q] at h
theorem own_or {A B : Jvm.Cond} {idx : List Nat} (h : (Jvm.Cond.or A B).value args s none s idx = some true) : A.value args s none s idx = some true ∨ B.value args s none s idx = some true := by
  simp only [Cond.value] at h
  split at h
  · exact Or.inr h
  · exact Or.inl h
theorem own_leV {A B : Term} {x y : Int32} {idx : List Nat} (ha : A.eval args s none idx s = some (.int x)) (hb : B.eval args s none idx s = some (.int y)) (h : (Jvm.Cond.le A B).value args s none s idx = some true) : x.toInt ≤ y.toInt := by
  rw [Cond.le_ints ha hb] at h
  exact Int32.le_iff_toInt_le.mp (by simpa using h)
theorem own_ltV {A B : Term} {x y : Int32} {idx : List Nat} (ha : A.eval args s none idx s = some (.int x)) (hb : B.eval args s none idx s = some (.int y)) (h : (Jvm.Cond.lt A B).value args s none s idx = some true) : x.toInt < y.toInt := by
  simp only [Cond.value, ha, hb] at h
  exact Int32.lt_iff_toInt_lt.mp (by simpa using h)
theorem own_idx {k : Nat} (hk : k < 2147483648) : (k.toInt32).toInt = (k : Int) := Int32.toInt_ofNat_of_lt hk
section Elems
variable {t b : Term} {cl : Cell} {x lo hi : Int32} {k : Nat}
theorem own_elemK (ev : ∀ idx, t.eval args s none idx s = some (.ref a)) (hat : s.arrayAt? a = some cl) (hk : k < 2147483648) (hb : b.eval args s none [k] s = some (.int x)) (h : (Jvm.Cond.eq (.elem t (.index 0)) b).value args s none s [k] = some true) : cl.slots[k]? = some (.int x) := by
  have q := (own_elemEq (ev _) hat (Term.index_eval k) hb h).2
  rwa [own_nat (own_idx hk)] at q
theorem own_all1 (ev : ∀ idx, t.eval args s none idx s = some (.ref a)) (hat : s.arrayAt? a = some cl) (hn : cl.slots.size < 2147483648) (h : (Jvm.Cond.all t (.or (.le (.int lo) (.index 0)) (.eq (.elem t (.index 0)) b))).value args s none s [] = some true) (hk : k < cl.slots.size) (h1 : (k : Int) < lo.toInt) (hb : b.eval args s none [k] s = some (.int x)) : cl.slots[k]? = some (.int x) := by
  rcases own_or (Cond.all_elim (ev _) hat h k hk) with q | q
  · have := own_leV rfl (Term.index_eval k) q; rw [own_idx (by omega)] at this; omega
  · exact own_elemK ev hat (by omega) hb q
theorem own_all2 (ev : ∀ idx, t.eval args s none idx s = some (.ref a)) (hat : s.arrayAt? a = some cl) (hn : cl.slots.size < 2147483648) (h : (Jvm.Cond.all t (.or (.lt (.index 0) (.int lo)) (.or (.le (.int hi) (.index 0)) (.eq (.elem t (.index 0)) b)))).value args s none s [] = some true) (hk : k < cl.slots.size) (h1 : lo.toInt ≤ (k : Int)) (h2 : (k : Int) < hi.toInt) (hb : b.eval args s none [k] s = some (.int x)) : cl.slots[k]? = some (.int x) := by
  rcases own_or (Cond.all_elim (ev _) hat h k hk) with q | q
  · have := own_ltV (Term.index_eval k) rfl q; rw [own_idx (by omega)] at this; omega
  · rcases own_or q with q | q
    · have := own_leV rfl (Term.index_eval k) q; rw [own_idx (by omega)] at this; omega
    · exact own_elemK ev hat (by omega) hb q
theorem own_all3 (ev : ∀ idx, t.eval args s none idx s = some (.ref a)) (hat : s.arrayAt? a = some cl) (hn : cl.slots.size < 2147483648) (h : (Jvm.Cond.all t (.or (.lt (.index 0) (.int lo)) (.eq (.elem t (.index 0)) b))).value args s none s [] = some true) (hk : k < cl.slots.size) (h1 : lo.toInt ≤ (k : Int)) (hb : b.eval args s none [k] s = some (.int x)) : cl.slots[k]? = some (.int x) := by
  rcases own_or (Cond.all_elim (ev _) hat h k hk) with q | q
  · have := own_ltV (Term.index_eval k) rfl q; rw [own_idx (by omega)] at this; omega
  · exact own_elemK ev hat (by omega) hb q
theorem own_one (ev : ∀ idx, t.eval args s none idx s = some (.ref a)) (hat : s.arrayAt? a = some cl) (h : (Jvm.Cond.eq (.elem t (.int lo)) (.int x)).value args s none s [] = some true) (hk : lo.toInt = (k : Int)) : cl.slots[k]? = some (.int x) := by
  have q := (own_elemEq (ev _) hat rfl rfl h).2
  rwa [own_nat hk] at q
end Elems
end Start
end OwnArr
section OwnW
variable {p : Program} {l : Launch} {e : Env} {R : Room} {s sv : State} {m : MethodId} {args : Array Value} {below : List Frame} {meth : Method} {c : Code} {T : State} {locs : List Loc} {cells slots : Nat} {Z : State} {a0 : Array Value} {h h' : Heap} {K : State → Outcome → Prop}
/-- sv is the start with the tables at hand: since the start s it may have interned texts, in cells made since -/
def own_SW (s sv : State) (h : Heap) : Prop := ∃ vm k, sv = s.setVm vm ∧ s.Since vm k ∧ k ≤ h.size
theorem own_SW.mono (S : own_SW s sv h) (q : h.size ≤ h'.size) : own_SW s sv h' := by obtain ⟨vm, k, h1, h2, h3⟩ := S; exact ⟨vm, k, h1, h2, Nat.le_trans h3 q⟩
theorem own_SW.ext (S : own_SW s sv h) (E : Ext h h') : own_SW s sv h' := S.mono E.1
theorem own_SW.keep {ws : List Addr} (S : own_SW s sv h) (K : Keep h h' ws) : own_SW s sv h' := S.mono K.1
def own_KW (R : Room) (s : State) (below : List Frame) (Q : Option Value → Heap → List Loc → Prop) (s₂ : State) (o : Outcome) : Prop :=
  s₂.status = .running ∧ Ended s₂ below o ∧ ∃ v L, o = .returned v ∧ Q v s₂.heap L ∧ ReturnedEndW s o s₂ L R.cells R.slots
theorem own_retW {Q : Option Value → Heap → List Loc → Prop} (X : Stand p l e R sv m args below meth c T locs cells slots) (S : own_SW s sv T.heap) (hlk : meth.locks = false) (v : Option Value) (hv : meth.sig.returnType = none → v = none) {f : JFrame}
    (hs : ∀ fs, (∀ (f : JFrame) (acts : List Action), f.method = m → f.locked = none → f.entered = [] → (doReturn e (T.setTop f) acts v).1 = T.setFrames fs) → Steps p.tables e below (T.setTop f) (T.setFrames fs))
    (hQ : Q v T.heap locs) (hc : cells ≤ R.cells) (hsl : slots ≤ R.slots) : own_Wp p.tables e below (own_KW R s below Q) (T.setTop f) := by
  obtain ⟨vm, k, rfl, hS, hk⟩ := S
  obtain ⟨fs, hr, hrun, hended, h1, h2, h3, h4⟩ := X.leaveW hS hk (v := v) hv hlk
  exact ⟨_, _, hs fs hr, hrun, hended, _, _, rfl, hQ, h1, h2, h3, h4.mono hc hsl⟩
abbrev own_CtrW (l : Launch) (Z : State) (y : MethodName) (bytes : ByteArray) (maxL : Nat) (ret : Option FieldType) (ws : List Jvm.Cond) (rm : Room) (as' : Array Value) (h0 : Heap) (Q : Option Value → Heap → List Loc → Prop) : Prop :=
  MetFree l y (head1 (Jvm.Cond.code y bytes maxL ret :: ws) rm) (fun a U => a = as' ∧ Z.Warmed39 U.vm ∧ U.heap = h0) (fun _ _ _ _ _ => True) (fun _ U o U' => ∃ v L, o = .returned v ∧ Q v U'.heap L ∧ ReturnedEndW U o U' L rm.cells rm.slots)
theorem own_enterW {y : MethodName} {bytes : ByteArray} {maxL : Nat} {ret : Option FieldType} {ws : List Jvm.Cond} {rm : Room} {as' : Array Value} {h0 : Heap} {Q : Option Value → Heap → List Loc → Prop} (hpl : plainFor y = true)
    (body : ∀ (p : Program) (e : Env) (s : State) (m : MethodId) (below : List Frame) (meth : Method) (c : Code) (s₁ : State), Stand p l e rm s m as' below meth c s₁ [] 0 0 → own_SW s s h0 → p.tables.exec = Jvm.exec → c.code = bytes → c.maxLocals = maxL → meth.sig.returnType = ret → meth.locks = false → Z.Warmed39 s.vm → s.vm.findClass y.cls = some m.cls → meth.name = y.name → s₁.heap = h0 → own_Wp p.tables e below (own_KW rm s below Q) (s₁.setTop (entryFrame m as' maxL))) :
    own_CtrW l Z y bytes maxL ret ws rm as' h0 Q := by
  refine MetFree.of_bodySF hpl hisR ?_
  intro p e s m args below meth c s₁ Bd hml0 hP hK
  obtain ⟨rfl, hZ, hh⟩ := hP
  obtain ⟨s₂, o, h1, h2, h3, h4⟩ := body p e s m below meth c s₁ (Stand.of_body Bd) ⟨s.vm, 0, rfl, (State.WarmedH.refl s).since 0, Nat.zero_le _⟩ Bd.exec Bd.bytes hml0 Bd.returns Bd.notSynchronized hZ (findClass_of_methodNamed Bd.named) (name_of_methodNamed Bd.named Bd.method).1 (by rw [← hh, Bd.state]; rfl)
  exact ⟨s₂, o, h1, h2, h3, h4⟩
theorem own_ldc {own text : String} {index n : Nat} {g : JFrame} (X : Stand p l e R sv m args below meth c T locs cells slots) (hx : p.tables.exec = Jvm.exec) (hZ : Z.Warmed39 sv.vm) (hown : sv.vm.findClass own = some m.cls) (w : (Jvm.Cond.stringLink own index text).before a0 Z = true) (wS : ∀ a ∈ Bundle.stringAtoms, a.before a0 Z = true)
    (eT : T.heap = h) (S : own_SW s sv h) (hg : g.method = m) (hd : decode c.code g.pc = .ok (.ldc index, 2)) (hn : 4 * text.toList.length ≤ n) (hbig : n ≤ 536870912) (hc : cells + 2 ≤ R.cells) (hl : slots + (n + 4) ≤ R.slots) :
    ∃ (a : Addr) (T' : State) (h' : Heap) (sv' : State), Stand p l e R sv' m args below meth c T' locs (cells + 2) (slots + (n + 4)) ∧ T'.heap = h' ∧ Ext h h' ∧ own_SW s sv' h' ∧ Z.Warmed39 sv'.vm ∧ sv'.vm.findClass own = some m.cls ∧
      ∀ target, Steps p.tables e below (T'.setTop { g with pc := g.pc + 2, stack := .ref a :: g.stack }) target → Steps p.tables e below (T.setTop g) target := by
  obtain ⟨vm, k, rfl, hS, hk⟩ := S
  obtain ⟨a, T', h', k1, X', e', E, hS', hk', hZ', hown', st⟩ := ldcS X hx hZ hown w wS eT hS hk hg hd hn hbig hc hl
  exact ⟨a, T', h', _, X', e', E, ⟨_, _, rfl, hS', hk'⟩, hZ', hown', st⟩
section Calls
variable {own C : String} {index maxL W : Nat} {y z : MethodName} {bytes : ByteArray} {ret : Option FieldType} {rm : Room} {Q : Option Value → Heap → List Loc → Prop} {argsL rest : List Value} {g : JFrame} {a : Addr}
theorem own_callSW (X : Stand p l e R sv m args below meth c T locs cells slots) (S : own_SW s sv h) (hx : p.tables.exec = Jvm.exec) (hZ : Z.Warmed39 sv.vm) (hown : sv.vm.findClass own = some m.cls)
    (w1 : (Jvm.Cond.methodLink own index y).before a0 Z = true) (w2 : (Jvm.Cond.static y).before a0 Z = true) (w3 : (Jvm.Cond.initialized y.cls).before a0 Z = true) (w4 : (Jvm.Cond.code y bytes maxL ret).before a0 Z = true)
    (hy : y.cls ≠ "java/lang/invoke/MethodHandle" ∧ y.cls ≠ "java/lang/invoke/VarHandle") (eT : T.heap = h) (hM : own_CtrW l Z y bytes maxL ret [] rm argsL.toArray h Q)
    (hf : rm.frames + 1 ≤ R.frames) (hl : W + (maxL + 11) + rm.locals ≤ R.locals) (hc : cells + rm.cells ≤ R.cells) (hs : slots + rm.slots ≤ R.slots)
    (hg : g.method = m) (hsize : g.locals.size = c.maxLocals) (hlen : ∀ sig, parseMethodDescriptor y.desc = some sig → argsL.length = sig.parameters.length) (hstack : g.stack = argsL.reverse ++ rest) (hW : 2 * g.monitorRoom + (rest.map fun v => v.category).sum ≤ W) (hdg : decode c.code g.pc = .ok (.invokestatic index, 3))
    (k : ∀ (sv' : State) (T' : State) (L : List Loc) (v : Option Value), Stand p l e R sv' m args below meth c T' (locs ++ L) (cells + rm.cells) (slots + rm.slots) → own_SW s sv' T'.heap → Z.Warmed39 sv'.vm → sv'.vm.findClass own = some m.cls → Q v T'.heap L → own_Wp p.tables e below K (T'.setTop { g with pc := g.pc + 3, stack := v.toList ++ rest })) :
    own_Wp p.tables e below K (T.setTop g) := by
  obtain ⟨vm, k0, rfl, hS, hk⟩ := S
  obtain ⟨v, _, ⟨T', L', k', n'⟩, -, X', hS', hgr, ⟨Lc, hQ, l1, y1, z1⟩, st⟩ := callSS X hx hown (mvT hZ w1) (mvT hZ w2) (mvT hZ w3) (mvT hZ w4) hy (backOfS (W := W) hM hZ w4 w3 hf hl) hg hsize hlen hstack hW hdg (fun _ _ => ⟨rfl, eT, hc, hs⟩)
  dsimp only [Pt.U, Pt.locs, Pt.cells, Pt.slots] at X' l1 y1 z1 st hQ hS' hgr
  subst l1 y1 z1
  rw [eT] at hgr
  exact own_of (fun t q => st.trans q) (k _ _ _ _ X' ⟨_, _, rfl, hS.trans hS' (Nat.le_trans hk hgr), Nat.le_refl _⟩ (State.Warmed39.trans hZ hS'.1) (by rw [show ((s.setVm vm).setVm T'.vm).vm = T'.vm from rfl, hS'.1.alike.findClass]; exact hown) hQ)
theorem own_callIW (X : Stand p l e R sv m args below meth c T locs cells slots) (S : own_SW s sv h) (hx : p.tables.exec = Jvm.exec) (hZ : Z.Warmed39 sv.vm) (hy1 : y.name = "<init>") (hown : sv.vm.findClass own = some m.cls)
    (w1 : (Jvm.Cond.methodLink own index y).before a0 Z = true) (w2 : (Jvm.Cond.instanceMethod y).before a0 Z = true) (w3 : (Jvm.Cond.initialized y.cls).before a0 Z = true) (w4 : (Jvm.Cond.code y bytes maxL none).before a0 Z = true)
    (hy : y.cls ≠ "java/lang/invoke/MethodHandle" ∧ y.cls ≠ "java/lang/invoke/VarHandle") (eT : T.heap = h) (hM : own_CtrW l Z y bytes maxL none [] rm (.ref a :: argsL).toArray h Q)
    (hf : rm.frames + 1 ≤ R.frames) (hl : W + (maxL + 11) + rm.locals ≤ R.locals) (hc : cells + rm.cells ≤ R.cells) (hs : slots + rm.slots ≤ R.slots)
    (hg : g.method = m) (hsize : g.locals.size = c.maxLocals) (hlen : ∀ sig, parseMethodDescriptor y.desc = some sig → argsL.length = sig.parameters.length) (hstack : g.stack = argsL.reverse ++ .ref a :: rest) (hW : 2 * g.monitorRoom + (rest.map fun v => v.category).sum ≤ W) (hdg : decode c.code g.pc = .ok (.invokespecial index, 3))
    (k : ∀ (sv' : State) (T' : State) (L : List Loc) (v : Option Value), Stand p l e R sv' m args below meth c T' (locs ++ L) (cells + rm.cells) (slots + rm.slots) → own_SW s sv' T'.heap → Z.Warmed39 sv'.vm → sv'.vm.findClass own = some m.cls → Q v T'.heap L → own_Wp p.tables e below K (T'.setTop { g with pc := g.pc + 3, stack := v.toList ++ rest })) :
    own_Wp p.tables e below K (T.setTop g) := by
  obtain ⟨vm, k0, rfl, hS, hk⟩ := S
  obtain ⟨v, _, ⟨T', L', k', n'⟩, -, X', hS', hgr, ⟨Lc, hQ, l1, y1, z1⟩, st⟩ := X.specialBackS hx hy1 hown (mvT hZ w1) (mvT hZ w2) (mvT hZ w4) hy (backOfS (W := W) hM hZ w4 w3 hf hl) hg hsize (Steps.refl _) hlen hstack hW hdg (fun _ _ => ⟨rfl, eT, hc, hs⟩)
  dsimp only [Pt.U, Pt.locs, Pt.cells, Pt.slots] at X' l1 y1 z1 st hQ hS' hgr
  subst l1 y1 z1
  rw [eT] at hgr
  exact own_of (fun t q => st.trans q) (k _ _ _ _ X' ⟨_, _, rfl, hS.trans hS' (Nat.le_trans hk hgr), Nat.le_refl _⟩ (State.Warmed39.trans hZ hS'.1) (by rw [show ((s.setVm vm).setVm T'.vm).vm = T'.vm from rfl, hS'.1.alike.findClass]; exact hown) hQ)
end Calls
end OwnW
theorem own_strA {a0 : Array Value} {Z : State} (hw : ∀ d ∈ tables_1, d.before a0 Z = true) : ∀ a ∈ Bundle.stringAtoms, a.before a0 Z = true := (List.forall_mem_cons.mpr ⟨(ow hw 3 rfl), (List.forall_mem_cons.mpr ⟨(ow hw 2 rfl), (List.forall_mem_cons.mpr ⟨(ow hw 19 rfl), (List.forall_mem_cons.mpr ⟨(ow hw 29 rfl), (List.forall_mem_cons.mpr ⟨(ow hw 27 rfl), (List.forall_mem_cons.mpr ⟨(ow hw 47 rfl), (List.forall_mem_cons.mpr ⟨(ow hw 48 rfl), (fun _ q => nomatch q)⟩)⟩)⟩)⟩)⟩)⟩)⟩)
def own_by (x : Int32) : Int32 := x.toInt8.toInt32.toInt8.toInt32
theorem own_pn0 : plainName "java/lang/StringUTF16" = true := by first | (simp [plainName, overriddenIn]; done) | decide +kernel
theorem d5_0 : decode jdk_52_method_21_code 0 = .ok (.iconst 0, 1) := by decide +kernel
theorem d5_1 : decode jdk_52_method_21_code 1 = .ok (.istore 5, 2) := by decide +kernel
theorem d5_3 : decode jdk_52_method_21_code 3 = .ok (.iload 5, 2) := by decide +kernel
theorem d5_5 : decode jdk_52_method_21_code 5 = .ok (.iload 4, 2) := by decide +kernel
theorem d5_7 : decode jdk_52_method_21_code 7 = .ok (.if_icmp .ge 37, 3) := by decide +kernel
theorem d5_10 : decode jdk_52_method_21_code 10 = .ok (.aload_n 0, 1) := by decide +kernel
theorem d5_11 : decode jdk_52_method_21_code 11 = .ok (.iload_n 1, 1) := by decide +kernel
theorem d5_12 : decode jdk_52_method_21_code 12 = .ok (.caload, 1) := by decide +kernel
theorem d5_13 : decode jdk_52_method_21_code 13 = .ok (.istore 6, 2) := by decide +kernel
theorem d5_15 : decode jdk_52_method_21_code 15 = .ok (.iload 6, 2) := by decide +kernel
theorem d5_17 : decode jdk_52_method_21_code 17 = .ok (.sipush 255, 3) := by decide +kernel
theorem d5_20 : decode jdk_52_method_21_code 20 = .ok (.if_icmp .le 6, 3) := by decide +kernel
theorem d5_26 : decode jdk_52_method_21_code 26 = .ok (.aload_n 2, 1) := by decide +kernel
theorem d5_27 : decode jdk_52_method_21_code 27 = .ok (.iload_n 3, 1) := by decide +kernel
theorem d5_28 : decode jdk_52_method_21_code 28 = .ok (.iload 6, 2) := by decide +kernel
theorem d5_30 : decode jdk_52_method_21_code 30 = .ok (.i2b, 1) := by decide +kernel
theorem d5_31 : decode jdk_52_method_21_code 31 = .ok (.bastore, 1) := by decide +kernel
theorem d5_32 : decode jdk_52_method_21_code 32 = .ok (.iinc 1 1, 3) := by decide +kernel
theorem d5_35 : decode jdk_52_method_21_code 35 = .ok (.iinc 3 1, 3) := by decide +kernel
theorem d5_38 : decode jdk_52_method_21_code 38 = .ok (.iinc 5 1, 3) := by decide +kernel
theorem d5_41 : decode jdk_52_method_21_code 41 = .ok (.goto (-38), 3) := by decide +kernel
theorem d5_44 : decode jdk_52_method_21_code 44 = .ok (.iload 4, 2) := by decide +kernel
theorem d5_46 : decode jdk_52_method_21_code 46 = .ok (.ireturn, 1) := by decide +kernel
def Q_rmc5 (Z : State) (a1 : Addr) (a3 : Addr) (f : Nat → Value) (cs : Nat → Int32) (h0 : Heap) (n0 : Nat) (v : Option Value) (h : Heap) (L : List Loc) : Prop := v = some (.int (2 : Int32)) ∧ Fr n0 L ∧ Keep h0 h [a3] ∧ own_Ar Z h a3 .byte 2 (fun k => .int (own_by (cs k)))
set_option maxRecDepth 65536 in
set_option maxHeartbeats 40000000 in
theorem rmc5 (l : Launch) (Z : State) (a0 : Array Value) (hw : ∀ d ∈ tables_1, d.before a0 Z = true) (ws : List Jvm.Cond) (a1 : Addr) (a3 : Addr) (f : Nat → Value) (cs : Nat → Int32) (h0 : Heap) (n0 : Nat) (Z0 : n0 ≤ h0.size) (V_a1 : own_Ar Z h0 a1 .char 2 (fun k => .int (cs k))) (V_a3 : own_Ar Z h0 a3 .byte 2 f) (g_a3 : n0 ≤ a3) (ne13 : a1 ≠ a3) (hcs : ∀ k, k < 2 → ¬ (255 : Int32) < cs k) :
    own_Ctr l Z (⟨"java/lang/StringUTF16", "compress", "([CI[BII)I"⟩ : MethodName) jdk_52_method_21_code 7 (some .int) ws ({ frames := 0, cells := 0, slots := 0, locals := 0 } : Room) #[(.ref a1), (.int (0 : Int32)), (.ref a3), (.int (0 : Int32)), (.int (2 : Int32))] h0 (Q_rmc5 Z a1 a3 f cs h0 n0) := by
  refine own_enter (plainFor_of_name own_pn0) ?_
  intro p e s m below meth c s₁ X0 hx hby hml hrt hlk hZ hown hnm e0
  have N0 := Fr.nil n0
  have Zs := Z0
  have K0 := Keep.refl h0 [a3]
  rw [show entryFrame m #[(.ref a1), (.int (0 : Int32)), (.ref a3), (.int (0 : Int32)), (.int (2 : Int32))] 7 = mkF m 0 #[rv a1, iv (0 : Int32), rv a3, iv (0 : Int32), iv (2 : Int32), uu, uu] [] from by first | (simp [entryFrame, mkF, argsToLocals, Value.category]; done) | rfl]
  show own_Wp _ _ _ _ (s₁.setTop (mkF m 0 #[rv a1, iv (0 : Int32), rv a3, iv (0 : Int32), iv (2 : Int32), uu, uu] []))
  refine own_of (fun tgt kon => XS.iconst X0.here hx rfl (hb hby d5_0) kon) ?_
  refine own_of (fun tgt kon => XS.istore X0.here hx rfl (hb hby d5_1) rfl (l' := #[rv a1, iv (0 : Int32), rv a3, iv (0 : Int32), iv (2 : Int32), iv (0 : Int32), uu]) rfl kon) ?_
  refine own_of (fun tgt kon => XS.iload X0.here hx rfl (hb hby d5_3) rfl kon) ?_
  refine own_of (fun tgt kon => XS.iload X0.here hx rfl (hb hby d5_5) rfl kon) ?_
  have hc7 : (0 : Int32) < (2 : Int32) := by decide
  refine own_of (fun tgt kon => XS.icmpNo X0.here hx rfl (hb hby d5_7) rfl (tlt hc7).2.1 kon) ?_
  refine own_of (fun tgt kon => XS.aloadN X0.here hx rfl (hb hby d5_10) rfl rfl kon) ?_
  show own_Wp _ _ _ _ (s₁.setTop (mkF m 11 #[rv a1, iv (0 : Int32), rv a3, iv (0 : Int32), iv (2 : Int32), iv (0 : Int32), uu] [(.ref a1)]))
  refine own_of (fun tgt kon => XS.iloadN X0.here hx rfl (hb hby d5_11) rfl kon) ?_
  refine own_caload X0 hx hZ e0 V_a1 (j := (0 : Int32)) (i := 0) (v := (cs 0)) (by decide) (by decide) rfl rfl rfl (hb hby d5_12) ?_
  refine own_of (fun tgt kon => XS.istore X0.here hx rfl (hb hby d5_13) rfl (l' := #[rv a1, iv (0 : Int32), rv a3, iv (0 : Int32), iv (2 : Int32), iv (0 : Int32), iv (cs 0)]) rfl kon) ?_
  refine own_of (fun tgt kon => XS.iload X0.here hx rfl (hb hby d5_15) rfl kon) ?_
  refine own_of (fun tgt kon => XS.sipush X0.here hx rfl (hb hby d5_17) kon) ?_
  show own_Wp _ _ _ _ (s₁.setTop (mkF m 20 #[rv a1, iv (0 : Int32), rv a3, iv (0 : Int32), iv (2 : Int32), iv (0 : Int32), iv (cs 0)] [(.int (255 : Int32)), (.int (cs 0))]))
  have hc20 : ¬ ((255 : Int32) < (cs 0)) := hcs 0 (by decide)
  refine own_of (fun tgt kon => XS.icmpYes X0.here hx rfl (pc0 := 20) (pc' := 26) rfl (hb hby d5_20) rfl (flt hc20).2.2.2 (by decide) (by decide) kon) ?_
  refine own_of (fun tgt kon => XS.aloadN X0.here hx rfl (hb hby d5_26) rfl rfl kon) ?_
  refine own_of (fun tgt kon => XS.iloadN X0.here hx rfl (hb hby d5_27) rfl kon) ?_
  refine own_of (fun tgt kon => XS.iload X0.here hx rfl (hb hby d5_28) rfl kon) ?_
  refine own_of (fun tgt kon => XS.i2b X0.here hx rfl (hb hby d5_30) rfl kon) ?_
  show own_Wp _ _ _ _ (s₁.setTop (mkF m 31 #[rv a1, iv (0 : Int32), rv a3, iv (0 : Int32), iv (2 : Int32), iv (0 : Int32), iv (cs 0)] [(.int ((cs 0).toInt8.toInt32)), (.int (0 : Int32)), (.ref a3)]))
  obtain ⟨T1, h1, X1, e1, W1, Aq1, st1⟩ := own_stB X0 hx hZ e0 V_a3 (j := (0 : Int32)) (i := 0) (x := ((cs 0).toInt8.toInt32)) (by decide) (by decide) (g := (mkF m 31 #[rv a1, iv (0 : Int32), rv a3, iv (0 : Int32), iv (2 : Int32), iv (0 : Int32), iv (cs 0)] [(.int ((cs 0).toInt8.toInt32)), (.int (0 : Int32)), (.ref a3)])) rfl rfl (hb hby d5_31)
  refine own_of st1 ?_
  clear st1
  replace Zs := Nat.le_trans Zs (Keep.of_wr W1).1
  replace K0 := K0.wr W1 (Or.inl (List.mem_of_getElem? (i := 0) rfl))
  replace V_a1 := V_a1.other W1 ne13
  replace V_a3 := Aq1
  clear Aq1
  have N1 := Fr.snoc X1 N0 g_a3
  refine own_of (fun tgt kon => XS.iinc X1.here hx rfl (hb hby d5_32) rfl (l' := #[rv a1, iv ((0 : Int32) + (1 : Int32)), rv a3, iv (0 : Int32), iv (2 : Int32), iv (0 : Int32), iv (cs 0)]) rfl kon) ?_
  refine own_of (fun tgt kon => XS.iinc X1.here hx rfl (hb hby d5_35) rfl (l' := #[rv a1, iv ((0 : Int32) + (1 : Int32)), rv a3, iv ((0 : Int32) + (1 : Int32)), iv (2 : Int32), iv (0 : Int32), iv (cs 0)]) rfl kon) ?_
  refine own_of (fun tgt kon => XS.iinc X1.here hx rfl (hb hby d5_38) rfl (l' := #[rv a1, iv ((0 : Int32) + (1 : Int32)), rv a3, iv ((0 : Int32) + (1 : Int32)), iv (2 : Int32), iv ((0 : Int32) + (1 : Int32)), iv (cs 0)]) rfl kon) ?_
  refine own_of (fun tgt kon => XS.goto X1.here hx rfl (pc0 := 41) (pc' := 3) rfl (hb hby d5_41) (by decide) (by decide) kon) ?_
  show own_Wp _ _ _ _ (T1.setTop (mkF m 3 #[rv a1, iv ((0 : Int32) + (1 : Int32)), rv a3, iv ((0 : Int32) + (1 : Int32)), iv (2 : Int32), iv ((0 : Int32) + (1 : Int32)), iv (cs 0)] []))
  refine own_of (fun tgt kon => XS.iload X1.here hx rfl (hb hby d5_3) rfl kon) ?_
  refine own_of (fun tgt kon => XS.iload X1.here hx rfl (hb hby d5_5) rfl kon) ?_
  have hc7_2 : ((0 : Int32) + (1 : Int32)) < (2 : Int32) := by decide
  refine own_of (fun tgt kon => XS.icmpNo X1.here hx rfl (hb hby d5_7) rfl (tlt hc7_2).2.1 kon) ?_
  refine own_of (fun tgt kon => XS.aloadN X1.here hx rfl (hb hby d5_10) rfl rfl kon) ?_
  refine own_of (fun tgt kon => XS.iloadN X1.here hx rfl (hb hby d5_11) rfl kon) ?_
  show own_Wp _ _ _ _ (T1.setTop (mkF m 12 #[rv a1, iv ((0 : Int32) + (1 : Int32)), rv a3, iv ((0 : Int32) + (1 : Int32)), iv (2 : Int32), iv ((0 : Int32) + (1 : Int32)), iv (cs 0)] [(.int ((0 : Int32) + (1 : Int32))), (.ref a1)]))
  refine own_caload X1 hx hZ e1 V_a1 (j := ((0 : Int32) + (1 : Int32))) (i := 1) (v := (cs 1)) (by decide) (by decide) rfl rfl rfl (hb hby d5_12) ?_
  refine own_of (fun tgt kon => XS.istore X1.here hx rfl (hb hby d5_13) rfl (l' := #[rv a1, iv ((0 : Int32) + (1 : Int32)), rv a3, iv ((0 : Int32) + (1 : Int32)), iv (2 : Int32), iv ((0 : Int32) + (1 : Int32)), iv (cs 1)]) rfl kon) ?_
  refine own_of (fun tgt kon => XS.iload X1.here hx rfl (hb hby d5_15) rfl kon) ?_
  refine own_of (fun tgt kon => XS.sipush X1.here hx rfl (hb hby d5_17) kon) ?_
  have hc20_2 : ¬ ((255 : Int32) < (cs 1)) := hcs 1 (by decide)
  refine own_of (fun tgt kon => XS.icmpYes X1.here hx rfl (pc0 := 20) (pc' := 26) rfl (hb hby d5_20) rfl (flt hc20_2).2.2.2 (by decide) (by decide) kon) ?_
  refine own_of (fun tgt kon => XS.aloadN X1.here hx rfl (hb hby d5_26) rfl rfl kon) ?_
  show own_Wp _ _ _ _ (T1.setTop (mkF m 27 #[rv a1, iv ((0 : Int32) + (1 : Int32)), rv a3, iv ((0 : Int32) + (1 : Int32)), iv (2 : Int32), iv ((0 : Int32) + (1 : Int32)), iv (cs 1)] [(.ref a3)]))
  refine own_of (fun tgt kon => XS.iloadN X1.here hx rfl (hb hby d5_27) rfl kon) ?_
  refine own_of (fun tgt kon => XS.iload X1.here hx rfl (hb hby d5_28) rfl kon) ?_
  refine own_of (fun tgt kon => XS.i2b X1.here hx rfl (hb hby d5_30) rfl kon) ?_
  obtain ⟨T2, h2, X2, e2, W2, Aq2, st2⟩ := own_stB X1 hx hZ e1 V_a3 (j := ((0 : Int32) + (1 : Int32))) (i := 1) (x := ((cs 1).toInt8.toInt32)) (by decide) (by decide) (g := (mkF m 31 #[rv a1, iv ((0 : Int32) + (1 : Int32)), rv a3, iv ((0 : Int32) + (1 : Int32)), iv (2 : Int32), iv ((0 : Int32) + (1 : Int32)), iv (cs 1)] [(.int ((cs 1).toInt8.toInt32)), (.int ((0 : Int32) + (1 : Int32))), (.ref a3)])) rfl rfl (hb hby d5_31)
  refine own_of st2 ?_
  clear st2
  replace Zs := Nat.le_trans Zs (Keep.of_wr W2).1
  replace K0 := K0.wr W2 (Or.inl (List.mem_of_getElem? (i := 0) rfl))
  replace V_a1 := V_a1.other W2 ne13
  replace V_a3 := Aq2
  clear Aq2
  have N2 := Fr.snoc X2 N1 g_a3
  refine own_of (fun tgt kon => XS.iinc X2.here hx rfl (hb hby d5_32) rfl (l' := #[rv a1, iv (((0 : Int32) + (1 : Int32)) + (1 : Int32)), rv a3, iv ((0 : Int32) + (1 : Int32)), iv (2 : Int32), iv ((0 : Int32) + (1 : Int32)), iv (cs 1)]) rfl kon) ?_
  show own_Wp _ _ _ _ (T2.setTop (mkF m 35 #[rv a1, iv (((0 : Int32) + (1 : Int32)) + (1 : Int32)), rv a3, iv ((0 : Int32) + (1 : Int32)), iv (2 : Int32), iv ((0 : Int32) + (1 : Int32)), iv (cs 1)] []))
  refine own_of (fun tgt kon => XS.iinc X2.here hx rfl (hb hby d5_35) rfl (l' := #[rv a1, iv (((0 : Int32) + (1 : Int32)) + (1 : Int32)), rv a3, iv (((0 : Int32) + (1 : Int32)) + (1 : Int32)), iv (2 : Int32), iv ((0 : Int32) + (1 : Int32)), iv (cs 1)]) rfl kon) ?_
  refine own_of (fun tgt kon => XS.iinc X2.here hx rfl (hb hby d5_38) rfl (l' := #[rv a1, iv (((0 : Int32) + (1 : Int32)) + (1 : Int32)), rv a3, iv (((0 : Int32) + (1 : Int32)) + (1 : Int32)), iv (2 : Int32), iv (((0 : Int32) + (1 : Int32)) + (1 : Int32)), iv (cs 1)]) rfl kon) ?_
  refine own_of (fun tgt kon => XS.goto X2.here hx rfl (pc0 := 41) (pc' := 3) rfl (hb hby d5_41) (by decide) (by decide) kon) ?_
  refine own_of (fun tgt kon => XS.iload X2.here hx rfl (hb hby d5_3) rfl kon) ?_
  refine own_of (fun tgt kon => XS.iload X2.here hx rfl (hb hby d5_5) rfl kon) ?_
  show own_Wp _ _ _ _ (T2.setTop (mkF m 7 #[rv a1, iv (((0 : Int32) + (1 : Int32)) + (1 : Int32)), rv a3, iv (((0 : Int32) + (1 : Int32)) + (1 : Int32)), iv (2 : Int32), iv (((0 : Int32) + (1 : Int32)) + (1 : Int32)), iv (cs 1)] [(.int (2 : Int32)), (.int (((0 : Int32) + (1 : Int32)) + (1 : Int32)))]))
  have hc7_3 : ¬ ((((0 : Int32) + (1 : Int32)) + (1 : Int32)) < (2 : Int32)) := by decide
  refine own_of (fun tgt kon => XS.icmpYes X2.here hx rfl (pc0 := 7) (pc' := 44) rfl (hb hby d5_7) rfl (flt hc7_3).2.1 (by decide) (by decide) kon) ?_
  refine own_of (fun tgt kon => XS.iload X2.here hx rfl (hb hby d5_44) rfl kon) ?_
  show own_Wp _ _ _ _ (T2.setTop (mkF m 46 #[rv a1, iv (((0 : Int32) + (1 : Int32)) + (1 : Int32)), rv a3, iv (((0 : Int32) + (1 : Int32)) + (1 : Int32)), iv (2 : Int32), iv (((0 : Int32) + (1 : Int32)) + (1 : Int32)), iv (cs 1)] [(.int (2 : Int32))]))
  refine own_ret X2 hlk (some (.int (2 : Int32))) (own_rtI hrt) (fun fs hr => own_retI X2 hx hrt (hb hby d5_46) hr) ?_ (by decide) (by decide)
  rw [e2]
  exact ⟨rfl, N2, K0, V_a3.fn (by intro k hk; rcases k with _ | _ | k <;> first | rfl | omega)⟩
theorem d4_0 : decode jdk_52_method_16_code 0 = .ok (.iload_n 2, 1) := by decide +kernel
theorem d4_1 : decode jdk_52_method_16_code 1 = .ok (.newarray .byte, 2) := by decide +kernel
theorem d4_3 : decode jdk_52_method_16_code 3 = .ok (.astore_n 3, 1) := by decide +kernel
theorem d4_4 : decode jdk_52_method_16_code 4 = .ok (.aload_n 0, 1) := by decide +kernel
theorem d4_5 : decode jdk_52_method_16_code 5 = .ok (.iload_n 1, 1) := by decide +kernel
theorem d4_6 : decode jdk_52_method_16_code 6 = .ok (.aload_n 3, 1) := by decide +kernel
theorem d4_7 : decode jdk_52_method_16_code 7 = .ok (.iconst 0, 1) := by decide +kernel
theorem d4_8 : decode jdk_52_method_16_code 8 = .ok (.iload_n 2, 1) := by decide +kernel
theorem d4_9 : decode jdk_52_method_16_code 9 = .ok (.invokestatic 115, 3) := by decide +kernel
theorem own_pd0 : parseMethodDescriptor "([CI[BII)I" = some ⟨[(.array .char), .int, (.array .byte), .int, .int], some .int⟩ := by decide +kernel
theorem d4_12 : decode jdk_52_method_16_code 12 = .ok (.istore 4, 2) := by decide +kernel
theorem d4_14 : decode jdk_52_method_16_code 14 = .ok (.iload 4, 2) := by decide +kernel
theorem d4_16 : decode jdk_52_method_16_code 16 = .ok (.iload_n 2, 1) := by decide +kernel
theorem d4_17 : decode jdk_52_method_16_code 17 = .ok (.if_icmp .eq 40, 3) := by decide +kernel
theorem d4_57 : decode jdk_52_method_16_code 57 = .ok (.aload_n 3, 1) := by decide +kernel
theorem d4_58 : decode jdk_52_method_16_code 58 = .ok (.areturn, 1) := by decide +kernel
def Q_rmc3 (Z : State) (a1 : Addr) (cs : Nat → Int32) (h0 : Heap) (n0 : Nat) (v : Option Value) (h : Heap) (L : List Loc) : Prop := ∃ b, v = some (.ref b) ∧ Fr n0 L ∧ Keep h0 h [] ∧ n0 ≤ b ∧ h0.size ≤ b ∧ own_Ar Z h b .byte 2 (fun k => .int (own_by (cs k)))
set_option maxRecDepth 65536 in
set_option maxHeartbeats 40000000 in
theorem rmc3 (l : Launch) (Z : State) (a0 : Array Value) (hw : ∀ d ∈ tables_1, d.before a0 Z = true) (ws : List Jvm.Cond) (a1 : Addr) (cs : Nat → Int32) (h0 : Heap) (n0 : Nat) (Z0 : n0 ≤ h0.size) (V_a1 : own_Ar Z h0 a1 .char 2 (fun k => .int (cs k))) (hcs : ∀ k, k < 2 → ¬ (255 : Int32) < cs k) :
    own_Ctr l Z (⟨"java/lang/StringUTF16", "compress", "([CII)[B"⟩ : MethodName) jdk_52_method_16_code 6 (some (.array .byte)) ws ({ frames := 1, cells := 1, slots := 2, locals := 18 } : Room) #[(.ref a1), (.int (0 : Int32)), (.int (2 : Int32))] h0 (Q_rmc3 Z a1 cs h0 n0) := by
  refine own_enter (plainFor_of_name own_pn0) ?_
  intro p e s m below meth c s₁ X0 hx hby hml hrt hlk hZ hown hnm e0
  have N0 := Fr.nil n0
  have Zs := Z0
  have K0 := Keep.refl h0 []
  rw [show entryFrame m #[(.ref a1), (.int (0 : Int32)), (.int (2 : Int32))] 6 = mkF m 0 #[rv a1, iv (0 : Int32), iv (2 : Int32), uu, uu, uu] [] from by first | (simp [entryFrame, mkF, argsToLocals, Value.category]; done) | rfl]
  show own_Wp _ _ _ _ (s₁.setTop (mkF m 0 #[rv a1, iv (0 : Int32), iv (2 : Int32), uu, uu, uu] []))
  refine own_of (fun tgt kon => XS.iloadN X0.here hx rfl (hb hby d4_0) rfl kon) ?_
  obtain ⟨T1, h1, k1, X1, e1, E1, A1, st1⟩ := newP X0 hx hZ (ow hw 19 rfl) e0 (g := (mkF m 1 #[rv a1, iv (0 : Int32), iv (2 : Int32), uu, uu, uu] [(.int (2 : Int32))])) rfl (hb hby d4_1) rfl (by decide) (cap := 2) (by decide) (by decide) (by decide) (by decide)
  refine own_of st1 ?_
  clear st1
  obtain ⟨b1, gq1⟩ : ∃ z, z = h0.size := ⟨_, rfl⟩
  rw [← gq1] at A1 ⊢
  have ne_a1_b1 : a1 ≠ b1 := Nat.ne_of_lt (Nat.lt_of_lt_of_le V_a1.lt (Nat.le_of_eq gq1.symm))
  have g_b1 : n0 ≤ b1 := Nat.le_trans Zs (Nat.le_of_eq gq1.symm)
  have sz_b1 : h0.size ≤ b1 := Nat.le_trans K0.1 (Nat.le_of_eq gq1.symm)
  replace Zs := Nat.le_trans Zs E1.1
  replace K0 := K0.ext E1
  replace V_a1 := V_a1.ext E1
  have V_b1 : own_Ar Z h1 b1 .byte 2 (fun _ => (.int (0 : Int32))) := own_Ar.new A1 (by decide) rfl
  refine own_of (fun tgt kon => XS.astoreN X1.here hx rfl (hb hby d4_3) rfl rfl (l' := #[rv a1, iv (0 : Int32), iv (2 : Int32), rv b1, uu, uu]) rfl kon) ?_
  refine own_of (fun tgt kon => XS.aloadN X1.here hx rfl (hb hby d4_4) rfl rfl kon) ?_
  refine own_of (fun tgt kon => XS.iloadN X1.here hx rfl (hb hby d4_5) rfl kon) ?_
  show own_Wp _ _ _ _ (T1.setTop (mkF m 6 #[rv a1, iv (0 : Int32), iv (2 : Int32), rv b1, uu, uu] [(.int (0 : Int32)), (.ref a1)]))
  refine own_of (fun tgt kon => XS.aloadN X1.here hx rfl (hb hby d4_6) rfl rfl kon) ?_
  refine own_of (fun tgt kon => XS.iconst X1.here hx rfl (hb hby d4_7) kon) ?_
  refine own_of (fun tgt kon => XS.iloadN X1.here hx rfl (hb hby d4_8) rfl kon) ?_
  refine own_callS X1 hx hZ (y := (⟨"java/lang/StringUTF16", "compress", "([CI[BII)I"⟩ : MethodName)) (argsL := [(.ref a1), (.int (0 : Int32)), (.ref b1), (.int (0 : Int32)), (.int (2 : Int32))]) (rest := []) (W := 0) hown (ow hw 20 rfl) (ow hw 21 rfl) (ow hw 17 rfl) (ow hw 22 rfl) (by decide) e1 (rmc5 l Z a0 hw [] a1 b1 _ cs h1 n0 Zs V_a1 V_b1 g_b1 ne_a1_b1 hcs) (by decide) (by decide) (by decide) (by decide) rfl (by rw [hml]; rfl) (lenOf own_pd0 rfl) rfl (by show 2 * 0 + _ ≤ _; exact Nat.le_of_eq rfl) (hb hby d4_9) ?_
  rintro T2 L2 _ X2 ⟨rfl, N2q, Kq2, Vq2⟩
  have N2 := Fr.app N0 N2q
  show own_Wp _ _ _ _ (T2.setTop (mkF m 12 #[rv a1, iv (0 : Int32), iv (2 : Int32), rv b1, uu, uu] [(.int (2 : Int32))]))
  replace Zs := Nat.le_trans Zs Kq2.1
  replace K0 := K0.trans Kq2 (allS (P := fun z => z ∈ _ ∨ _ ≤ z) (Or.inr sz_b1) all0)
  replace V_a1 := V_a1.keep Kq2 (ninS ne_a1_b1 nin0)
  have V_b1 := Vq2
  refine own_of (fun tgt kon => XS.istore X2.here hx rfl (hb hby d4_12) rfl (l' := #[rv a1, iv (0 : Int32), iv (2 : Int32), rv b1, iv (2 : Int32), uu]) rfl kon) ?_
  refine own_of (fun tgt kon => XS.iload X2.here hx rfl (hb hby d4_14) rfl kon) ?_
  refine own_of (fun tgt kon => XS.iloadN X2.here hx rfl (hb hby d4_16) rfl kon) ?_
  have hc17 : (2 : Int32) = (2 : Int32) := rfl
  refine own_of (fun tgt kon => XS.icmpYes X2.here hx rfl (pc0 := 17) (pc' := 57) rfl (hb hby d4_17) rfl (teq hc17).1 (by decide) (by decide) kon) ?_
  refine own_of (fun tgt kon => XS.aloadN X2.here hx rfl (hb hby d4_57) rfl rfl kon) ?_
  show own_Wp _ _ _ _ (T2.setTop (mkF m 58 #[rv a1, iv (0 : Int32), iv (2 : Int32), rv b1, iv (2 : Int32), uu] [(.ref b1)]))
  refine own_ret X2 hlk (some (.ref b1)) (own_rtI hrt) (fun fs hr => own_retR X2 hx hrt rfl rfl rfl (hb hby d4_58) hr) ?_ (by decide) (by decide)
  exact ⟨_, rfl, N2, K0, g_b1, sz_b1, V_b1⟩
theorem d6_0 : decode jdk_52_method_15_code 0 = .ok (.iload_n 1, 1) := by decide +kernel
theorem d6_1 : decode jdk_52_method_15_code 1 = .ok (.aload_n 0, 1) := by decide +kernel
theorem d6_2 : decode jdk_52_method_15_code 2 = .ok (.arraylength, 1) := by decide +kernel
theorem d6_3 : decode jdk_52_method_15_code 3 = .ok (.isub, 1) := by decide +kernel
theorem d6_4 : decode jdk_52_method_15_code 4 = .ok (.bipush 31, 2) := by decide +kernel
theorem d6_6 : decode jdk_52_method_15_code 6 = .ok (.iushr, 1) := by decide +kernel
theorem d6_7 : decode jdk_52_method_15_code 7 = .ok (.i2b, 1) := by decide +kernel
theorem d6_8 : decode jdk_52_method_15_code 8 = .ok (.ireturn, 1) := by decide +kernel
def Q_rmcf (Z : State) (a1 : Addr) (f : Nat → Value) (h0 : Heap) (n0 : Nat) (v : Option Value) (h : Heap) (L : List Loc) : Prop := v = some (.int (0 : Int32)) ∧ Fr n0 L ∧ h = h0
set_option maxRecDepth 65536 in
set_option maxHeartbeats 40000000 in
theorem rmcf (l : Launch) (Z : State) (a0 : Array Value) (hw : ∀ d ∈ tables_1, d.before a0 Z = true) (ws : List Jvm.Cond) (a1 : Addr) (f : Nat → Value) (h0 : Heap) (n0 : Nat) (Z0 : n0 ≤ h0.size) (V_a1 : own_Ar Z h0 a1 .byte 2 f) :
    own_Ctr l Z (⟨"java/lang/StringUTF16", "coderFromArrayLen", "([BI)B"⟩ : MethodName) jdk_52_method_15_code 2 (some .byte) ws ({ frames := 0, cells := 0, slots := 0, locals := 0 } : Room) #[(.ref a1), (.int (2 : Int32))] h0 (Q_rmcf Z a1 f h0 n0) := by
  refine own_enter (plainFor_of_name own_pn0) ?_
  intro p e s m below meth c s₁ X0 hx hby hml hrt hlk hZ hown hnm e0
  have N0 := Fr.nil n0
  have Zs := Z0
  rw [show entryFrame m #[(.ref a1), (.int (2 : Int32))] 2 = mkF m 0 #[rv a1, iv (2 : Int32)] [] from by first | (simp [entryFrame, mkF, argsToLocals, Value.category]; done) | rfl]
  show own_Wp _ _ _ _ (s₁.setTop (mkF m 0 #[rv a1, iv (2 : Int32)] []))
  refine own_of (fun tgt kon => XS.iloadN X0.here hx rfl (hb hby d6_0) rfl kon) ?_
  refine own_of (fun tgt kon => XS.aloadN X0.here hx rfl (hb hby d6_1) rfl rfl kon) ?_
  refine own_len X0 hx hZ e0 V_a1 (z := (2 : Int32)) (by decide) rfl rfl (hb hby d6_2) ?_
  refine own_of (fun tgt kon => XS.isub X0.here hx rfl (hb hby d6_3) rfl kon) ?_
  refine own_of (fun tgt kon => XS.bipush X0.here hx rfl (hb hby d6_4) kon) ?_
  show own_Wp _ _ _ _ (s₁.setTop (mkF m 6 #[rv a1, iv (2 : Int32)] [(.int (31 : Int32)), (.int ((2 : Int32) - (2 : Int32)))]))
  refine own_of (fun tgt kon => XS.iushr X0.here hx rfl (hb hby d6_6) rfl kon) ?_
  refine own_of (fun tgt kon => XS.i2b X0.here hx rfl (hb hby d6_7) rfl kon) ?_
  show own_Wp _ _ _ _ (s₁.setTop (mkF m 8 #[rv a1, iv (2 : Int32)] [(.int (((((2 : Int32) - (2 : Int32)).toUInt32 >>> ((31 : Int32) &&& 31).toUInt32).toInt32).toInt8.toInt32))]))
  refine own_ret X0 hlk (some (.int (nar .byte (((((2 : Int32) - (2 : Int32)).toUInt32 >>> ((31 : Int32) &&& 31).toUInt32).toInt32).toInt8.toInt32)))) (own_rtI hrt) (fun fs hr => retN X0 hx (t := .byte) hrt (by simp) (hb hby d6_8) hr) ?_ (by decide) (by decide)
  rw [e0]
  exact ⟨congrArg (fun z => some (Value.int z)) (by decide), N0, rfl⟩
theorem own_pn1 : plainName "java/lang/String" = true := by first | (simp [plainName, overriddenIn]; done) | decide +kernel
theorem d2_0 : decode jdk_42_method_149_code 0 = .ok (.aload_n 0, 1) := by decide +kernel
theorem d2_1 : decode jdk_42_method_149_code 1 = .ok (.invokespecial 1, 3) := by decide +kernel
theorem d2_4 : decode jdk_42_method_149_code 4 = .ok (.iload_n 3, 1) := by decide +kernel
theorem d2_5 : decode jdk_42_method_149_code 5 = .ok (.ifCond .ne 22, 3) := by decide +kernel
theorem d2_27 : decode jdk_42_method_149_code 27 = .ok (.getstatic 38, 3) := by decide +kernel
theorem d2_30 : decode jdk_42_method_149_code 30 = .ok (.ifCond .eq 28, 3) := by decide +kernel
theorem d2_33 : decode jdk_42_method_149_code 33 = .ok (.aload_n 1, 1) := by decide +kernel
theorem d2_34 : decode jdk_42_method_149_code 34 = .ok (.iload_n 2, 1) := by decide +kernel
theorem d2_35 : decode jdk_42_method_149_code 35 = .ok (.iload_n 3, 1) := by decide +kernel
theorem d2_36 : decode jdk_42_method_149_code 36 = .ok (.invokestatic 177, 3) := by decide +kernel
theorem own_pd1 : parseMethodDescriptor "([CII)[B" = some ⟨[(.array .char), .int, .int], some (.array .byte)⟩ := by decide +kernel
theorem d2_39 : decode jdk_42_method_149_code 39 = .ok (.astore 5, 2) := by decide +kernel
theorem d2_41 : decode jdk_42_method_149_code 41 = .ok (.aload_n 0, 1) := by decide +kernel
theorem d2_42 : decode jdk_42_method_149_code 42 = .ok (.aload 5, 2) := by decide +kernel
theorem d2_44 : decode jdk_42_method_149_code 44 = .ok (.iload_n 3, 1) := by decide +kernel
theorem d2_45 : decode jdk_42_method_149_code 45 = .ok (.invokestatic 47, 3) := by decide +kernel
theorem own_pd2 : parseMethodDescriptor "([BI)B" = some ⟨[(.array .byte), .int], some .byte⟩ := by decide +kernel
theorem d2_48 : decode jdk_42_method_149_code 48 = .ok (.putfield 15, 3) := by decide +kernel
theorem d2_51 : decode jdk_42_method_149_code 51 = .ok (.aload_n 0, 1) := by decide +kernel
theorem d2_52 : decode jdk_42_method_149_code 52 = .ok (.aload 5, 2) := by decide +kernel
theorem d2_54 : decode jdk_42_method_149_code 54 = .ok (.putfield 9, 3) := by decide +kernel
theorem d2_57 : decode jdk_42_method_149_code 57 = .ok (.return_, 1) := by decide +kernel
def Q_rms4 (Z : State) (a1 : Addr) (a2 : Addr) (cs : Nat → Int32) (cz : Int32) (h0 : Heap) (n0 : Nat) (v : Option Value) (h : Heap) (L : List Loc) : Prop := v = none ∧ Fr n0 L ∧ Keep h0 h [a1] ∧ Exa Z h a1 "java/lang/String" ∧ ∃ b, n0 ≤ b ∧ h0.size ≤ b ∧ Fld Z h a1 "java/lang/String" "value" "[B" (.ref b) ∧ Fld Z h a1 "java/lang/String" "coder" "B" (.int (0 : Int32)) ∧ own_Ar Z h b .byte 2 (fun k => .int (own_by (cs k)))
set_option maxRecDepth 65536 in
set_option maxHeartbeats 40000000 in
theorem rms4 (l : Launch) (Z : State) (a0 : Array Value) (hw : ∀ d ∈ tables_1, d.before a0 Z = true) (ws : List Jvm.Cond) (a1 : Addr) (a2 : Addr) (cs : Nat → Int32) (cz : Int32) (h0 : Heap) (n0 : Nat) (Z0 : n0 ≤ h0.size) (E_a1 : Exa Z h0 a1 "java/lang/String") (u_value : Value) (u_coder : Value) (F_value : Fld Z h0 a1 "java/lang/String" "value" "[B" u_value) (F_coder : Fld Z h0 a1 "java/lang/String" "coder" "B" u_coder) (V_a2 : own_Ar Z h0 a2 .char 2 (fun k => .int (cs k))) (g_a1 : n0 ≤ a1) (ne12 : a1 ≠ a2) (hcs : ∀ k, k < 2 → ¬ (255 : Int32) < cs k) (S_C : Sta Z h0 "java/lang/String" "COMPACT_STRINGS" "Z" (.int cz)) (hcz : ¬ cz = 0) :
    own_Ctr l Z (⟨"java/lang/String", "<init>", "([CIILjava/lang/Void;)V"⟩ : MethodName) jdk_42_method_149_code 6 none ws ({ frames := 2, cells := 1, slots := 2, locals := 35 } : Room) #[(.ref a1), (.ref a2), (.int (0 : Int32)), (.int (2 : Int32)), .null] h0 (Q_rms4 Z a1 a2 cs cz h0 n0) := by
  refine own_enter (plainFor_of_name own_pn1) ?_
  intro p e s m below meth c s₁ X0 hx hby hml hrt hlk hZ hown hnm e0
  have N0 := Fr.nil n0
  have Zs := Z0
  have K0 := Keep.refl h0 [a1]
  rw [show entryFrame m #[(.ref a1), (.ref a2), (.int (0 : Int32)), (.int (2 : Int32)), .null] 6 = mkF m 0 #[rv a1, rv a2, iv (0 : Int32), iv (2 : Int32), .val .null, uu] [] from by first | (simp [entryFrame, mkF, argsToLocals, Value.category]; done) | rfl]
  show own_Wp _ _ _ _ (s₁.setTop (mkF m 0 #[rv a1, rv a2, iv (0 : Int32), iv (2 : Int32), .val .null, uu] []))
  refine own_of (fun tgt kon => XS.aloadN X0.here hx rfl (hb hby d2_0) rfl rfl kon) ?_
  obtain ⟨T1, X1, e1, st1⟩ := initO X0 hx hZ hown (ow hw 11 rfl) (ow hw 12 rfl) (ow hw 13 rfl) e0 (g := (mkF m 1 #[rv a1, rv a2, iv (0 : Int32), iv (2 : Int32), .val .null, uu] [(.ref a1)])) rfl (by rw [hml]; rfl) rfl (hb hby d2_1) (by decide) (W := 0) (by show 2 * 0 + _ ≤ _; exact Nat.le_of_eq rfl) (by decide)
  refine own_of st1 ?_
  clear st1
  show own_Wp _ _ _ _ (T1.setTop (mkF m 4 #[rv a1, rv a2, iv (0 : Int32), iv (2 : Int32), .val .null, uu] []))
  refine own_of (fun tgt kon => XS.iloadN X1.here hx rfl (hb hby d2_4) rfl kon) ?_
  have hc5 : ¬ ((2 : Int32) = (0 : Int32)) := by decide
  refine own_of (fun tgt kon => XS.ifYes X1.here hx rfl (pc0 := 5) (pc' := 27) rfl (hb hby d2_5) rfl ((if0 _ _).trans (feq hc5).2) (by decide) (by decide) kon) ?_
  obtain ⟨T2, X2, e2, st2⟩ := getS2 X1 hx hZ hown (host := "") (Or.inl (ow hw 14 rfl)) Via.refl e1 S_C (g := (mkF m 27 #[rv a1, rv a2, iv (0 : Int32), iv (2 : Int32), .val .null, uu] [])) rfl (hb hby d2_27)
  refine own_of st2 ?_
  clear st2
  have hc30 : ¬ (cz = (0 : Int32)) := hcz
  refine own_of (fun tgt kon => XS.ifNo X2.here hx rfl (hb hby d2_30) rfl ((if0 _ _).trans (feq hc30).1) kon) ?_
  refine own_of (fun tgt kon => XS.aloadN X2.here hx rfl (hb hby d2_33) rfl rfl kon) ?_
  show own_Wp _ _ _ _ (T2.setTop (mkF m 34 #[rv a1, rv a2, iv (0 : Int32), iv (2 : Int32), .val .null, uu] [(.ref a2)]))
  refine own_of (fun tgt kon => XS.iloadN X2.here hx rfl (hb hby d2_34) rfl kon) ?_
  refine own_of (fun tgt kon => XS.iloadN X2.here hx rfl (hb hby d2_35) rfl kon) ?_
  have lt3 := E_a1.lt
  refine own_callS X2 hx hZ (y := (⟨"java/lang/StringUTF16", "compress", "([CII)[B"⟩ : MethodName)) (argsL := [(.ref a2), (.int (0 : Int32)), (.int (2 : Int32))]) (rest := []) (W := 0) hown (ow hw 15 rfl) (ow hw 16 rfl) (ow hw 17 rfl) (ow hw 18 rfl) (by decide) e2 (rmc3 l Z a0 hw [] a2 cs h0 n0 Zs V_a2 hcs) (by decide) (by decide) (by decide) (by decide) rfl (by rw [hml]; rfl) (lenOf own_pd1 rfl) rfl (by show 2 * 0 + _ ≤ _; exact Nat.le_of_eq rfl) (hb hby d2_36) ?_
  rintro T3 L3 _ X3 ⟨c3, rfl, N3q, Kq3, g_c3, szq3, Vq3⟩
  have N3 := Fr.app N0 N3q
  show own_Wp _ _ _ _ (T3.setTop (mkF m 39 #[rv a1, rv a2, iv (0 : Int32), iv (2 : Int32), .val .null, uu] [(.ref c3)]))
  replace Zs := Nat.le_trans Zs Kq3.1
  replace K0 := K0.trans Kq3 all0
  replace E_a1 := E_a1.keep Kq3
  replace F_value := F_value.keep Kq3 nin0
  replace F_coder := F_coder.keep Kq3 nin0
  replace V_a2 := V_a2.keep Kq3 nin0
  have V_c3 := Vq3
  have ne_a1_c3 : a1 ≠ c3 := Nat.ne_of_lt (Nat.lt_of_lt_of_le lt3 szq3)
  have sz_c3 : h0.size ≤ c3 := szq3
  refine own_of (fun tgt kon => XS.astore X3.here hx rfl (hb hby d2_39) rfl rfl (l' := #[rv a1, rv a2, iv (0 : Int32), iv (2 : Int32), .val .null, rv c3]) rfl kon) ?_
  refine own_of (fun tgt kon => XS.aloadN X3.here hx rfl (hb hby d2_41) rfl rfl kon) ?_
  refine own_of (fun tgt kon => XS.aload X3.here hx rfl (hb hby d2_42) rfl rfl kon) ?_
  refine own_of (fun tgt kon => XS.iloadN X3.here hx rfl (hb hby d2_44) rfl kon) ?_
  refine own_callS X3 hx hZ (y := (⟨"java/lang/StringUTF16", "coderFromArrayLen", "([BI)B"⟩ : MethodName)) (argsL := [(.ref c3), (.int (2 : Int32))]) (rest := [(.ref a1)]) (W := 1) hown (ow hw 23 rfl) (ow hw 24 rfl) (ow hw 17 rfl) (ow hw 25 rfl) (by decide) rfl (rmcf l Z a0 hw [] c3 _ T3.heap n0 Zs V_c3) (by decide) (by decide) (by decide) (by decide) rfl (by rw [hml]; rfl) (lenOf own_pd2 rfl) rfl (by show 2 * 0 + _ ≤ _; exact Nat.le_of_eq rfl) (hb hby d2_45) ?_
  rintro T4 L4 _ X4 ⟨rfl, N4q, e4⟩
  have N4 := Fr.app N3 N4q
  show own_Wp _ _ _ _ (T4.setTop (mkF m 48 #[rv a1, rv a2, iv (0 : Int32), iv (2 : Int32), .val .null, rv c3] [(.int (0 : Int32)), (.ref a1)]))
  obtain ⟨T5, h5, X5, e5, W5, st5⟩ := putFN X4 hx hZ hown (ow hw 26 rfl) Via.refl e4 F_coder E_a1 (Or.inr ⟨(ow hw 27 rfl), rfl, hnm⟩) (ow hw 2 rfl) (ty := .byte) (v' := (.int (0 : Int32))) (by decide) rfl (by decide) (g := (mkF m 48 #[rv a1, rv a2, iv (0 : Int32), iv (2 : Int32), .val .null, rv c3] [(.int (0 : Int32)), (.ref a1)])) rfl rfl (hb hby d2_48)
  refine own_of st5 ?_
  clear st5
  have Fq5 := Fld.same W5 F_coder
  replace Zs := Nat.le_trans Zs (Keep.of_wr W5).1
  replace K0 := K0.wr W5 (Or.inl (List.mem_of_getElem? (i := 0) rfl))
  replace E_a1 := E_a1.wr W5
  replace F_value := F_value.other W5 (Or.inr (slot_ne (Or.inr (ow hw 29 rfl)) (Or.inr (ow hw 27 rfl)) (by decide) (t := (.array .byte)) (t' := .byte) (by decide) (by decide)))
  replace V_a2 := V_a2.other W5 (Ne.symm ne12)
  replace V_c3 := V_c3.other W5 (Ne.symm ne_a1_c3)
  replace F_coder := Fq5
  clear Fq5
  have N5 := Fr.snoc X5 N4 g_a1
  refine own_of (fun tgt kon => XS.aloadN X5.here hx rfl (hb hby d2_51) rfl rfl kon) ?_
  refine own_of (fun tgt kon => XS.aload X5.here hx rfl (hb hby d2_52) rfl rfl kon) ?_
  obtain ⟨T6, h6, X6, e6, W6, st6⟩ := putF X5 hx hZ hown (host := "") (Or.inl (ow hw 28 rfl)) Via.refl e5 F_value E_a1 (Or.inr ⟨(ow hw 29 rfl), rfl, hnm⟩) (ow hw 2 rfl) (ty := (.array .byte)) (by decide) rfl rfl (g := (mkF m 54 #[rv a1, rv a2, iv (0 : Int32), iv (2 : Int32), .val .null, rv c3] [(.ref c3), (.ref a1)])) rfl rfl (hb hby d2_54)
  refine own_of st6 ?_
  clear st6
  have Fq6 := Fld.same W6 F_value
  replace Zs := Nat.le_trans Zs (Keep.of_wr W6).1
  replace K0 := K0.wr W6 (Or.inl (List.mem_of_getElem? (i := 0) rfl))
  replace E_a1 := E_a1.wr W6
  replace F_coder := F_coder.other W6 (Or.inr (slot_ne (Or.inr (ow hw 27 rfl)) (Or.inr (ow hw 29 rfl)) (by decide) (t := .byte) (t' := (.array .byte)) (by decide) (by decide)))
  replace V_a2 := V_a2.other W6 (Ne.symm ne12)
  replace V_c3 := V_c3.other W6 (Ne.symm ne_a1_c3)
  replace F_value := Fq6
  clear Fq6
  have N6 := Fr.snoc X6 N5 g_a1
  show own_Wp _ _ _ _ (T6.setTop (mkF m 57 #[rv a1, rv a2, iv (0 : Int32), iv (2 : Int32), .val .null, rv c3] []))
  refine own_ret X6 hlk none (fun _ => rfl) (fun fs hr => X6.returnOut hx hrt (hb hby d2_57) hr) ?_ (by decide) (by decide)
  rw [e6]
  exact ⟨rfl, N6, K0, E_a1, c3, g_c3, sz_c3, F_value, F_coder, V_c3⟩
theorem d1_0 : decode jdk_42_method_3_code 0 = .ok (.aload_n 0, 1) := by decide +kernel
theorem d1_1 : decode jdk_42_method_3_code 1 = .ok (.aload_n 1, 1) := by decide +kernel
theorem d1_2 : decode jdk_42_method_3_code 2 = .ok (.iconst 0, 1) := by decide +kernel
theorem d1_3 : decode jdk_42_method_3_code 3 = .ok (.aload_n 1, 1) := by decide +kernel
theorem d1_4 : decode jdk_42_method_3_code 4 = .ok (.arraylength, 1) := by decide +kernel
theorem d1_5 : decode jdk_42_method_3_code 5 = .ok (.aconst_null, 1) := by decide +kernel
theorem d1_6 : decode jdk_42_method_3_code 6 = .ok (.invokespecial 27, 3) := by decide +kernel
theorem own_pd3 : parseMethodDescriptor "([CIILjava/lang/Void;)V" = some ⟨[(.array .char), .int, .int, (.object "java/lang/Void")], none⟩ := by decide +kernel
theorem d1_9 : decode jdk_42_method_3_code 9 = .ok (.return_, 1) := by decide +kernel
def Q_rms2 (Z : State) (a1 : Addr) (a2 : Addr) (cs : Nat → Int32) (cz : Int32) (h0 : Heap) (n0 : Nat) (v : Option Value) (h : Heap) (L : List Loc) : Prop := v = none ∧ Fr n0 L ∧ Keep h0 h [a1] ∧ Exa Z h a1 "java/lang/String" ∧ ∃ b, n0 ≤ b ∧ h0.size ≤ b ∧ Fld Z h a1 "java/lang/String" "value" "[B" (.ref b) ∧ Fld Z h a1 "java/lang/String" "coder" "B" (.int (0 : Int32)) ∧ own_Ar Z h b .byte 2 (fun k => .int (own_by (cs k)))
set_option maxRecDepth 65536 in
set_option maxHeartbeats 40000000 in
theorem rms2 (l : Launch) (Z : State) (a0 : Array Value) (hw : ∀ d ∈ tables_1, d.before a0 Z = true) (ws : List Jvm.Cond) (a1 : Addr) (a2 : Addr) (cs : Nat → Int32) (cz : Int32) (h0 : Heap) (n0 : Nat) (Z0 : n0 ≤ h0.size) (E_a1 : Exa Z h0 a1 "java/lang/String") (u_value : Value) (u_coder : Value) (F_value : Fld Z h0 a1 "java/lang/String" "value" "[B" u_value) (F_coder : Fld Z h0 a1 "java/lang/String" "coder" "B" u_coder) (V_a2 : own_Ar Z h0 a2 .char 2 (fun k => .int (cs k))) (g_a1 : n0 ≤ a1) (ne12 : a1 ≠ a2) (hcs : ∀ k, k < 2 → ¬ (255 : Int32) < cs k) (S_C : Sta Z h0 "java/lang/String" "COMPACT_STRINGS" "Z" (.int cz)) (hcz : ¬ cz = 0) :
    own_Ctr l Z (⟨"java/lang/String", "<init>", "([C)V"⟩ : MethodName) jdk_42_method_3_code 2 none ws ({ frames := 3, cells := 1, slots := 2, locals := 52 } : Room) #[(.ref a1), (.ref a2)] h0 (Q_rms2 Z a1 a2 cs cz h0 n0) := by
  refine own_enter (plainFor_of_name own_pn1) ?_
  intro p e s m below meth c s₁ X0 hx hby hml hrt hlk hZ hown hnm e0
  have N0 := Fr.nil n0
  have Zs := Z0
  have K0 := Keep.refl h0 [a1]
  rw [show entryFrame m #[(.ref a1), (.ref a2)] 2 = mkF m 0 #[rv a1, rv a2] [] from by first | (simp [entryFrame, mkF, argsToLocals, Value.category]; done) | rfl]
  show own_Wp _ _ _ _ (s₁.setTop (mkF m 0 #[rv a1, rv a2] []))
  refine own_of (fun tgt kon => XS.aloadN X0.here hx rfl (hb hby d1_0) rfl rfl kon) ?_
  refine own_of (fun tgt kon => XS.aloadN X0.here hx rfl (hb hby d1_1) rfl rfl kon) ?_
  refine own_of (fun tgt kon => XS.iconst X0.here hx rfl (hb hby d1_2) kon) ?_
  refine own_of (fun tgt kon => XS.aloadN X0.here hx rfl (hb hby d1_3) rfl rfl kon) ?_
  refine own_len X0 hx hZ e0 V_a2 (z := (2 : Int32)) (by decide) rfl rfl (hb hby d1_4) ?_
  show own_Wp _ _ _ _ (s₁.setTop (mkF m 5 #[rv a1, rv a2] [(.int (2 : Int32)), (.int (0 : Int32)), (.ref a2), (.ref a1)]))
  refine own_of (fun tgt kon => XS.aconstNull X0.here hx rfl (hb hby d1_5) kon) ?_
  refine own_callI X0 hx hZ (y := (⟨"java/lang/String", "<init>", "([CIILjava/lang/Void;)V"⟩ : MethodName)) (a := a1) (argsL := [(.ref a2), (.int (0 : Int32)), (.int (2 : Int32)), .null]) (rest := []) (W := 0) rfl hown (ow hw 7 rfl) (ow hw 8 rfl) (ow hw 3 rfl) (ow hw 10 rfl) (by decide) e0 (rms4 l Z a0 hw [] a1 a2 cs cz h0 n0 Zs E_a1 _ _ F_value F_coder V_a2 g_a1 ne12 hcs S_C hcz) (by decide) (by decide) (by decide) (by decide) rfl (by rw [hml]; rfl) (lenOf own_pd3 rfl) rfl (by show 2 * 0 + _ ≤ _; exact Nat.le_of_eq rfl) (hb hby d1_6) ?_
  rintro T1 L1 _ X1 ⟨rfl, N1q, Kq1, Eq1, c1, g_c1, szq1, Fv1, Fc1, Vq1⟩
  have N1 := Fr.app N0 N1q
  show own_Wp _ _ _ _ (T1.setTop (mkF m 9 #[rv a1, rv a2] []))
  replace Zs := Nat.le_trans Zs Kq1.1
  replace K0 := K0.trans Kq1 (allS (P := fun z => z ∈ _ ∨ _ ≤ z) (Or.inl (List.mem_of_getElem? (i := 0) rfl)) all0)
  replace E_a1 := E_a1.keep Kq1
  replace V_a2 := V_a2.keep Kq1 (ninS (Ne.symm ne12) nin0)
  replace E_a1 := Eq1
  have F_value := Fv1
  have F_coder := Fc1
  have V_c1 := Vq1
  have sz_c1 := szq1
  refine own_ret X1 hlk none (fun _ => rfl) (fun fs hr => X1.returnOut hx hrt (hb hby d1_9) hr) ?_ (by decide) (by decide)
  exact ⟨rfl, N1, K0, E_a1, c1, g_c1, sz_c1, F_value, F_coder, V_c1⟩
theorem own_pn2 : plainName "java/lang/Record" = true := by first | (simp [plainName, overriddenIn]; done) | decide +kernel
theorem d8_0 : decode jdk_30_method_1_code 0 = .ok (.aload_n 0, 1) := by decide +kernel
theorem d8_1 : decode jdk_30_method_1_code 1 = .ok (.invokespecial 1, 3) := by decide +kernel
theorem d8_4 : decode jdk_30_method_1_code 4 = .ok (.return_, 1) := by decide +kernel
def Q_rmri (Z : State) (a1 : Addr) (h0 : Heap) (n0 : Nat) (v : Option Value) (h : Heap) (L : List Loc) : Prop := v = none ∧ Fr n0 L ∧ h = h0
set_option maxRecDepth 65536 in
set_option maxHeartbeats 40000000 in
theorem rmri (l : Launch) (Z : State) (a0 : Array Value) (hw : ∀ d ∈ tables_1, d.before a0 Z = true) (ws : List Jvm.Cond) (a1 : Addr) (h0 : Heap) (n0 : Nat) (Z0 : n0 ≤ h0.size)  :
    own_Ctr l Z (⟨"java/lang/Record", "<init>", "()V"⟩ : MethodName) jdk_30_method_1_code 1 none ws ({ frames := 1, cells := 0, slots := 0, locals := 12 } : Room) #[(.ref a1)] h0 (Q_rmri Z a1 h0 n0) := by
  refine own_enter (plainFor_of_name own_pn2) ?_
  intro p e s m below meth c s₁ X0 hx hby hml hrt hlk hZ hown hnm e0
  have N0 := Fr.nil n0
  have Zs := Z0
  rw [show entryFrame m #[(.ref a1)] 1 = mkF m 0 #[rv a1] [] from by first | (simp [entryFrame, mkF, argsToLocals, Value.category]; done) | rfl]
  show own_Wp _ _ _ _ (s₁.setTop (mkF m 0 #[rv a1] []))
  refine own_of (fun tgt kon => XS.aloadN X0.here hx rfl (hb hby d8_0) rfl rfl kon) ?_
  obtain ⟨T1, X1, e1, st1⟩ := initO X0 hx hZ hown (ow hw 45 rfl) (ow hw 12 rfl) (ow hw 13 rfl) e0 (g := (mkF m 1 #[rv a1] [(.ref a1)])) rfl (by rw [hml]; rfl) rfl (hb hby d8_1) (by decide) (W := 0) (by show 2 * 0 + _ ≤ _; exact Nat.le_of_eq rfl) (by decide)
  refine own_of st1 ?_
  clear st1
  show own_Wp _ _ _ _ (T1.setTop (mkF m 4 #[rv a1] []))
  refine own_ret X1 hlk none (fun _ => rfl) (fun fs hr => X1.returnOut hx hrt (hb hby d8_4) hr) ?_ (by decide) (by decide)
  rw [e1]
  exact ⟨rfl, N0, rfl⟩
theorem own_pn3 : plainName "java/util/Objects" = true := by first | (simp [plainName, overriddenIn]; done) | decide +kernel
theorem d9_0 : decode jdk_31_method_11_code 0 = .ok (.aload_n 0, 1) := by decide +kernel
theorem d9_1 : decode jdk_31_method_11_code 1 = .ok (.ifnonnull 12, 3) := by decide +kernel
theorem d9_13 : decode jdk_31_method_11_code 13 = .ok (.aload_n 0, 1) := by decide +kernel
theorem d9_14 : decode jdk_31_method_11_code 14 = .ok (.areturn, 1) := by decide +kernel
def Q_rmrn (Z : State) (a1 : Addr) (a2 : Addr) (h0 : Heap) (n0 : Nat) (v : Option Value) (h : Heap) (L : List Loc) : Prop := v = some (.ref a1) ∧ Fr n0 L ∧ h = h0
set_option maxRecDepth 65536 in
set_option maxHeartbeats 40000000 in
theorem rmrn (l : Launch) (Z : State) (a0 : Array Value) (hw : ∀ d ∈ tables_1, d.before a0 Z = true) (ws : List Jvm.Cond) (a1 : Addr) (a2 : Addr) (h0 : Heap) (n0 : Nat) (Z0 : n0 ≤ h0.size)  :
    own_Ctr l Z (⟨"java/util/Objects", "requireNonNull", "(Ljava/lang/Object;Ljava/lang/String;)Ljava/lang/Object;"⟩ : MethodName) jdk_31_method_11_code 2 (some (.object "java/lang/Object")) ws ({ frames := 0, cells := 0, slots := 0, locals := 0 } : Room) #[(.ref a1), (.ref a2)] h0 (Q_rmrn Z a1 a2 h0 n0) := by
  refine own_enter (plainFor_of_name own_pn3) ?_
  intro p e s m below meth c s₁ X0 hx hby hml hrt hlk hZ hown hnm e0
  have N0 := Fr.nil n0
  have Zs := Z0
  rw [show entryFrame m #[(.ref a1), (.ref a2)] 2 = mkF m 0 #[rv a1, rv a2] [] from by first | (simp [entryFrame, mkF, argsToLocals, Value.category]; done) | rfl]
  show own_Wp _ _ _ _ (s₁.setTop (mkF m 0 #[rv a1, rv a2] []))
  refine own_of (fun tgt kon => XS.aloadN X0.here hx rfl (hb hby d9_0) rfl rfl kon) ?_
  refine own_of (fun tgt kon => XS.ifnonnullYes X0.here hx rfl (pc0 := 1) (pc' := 13) rfl (hb hby d9_1) rfl (by decide) (by decide) kon) ?_
  refine own_of (fun tgt kon => XS.aloadN X0.here hx rfl (hb hby d9_13) rfl rfl kon) ?_
  show own_Wp _ _ _ _ (s₁.setTop (mkF m 14 #[rv a1, rv a2] [(.ref a1)]))
  refine own_ret X0 hlk (some (.ref a1)) (own_rtI hrt) (fun fs hr => own_retR X0 hx hrt rfl rfl rfl (hb hby d9_14) hr) ?_ (by decide) (by decide)
  rw [e0]
  exact ⟨rfl, N0, rfl⟩
theorem own_pn4 : plainName "com/example/iota_flow/iotaflow/definition/Merge" = true := by first | (simp [plainName, overriddenIn]; done) | decide +kernel
theorem d7_0 : decode prog_17_method_1_code 0 = .ok (.aload_n 0, 1) := by decide +kernel
theorem d7_1 : decode prog_17_method_1_code 1 = .ok (.invokespecial 1, 3) := by decide +kernel
theorem own_pd4 : parseMethodDescriptor "()V" = some ⟨[], none⟩ := by decide +kernel
theorem d7_4 : decode prog_17_method_1_code 4 = .ok (.aload_n 1, 1) := by decide +kernel
theorem d7_5 : decode prog_17_method_1_code 5 = .ok (.ldc 7, 2) := by decide +kernel
theorem d7_7 : decode prog_17_method_1_code 7 = .ok (.invokestatic 9, 3) := by decide +kernel
theorem own_pd5 : parseMethodDescriptor "(Ljava/lang/Object;Ljava/lang/String;)Ljava/lang/Object;" = some ⟨[(.object "java/lang/Object"), (.object "java/lang/String")], some (.object "java/lang/Object")⟩ := by decide +kernel
theorem d7_10 : decode prog_17_method_1_code 10 = .ok (.pop, 1) := by decide +kernel
theorem d7_11 : decode prog_17_method_1_code 11 = .ok (.aload_n 1, 1) := by decide +kernel
theorem d7_12 : decode prog_17_method_1_code 12 = .ok (.getstatic 15, 3) := by decide +kernel
theorem d7_15 : decode prog_17_method_1_code 15 = .ok (.if_acmp .ne 7, 3) := by decide +kernel
theorem d7_22 : decode prog_17_method_1_code 22 = .ok (.iconst 0, 1) := by decide +kernel
theorem d7_23 : decode prog_17_method_1_code 23 = .ok (.aload_n 2, 1) := by decide +kernel
theorem d7_24 : decode prog_17_method_1_code 24 = .ok (.ifnull 7, 3) := by decide +kernel
theorem d7_31 : decode prog_17_method_1_code 31 = .ok (.iconst 0, 1) := by decide +kernel
theorem d7_32 : decode prog_17_method_1_code 32 = .ok (.if_icmp .eq 34, 3) := by decide +kernel
theorem d7_66 : decode prog_17_method_1_code 66 = .ok (.aload_n 1, 1) := by decide +kernel
theorem d7_67 : decode prog_17_method_1_code 67 = .ok (.getstatic 40, 3) := by decide +kernel
theorem d7_70 : decode prog_17_method_1_code 70 = .ok (.if_acmp .ne 11, 3) := by decide +kernel
theorem d7_81 : decode prog_17_method_1_code 81 = .ok (.iload_n 3, 1) := by decide +kernel
theorem d7_82 : decode prog_17_method_1_code 82 = .ok (.iconst 1, 1) := by decide +kernel
theorem d7_83 : decode prog_17_method_1_code 83 = .ok (.if_icmp .eq 21, 3) := by decide +kernel
theorem d7_104 : decode prog_17_method_1_code 104 = .ok (.aload_n 0, 1) := by decide +kernel
theorem d7_105 : decode prog_17_method_1_code 105 = .ok (.aload_n 1, 1) := by decide +kernel
theorem d7_106 : decode prog_17_method_1_code 106 = .ok (.putfield 46, 3) := by decide +kernel
theorem d7_109 : decode prog_17_method_1_code 109 = .ok (.aload_n 0, 1) := by decide +kernel
theorem d7_110 : decode prog_17_method_1_code 110 = .ok (.aload_n 2, 1) := by decide +kernel
theorem d7_111 : decode prog_17_method_1_code 111 = .ok (.putfield 50, 3) := by decide +kernel
theorem d7_114 : decode prog_17_method_1_code 114 = .ok (.aload_n 0, 1) := by decide +kernel
theorem d7_115 : decode prog_17_method_1_code 115 = .ok (.iload_n 3, 1) := by decide +kernel
theorem d7_116 : decode prog_17_method_1_code 116 = .ok (.putfield 54, 3) := by decide +kernel
theorem d7_119 : decode prog_17_method_1_code 119 = .ok (.return_, 1) := by decide +kernel
def Q_rmmg0 (Z : State) (a1 : Addr) (o0 : Addr) (o1 : Addr) (o2 : Addr) (o3 : Addr) (h0 : Heap) (n0 : Nat) (v : Option Value) (h : Heap) (L : List Loc) : Prop := v = none ∧ Fr n0 L ∧ Keep h0 h [a1] ∧ Exa Z h a1 "com/example/iota_flow/iotaflow/definition/Merge" ∧ Fld Z h a1 "com/example/iota_flow/iotaflow/definition/Merge" "kind" "Lcom/example/iota_flow/iotaflow/definition/Merge$Kind;" (.ref o0) ∧ Fld Z h a1 "com/example/iota_flow/iotaflow/definition/Merge" "flag" "Ljava/lang/String;" .null ∧ Fld Z h a1 "com/example/iota_flow/iotaflow/definition/Merge" "votes" "I" (.int (1 : Int32))
set_option maxRecDepth 65536 in
set_option maxHeartbeats 40000000 in
theorem rmmg0 (l : Launch) (Z : State) (a0 : Array Value) (hw : ∀ d ∈ tables_1, d.before a0 Z = true) (ws : List Jvm.Cond) (a1 : Addr) (o0 : Addr) (o1 : Addr) (o2 : Addr) (o3 : Addr) (h0 : Heap) (n0 : Nat) (Z0 : n0 ≤ h0.size) (O : Old Z n0 h0) (E_a1 : Exa Z h0 a1 "com/example/iota_flow/iotaflow/definition/Merge") (u_kind : Value) (u_flag : Value) (u_votes : Value) (F_kind : Fld Z h0 a1 "com/example/iota_flow/iotaflow/definition/Merge" "kind" "Lcom/example/iota_flow/iotaflow/definition/Merge$Kind;" u_kind) (F_flag : Fld Z h0 a1 "com/example/iota_flow/iotaflow/definition/Merge" "flag" "Ljava/lang/String;" u_flag) (F_votes : Fld Z h0 a1 "com/example/iota_flow/iotaflow/definition/Merge" "votes" "I" u_votes) (g_a1 : n0 ≤ a1) (S0 : Sta Z Z.heap "com/example/iota_flow/iotaflow/definition/Merge$Kind" "EVERY" "Lcom/example/iota_flow/iotaflow/definition/Merge$Kind;" (.ref o0)) (S1 : Sta Z Z.heap "com/example/iota_flow/iotaflow/definition/Merge$Kind" "FIRST" "Lcom/example/iota_flow/iotaflow/definition/Merge$Kind;" (.ref o1)) (S2 : Sta Z Z.heap "com/example/iota_flow/iotaflow/definition/Merge$Kind" "FLAG" "Lcom/example/iota_flow/iotaflow/definition/Merge$Kind;" (.ref o2)) (S3 : Sta Z Z.heap "com/example/iota_flow/iotaflow/definition/Merge$Kind" "VOTES" "Lcom/example/iota_flow/iotaflow/definition/Merge$Kind;" (.ref o3)) (ne01 : o0 ≠ o1) (ne02 : o0 ≠ o2) (ne03 : o0 ≠ o3) (ne12 : o1 ≠ o2) (ne13 : o1 ≠ o3) (ne23 : o2 ≠ o3) :
    own_CtrW l Z (⟨"com/example/iota_flow/iotaflow/definition/Merge", "<init>", "(Lcom/example/iota_flow/iotaflow/definition/Merge$Kind;Ljava/lang/String;I)V"⟩ : MethodName) prog_17_method_1_code 4 none ws ({ frames := 2, cells := 2, slots := 20, locals := 24 } : Room) #[(.ref a1), (.ref o0), .null, (.int (1 : Int32))] h0 (Q_rmmg0 Z a1 o0 o1 o2 o3 h0 n0) := by
  refine own_enterW (plainFor_of_name own_pn4) ?_
  intro p e s m below meth c s₁ X0 SW hx hby hml hrt hlk hZ hown hnm e0
  have N0 := Fr.nil n0
  have Zs := Z0
  have K0 := Keep.refl h0 [a1]
  rw [show entryFrame m #[(.ref a1), (.ref o0), .null, (.int (1 : Int32))] 4 = mkF m 0 #[rv a1, rv o0, .val .null, iv (1 : Int32)] [] from by first | (simp [entryFrame, mkF, argsToLocals, Value.category]; done) | rfl]
  show own_Wp _ _ _ _ (s₁.setTop (mkF m 0 #[rv a1, rv o0, .val .null, iv (1 : Int32)] []))
  refine own_of (fun tgt kon => XS.aloadN X0.here hx rfl (hb hby d7_0) rfl rfl kon) ?_
  refine own_callI X0 hx hZ (y := (⟨"java/lang/Record", "<init>", "()V"⟩ : MethodName)) (a := a1) (argsL := []) (rest := []) (W := 0) rfl hown (ow hw 40 rfl) (ow hw 41 rfl) (ow hw 43 rfl) (ow hw 44 rfl) (by decide) e0 (rmri l Z a0 hw [] a1 h0 n0 Zs) (by decide) (by decide) (by decide) (by decide) rfl (by rw [hml]; rfl) (lenOf own_pd4 rfl) rfl (by show 2 * 0 + _ ≤ _; exact Nat.le_of_eq rfl) (hb hby d7_1) ?_
  rintro T1 L1 _ X1 ⟨rfl, N1q, e1⟩
  have N1 := Fr.app N0 N1q
  show own_Wp _ _ _ _ (T1.setTop (mkF m 4 #[rv a1, rv o0, .val .null, iv (1 : Int32)] []))
  refine own_of (fun tgt kon => XS.aloadN X1.here hx rfl (hb hby d7_4) rfl rfl kon) ?_
  obtain ⟨y2, T2, h2, sv2, X2, e2, E2, SWq2, hZq2, hownq2, st2⟩ := own_ldc X1 hx hZ hown (ow hw 46 rfl) (own_strA hw) e1 SW (g := (mkF m 5 #[rv a1, rv o0, .val .null, iv (1 : Int32)] [(.ref o0)])) rfl (hb hby d7_5) (n := 16) (by decide) (by decide) (by decide) (by decide)
  refine own_of st2 ?_
  clear st2 hZ hown
  have hZ := hZq2
  have hown := hownq2
  replace Zs := Nat.le_trans Zs E2.1
  replace O := O.ext E2
  replace K0 := K0.ext E2
  replace E_a1 := E_a1.ext E2
  replace F_kind := F_kind.ext E2
  replace F_flag := F_flag.ext E2
  replace F_votes := F_votes.ext E2
  replace SW := SWq2
  refine own_callS X2 hx hZ (y := (⟨"java/util/Objects", "requireNonNull", "(Ljava/lang/Object;Ljava/lang/String;)Ljava/lang/Object;"⟩ : MethodName)) (argsL := [(.ref o0), (.ref y2)]) (rest := []) (W := 0) hown (ow hw 49 rfl) (ow hw 50 rfl) (ow hw 51 rfl) (ow hw 52 rfl) (by decide) e2 (rmrn l Z a0 hw [] o0 y2 h2 n0 Zs) (by decide) (by decide) (by decide) (by decide) rfl (by rw [hml]; rfl) (lenOf own_pd5 rfl) rfl (by show 2 * 0 + _ ≤ _; exact Nat.le_of_eq rfl) (hb hby d7_7) ?_
  rintro T3 L3 _ X3 ⟨rfl, N3q, e3⟩
  have N3 := Fr.app N1 N3q
  show own_Wp _ _ _ _ (T3.setTop (mkF m 10 #[rv a1, rv o0, .val .null, iv (1 : Int32)] [(.ref o0)]))
  refine own_of (fun tgt kon => XS.pop X3.here hx rfl (hb hby d7_10) rfl rfl kon) ?_
  refine own_of (fun tgt kon => XS.aloadN X3.here hx rfl (hb hby d7_11) rfl rfl kon) ?_
  obtain ⟨T4, X4, e4, st4⟩ := getS2 X3 hx hZ hown (host := "") (Or.inl (ow hw 53 rfl)) Via.refl e3 (S2.ext O.2) (g := (mkF m 12 #[rv a1, rv o0, .val .null, iv (1 : Int32)] [(.ref o0)])) rfl (hb hby d7_12)
  refine own_of st4 ?_
  clear st4
  refine own_of (fun tgt kon => Jvm.RoadKit.acmp (g := (mkF m 15 #[rv a1, rv o0, .val .null, iv (1 : Int32)] [(.ref o2), (.ref o0)])) X4 hx rfl rfl rfl (pc0 := 15) (pc' := 22) (same := false) rfl (hb hby d7_15) rfl (decide_eq_false fun q => ne02 (Value.ref.inj q)) (by decide) (by decide) kon) ?_
  show own_Wp _ _ _ _ (T4.setTop (mkF m 22 #[rv a1, rv o0, .val .null, iv (1 : Int32)] []))
  refine own_of (fun tgt kon => XS.iconst X4.here hx rfl (hb hby d7_22) kon) ?_
  refine own_of (fun tgt kon => XS.aloadN X4.here hx rfl (hb hby d7_23) rfl rfl kon) ?_
  refine own_of (fun tgt kon => XS.ifnullYes X4.here hx rfl (pc0 := 24) (pc' := 31) rfl (hb hby d7_24) rfl (by decide) (by decide) kon) ?_
  refine own_of (fun tgt kon => XS.iconst X4.here hx rfl (hb hby d7_31) kon) ?_
  have hc32 : (0 : Int32) = (0 : Int32) := rfl
  refine own_of (fun tgt kon => XS.icmpYes X4.here hx rfl (pc0 := 32) (pc' := 66) rfl (hb hby d7_32) rfl (teq hc32).1 (by decide) (by decide) kon) ?_
  refine own_of (fun tgt kon => XS.aloadN X4.here hx rfl (hb hby d7_66) rfl rfl kon) ?_
  show own_Wp _ _ _ _ (T4.setTop (mkF m 67 #[rv a1, rv o0, .val .null, iv (1 : Int32)] [(.ref o0)]))
  obtain ⟨T5, X5, e5, st5⟩ := getS2 X4 hx hZ hown (host := "") (Or.inl (ow hw 55 rfl)) Via.refl e4 (S3.ext O.2) (g := (mkF m 67 #[rv a1, rv o0, .val .null, iv (1 : Int32)] [(.ref o0)])) rfl (hb hby d7_67)
  refine own_of st5 ?_
  clear st5
  refine own_of (fun tgt kon => Jvm.RoadKit.acmp (g := (mkF m 70 #[rv a1, rv o0, .val .null, iv (1 : Int32)] [(.ref o3), (.ref o0)])) X5 hx rfl rfl rfl (pc0 := 70) (pc' := 81) (same := false) rfl (hb hby d7_70) rfl (decide_eq_false fun q => ne03 (Value.ref.inj q)) (by decide) (by decide) kon) ?_
  show own_Wp _ _ _ _ (T5.setTop (mkF m 81 #[rv a1, rv o0, .val .null, iv (1 : Int32)] []))
  refine own_of (fun tgt kon => XS.iloadN X5.here hx rfl (hb hby d7_81) rfl kon) ?_
  refine own_of (fun tgt kon => XS.iconst X5.here hx rfl (hb hby d7_82) kon) ?_
  have hc83 : (1 : Int32) = (1 : Int32) := rfl
  refine own_of (fun tgt kon => XS.icmpYes X5.here hx rfl (pc0 := 83) (pc' := 104) rfl (hb hby d7_83) rfl (teq hc83).1 (by decide) (by decide) kon) ?_
  refine own_of (fun tgt kon => XS.aloadN X5.here hx rfl (hb hby d7_104) rfl rfl kon) ?_
  refine own_of (fun tgt kon => XS.aloadN X5.here hx rfl (hb hby d7_105) rfl rfl kon) ?_
  show own_Wp _ _ _ _ (T5.setTop (mkF m 106 #[rv a1, rv o0, .val .null, iv (1 : Int32)] [(.ref o0), (.ref a1)]))
  obtain ⟨T6, h6, X6, e6, W6, st6⟩ := putF X5 hx hZ hown (host := "") (Or.inl (ow hw 57 rfl)) Via.refl e5 F_kind E_a1 (Or.inr ⟨(ow hw 58 rfl), rfl, hnm⟩) (ow hw 32 rfl) (ty := (.object "com/example/iota_flow/iotaflow/definition/Merge$Kind")) (by decide) rfl rfl (g := (mkF m 106 #[rv a1, rv o0, .val .null, iv (1 : Int32)] [(.ref o0), (.ref a1)])) rfl rfl (hb hby d7_106)
  refine own_of st6 ?_
  clear st6
  have Fq6 := Fld.same W6 F_kind
  replace Zs := Nat.le_trans Zs (Keep.of_wr W6).1
  replace O := O.wr W6 g_a1
  replace K0 := K0.wr W6 (Or.inl (List.mem_of_getElem? (i := 0) rfl))
  replace E_a1 := E_a1.wr W6
  replace F_flag := F_flag.other W6 (Or.inr (slot_ne (Or.inr (ow hw 60 rfl)) (Or.inr (ow hw 58 rfl)) (by decide) (t := (.object "java/lang/String")) (t' := (.object "com/example/iota_flow/iotaflow/definition/Merge$Kind")) (by decide) (by decide)))
  replace F_votes := F_votes.other W6 (Or.inr (slot_ne (Or.inr (ow hw 62 rfl)) (Or.inr (ow hw 58 rfl)) (by decide) (t := .int) (t' := (.object "com/example/iota_flow/iotaflow/definition/Merge$Kind")) (by decide) (by decide)))
  replace SW := SW.mono (Keep.of_wr W6).1
  replace F_kind := Fq6
  clear Fq6
  have N6 := Fr.snoc X6 N3 g_a1
  refine own_of (fun tgt kon => XS.aloadN X6.here hx rfl (hb hby d7_109) rfl rfl kon) ?_
  refine own_of (fun tgt kon => XS.aloadN X6.here hx rfl (hb hby d7_110) rfl rfl kon) ?_
  obtain ⟨T7, h7, X7, e7, W7, st7⟩ := putF X6 hx hZ hown (host := "") (Or.inl (ow hw 59 rfl)) Via.refl e6 F_flag E_a1 (Or.inr ⟨(ow hw 60 rfl), rfl, hnm⟩) (ow hw 32 rfl) (ty := (.object "java/lang/String")) (by decide) rfl rfl (g := (mkF m 111 #[rv a1, rv o0, .val .null, iv (1 : Int32)] [.null, (.ref a1)])) rfl rfl (hb hby d7_111)
  refine own_of st7 ?_
  clear st7
  have Fq7 := Fld.same W7 F_flag
  replace Zs := Nat.le_trans Zs (Keep.of_wr W7).1
  replace O := O.wr W7 g_a1
  replace K0 := K0.wr W7 (Or.inl (List.mem_of_getElem? (i := 0) rfl))
  replace E_a1 := E_a1.wr W7
  replace F_kind := F_kind.other W7 (Or.inr (slot_ne (Or.inr (ow hw 58 rfl)) (Or.inr (ow hw 60 rfl)) (by decide) (t := (.object "com/example/iota_flow/iotaflow/definition/Merge$Kind")) (t' := (.object "java/lang/String")) (by decide) (by decide)))
  replace F_votes := F_votes.other W7 (Or.inr (slot_ne (Or.inr (ow hw 62 rfl)) (Or.inr (ow hw 60 rfl)) (by decide) (t := .int) (t' := (.object "java/lang/String")) (by decide) (by decide)))
  replace SW := SW.mono (Keep.of_wr W7).1
  replace F_flag := Fq7
  clear Fq7
  have N7 := Fr.snoc X7 N6 g_a1
  refine own_of (fun tgt kon => XS.aloadN X7.here hx rfl (hb hby d7_114) rfl rfl kon) ?_
  show own_Wp _ _ _ _ (T7.setTop (mkF m 115 #[rv a1, rv o0, .val .null, iv (1 : Int32)] [(.ref a1)]))
  refine own_of (fun tgt kon => XS.iloadN X7.here hx rfl (hb hby d7_115) rfl kon) ?_
  obtain ⟨T8, h8, X8, e8, W8, st8⟩ := putF X7 hx hZ hown (host := "") (Or.inl (ow hw 61 rfl)) Via.refl e7 F_votes E_a1 (Or.inr ⟨(ow hw 62 rfl), rfl, hnm⟩) (ow hw 32 rfl) (ty := .int) (by decide) rfl rfl (g := (mkF m 116 #[rv a1, rv o0, .val .null, iv (1 : Int32)] [(.int (1 : Int32)), (.ref a1)])) rfl rfl (hb hby d7_116)
  refine own_of st8 ?_
  clear st8
  have Fq8 := Fld.same W8 F_votes
  replace Zs := Nat.le_trans Zs (Keep.of_wr W8).1
  replace O := O.wr W8 g_a1
  replace K0 := K0.wr W8 (Or.inl (List.mem_of_getElem? (i := 0) rfl))
  replace E_a1 := E_a1.wr W8
  replace F_kind := F_kind.other W8 (Or.inr (slot_ne (Or.inr (ow hw 58 rfl)) (Or.inr (ow hw 62 rfl)) (by decide) (t := (.object "com/example/iota_flow/iotaflow/definition/Merge$Kind")) (t' := .int) (by decide) (by decide)))
  replace F_flag := F_flag.other W8 (Or.inr (slot_ne (Or.inr (ow hw 60 rfl)) (Or.inr (ow hw 62 rfl)) (by decide) (t := (.object "java/lang/String")) (t' := .int) (by decide) (by decide)))
  replace SW := SW.mono (Keep.of_wr W8).1
  replace F_votes := Fq8
  clear Fq8
  have N8 := Fr.snoc X8 N7 g_a1
  show own_Wp _ _ _ _ (T8.setTop (mkF m 119 #[rv a1, rv o0, .val .null, iv (1 : Int32)] []))
  refine own_retW X8 (by rw [e8]; exact SW) hlk none (fun _ => rfl) (fun fs hr => X8.returnOut hx hrt (hb hby d7_119) hr) ?_ (by decide) (by decide)
  rw [e8]
  exact ⟨rfl, N8, K0, E_a1, F_kind, F_flag, F_votes⟩
def Q_rmmg1 (Z : State) (a1 : Addr) (o0 : Addr) (o1 : Addr) (o2 : Addr) (o3 : Addr) (h0 : Heap) (n0 : Nat) (v : Option Value) (h : Heap) (L : List Loc) : Prop := v = none ∧ Fr n0 L ∧ Keep h0 h [a1] ∧ Exa Z h a1 "com/example/iota_flow/iotaflow/definition/Merge" ∧ Fld Z h a1 "com/example/iota_flow/iotaflow/definition/Merge" "kind" "Lcom/example/iota_flow/iotaflow/definition/Merge$Kind;" (.ref o1) ∧ Fld Z h a1 "com/example/iota_flow/iotaflow/definition/Merge" "flag" "Ljava/lang/String;" .null ∧ Fld Z h a1 "com/example/iota_flow/iotaflow/definition/Merge" "votes" "I" (.int (1 : Int32))
set_option maxRecDepth 65536 in
set_option maxHeartbeats 40000000 in
theorem rmmg1 (l : Launch) (Z : State) (a0 : Array Value) (hw : ∀ d ∈ tables_1, d.before a0 Z = true) (ws : List Jvm.Cond) (a1 : Addr) (o0 : Addr) (o1 : Addr) (o2 : Addr) (o3 : Addr) (h0 : Heap) (n0 : Nat) (Z0 : n0 ≤ h0.size) (O : Old Z n0 h0) (E_a1 : Exa Z h0 a1 "com/example/iota_flow/iotaflow/definition/Merge") (u_kind : Value) (u_flag : Value) (u_votes : Value) (F_kind : Fld Z h0 a1 "com/example/iota_flow/iotaflow/definition/Merge" "kind" "Lcom/example/iota_flow/iotaflow/definition/Merge$Kind;" u_kind) (F_flag : Fld Z h0 a1 "com/example/iota_flow/iotaflow/definition/Merge" "flag" "Ljava/lang/String;" u_flag) (F_votes : Fld Z h0 a1 "com/example/iota_flow/iotaflow/definition/Merge" "votes" "I" u_votes) (g_a1 : n0 ≤ a1) (S0 : Sta Z Z.heap "com/example/iota_flow/iotaflow/definition/Merge$Kind" "EVERY" "Lcom/example/iota_flow/iotaflow/definition/Merge$Kind;" (.ref o0)) (S1 : Sta Z Z.heap "com/example/iota_flow/iotaflow/definition/Merge$Kind" "FIRST" "Lcom/example/iota_flow/iotaflow/definition/Merge$Kind;" (.ref o1)) (S2 : Sta Z Z.heap "com/example/iota_flow/iotaflow/definition/Merge$Kind" "FLAG" "Lcom/example/iota_flow/iotaflow/definition/Merge$Kind;" (.ref o2)) (S3 : Sta Z Z.heap "com/example/iota_flow/iotaflow/definition/Merge$Kind" "VOTES" "Lcom/example/iota_flow/iotaflow/definition/Merge$Kind;" (.ref o3)) (ne01 : o0 ≠ o1) (ne02 : o0 ≠ o2) (ne03 : o0 ≠ o3) (ne12 : o1 ≠ o2) (ne13 : o1 ≠ o3) (ne23 : o2 ≠ o3) :
    own_CtrW l Z (⟨"com/example/iota_flow/iotaflow/definition/Merge", "<init>", "(Lcom/example/iota_flow/iotaflow/definition/Merge$Kind;Ljava/lang/String;I)V"⟩ : MethodName) prog_17_method_1_code 4 none ws ({ frames := 2, cells := 2, slots := 20, locals := 24 } : Room) #[(.ref a1), (.ref o1), .null, (.int (1 : Int32))] h0 (Q_rmmg1 Z a1 o0 o1 o2 o3 h0 n0) := by
  refine own_enterW (plainFor_of_name own_pn4) ?_
  intro p e s m below meth c s₁ X0 SW hx hby hml hrt hlk hZ hown hnm e0
  have N0 := Fr.nil n0
  have Zs := Z0
  have K0 := Keep.refl h0 [a1]
  rw [show entryFrame m #[(.ref a1), (.ref o1), .null, (.int (1 : Int32))] 4 = mkF m 0 #[rv a1, rv o1, .val .null, iv (1 : Int32)] [] from by first | (simp [entryFrame, mkF, argsToLocals, Value.category]; done) | rfl]
  show own_Wp _ _ _ _ (s₁.setTop (mkF m 0 #[rv a1, rv o1, .val .null, iv (1 : Int32)] []))
  refine own_of (fun tgt kon => XS.aloadN X0.here hx rfl (hb hby d7_0) rfl rfl kon) ?_
  refine own_callI X0 hx hZ (y := (⟨"java/lang/Record", "<init>", "()V"⟩ : MethodName)) (a := a1) (argsL := []) (rest := []) (W := 0) rfl hown (ow hw 40 rfl) (ow hw 41 rfl) (ow hw 43 rfl) (ow hw 44 rfl) (by decide) e0 (rmri l Z a0 hw [] a1 h0 n0 Zs) (by decide) (by decide) (by decide) (by decide) rfl (by rw [hml]; rfl) (lenOf own_pd4 rfl) rfl (by show 2 * 0 + _ ≤ _; exact Nat.le_of_eq rfl) (hb hby d7_1) ?_
  rintro T1 L1 _ X1 ⟨rfl, N1q, e1⟩
  have N1 := Fr.app N0 N1q
  show own_Wp _ _ _ _ (T1.setTop (mkF m 4 #[rv a1, rv o1, .val .null, iv (1 : Int32)] []))
  refine own_of (fun tgt kon => XS.aloadN X1.here hx rfl (hb hby d7_4) rfl rfl kon) ?_
  obtain ⟨y2, T2, h2, sv2, X2, e2, E2, SWq2, hZq2, hownq2, st2⟩ := own_ldc X1 hx hZ hown (ow hw 46 rfl) (own_strA hw) e1 SW (g := (mkF m 5 #[rv a1, rv o1, .val .null, iv (1 : Int32)] [(.ref o1)])) rfl (hb hby d7_5) (n := 16) (by decide) (by decide) (by decide) (by decide)
  refine own_of st2 ?_
  clear st2 hZ hown
  have hZ := hZq2
  have hown := hownq2
  replace Zs := Nat.le_trans Zs E2.1
  replace O := O.ext E2
  replace K0 := K0.ext E2
  replace E_a1 := E_a1.ext E2
  replace F_kind := F_kind.ext E2
  replace F_flag := F_flag.ext E2
  replace F_votes := F_votes.ext E2
  replace SW := SWq2
  refine own_callS X2 hx hZ (y := (⟨"java/util/Objects", "requireNonNull", "(Ljava/lang/Object;Ljava/lang/String;)Ljava/lang/Object;"⟩ : MethodName)) (argsL := [(.ref o1), (.ref y2)]) (rest := []) (W := 0) hown (ow hw 49 rfl) (ow hw 50 rfl) (ow hw 51 rfl) (ow hw 52 rfl) (by decide) e2 (rmrn l Z a0 hw [] o1 y2 h2 n0 Zs) (by decide) (by decide) (by decide) (by decide) rfl (by rw [hml]; rfl) (lenOf own_pd5 rfl) rfl (by show 2 * 0 + _ ≤ _; exact Nat.le_of_eq rfl) (hb hby d7_7) ?_
  rintro T3 L3 _ X3 ⟨rfl, N3q, e3⟩
  have N3 := Fr.app N1 N3q
  show own_Wp _ _ _ _ (T3.setTop (mkF m 10 #[rv a1, rv o1, .val .null, iv (1 : Int32)] [(.ref o1)]))
  refine own_of (fun tgt kon => XS.pop X3.here hx rfl (hb hby d7_10) rfl rfl kon) ?_
  refine own_of (fun tgt kon => XS.aloadN X3.here hx rfl (hb hby d7_11) rfl rfl kon) ?_
  obtain ⟨T4, X4, e4, st4⟩ := getS2 X3 hx hZ hown (host := "") (Or.inl (ow hw 53 rfl)) Via.refl e3 (S2.ext O.2) (g := (mkF m 12 #[rv a1, rv o1, .val .null, iv (1 : Int32)] [(.ref o1)])) rfl (hb hby d7_12)
  refine own_of st4 ?_
  clear st4
  refine own_of (fun tgt kon => Jvm.RoadKit.acmp (g := (mkF m 15 #[rv a1, rv o1, .val .null, iv (1 : Int32)] [(.ref o2), (.ref o1)])) X4 hx rfl rfl rfl (pc0 := 15) (pc' := 22) (same := false) rfl (hb hby d7_15) rfl (decide_eq_false fun q => ne12 (Value.ref.inj q)) (by decide) (by decide) kon) ?_
  show own_Wp _ _ _ _ (T4.setTop (mkF m 22 #[rv a1, rv o1, .val .null, iv (1 : Int32)] []))
  refine own_of (fun tgt kon => XS.iconst X4.here hx rfl (hb hby d7_22) kon) ?_
  refine own_of (fun tgt kon => XS.aloadN X4.here hx rfl (hb hby d7_23) rfl rfl kon) ?_
  refine own_of (fun tgt kon => XS.ifnullYes X4.here hx rfl (pc0 := 24) (pc' := 31) rfl (hb hby d7_24) rfl (by decide) (by decide) kon) ?_
  refine own_of (fun tgt kon => XS.iconst X4.here hx rfl (hb hby d7_31) kon) ?_
  have hc32 : (0 : Int32) = (0 : Int32) := rfl
  refine own_of (fun tgt kon => XS.icmpYes X4.here hx rfl (pc0 := 32) (pc' := 66) rfl (hb hby d7_32) rfl (teq hc32).1 (by decide) (by decide) kon) ?_
  refine own_of (fun tgt kon => XS.aloadN X4.here hx rfl (hb hby d7_66) rfl rfl kon) ?_
  show own_Wp _ _ _ _ (T4.setTop (mkF m 67 #[rv a1, rv o1, .val .null, iv (1 : Int32)] [(.ref o1)]))
  obtain ⟨T5, X5, e5, st5⟩ := getS2 X4 hx hZ hown (host := "") (Or.inl (ow hw 55 rfl)) Via.refl e4 (S3.ext O.2) (g := (mkF m 67 #[rv a1, rv o1, .val .null, iv (1 : Int32)] [(.ref o1)])) rfl (hb hby d7_67)
  refine own_of st5 ?_
  clear st5
  refine own_of (fun tgt kon => Jvm.RoadKit.acmp (g := (mkF m 70 #[rv a1, rv o1, .val .null, iv (1 : Int32)] [(.ref o3), (.ref o1)])) X5 hx rfl rfl rfl (pc0 := 70) (pc' := 81) (same := false) rfl (hb hby d7_70) rfl (decide_eq_false fun q => ne13 (Value.ref.inj q)) (by decide) (by decide) kon) ?_
  show own_Wp _ _ _ _ (T5.setTop (mkF m 81 #[rv a1, rv o1, .val .null, iv (1 : Int32)] []))
  refine own_of (fun tgt kon => XS.iloadN X5.here hx rfl (hb hby d7_81) rfl kon) ?_
  refine own_of (fun tgt kon => XS.iconst X5.here hx rfl (hb hby d7_82) kon) ?_
  have hc83 : (1 : Int32) = (1 : Int32) := rfl
  refine own_of (fun tgt kon => XS.icmpYes X5.here hx rfl (pc0 := 83) (pc' := 104) rfl (hb hby d7_83) rfl (teq hc83).1 (by decide) (by decide) kon) ?_
  refine own_of (fun tgt kon => XS.aloadN X5.here hx rfl (hb hby d7_104) rfl rfl kon) ?_
  refine own_of (fun tgt kon => XS.aloadN X5.here hx rfl (hb hby d7_105) rfl rfl kon) ?_
  show own_Wp _ _ _ _ (T5.setTop (mkF m 106 #[rv a1, rv o1, .val .null, iv (1 : Int32)] [(.ref o1), (.ref a1)]))
  obtain ⟨T6, h6, X6, e6, W6, st6⟩ := putF X5 hx hZ hown (host := "") (Or.inl (ow hw 57 rfl)) Via.refl e5 F_kind E_a1 (Or.inr ⟨(ow hw 58 rfl), rfl, hnm⟩) (ow hw 32 rfl) (ty := (.object "com/example/iota_flow/iotaflow/definition/Merge$Kind")) (by decide) rfl rfl (g := (mkF m 106 #[rv a1, rv o1, .val .null, iv (1 : Int32)] [(.ref o1), (.ref a1)])) rfl rfl (hb hby d7_106)
  refine own_of st6 ?_
  clear st6
  have Fq6 := Fld.same W6 F_kind
  replace Zs := Nat.le_trans Zs (Keep.of_wr W6).1
  replace O := O.wr W6 g_a1
  replace K0 := K0.wr W6 (Or.inl (List.mem_of_getElem? (i := 0) rfl))
  replace E_a1 := E_a1.wr W6
  replace F_flag := F_flag.other W6 (Or.inr (slot_ne (Or.inr (ow hw 60 rfl)) (Or.inr (ow hw 58 rfl)) (by decide) (t := (.object "java/lang/String")) (t' := (.object "com/example/iota_flow/iotaflow/definition/Merge$Kind")) (by decide) (by decide)))
  replace F_votes := F_votes.other W6 (Or.inr (slot_ne (Or.inr (ow hw 62 rfl)) (Or.inr (ow hw 58 rfl)) (by decide) (t := .int) (t' := (.object "com/example/iota_flow/iotaflow/definition/Merge$Kind")) (by decide) (by decide)))
  replace SW := SW.mono (Keep.of_wr W6).1
  replace F_kind := Fq6
  clear Fq6
  have N6 := Fr.snoc X6 N3 g_a1
  refine own_of (fun tgt kon => XS.aloadN X6.here hx rfl (hb hby d7_109) rfl rfl kon) ?_
  refine own_of (fun tgt kon => XS.aloadN X6.here hx rfl (hb hby d7_110) rfl rfl kon) ?_
  obtain ⟨T7, h7, X7, e7, W7, st7⟩ := putF X6 hx hZ hown (host := "") (Or.inl (ow hw 59 rfl)) Via.refl e6 F_flag E_a1 (Or.inr ⟨(ow hw 60 rfl), rfl, hnm⟩) (ow hw 32 rfl) (ty := (.object "java/lang/String")) (by decide) rfl rfl (g := (mkF m 111 #[rv a1, rv o1, .val .null, iv (1 : Int32)] [.null, (.ref a1)])) rfl rfl (hb hby d7_111)
  refine own_of st7 ?_
  clear st7
  have Fq7 := Fld.same W7 F_flag
  replace Zs := Nat.le_trans Zs (Keep.of_wr W7).1
  replace O := O.wr W7 g_a1
  replace K0 := K0.wr W7 (Or.inl (List.mem_of_getElem? (i := 0) rfl))
  replace E_a1 := E_a1.wr W7
  replace F_kind := F_kind.other W7 (Or.inr (slot_ne (Or.inr (ow hw 58 rfl)) (Or.inr (ow hw 60 rfl)) (by decide) (t := (.object "com/example/iota_flow/iotaflow/definition/Merge$Kind")) (t' := (.object "java/lang/String")) (by decide) (by decide)))
  replace F_votes := F_votes.other W7 (Or.inr (slot_ne (Or.inr (ow hw 62 rfl)) (Or.inr (ow hw 60 rfl)) (by decide) (t := .int) (t' := (.object "java/lang/String")) (by decide) (by decide)))
  replace SW := SW.mono (Keep.of_wr W7).1
  replace F_flag := Fq7
  clear Fq7
  have N7 := Fr.snoc X7 N6 g_a1
  refine own_of (fun tgt kon => XS.aloadN X7.here hx rfl (hb hby d7_114) rfl rfl kon) ?_
  show own_Wp _ _ _ _ (T7.setTop (mkF m 115 #[rv a1, rv o1, .val .null, iv (1 : Int32)] [(.ref a1)]))
  refine own_of (fun tgt kon => XS.iloadN X7.here hx rfl (hb hby d7_115) rfl kon) ?_
  obtain ⟨T8, h8, X8, e8, W8, st8⟩ := putF X7 hx hZ hown (host := "") (Or.inl (ow hw 61 rfl)) Via.refl e7 F_votes E_a1 (Or.inr ⟨(ow hw 62 rfl), rfl, hnm⟩) (ow hw 32 rfl) (ty := .int) (by decide) rfl rfl (g := (mkF m 116 #[rv a1, rv o1, .val .null, iv (1 : Int32)] [(.int (1 : Int32)), (.ref a1)])) rfl rfl (hb hby d7_116)
  refine own_of st8 ?_
  clear st8
  have Fq8 := Fld.same W8 F_votes
  replace Zs := Nat.le_trans Zs (Keep.of_wr W8).1
  replace O := O.wr W8 g_a1
  replace K0 := K0.wr W8 (Or.inl (List.mem_of_getElem? (i := 0) rfl))
  replace E_a1 := E_a1.wr W8
  replace F_kind := F_kind.other W8 (Or.inr (slot_ne (Or.inr (ow hw 58 rfl)) (Or.inr (ow hw 62 rfl)) (by decide) (t := (.object "com/example/iota_flow/iotaflow/definition/Merge$Kind")) (t' := .int) (by decide) (by decide)))
  replace F_flag := F_flag.other W8 (Or.inr (slot_ne (Or.inr (ow hw 60 rfl)) (Or.inr (ow hw 62 rfl)) (by decide) (t := (.object "java/lang/String")) (t' := .int) (by decide) (by decide)))
  replace SW := SW.mono (Keep.of_wr W8).1
  replace F_votes := Fq8
  clear Fq8
  have N8 := Fr.snoc X8 N7 g_a1
  show own_Wp _ _ _ _ (T8.setTop (mkF m 119 #[rv a1, rv o1, .val .null, iv (1 : Int32)] []))
  refine own_retW X8 (by rw [e8]; exact SW) hlk none (fun _ => rfl) (fun fs hr => X8.returnOut hx hrt (hb hby d7_119) hr) ?_ (by decide) (by decide)
  rw [e8]
  exact ⟨rfl, N8, K0, E_a1, F_kind, F_flag, F_votes⟩
theorem d7_18 : decode prog_17_method_1_code 18 = .ok (.iconst 1, 1) := by decide +kernel
theorem d7_19 : decode prog_17_method_1_code 19 = .ok (.goto 4, 3) := by decide +kernel
theorem d7_27 : decode prog_17_method_1_code 27 = .ok (.iconst 1, 1) := by decide +kernel
theorem d7_28 : decode prog_17_method_1_code 28 = .ok (.goto 4, 3) := by decide +kernel
def Q_rmmg2 (Z : State) (a1 : Addr) (o0 : Addr) (o1 : Addr) (o2 : Addr) (o3 : Addr) (a3 : Addr) (h0 : Heap) (n0 : Nat) (v : Option Value) (h : Heap) (L : List Loc) : Prop := v = none ∧ Fr n0 L ∧ Keep h0 h [a1] ∧ Exa Z h a1 "com/example/iota_flow/iotaflow/definition/Merge" ∧ Fld Z h a1 "com/example/iota_flow/iotaflow/definition/Merge" "kind" "Lcom/example/iota_flow/iotaflow/definition/Merge$Kind;" (.ref o2) ∧ Fld Z h a1 "com/example/iota_flow/iotaflow/definition/Merge" "flag" "Ljava/lang/String;" (.ref a3) ∧ Fld Z h a1 "com/example/iota_flow/iotaflow/definition/Merge" "votes" "I" (.int (1 : Int32))
set_option maxRecDepth 65536 in
set_option maxHeartbeats 40000000 in
theorem rmmg2 (l : Launch) (Z : State) (a0 : Array Value) (hw : ∀ d ∈ tables_1, d.before a0 Z = true) (ws : List Jvm.Cond) (a1 : Addr) (o0 : Addr) (o1 : Addr) (o2 : Addr) (o3 : Addr) (a3 : Addr) (h0 : Heap) (n0 : Nat) (Z0 : n0 ≤ h0.size) (O : Old Z n0 h0) (E_a1 : Exa Z h0 a1 "com/example/iota_flow/iotaflow/definition/Merge") (u_kind : Value) (u_flag : Value) (u_votes : Value) (F_kind : Fld Z h0 a1 "com/example/iota_flow/iotaflow/definition/Merge" "kind" "Lcom/example/iota_flow/iotaflow/definition/Merge$Kind;" u_kind) (F_flag : Fld Z h0 a1 "com/example/iota_flow/iotaflow/definition/Merge" "flag" "Ljava/lang/String;" u_flag) (F_votes : Fld Z h0 a1 "com/example/iota_flow/iotaflow/definition/Merge" "votes" "I" u_votes) (g_a1 : n0 ≤ a1) (S0 : Sta Z Z.heap "com/example/iota_flow/iotaflow/definition/Merge$Kind" "EVERY" "Lcom/example/iota_flow/iotaflow/definition/Merge$Kind;" (.ref o0)) (S1 : Sta Z Z.heap "com/example/iota_flow/iotaflow/definition/Merge$Kind" "FIRST" "Lcom/example/iota_flow/iotaflow/definition/Merge$Kind;" (.ref o1)) (S2 : Sta Z Z.heap "com/example/iota_flow/iotaflow/definition/Merge$Kind" "FLAG" "Lcom/example/iota_flow/iotaflow/definition/Merge$Kind;" (.ref o2)) (S3 : Sta Z Z.heap "com/example/iota_flow/iotaflow/definition/Merge$Kind" "VOTES" "Lcom/example/iota_flow/iotaflow/definition/Merge$Kind;" (.ref o3)) (ne01 : o0 ≠ o1) (ne02 : o0 ≠ o2) (ne03 : o0 ≠ o3) (ne12 : o1 ≠ o2) (ne13 : o1 ≠ o3) (ne23 : o2 ≠ o3) :
    own_CtrW l Z (⟨"com/example/iota_flow/iotaflow/definition/Merge", "<init>", "(Lcom/example/iota_flow/iotaflow/definition/Merge$Kind;Ljava/lang/String;I)V"⟩ : MethodName) prog_17_method_1_code 4 none ws ({ frames := 2, cells := 2, slots := 20, locals := 24 } : Room) #[(.ref a1), (.ref o2), (.ref a3), (.int (1 : Int32))] h0 (Q_rmmg2 Z a1 o0 o1 o2 o3 a3 h0 n0) := by
  refine own_enterW (plainFor_of_name own_pn4) ?_
  intro p e s m below meth c s₁ X0 SW hx hby hml hrt hlk hZ hown hnm e0
  have N0 := Fr.nil n0
  have Zs := Z0
  have K0 := Keep.refl h0 [a1]
  rw [show entryFrame m #[(.ref a1), (.ref o2), (.ref a3), (.int (1 : Int32))] 4 = mkF m 0 #[rv a1, rv o2, rv a3, iv (1 : Int32)] [] from by first | (simp [entryFrame, mkF, argsToLocals, Value.category]; done) | rfl]
  show own_Wp _ _ _ _ (s₁.setTop (mkF m 0 #[rv a1, rv o2, rv a3, iv (1 : Int32)] []))
  refine own_of (fun tgt kon => XS.aloadN X0.here hx rfl (hb hby d7_0) rfl rfl kon) ?_
  refine own_callI X0 hx hZ (y := (⟨"java/lang/Record", "<init>", "()V"⟩ : MethodName)) (a := a1) (argsL := []) (rest := []) (W := 0) rfl hown (ow hw 40 rfl) (ow hw 41 rfl) (ow hw 43 rfl) (ow hw 44 rfl) (by decide) e0 (rmri l Z a0 hw [] a1 h0 n0 Zs) (by decide) (by decide) (by decide) (by decide) rfl (by rw [hml]; rfl) (lenOf own_pd4 rfl) rfl (by show 2 * 0 + _ ≤ _; exact Nat.le_of_eq rfl) (hb hby d7_1) ?_
  rintro T1 L1 _ X1 ⟨rfl, N1q, e1⟩
  have N1 := Fr.app N0 N1q
  show own_Wp _ _ _ _ (T1.setTop (mkF m 4 #[rv a1, rv o2, rv a3, iv (1 : Int32)] []))
  refine own_of (fun tgt kon => XS.aloadN X1.here hx rfl (hb hby d7_4) rfl rfl kon) ?_
  obtain ⟨y2, T2, h2, sv2, X2, e2, E2, SWq2, hZq2, hownq2, st2⟩ := own_ldc X1 hx hZ hown (ow hw 46 rfl) (own_strA hw) e1 SW (g := (mkF m 5 #[rv a1, rv o2, rv a3, iv (1 : Int32)] [(.ref o2)])) rfl (hb hby d7_5) (n := 16) (by decide) (by decide) (by decide) (by decide)
  refine own_of st2 ?_
  clear st2 hZ hown
  have hZ := hZq2
  have hown := hownq2
  replace Zs := Nat.le_trans Zs E2.1
  replace O := O.ext E2
  replace K0 := K0.ext E2
  replace E_a1 := E_a1.ext E2
  replace F_kind := F_kind.ext E2
  replace F_flag := F_flag.ext E2
  replace F_votes := F_votes.ext E2
  replace SW := SWq2
  refine own_callS X2 hx hZ (y := (⟨"java/util/Objects", "requireNonNull", "(Ljava/lang/Object;Ljava/lang/String;)Ljava/lang/Object;"⟩ : MethodName)) (argsL := [(.ref o2), (.ref y2)]) (rest := []) (W := 0) hown (ow hw 49 rfl) (ow hw 50 rfl) (ow hw 51 rfl) (ow hw 52 rfl) (by decide) e2 (rmrn l Z a0 hw [] o2 y2 h2 n0 Zs) (by decide) (by decide) (by decide) (by decide) rfl (by rw [hml]; rfl) (lenOf own_pd5 rfl) rfl (by show 2 * 0 + _ ≤ _; exact Nat.le_of_eq rfl) (hb hby d7_7) ?_
  rintro T3 L3 _ X3 ⟨rfl, N3q, e3⟩
  have N3 := Fr.app N1 N3q
  show own_Wp _ _ _ _ (T3.setTop (mkF m 10 #[rv a1, rv o2, rv a3, iv (1 : Int32)] [(.ref o2)]))
  refine own_of (fun tgt kon => XS.pop X3.here hx rfl (hb hby d7_10) rfl rfl kon) ?_
  refine own_of (fun tgt kon => XS.aloadN X3.here hx rfl (hb hby d7_11) rfl rfl kon) ?_
  obtain ⟨T4, X4, e4, st4⟩ := getS2 X3 hx hZ hown (host := "") (Or.inl (ow hw 53 rfl)) Via.refl e3 (S2.ext O.2) (g := (mkF m 12 #[rv a1, rv o2, rv a3, iv (1 : Int32)] [(.ref o2)])) rfl (hb hby d7_12)
  refine own_of st4 ?_
  clear st4
  refine own_of (fun tgt kon => Jvm.RoadKit.acmp (g := (mkF m 15 #[rv a1, rv o2, rv a3, iv (1 : Int32)] [(.ref o2), (.ref o2)])) X4 hx rfl rfl rfl (pc0 := 15) (pc' := 18) (same := true) rfl (hb hby d7_15) rfl (decide_eq_true rfl) (by decide) (by decide) kon) ?_
  show own_Wp _ _ _ _ (T4.setTop (mkF m 18 #[rv a1, rv o2, rv a3, iv (1 : Int32)] []))
  refine own_of (fun tgt kon => XS.iconst X4.here hx rfl (hb hby d7_18) kon) ?_
  refine own_of (fun tgt kon => XS.goto X4.here hx rfl (pc0 := 19) (pc' := 23) rfl (hb hby d7_19) (by decide) (by decide) kon) ?_
  refine own_of (fun tgt kon => XS.aloadN X4.here hx rfl (hb hby d7_23) rfl rfl kon) ?_
  refine own_of (fun tgt kon => XS.ifnullNo X4.here hx rfl (hb hby d7_24) rfl kon) ?_
  refine own_of (fun tgt kon => XS.iconst X4.here hx rfl (hb hby d7_27) kon) ?_
  show own_Wp _ _ _ _ (T4.setTop (mkF m 28 #[rv a1, rv o2, rv a3, iv (1 : Int32)] [(.int (1 : Int32)), (.int (1 : Int32))]))
  refine own_of (fun tgt kon => XS.goto X4.here hx rfl (pc0 := 28) (pc' := 32) rfl (hb hby d7_28) (by decide) (by decide) kon) ?_
  have hc32 : (1 : Int32) = (1 : Int32) := rfl
  refine own_of (fun tgt kon => XS.icmpYes X4.here hx rfl (pc0 := 32) (pc' := 66) rfl (hb hby d7_32) rfl (teq hc32).1 (by decide) (by decide) kon) ?_
  refine own_of (fun tgt kon => XS.aloadN X4.here hx rfl (hb hby d7_66) rfl rfl kon) ?_
  obtain ⟨T5, X5, e5, st5⟩ := getS2 X4 hx hZ hown (host := "") (Or.inl (ow hw 55 rfl)) Via.refl e4 (S3.ext O.2) (g := (mkF m 67 #[rv a1, rv o2, rv a3, iv (1 : Int32)] [(.ref o2)])) rfl (hb hby d7_67)
  refine own_of st5 ?_
  clear st5
  refine own_of (fun tgt kon => Jvm.RoadKit.acmp (g := (mkF m 70 #[rv a1, rv o2, rv a3, iv (1 : Int32)] [(.ref o3), (.ref o2)])) X5 hx rfl rfl rfl (pc0 := 70) (pc' := 81) (same := false) rfl (hb hby d7_70) rfl (decide_eq_false fun q => ne23 (Value.ref.inj q)) (by decide) (by decide) kon) ?_
  show own_Wp _ _ _ _ (T5.setTop (mkF m 81 #[rv a1, rv o2, rv a3, iv (1 : Int32)] []))
  refine own_of (fun tgt kon => XS.iloadN X5.here hx rfl (hb hby d7_81) rfl kon) ?_
  refine own_of (fun tgt kon => XS.iconst X5.here hx rfl (hb hby d7_82) kon) ?_
  have hc83 : (1 : Int32) = (1 : Int32) := rfl
  refine own_of (fun tgt kon => XS.icmpYes X5.here hx rfl (pc0 := 83) (pc' := 104) rfl (hb hby d7_83) rfl (teq hc83).1 (by decide) (by decide) kon) ?_
  refine own_of (fun tgt kon => XS.aloadN X5.here hx rfl (hb hby d7_104) rfl rfl kon) ?_
  refine own_of (fun tgt kon => XS.aloadN X5.here hx rfl (hb hby d7_105) rfl rfl kon) ?_
  show own_Wp _ _ _ _ (T5.setTop (mkF m 106 #[rv a1, rv o2, rv a3, iv (1 : Int32)] [(.ref o2), (.ref a1)]))
  obtain ⟨T6, h6, X6, e6, W6, st6⟩ := putF X5 hx hZ hown (host := "") (Or.inl (ow hw 57 rfl)) Via.refl e5 F_kind E_a1 (Or.inr ⟨(ow hw 58 rfl), rfl, hnm⟩) (ow hw 32 rfl) (ty := (.object "com/example/iota_flow/iotaflow/definition/Merge$Kind")) (by decide) rfl rfl (g := (mkF m 106 #[rv a1, rv o2, rv a3, iv (1 : Int32)] [(.ref o2), (.ref a1)])) rfl rfl (hb hby d7_106)
  refine own_of st6 ?_
  clear st6
  have Fq6 := Fld.same W6 F_kind
  replace Zs := Nat.le_trans Zs (Keep.of_wr W6).1
  replace O := O.wr W6 g_a1
  replace K0 := K0.wr W6 (Or.inl (List.mem_of_getElem? (i := 0) rfl))
  replace E_a1 := E_a1.wr W6
  replace F_flag := F_flag.other W6 (Or.inr (slot_ne (Or.inr (ow hw 60 rfl)) (Or.inr (ow hw 58 rfl)) (by decide) (t := (.object "java/lang/String")) (t' := (.object "com/example/iota_flow/iotaflow/definition/Merge$Kind")) (by decide) (by decide)))
  replace F_votes := F_votes.other W6 (Or.inr (slot_ne (Or.inr (ow hw 62 rfl)) (Or.inr (ow hw 58 rfl)) (by decide) (t := .int) (t' := (.object "com/example/iota_flow/iotaflow/definition/Merge$Kind")) (by decide) (by decide)))
  replace SW := SW.mono (Keep.of_wr W6).1
  replace F_kind := Fq6
  clear Fq6
  have N6 := Fr.snoc X6 N3 g_a1
  refine own_of (fun tgt kon => XS.aloadN X6.here hx rfl (hb hby d7_109) rfl rfl kon) ?_
  refine own_of (fun tgt kon => XS.aloadN X6.here hx rfl (hb hby d7_110) rfl rfl kon) ?_
  obtain ⟨T7, h7, X7, e7, W7, st7⟩ := putF X6 hx hZ hown (host := "") (Or.inl (ow hw 59 rfl)) Via.refl e6 F_flag E_a1 (Or.inr ⟨(ow hw 60 rfl), rfl, hnm⟩) (ow hw 32 rfl) (ty := (.object "java/lang/String")) (by decide) rfl rfl (g := (mkF m 111 #[rv a1, rv o2, rv a3, iv (1 : Int32)] [(.ref a3), (.ref a1)])) rfl rfl (hb hby d7_111)
  refine own_of st7 ?_
  clear st7
  have Fq7 := Fld.same W7 F_flag
  replace Zs := Nat.le_trans Zs (Keep.of_wr W7).1
  replace O := O.wr W7 g_a1
  replace K0 := K0.wr W7 (Or.inl (List.mem_of_getElem? (i := 0) rfl))
  replace E_a1 := E_a1.wr W7
  replace F_kind := F_kind.other W7 (Or.inr (slot_ne (Or.inr (ow hw 58 rfl)) (Or.inr (ow hw 60 rfl)) (by decide) (t := (.object "com/example/iota_flow/iotaflow/definition/Merge$Kind")) (t' := (.object "java/lang/String")) (by decide) (by decide)))
  replace F_votes := F_votes.other W7 (Or.inr (slot_ne (Or.inr (ow hw 62 rfl)) (Or.inr (ow hw 60 rfl)) (by decide) (t := .int) (t' := (.object "java/lang/String")) (by decide) (by decide)))
  replace SW := SW.mono (Keep.of_wr W7).1
  replace F_flag := Fq7
  clear Fq7
  have N7 := Fr.snoc X7 N6 g_a1
  refine own_of (fun tgt kon => XS.aloadN X7.here hx rfl (hb hby d7_114) rfl rfl kon) ?_
  show own_Wp _ _ _ _ (T7.setTop (mkF m 115 #[rv a1, rv o2, rv a3, iv (1 : Int32)] [(.ref a1)]))
  refine own_of (fun tgt kon => XS.iloadN X7.here hx rfl (hb hby d7_115) rfl kon) ?_
  obtain ⟨T8, h8, X8, e8, W8, st8⟩ := putF X7 hx hZ hown (host := "") (Or.inl (ow hw 61 rfl)) Via.refl e7 F_votes E_a1 (Or.inr ⟨(ow hw 62 rfl), rfl, hnm⟩) (ow hw 32 rfl) (ty := .int) (by decide) rfl rfl (g := (mkF m 116 #[rv a1, rv o2, rv a3, iv (1 : Int32)] [(.int (1 : Int32)), (.ref a1)])) rfl rfl (hb hby d7_116)
  refine own_of st8 ?_
  clear st8
  have Fq8 := Fld.same W8 F_votes
  replace Zs := Nat.le_trans Zs (Keep.of_wr W8).1
  replace O := O.wr W8 g_a1
  replace K0 := K0.wr W8 (Or.inl (List.mem_of_getElem? (i := 0) rfl))
  replace E_a1 := E_a1.wr W8
  replace F_kind := F_kind.other W8 (Or.inr (slot_ne (Or.inr (ow hw 58 rfl)) (Or.inr (ow hw 62 rfl)) (by decide) (t := (.object "com/example/iota_flow/iotaflow/definition/Merge$Kind")) (t' := .int) (by decide) (by decide)))
  replace F_flag := F_flag.other W8 (Or.inr (slot_ne (Or.inr (ow hw 60 rfl)) (Or.inr (ow hw 62 rfl)) (by decide) (t := (.object "java/lang/String")) (t' := .int) (by decide) (by decide)))
  replace SW := SW.mono (Keep.of_wr W8).1
  replace F_votes := Fq8
  clear Fq8
  have N8 := Fr.snoc X8 N7 g_a1
  show own_Wp _ _ _ _ (T8.setTop (mkF m 119 #[rv a1, rv o2, rv a3, iv (1 : Int32)] []))
  refine own_retW X8 (by rw [e8]; exact SW) hlk none (fun _ => rfl) (fun fs hr => X8.returnOut hx hrt (hb hby d7_119) hr) ?_ (by decide) (by decide)
  rw [e8]
  exact ⟨rfl, N8, K0, E_a1, F_kind, F_flag, F_votes⟩
theorem d7_73 : decode prog_17_method_1_code 73 = .ok (.iload_n 3, 1) := by decide +kernel
theorem d7_74 : decode prog_17_method_1_code 74 = .ok (.iconst 1, 1) := by decide +kernel
theorem d7_75 : decode prog_17_method_1_code 75 = .ok (.if_icmp .ge 29, 3) := by decide +kernel
def Q_rmmg3 (Z : State) (a1 : Addr) (o0 : Addr) (o1 : Addr) (o2 : Addr) (o3 : Addr) (p4 : Int32) (h0 : Heap) (n0 : Nat) (v : Option Value) (h : Heap) (L : List Loc) : Prop := v = none ∧ Fr n0 L ∧ Keep h0 h [a1] ∧ Exa Z h a1 "com/example/iota_flow/iotaflow/definition/Merge" ∧ Fld Z h a1 "com/example/iota_flow/iotaflow/definition/Merge" "kind" "Lcom/example/iota_flow/iotaflow/definition/Merge$Kind;" (.ref o3) ∧ Fld Z h a1 "com/example/iota_flow/iotaflow/definition/Merge" "flag" "Ljava/lang/String;" .null ∧ Fld Z h a1 "com/example/iota_flow/iotaflow/definition/Merge" "votes" "I" (.int p4)
set_option maxRecDepth 65536 in
set_option maxHeartbeats 40000000 in
theorem rmmg3 (l : Launch) (Z : State) (a0 : Array Value) (hw : ∀ d ∈ tables_1, d.before a0 Z = true) (ws : List Jvm.Cond) (a1 : Addr) (o0 : Addr) (o1 : Addr) (o2 : Addr) (o3 : Addr) (p4 : Int32) (h0 : Heap) (n0 : Nat) (Z0 : n0 ≤ h0.size) (O : Old Z n0 h0) (E_a1 : Exa Z h0 a1 "com/example/iota_flow/iotaflow/definition/Merge") (u_kind : Value) (u_flag : Value) (u_votes : Value) (F_kind : Fld Z h0 a1 "com/example/iota_flow/iotaflow/definition/Merge" "kind" "Lcom/example/iota_flow/iotaflow/definition/Merge$Kind;" u_kind) (F_flag : Fld Z h0 a1 "com/example/iota_flow/iotaflow/definition/Merge" "flag" "Ljava/lang/String;" u_flag) (F_votes : Fld Z h0 a1 "com/example/iota_flow/iotaflow/definition/Merge" "votes" "I" u_votes) (g_a1 : n0 ≤ a1) (S0 : Sta Z Z.heap "com/example/iota_flow/iotaflow/definition/Merge$Kind" "EVERY" "Lcom/example/iota_flow/iotaflow/definition/Merge$Kind;" (.ref o0)) (S1 : Sta Z Z.heap "com/example/iota_flow/iotaflow/definition/Merge$Kind" "FIRST" "Lcom/example/iota_flow/iotaflow/definition/Merge$Kind;" (.ref o1)) (S2 : Sta Z Z.heap "com/example/iota_flow/iotaflow/definition/Merge$Kind" "FLAG" "Lcom/example/iota_flow/iotaflow/definition/Merge$Kind;" (.ref o2)) (S3 : Sta Z Z.heap "com/example/iota_flow/iotaflow/definition/Merge$Kind" "VOTES" "Lcom/example/iota_flow/iotaflow/definition/Merge$Kind;" (.ref o3)) (ne01 : o0 ≠ o1) (ne02 : o0 ≠ o2) (ne03 : o0 ≠ o3) (ne12 : o1 ≠ o2) (ne13 : o1 ≠ o3) (ne23 : o2 ≠ o3) (hv : ¬ p4 < 1) :
    own_CtrW l Z (⟨"com/example/iota_flow/iotaflow/definition/Merge", "<init>", "(Lcom/example/iota_flow/iotaflow/definition/Merge$Kind;Ljava/lang/String;I)V"⟩ : MethodName) prog_17_method_1_code 4 none ws ({ frames := 2, cells := 2, slots := 20, locals := 24 } : Room) #[(.ref a1), (.ref o3), .null, (.int p4)] h0 (Q_rmmg3 Z a1 o0 o1 o2 o3 p4 h0 n0) := by
  refine own_enterW (plainFor_of_name own_pn4) ?_
  intro p e s m below meth c s₁ X0 SW hx hby hml hrt hlk hZ hown hnm e0
  have N0 := Fr.nil n0
  have Zs := Z0
  have K0 := Keep.refl h0 [a1]
  rw [show entryFrame m #[(.ref a1), (.ref o3), .null, (.int p4)] 4 = mkF m 0 #[rv a1, rv o3, .val .null, iv p4] [] from by first | (simp [entryFrame, mkF, argsToLocals, Value.category]; done) | rfl]
  show own_Wp _ _ _ _ (s₁.setTop (mkF m 0 #[rv a1, rv o3, .val .null, iv p4] []))
  refine own_of (fun tgt kon => XS.aloadN X0.here hx rfl (hb hby d7_0) rfl rfl kon) ?_
  refine own_callI X0 hx hZ (y := (⟨"java/lang/Record", "<init>", "()V"⟩ : MethodName)) (a := a1) (argsL := []) (rest := []) (W := 0) rfl hown (ow hw 40 rfl) (ow hw 41 rfl) (ow hw 43 rfl) (ow hw 44 rfl) (by decide) e0 (rmri l Z a0 hw [] a1 h0 n0 Zs) (by decide) (by decide) (by decide) (by decide) rfl (by rw [hml]; rfl) (lenOf own_pd4 rfl) rfl (by show 2 * 0 + _ ≤ _; exact Nat.le_of_eq rfl) (hb hby d7_1) ?_
  rintro T1 L1 _ X1 ⟨rfl, N1q, e1⟩
  have N1 := Fr.app N0 N1q
  show own_Wp _ _ _ _ (T1.setTop (mkF m 4 #[rv a1, rv o3, .val .null, iv p4] []))
  refine own_of (fun tgt kon => XS.aloadN X1.here hx rfl (hb hby d7_4) rfl rfl kon) ?_
  obtain ⟨y2, T2, h2, sv2, X2, e2, E2, SWq2, hZq2, hownq2, st2⟩ := own_ldc X1 hx hZ hown (ow hw 46 rfl) (own_strA hw) e1 SW (g := (mkF m 5 #[rv a1, rv o3, .val .null, iv p4] [(.ref o3)])) rfl (hb hby d7_5) (n := 16) (by decide) (by decide) (by decide) (by decide)
  refine own_of st2 ?_
  clear st2 hZ hown
  have hZ := hZq2
  have hown := hownq2
  replace Zs := Nat.le_trans Zs E2.1
  replace O := O.ext E2
  replace K0 := K0.ext E2
  replace E_a1 := E_a1.ext E2
  replace F_kind := F_kind.ext E2
  replace F_flag := F_flag.ext E2
  replace F_votes := F_votes.ext E2
  replace SW := SWq2
  refine own_callS X2 hx hZ (y := (⟨"java/util/Objects", "requireNonNull", "(Ljava/lang/Object;Ljava/lang/String;)Ljava/lang/Object;"⟩ : MethodName)) (argsL := [(.ref o3), (.ref y2)]) (rest := []) (W := 0) hown (ow hw 49 rfl) (ow hw 50 rfl) (ow hw 51 rfl) (ow hw 52 rfl) (by decide) e2 (rmrn l Z a0 hw [] o3 y2 h2 n0 Zs) (by decide) (by decide) (by decide) (by decide) rfl (by rw [hml]; rfl) (lenOf own_pd5 rfl) rfl (by show 2 * 0 + _ ≤ _; exact Nat.le_of_eq rfl) (hb hby d7_7) ?_
  rintro T3 L3 _ X3 ⟨rfl, N3q, e3⟩
  have N3 := Fr.app N1 N3q
  show own_Wp _ _ _ _ (T3.setTop (mkF m 10 #[rv a1, rv o3, .val .null, iv p4] [(.ref o3)]))
  refine own_of (fun tgt kon => XS.pop X3.here hx rfl (hb hby d7_10) rfl rfl kon) ?_
  refine own_of (fun tgt kon => XS.aloadN X3.here hx rfl (hb hby d7_11) rfl rfl kon) ?_
  obtain ⟨T4, X4, e4, st4⟩ := getS2 X3 hx hZ hown (host := "") (Or.inl (ow hw 53 rfl)) Via.refl e3 (S2.ext O.2) (g := (mkF m 12 #[rv a1, rv o3, .val .null, iv p4] [(.ref o3)])) rfl (hb hby d7_12)
  refine own_of st4 ?_
  clear st4
  refine own_of (fun tgt kon => Jvm.RoadKit.acmp (g := (mkF m 15 #[rv a1, rv o3, .val .null, iv p4] [(.ref o2), (.ref o3)])) X4 hx rfl rfl rfl (pc0 := 15) (pc' := 22) (same := false) rfl (hb hby d7_15) rfl (decide_eq_false fun q => (Ne.symm ne23) (Value.ref.inj q)) (by decide) (by decide) kon) ?_
  show own_Wp _ _ _ _ (T4.setTop (mkF m 22 #[rv a1, rv o3, .val .null, iv p4] []))
  refine own_of (fun tgt kon => XS.iconst X4.here hx rfl (hb hby d7_22) kon) ?_
  refine own_of (fun tgt kon => XS.aloadN X4.here hx rfl (hb hby d7_23) rfl rfl kon) ?_
  refine own_of (fun tgt kon => XS.ifnullYes X4.here hx rfl (pc0 := 24) (pc' := 31) rfl (hb hby d7_24) rfl (by decide) (by decide) kon) ?_
  refine own_of (fun tgt kon => XS.iconst X4.here hx rfl (hb hby d7_31) kon) ?_
  have hc32 : (0 : Int32) = (0 : Int32) := rfl
  refine own_of (fun tgt kon => XS.icmpYes X4.here hx rfl (pc0 := 32) (pc' := 66) rfl (hb hby d7_32) rfl (teq hc32).1 (by decide) (by decide) kon) ?_
  refine own_of (fun tgt kon => XS.aloadN X4.here hx rfl (hb hby d7_66) rfl rfl kon) ?_
  show own_Wp _ _ _ _ (T4.setTop (mkF m 67 #[rv a1, rv o3, .val .null, iv p4] [(.ref o3)]))
  obtain ⟨T5, X5, e5, st5⟩ := getS2 X4 hx hZ hown (host := "") (Or.inl (ow hw 55 rfl)) Via.refl e4 (S3.ext O.2) (g := (mkF m 67 #[rv a1, rv o3, .val .null, iv p4] [(.ref o3)])) rfl (hb hby d7_67)
  refine own_of st5 ?_
  clear st5
  refine own_of (fun tgt kon => Jvm.RoadKit.acmp (g := (mkF m 70 #[rv a1, rv o3, .val .null, iv p4] [(.ref o3), (.ref o3)])) X5 hx rfl rfl rfl (pc0 := 70) (pc' := 73) (same := true) rfl (hb hby d7_70) rfl (decide_eq_true rfl) (by decide) (by decide) kon) ?_
  show own_Wp _ _ _ _ (T5.setTop (mkF m 73 #[rv a1, rv o3, .val .null, iv p4] []))
  refine own_of (fun tgt kon => XS.iloadN X5.here hx rfl (hb hby d7_73) rfl kon) ?_
  refine own_of (fun tgt kon => XS.iconst X5.here hx rfl (hb hby d7_74) kon) ?_
  have hc75 : ¬ (p4 < (1 : Int32)) := hv
  refine own_of (fun tgt kon => XS.icmpYes X5.here hx rfl (pc0 := 75) (pc' := 104) rfl (hb hby d7_75) rfl (flt hc75).2.1 (by decide) (by decide) kon) ?_
  refine own_of (fun tgt kon => XS.aloadN X5.here hx rfl (hb hby d7_104) rfl rfl kon) ?_
  refine own_of (fun tgt kon => XS.aloadN X5.here hx rfl (hb hby d7_105) rfl rfl kon) ?_
  show own_Wp _ _ _ _ (T5.setTop (mkF m 106 #[rv a1, rv o3, .val .null, iv p4] [(.ref o3), (.ref a1)]))
  obtain ⟨T6, h6, X6, e6, W6, st6⟩ := putF X5 hx hZ hown (host := "") (Or.inl (ow hw 57 rfl)) Via.refl e5 F_kind E_a1 (Or.inr ⟨(ow hw 58 rfl), rfl, hnm⟩) (ow hw 32 rfl) (ty := (.object "com/example/iota_flow/iotaflow/definition/Merge$Kind")) (by decide) rfl rfl (g := (mkF m 106 #[rv a1, rv o3, .val .null, iv p4] [(.ref o3), (.ref a1)])) rfl rfl (hb hby d7_106)
  refine own_of st6 ?_
  clear st6
  have Fq6 := Fld.same W6 F_kind
  replace Zs := Nat.le_trans Zs (Keep.of_wr W6).1
  replace O := O.wr W6 g_a1
  replace K0 := K0.wr W6 (Or.inl (List.mem_of_getElem? (i := 0) rfl))
  replace E_a1 := E_a1.wr W6
  replace F_flag := F_flag.other W6 (Or.inr (slot_ne (Or.inr (ow hw 60 rfl)) (Or.inr (ow hw 58 rfl)) (by decide) (t := (.object "java/lang/String")) (t' := (.object "com/example/iota_flow/iotaflow/definition/Merge$Kind")) (by decide) (by decide)))
  replace F_votes := F_votes.other W6 (Or.inr (slot_ne (Or.inr (ow hw 62 rfl)) (Or.inr (ow hw 58 rfl)) (by decide) (t := .int) (t' := (.object "com/example/iota_flow/iotaflow/definition/Merge$Kind")) (by decide) (by decide)))
  replace SW := SW.mono (Keep.of_wr W6).1
  replace F_kind := Fq6
  clear Fq6
  have N6 := Fr.snoc X6 N3 g_a1
  refine own_of (fun tgt kon => XS.aloadN X6.here hx rfl (hb hby d7_109) rfl rfl kon) ?_
  refine own_of (fun tgt kon => XS.aloadN X6.here hx rfl (hb hby d7_110) rfl rfl kon) ?_
  obtain ⟨T7, h7, X7, e7, W7, st7⟩ := putF X6 hx hZ hown (host := "") (Or.inl (ow hw 59 rfl)) Via.refl e6 F_flag E_a1 (Or.inr ⟨(ow hw 60 rfl), rfl, hnm⟩) (ow hw 32 rfl) (ty := (.object "java/lang/String")) (by decide) rfl rfl (g := (mkF m 111 #[rv a1, rv o3, .val .null, iv p4] [.null, (.ref a1)])) rfl rfl (hb hby d7_111)
  refine own_of st7 ?_
  clear st7
  have Fq7 := Fld.same W7 F_flag
  replace Zs := Nat.le_trans Zs (Keep.of_wr W7).1
  replace O := O.wr W7 g_a1
  replace K0 := K0.wr W7 (Or.inl (List.mem_of_getElem? (i := 0) rfl))
  replace E_a1 := E_a1.wr W7
  replace F_kind := F_kind.other W7 (Or.inr (slot_ne (Or.inr (ow hw 58 rfl)) (Or.inr (ow hw 60 rfl)) (by decide) (t := (.object "com/example/iota_flow/iotaflow/definition/Merge$Kind")) (t' := (.object "java/lang/String")) (by decide) (by decide)))
  replace F_votes := F_votes.other W7 (Or.inr (slot_ne (Or.inr (ow hw 62 rfl)) (Or.inr (ow hw 60 rfl)) (by decide) (t := .int) (t' := (.object "java/lang/String")) (by decide) (by decide)))
  replace SW := SW.mono (Keep.of_wr W7).1
  replace F_flag := Fq7
  clear Fq7
  have N7 := Fr.snoc X7 N6 g_a1
  refine own_of (fun tgt kon => XS.aloadN X7.here hx rfl (hb hby d7_114) rfl rfl kon) ?_
  show own_Wp _ _ _ _ (T7.setTop (mkF m 115 #[rv a1, rv o3, .val .null, iv p4] [(.ref a1)]))
  refine own_of (fun tgt kon => XS.iloadN X7.here hx rfl (hb hby d7_115) rfl kon) ?_
  obtain ⟨T8, h8, X8, e8, W8, st8⟩ := putF X7 hx hZ hown (host := "") (Or.inl (ow hw 61 rfl)) Via.refl e7 F_votes E_a1 (Or.inr ⟨(ow hw 62 rfl), rfl, hnm⟩) (ow hw 32 rfl) (ty := .int) (by decide) rfl rfl (g := (mkF m 116 #[rv a1, rv o3, .val .null, iv p4] [(.int p4), (.ref a1)])) rfl rfl (hb hby d7_116)
  refine own_of st8 ?_
  clear st8
  have Fq8 := Fld.same W8 F_votes
  replace Zs := Nat.le_trans Zs (Keep.of_wr W8).1
  replace O := O.wr W8 g_a1
  replace K0 := K0.wr W8 (Or.inl (List.mem_of_getElem? (i := 0) rfl))
  replace E_a1 := E_a1.wr W8
  replace F_kind := F_kind.other W8 (Or.inr (slot_ne (Or.inr (ow hw 58 rfl)) (Or.inr (ow hw 62 rfl)) (by decide) (t := (.object "com/example/iota_flow/iotaflow/definition/Merge$Kind")) (t' := .int) (by decide) (by decide)))
  replace F_flag := F_flag.other W8 (Or.inr (slot_ne (Or.inr (ow hw 60 rfl)) (Or.inr (ow hw 62 rfl)) (by decide) (t := (.object "java/lang/String")) (t' := .int) (by decide) (by decide)))
  replace SW := SW.mono (Keep.of_wr W8).1
  replace F_votes := Fq8
  clear Fq8
  have N8 := Fr.snoc X8 N7 g_a1
  show own_Wp _ _ _ _ (T8.setTop (mkF m 119 #[rv a1, rv o3, .val .null, iv p4] []))
  refine own_retW X8 (by rw [e8]; exact SW) hlk none (fun _ => rfl) (fun fs hr => X8.returnOut hx hrt (hb hby d7_119) hr) ?_ (by decide) (by decide)
  rw [e8]
  exact ⟨rfl, N8, K0, E_a1, F_kind, F_flag, F_votes⟩
theorem d10_0 : decode prog_17_method_4_code 0 = .ok (.aload_n 0, 1) := by decide +kernel
theorem d10_1 : decode prog_17_method_4_code 1 = .ok (.getfield 46, 3) := by decide +kernel
theorem d10_4 : decode prog_17_method_4_code 4 = .ok (.getstatic 62, 3) := by decide +kernel
theorem d10_7 : decode prog_17_method_4_code 7 = .ok (.if_acmp .eq 7, 3) := by decide +kernel
theorem d10_14 : decode prog_17_method_4_code 14 = .ok (.iconst 0, 1) := by decide +kernel
theorem d10_15 : decode prog_17_method_4_code 15 = .ok (.ireturn, 1) := by decide +kernel
theorem d10_10 : decode prog_17_method_4_code 10 = .ok (.iconst 1, 1) := by decide +kernel
theorem d10_11 : decode prog_17_method_4_code 11 = .ok (.goto 4, 3) := by decide +kernel
def Q_rmon (Z : State) (a1 : Addr) (ok : Addr) (o0 : Addr) (r : Int32) (h0 : Heap) (n0 : Nat) (v : Option Value) (h : Heap) (L : List Loc) : Prop := v = some (.int r) ∧ Fr n0 L ∧ h = h0
set_option maxRecDepth 65536 in
set_option maxHeartbeats 40000000 in
theorem rmon (l : Launch) (Z : State) (a0 : Array Value) (hw : ∀ d ∈ tables_1, d.before a0 Z = true) (ws : List Jvm.Cond) (a1 : Addr) (ok : Addr) (o0 : Addr) (r : Int32) (h0 : Heap) (n0 : Nat) (Z0 : n0 ≤ h0.size) (F_kind : Fld Z h0 a1 "com/example/iota_flow/iotaflow/definition/Merge" "kind" "Lcom/example/iota_flow/iotaflow/definition/Merge$Kind;" (.ref ok)) (S0 : Sta Z h0 "com/example/iota_flow/iotaflow/definition/Merge$Kind" "EVERY" "Lcom/example/iota_flow/iotaflow/definition/Merge$Kind;" (.ref o0)) (hr0 : ok = o0 → r = 0) (hr1 : ¬ ok = o0 → r = 1) :
    own_Ctr l Z (⟨"com/example/iota_flow/iotaflow/definition/Merge", "once", "()Z"⟩ : MethodName) prog_17_method_4_code 1 (some .boolean) ws ({ frames := 0, cells := 0, slots := 0, locals := 0 } : Room) #[(.ref a1)] h0 (Q_rmon Z a1 ok o0 r h0 n0) := by
  refine own_enter (plainFor_of_name own_pn4) ?_
  intro p e s m below meth c s₁ X0 hx hby hml hrt hlk hZ hown hnm e0
  have N0 := Fr.nil n0
  have Zs := Z0
  rw [show entryFrame m #[(.ref a1)] 1 = mkF m 0 #[rv a1] [] from by first | (simp [entryFrame, mkF, argsToLocals, Value.category]; done) | rfl]
  show own_Wp _ _ _ _ (s₁.setTop (mkF m 0 #[rv a1] []))
  refine own_of (fun tgt kon => XS.aloadN X0.here hx rfl (hb hby d10_0) rfl rfl kon) ?_
  obtain ⟨T1, X1, e1, st1⟩ := getF X0 hx hZ hown (host := "") (Or.inl (ow hw 57 rfl)) Via.refl e0 F_kind (g := (mkF m 1 #[rv a1] [(.ref a1)])) rfl rfl (hb hby d10_1)
  refine own_of st1 ?_
  clear st1
  obtain ⟨T2, X2, e2, st2⟩ := getS2 X1 hx hZ hown (host := "") (Or.inl (ow hw 68 rfl)) Via.refl e1 S0 (g := (mkF m 4 #[rv a1] [(.ref ok)])) rfl (hb hby d10_4)
  refine own_of st2 ?_
  clear st2
  by_cases hc7 : ok = o0
  · skip
    refine own_of (fun tgt kon => Jvm.RoadKit.acmp (g := (mkF m 7 #[rv a1] [(.ref o0), (.ref ok)])) X2 hx rfl rfl rfl (pc0 := 7) (pc' := 14) (same := true) rfl (hb hby d10_7) rfl (decide_eq_true (congrArg Value.ref hc7)) (by decide) (by decide) kon) ?_
    show own_Wp _ _ _ _ (T2.setTop (mkF m 14 #[rv a1] []))
    refine own_of (fun tgt kon => XS.iconst X2.here hx rfl (hb hby d10_14) kon) ?_
    show own_Wp _ _ _ _ (T2.setTop (mkF m 15 #[rv a1] [(.int (0 : Int32))]))
    refine own_ret X2 hlk (some (.int (0 : Int32))) (own_rtI hrt) (fun fs hr => retN X2 hx (t := .boolean) hrt (by simp) (hb hby d10_15) hr) ?_ (by decide) (by decide)
    rw [e2]
    exact ⟨by first | rw [hr0 hc7] | rw [hr1 hc7], N0, rfl⟩
  · skip
    refine own_of (fun tgt kon => Jvm.RoadKit.acmp (g := (mkF m 7 #[rv a1] [(.ref o0), (.ref ok)])) X2 hx rfl rfl rfl (pc0 := 7) (pc' := 10) (same := false) rfl (hb hby d10_7) rfl (decide_eq_false fun q => hc7 (Value.ref.inj q)) (by decide) (by decide) kon) ?_
    show own_Wp _ _ _ _ (T2.setTop (mkF m 10 #[rv a1] []))
    refine own_of (fun tgt kon => XS.iconst X2.here hx rfl (hb hby d10_10) kon) ?_
    refine own_of (fun tgt kon => XS.goto X2.here hx rfl (pc0 := 11) (pc' := 15) rfl (hb hby d10_11) (by decide) (by decide) kon) ?_
    show own_Wp _ _ _ _ (T2.setTop (mkF m 15 #[rv a1] [(.int (1 : Int32))]))
    refine own_ret X2 hlk (some (.int (1 : Int32))) (own_rtI hrt) (fun fs hr => retN X2 hx (t := .boolean) hrt (by simp) (hb hby d10_15) hr) ?_ (by decide) (by decide)
    rw [e2]
    exact ⟨by first | rw [hr0 hc7] | rw [hr1 hc7], N0, rfl⟩
def own_tx2 (x y : Int32) : Nat → Int32 := fun k => match k with | 0 => x | _ => y
theorem own_c255 (x : Int32) : ¬ (255 : Int32) < x &&& 255 := by
  have h := Jvm.Kit.i32_mask x 255 (k := 8) (by decide) (by decide)
  rw [Int32.lt_iff_toInt_lt, h]
  have l : (255 : Int32).toInt = 255 := by decide
  omega
theorem own_nc (x : Int32) : nar .char ((x &&& 255).toUInt32.toUInt16.toUInt32.toInt32) = x &&& 255 := by
  rw [i2c_mask]; exact i2c_mask x
theorem own_and3 {x k : Int32} (h : k = x &&& (3 : Int32)) : k = 0 ∨ k = 1 ∨ k = 2 ∨ k = 3 := by
  have h1 := Jvm.Kit.i32_mask x 3 (k := 2) (by decide) (by decide)
  rw [← h] at h1
  have q : k.toInt = 0 ∨ k.toInt = 1 ∨ k.toInt = 2 ∨ k.toInt = 3 := by omega
  rcases q with q | q | q | q
  · exact Or.inl (Int32.toInt_inj.mp q)
  · exact Or.inr (Or.inl (Int32.toInt_inj.mp q))
  · exact Or.inr (Or.inr (Or.inl (Int32.toInt_inj.mp q)))
  · exact Or.inr (Or.inr (Or.inr (Int32.toInt_inj.mp q)))
theorem own_vt {x : Int32} (h : ¬ (x &&& (2147483647 : Int32)) = 0) : ¬ (x &&& (2147483647 : Int32)) < 1 := by
  have h1 := Jvm.Kit.i32_mask x 2147483647 (k := 31) (by decide) (by decide)
  rw [← Int32.toInt_inj] at h
  rw [Int32.lt_iff_toInt_lt]
  have l0 : (0 : Int32).toInt = 0 := by decide
  have l1 : (1 : Int32).toInt = 1 := by decide
  omega
theorem own_pn5 : plainName "com/example/iota_flow/iotaflow/definition/MergeOncePinLaw" = true := by first | (simp [plainName, overriddenIn]; done) | decide +kernel
theorem own_pd6 : parseMethodDescriptor "([C)V" = some ⟨[(.array .char)], none⟩ := by decide +kernel
theorem own_pd7 : parseMethodDescriptor "(Lcom/example/iota_flow/iotaflow/definition/Merge$Kind;Ljava/lang/String;I)V" = some ⟨[(.object "com/example/iota_flow/iotaflow/definition/Merge$Kind"), (.object "java/lang/String"), .int], none⟩ := by decide +kernel
theorem own_pd8 : parseMethodDescriptor "()Z" = some ⟨[], some .boolean⟩ := by decide +kernel
def Q_rm0 (Z : State) (p1 : Int32) (p2 : Int32) (p3 : Int32) (o0 : Addr) (o1 : Addr) (o2 : Addr) (o3 : Addr) (cz : Int32) (h0 : Heap) (n0 : Nat) (v : Option Value) (h : Heap) (L : List Loc) : Prop := v = some (.int 1) ∧ Fr n0 L
set_option maxRecDepth 65536 in
set_option maxHeartbeats 40000000 in
theorem rm0 (l : Launch) (Z : State) (a0 : Array Value) (hw : ∀ d ∈ tables_1, d.before a0 Z = true) (ws : List Jvm.Cond) (p1 : Int32) (p2 : Int32) (p3 : Int32) (o0 : Addr) (o1 : Addr) (o2 : Addr) (o3 : Addr) (cz : Int32) (h0 : Heap) (n0 : Nat) (Z0 : n0 ≤ h0.size) (S0 : Sta Z Z.heap "com/example/iota_flow/iotaflow/definition/Merge$Kind" "EVERY" "Lcom/example/iota_flow/iotaflow/definition/Merge$Kind;" (.ref o0)) (S1 : Sta Z Z.heap "com/example/iota_flow/iotaflow/definition/Merge$Kind" "FIRST" "Lcom/example/iota_flow/iotaflow/definition/Merge$Kind;" (.ref o1)) (S2 : Sta Z Z.heap "com/example/iota_flow/iotaflow/definition/Merge$Kind" "FLAG" "Lcom/example/iota_flow/iotaflow/definition/Merge$Kind;" (.ref o2)) (S3 : Sta Z Z.heap "com/example/iota_flow/iotaflow/definition/Merge$Kind" "VOTES" "Lcom/example/iota_flow/iotaflow/definition/Merge$Kind;" (.ref o3)) (ne01 : o0 ≠ o1) (ne02 : o0 ≠ o2) (ne03 : o0 ≠ o3) (ne12 : o1 ≠ o2) (ne13 : o1 ≠ o3) (ne23 : o2 ≠ o3) (S_C : Sta Z Z.heap "java/lang/String" "COMPACT_STRINGS" "Z" (.int cz)) (hcz : ¬ cz = 0) (O : Old Z n0 h0) :
    own_CtrW l Z x code maxLocals ret ws room_1 #[(.int p1), (.int p2), (.int p3)] h0 (Q_rm0 Z p1 p2 p3 o0 o1 o2 o3 cz h0 n0) := by
  refine own_enterW (plainFor_of_name own_pn5) ?_
  intro p e s m below meth c s₁ X0 SW hx hby hml hrt hlk hZ hown hnm e0
  have N0 := Fr.nil n0
  have Zs := Z0
  rw [show entryFrame m #[(.int p1), (.int p2), (.int p3)] maxLocals = mkF m 0 #[iv p1, iv p2, iv p3, uu, uu, uu, uu, uu, uu] [] from by first | (simp [entryFrame, mkF, argsToLocals, Value.category, maxLocals]; done) | rfl]
  show own_Wp _ _ _ _ (s₁.setTop (mkF m 0 #[iv p1, iv p2, iv p3, uu, uu, uu, uu, uu, uu] []))
  refine own_of (fun tgt kon => XS.iloadN X0.here hx rfl (hb hby at_0) rfl kon) ?_
  refine own_of (fun tgt kon => XS.iconst X0.here hx rfl (hb hby at_1) kon) ?_
  refine own_of (fun tgt kon => XS.iand X0.here hx rfl (hb hby at_2) rfl kon) ?_
  show own_Wp _ _ _ _ (s₁.setTop (mkF m 3 #[iv p1, iv p2, iv p3, uu, uu, uu, uu, uu, uu] [(.int (p1 &&& (3 : Int32)))]))
  obtain ⟨kk, h_kk⟩ : ∃ q : Int32, q = (p1 &&& (3 : Int32)) := ⟨_, rfl⟩
  rw [← h_kk]
  refine own_of (fun tgt kon => XS.istoreN X0.here hx rfl (hb hby at_3) rfl (l' := #[iv p1, iv p2, iv p3, iv kk, uu, uu, uu, uu, uu]) rfl kon) ?_
  show own_Wp _ _ _ _ (s₁.setTop (mkF m 4 #[iv p1, iv p2, iv p3, iv kk, uu, uu, uu, uu, uu] []))
  have h4 := own_and3 h_kk
  clear h_kk
  rcases h4 with rfl | rfl | rfl | rfl
  · skip
    show own_Wp _ _ _ _ (s₁.setTop (mkF m 4 #[iv p1, iv p2, iv p3, iv (0 : Int32), uu, uu, uu, uu, uu] []))
    refine own_of (fun tgt kon => XS.iconst X0.here hx rfl (hb hby at_4) kon) ?_
    obtain ⟨T1, h1, k1, X1, e1, E1, A1, st1⟩ := newP X0 hx hZ (ow hw 0 rfl) e0 (g := (mkF m 5 #[iv p1, iv p2, iv p3, iv (0 : Int32), uu, uu, uu, uu, uu] [(.int (2 : Int32))])) rfl (hb hby at_5) rfl (by decide) (cap := 2) (by decide) (by decide) (by decide) (by decide)
    refine own_of st1 ?_
    clear st1
    obtain ⟨b1, gq1⟩ : ∃ z, z = h0.size := ⟨_, rfl⟩
    rw [← gq1] at A1 ⊢
    have g_b1 : n0 ≤ b1 := Nat.le_trans Zs (Nat.le_of_eq gq1.symm)
    replace Zs := Nat.le_trans Zs E1.1
    replace SW := SW.ext E1
    replace O := O.ext E1
    have V_b1 : own_Ar Z h1 b1 .char 2 (fun _ => (.int (0 : Int32))) := own_Ar.new A1 (by decide) rfl
    refine own_of (fun tgt kon => XS.dup X1.here hx rfl (hb hby at_7) rfl rfl kon) ?_
    refine own_of (fun tgt kon => XS.iconst X1.here hx rfl (hb hby at_8) kon) ?_
    refine own_of (fun tgt kon => XS.iloadN X1.here hx rfl (hb hby at_9) rfl kon) ?_
    show own_Wp _ _ _ _ (T1.setTop (mkF m 10 #[iv p1, iv p2, iv p3, iv (0 : Int32), uu, uu, uu, uu, uu] [(.int p2), (.int (0 : Int32)), (.ref b1), (.ref b1)]))
    refine own_of (fun tgt kon => XS.sipush X1.here hx rfl (hb hby at_10) kon) ?_
    refine own_of (fun tgt kon => XS.iand X1.here hx rfl (hb hby at_13) rfl kon) ?_
    refine own_of (fun tgt kon => XS.i2c X1.here hx rfl (hb hby at_14) rfl kon) ?_
    obtain ⟨T2, h2, X2, e2, W2, Aq2, st2⟩ := own_stC X1 hx hZ e1 V_b1 (j := (0 : Int32)) (i := 0) (x := ((p2 &&& (255 : Int32)).toUInt32.toUInt16.toUInt32.toInt32)) (by decide) (by decide) (g := (mkF m 15 #[iv p1, iv p2, iv p3, iv (0 : Int32), uu, uu, uu, uu, uu] [(.int ((p2 &&& (255 : Int32)).toUInt32.toUInt16.toUInt32.toInt32)), (.int (0 : Int32)), (.ref b1), (.ref b1)])) rfl rfl (hb hby at_15)
    refine own_of st2 ?_
    clear st2
    replace Zs := Nat.le_trans Zs (Keep.of_wr W2).1
    replace SW := SW.mono (Keep.of_wr W2).1
    replace O := O.wr W2 g_b1
    replace V_b1 := Aq2
    clear Aq2
    have N2 := Fr.snoc X2 N0 g_b1
    refine own_of (fun tgt kon => XS.dup X2.here hx rfl (hb hby at_16) rfl rfl kon) ?_
    show own_Wp _ _ _ _ (T2.setTop (mkF m 17 #[iv p1, iv p2, iv p3, iv (0 : Int32), uu, uu, uu, uu, uu] [(.ref b1), (.ref b1)]))
    refine own_of (fun tgt kon => XS.iconst X2.here hx rfl (hb hby at_17) kon) ?_
    refine own_of (fun tgt kon => XS.iloadN X2.here hx rfl (hb hby at_18) rfl kon) ?_
    refine own_of (fun tgt kon => XS.bipush X2.here hx rfl (hb hby at_19) kon) ?_
    refine own_of (fun tgt kon => XS.iushr X2.here hx rfl (hb hby at_21) rfl kon) ?_
    refine own_of (fun tgt kon => XS.sipush X2.here hx rfl (hb hby at_22) kon) ?_
    show own_Wp _ _ _ _ (T2.setTop (mkF m 25 #[iv p1, iv p2, iv p3, iv (0 : Int32), uu, uu, uu, uu, uu] [(.int (255 : Int32)), (.int ((p2.toUInt32 >>> ((8 : Int32) &&& 31).toUInt32).toInt32)), (.int (1 : Int32)), (.ref b1), (.ref b1)]))
    refine own_of (fun tgt kon => XS.iand X2.here hx rfl (hb hby at_25) rfl kon) ?_
    refine own_of (fun tgt kon => XS.i2c X2.here hx rfl (hb hby at_26) rfl kon) ?_
    obtain ⟨T3, h3, X3, e3, W3, Aq3, st3⟩ := own_stC X2 hx hZ e2 V_b1 (j := (1 : Int32)) (i := 1) (x := ((((p2.toUInt32 >>> ((8 : Int32) &&& 31).toUInt32).toInt32) &&& (255 : Int32)).toUInt32.toUInt16.toUInt32.toInt32)) (by decide) (by decide) (g := (mkF m 27 #[iv p1, iv p2, iv p3, iv (0 : Int32), uu, uu, uu, uu, uu] [(.int ((((p2.toUInt32 >>> ((8 : Int32) &&& 31).toUInt32).toInt32) &&& (255 : Int32)).toUInt32.toUInt16.toUInt32.toInt32)), (.int (1 : Int32)), (.ref b1), (.ref b1)])) rfl rfl (hb hby at_27)
    refine own_of st3 ?_
    clear st3
    replace Zs := Nat.le_trans Zs (Keep.of_wr W3).1
    replace SW := SW.mono (Keep.of_wr W3).1
    replace O := O.wr W3 g_b1
    replace V_b1 := Aq3
    clear Aq3
    have N3 := Fr.snoc X3 N2 g_b1
    show own_Wp _ _ _ _ (T3.setTop (mkF m 28 #[iv p1, iv p2, iv p3, iv (0 : Int32), uu, uu, uu, uu, uu] [(.ref b1)]))
    replace V_b1 := V_b1.fn (f' := fun k => .int ((own_tx2 (p2 &&& (255 : Int32)) (((p2.toUInt32 >>> ((8 : Int32) &&& 31).toUInt32).toInt32) &&& (255 : Int32))) k)) (by intro k hk; rcases k with _ | _ | k; exact congrArg Value.int (own_nc _); exact congrArg Value.int (own_nc _); omega)
    have hcs : ∀ k, k < 2 → ¬ (255 : Int32) < (own_tx2 (p2 &&& (255 : Int32)) (((p2.toUInt32 >>> ((8 : Int32) &&& 31).toUInt32).toInt32) &&& (255 : Int32))) k := by intro k hk; rcases k with _ | _ | k; exact own_c255 _; exact own_c255 _; omega
    refine own_of (fun tgt kon => XS.astore X3.here hx rfl (hb hby at_28) rfl rfl (l' := #[iv p1, iv p2, iv p3, iv (0 : Int32), rv b1, uu, uu, uu, uu]) rfl kon) ?_
    obtain ⟨T4, h4, X4, e4, E4, A4, D4, -, st4⟩ := newO X3 hx hZ hown (ow hw 1 rfl) (ow hw 2 rfl) (ow hw 3 rfl) e3 (g := (mkF m 30 #[iv p1, iv p2, iv p3, iv (0 : Int32), rv b1, uu, uu, uu, uu] [])) rfl (hb hby at_30) (by decide) (by decide)
    refine own_of st4 ?_
    clear st4
    obtain ⟨b4, gq4⟩ : ∃ z, z = h3.size := ⟨_, rfl⟩
    rw [← gq4] at A4 D4 ⊢
    have ne_b1_b4 : b1 ≠ b4 := Nat.ne_of_lt (Nat.lt_of_lt_of_le V_b1.lt (Nat.le_of_eq gq4.symm))
    have g_b4 : n0 ≤ b4 := Nat.le_trans Zs (Nat.le_of_eq gq4.symm)
    replace Zs := Nat.le_trans Zs E4.1
    replace SW := SW.ext E4
    replace O := O.ext E4
    replace V_b1 := V_b1.ext E4
    have E_b4 := A4
    have F_coder_b4 : Fld Z h4 b4 "java/lang/String" "coder" "B" (.int (0 : Int32)) := D4 (Or.inr (ow hw 27 rfl)) (ty := .byte) (by decide)
    have F_value_b4 : Fld Z h4 b4 "java/lang/String" "value" "[B" .null := D4 (Or.inr (ow hw 29 rfl)) (ty := (.array .byte)) (by decide)
    refine own_of (fun tgt kon => XS.dup X4.here hx rfl (hb hby at_33) rfl rfl kon) ?_
    refine own_of (fun tgt kon => XS.aload X4.here hx rfl (hb hby at_34) rfl rfl kon) ?_
    have lt5 := E_b4.lt
    refine own_callI X4 hx hZ (y := (⟨"java/lang/String", "<init>", "([C)V"⟩ : MethodName)) (a := b4) (argsL := [(.ref b1)]) (rest := [(.ref b4)]) (W := 1) rfl hown (ow hw 4 rfl) (ow hw 5 rfl) (ow hw 3 rfl) (ow hw 6 rfl) (by decide) e4 (rms2 l Z a0 hw [] b4 b1 (own_tx2 (p2 &&& (255 : Int32)) (((p2.toUInt32 >>> ((8 : Int32) &&& 31).toUInt32).toInt32) &&& (255 : Int32))) cz h4 n0 Zs E_b4 _ _ F_value_b4 F_coder_b4 V_b1 g_b4 (Ne.symm ne_b1_b4) hcs (S_C.ext O.2) hcz) (by decide) (by decide) (by decide) (by decide) rfl (by rw [hml]; rfl) (lenOf own_pd6 rfl) rfl (by show 2 * 0 + _ ≤ _; exact Nat.le_of_eq rfl) (hb hby at_36) ?_
    rintro T5 L5 _ X5 ⟨rfl, N5q, Kq5, Eq5, c5, g_c5, szq5, Fv5, Fc5, Vq5⟩
    have N5 := Fr.app N3 N5q
    show own_Wp _ _ _ _ (T5.setTop (mkF m 39 #[iv p1, iv p2, iv p3, iv (0 : Int32), rv b1, uu, uu, uu, uu] [(.ref b4)]))
    replace Zs := Nat.le_trans Zs Kq5.1
    replace SW := SW.mono Kq5.1
    replace O := O.keep Kq5 (allS g_b4 all0)
    replace V_b1 := V_b1.keep Kq5 (ninS ne_b1_b4 nin0)
    replace E_b4 := E_b4.keep Kq5
    replace E_b4 := Eq5
    have F_value_b4 := Fv5
    have F_coder_b4 := Fc5
    have V_c5 := Vq5
    have ne_b4_c5 : b4 ≠ c5 := Nat.ne_of_lt (Nat.lt_of_lt_of_le lt5 szq5)
    refine own_of (fun tgt kon => XS.astore X5.here hx rfl (hb hby at_39) rfl rfl (l' := #[iv p1, iv p2, iv p3, iv (0 : Int32), rv b1, rv b4, uu, uu, uu]) rfl kon) ?_
    refine own_of (fun tgt kon => XS.iloadN X5.here hx rfl (hb hby at_41) rfl kon) ?_
    refine own_of (X5.ldcInt hx hown (mvT hZ (ow hw 30 rfl)) (g := (mkF m 42 #[iv p1, iv p2, iv p3, iv (0 : Int32), rv b1, rv b4, uu, uu, uu] [(.int p3)])) rfl (hb hby at_42)) ?_
    refine own_of (fun tgt kon => XS.iand X5.here hx rfl (hb hby at_44) rfl kon) ?_
    refine own_of (fun tgt kon => XS.istore X5.here hx rfl (hb hby at_45) rfl (l' := #[iv p1, iv p2, iv p3, iv (0 : Int32), rv b1, rv b4, iv (p3 &&& (2147483647 : Int32)), uu, uu]) rfl kon) ?_
    show own_Wp _ _ _ _ (T5.setTop (mkF m 47 #[iv p1, iv p2, iv p3, iv (0 : Int32), rv b1, rv b4, iv (p3 &&& (2147483647 : Int32)), uu, uu] []))
    refine own_of (fun tgt kon => XS.iload X5.here hx rfl (hb hby at_47) rfl kon) ?_
    show own_Wp _ _ _ _ (T5.setTop (mkF m 49 #[iv p1, iv p2, iv p3, iv (0 : Int32), rv b1, rv b4, iv (p3 &&& (2147483647 : Int32)), uu, uu] [(.int (p3 &&& (2147483647 : Int32)))]))
    have J55 : ∀ (vt : Int32), (¬ vt < 1) → own_Wp p.tables e below (own_KW room_1 s below (Q_rm0 Z p1 p2 p3 o0 o1 o2 o3 cz h0 n0)) (T5.setTop (mkF m 55 #[iv p1, iv p2, iv p3, iv (0 : Int32), rv b1, rv b4, iv vt, uu, uu] [])) := by
      intro vt hv
      refine own_of (fun tgt kon => XS.iloadN X5.here hx rfl (hb hby at_55) rfl kon) ?_
      have hc56 : (0 : Int32) = (0 : Int32) := by decide
      refine own_of (fun tgt kon => XS.ifNo X5.here hx rfl (hb hby at_56) rfl ((if0 _ _).trans (teq hc56).2) kon) ?_
      obtain ⟨T6, h6, X6, e6, E6, A6, D6, -, st6⟩ := newO X5 hx hZ hown (ow hw 31 rfl) (ow hw 32 rfl) (ow hw 33 rfl) rfl (g := (mkF m 59 #[iv p1, iv p2, iv p3, iv (0 : Int32), rv b1, rv b4, iv vt, uu, uu] [])) rfl (hb hby at_59) (by decide) (by decide)
      refine own_of st6 ?_
      clear st6
      obtain ⟨b6, gq6⟩ : ∃ z, z = T5.heap.size := ⟨_, rfl⟩
      rw [← gq6] at A6 D6 ⊢
      have ne_b1_b6 : b1 ≠ b6 := Nat.ne_of_lt (Nat.lt_of_lt_of_le V_b1.lt (Nat.le_of_eq gq6.symm))
      have ne_b4_b6 : b4 ≠ b6 := Nat.ne_of_lt (Nat.lt_of_lt_of_le E_b4.lt (Nat.le_of_eq gq6.symm))
      have ne_c5_b6 : c5 ≠ b6 := Nat.ne_of_lt (Nat.lt_of_lt_of_le V_c5.lt (Nat.le_of_eq gq6.symm))
      have g_b6 : n0 ≤ b6 := Nat.le_trans Zs (Nat.le_of_eq gq6.symm)
      replace Zs := Nat.le_trans Zs E6.1
      replace SW := SW.ext E6
      replace O := O.ext E6
      replace V_b1 := V_b1.ext E6
      replace E_b4 := E_b4.ext E6
      replace F_value_b4 := F_value_b4.ext E6
      replace F_coder_b4 := F_coder_b4.ext E6
      replace V_c5 := V_c5.ext E6
      have E_b6 := A6
      have F_kind_b6 : Fld Z h6 b6 "com/example/iota_flow/iotaflow/definition/Merge" "kind" "Lcom/example/iota_flow/iotaflow/definition/Merge$Kind;" .null := D6 (Or.inr (ow hw 58 rfl)) (ty := (.object "com/example/iota_flow/iotaflow/definition/Merge$Kind")) (by decide)
      have F_flag_b6 : Fld Z h6 b6 "com/example/iota_flow/iotaflow/definition/Merge" "flag" "Ljava/lang/String;" .null := D6 (Or.inr (ow hw 60 rfl)) (ty := (.object "java/lang/String")) (by decide)
      have F_votes_b6 : Fld Z h6 b6 "com/example/iota_flow/iotaflow/definition/Merge" "votes" "I" (.int (0 : Int32)) := D6 (Or.inr (ow hw 62 rfl)) (ty := .int) (by decide)
      refine own_of (fun tgt kon => XS.dup X6.here hx rfl (hb hby at_62) rfl rfl kon) ?_
      obtain ⟨T7, X7, e7, st7⟩ := getS2 X6 hx hZ hown (host := "") (Or.inl (ow hw 34 rfl)) Via.refl e6 (S0.ext O.2) (g := (mkF m 63 #[iv p1, iv p2, iv p3, iv (0 : Int32), rv b1, rv b4, iv vt, uu, uu] [(.ref b6), (.ref b6)])) rfl (hb hby at_63)
      refine own_of st7 ?_
      clear st7
      show own_Wp _ _ _ _ (T7.setTop (mkF m 66 #[iv p1, iv p2, iv p3, iv (0 : Int32), rv b1, rv b4, iv vt, uu, uu] [(.ref o0), (.ref b6), (.ref b6)]))
      refine own_of (fun tgt kon => XS.aconstNull X7.here hx rfl (hb hby at_66) kon) ?_
      refine own_of (fun tgt kon => XS.iconst X7.here hx rfl (hb hby at_67) kon) ?_
      refine own_callIW X7 SW hx hZ (y := (⟨"com/example/iota_flow/iotaflow/definition/Merge", "<init>", "(Lcom/example/iota_flow/iotaflow/definition/Merge$Kind;Ljava/lang/String;I)V"⟩ : MethodName)) (a := b6) (argsL := [(.ref o0), .null, (.int (1 : Int32))]) (rest := [(.ref b6)]) (W := 1) rfl hown (ow hw 37 rfl) (ow hw 38 rfl) (ow hw 33 rfl) (ow hw 39 rfl) (by decide) e7 (rmmg0 l Z a0 hw [] b6 o0 o1 o2 o3  h6 n0 Zs O E_b6 _ _ _ F_kind_b6 F_flag_b6 F_votes_b6 g_b6 S0 S1 S2 S3 ne01 ne02 ne03 ne12 ne13 ne23) (by decide) (by decide) (by decide) (by decide) rfl (by rw [hml]; rfl) (lenOf own_pd7 rfl) rfl (by show 2 * 0 + _ ≤ _; exact Nat.le_of_eq rfl) (hb hby at_68) ?_
      clear hZ hown
      rintro sv8 T8 L8 _ X8 SWq8 hZ hown ⟨rfl, N8q, Kq8, Eq8, F8_kind, F8_flag, F8_votes⟩
      have N8 := Fr.app N5 N8q
      show own_Wp _ _ _ _ (T8.setTop (mkF m 71 #[iv p1, iv p2, iv p3, iv (0 : Int32), rv b1, rv b4, iv vt, uu, uu] [(.ref b6)]))
      replace Zs := Nat.le_trans Zs Kq8.1
      replace O := O.keep Kq8 (allS g_b6 all0)
      replace V_b1 := V_b1.keep Kq8 (ninS ne_b1_b6 nin0)
      replace E_b4 := E_b4.keep Kq8
      replace F_value_b4 := F_value_b4.keep Kq8 (ninS ne_b4_b6 nin0)
      replace F_coder_b4 := F_coder_b4.keep Kq8 (ninS ne_b4_b6 nin0)
      replace V_c5 := V_c5.keep Kq8 (ninS ne_c5_b6 nin0)
      replace E_b6 := E_b6.keep Kq8
      replace E_b6 := Eq8
      have F_kind_b6 := F8_kind
      have F_flag_b6 := F8_flag
      have F_votes_b6 := F8_votes
      replace SW := SWq8
      refine own_of (fun tgt kon => XS.astore X8.here hx rfl (hb hby at_71) rfl rfl (l' := #[iv p1, iv p2, iv p3, iv (0 : Int32), rv b1, rv b4, iv vt, rv b6, uu]) rfl kon) ?_
      refine own_of (fun tgt kon => XS.goto X8.here hx rfl (pc0 := 73) (pc' := 136) rfl (hb hby at_73) (by decide) (by decide) kon) ?_
      refine own_of (fun tgt kon => XS.iloadN X8.here hx rfl (hb hby at_136) rfl kon) ?_
      have hc137 : (0 : Int32) = (0 : Int32) := by decide
      refine own_of (fun tgt kon => XS.ifYes X8.here hx rfl (pc0 := 137) (pc' := 144) rfl (hb hby at_137) rfl ((if0 _ _).trans (teq hc137).1) (by decide) (by decide) kon) ?_
      refine own_of (fun tgt kon => XS.iconst X8.here hx rfl (hb hby at_144) kon) ?_
      show own_Wp _ _ _ _ (T8.setTop (mkF m 145 #[iv p1, iv p2, iv p3, iv (0 : Int32), rv b1, rv b4, iv vt, rv b6, uu] [(.int (0 : Int32))]))
      refine own_of (fun tgt kon => XS.istore X8.here hx rfl (hb hby at_145) rfl (l' := #[iv p1, iv p2, iv p3, iv (0 : Int32), rv b1, rv b4, iv vt, rv b6, iv (0 : Int32)]) rfl kon) ?_
      refine own_of (fun tgt kon => XS.aload X8.here hx rfl (hb hby at_147) rfl rfl kon) ?_
      refine own_callV X8 hx hZ (C := "com/example/iota_flow/iotaflow/definition/Merge") (y := (⟨"com/example/iota_flow/iotaflow/definition/Merge", "once", "()Z"⟩ : MethodName)) (a := b6) (argsL := []) (rest := []) (W := 0) hown (ow hw 63 rfl) (ow hw 64 rfl) (ow hw 66 rfl) (ow hw 65 rfl) (ow hw 33 rfl) (ow hw 67 rfl) (by decide) rfl E_b6 (rmon l Z a0 hw [] b6 o0 o0 (0 : Int32) T8.heap n0 Zs F_kind_b6 (S0.ext O.2) (fun _ => rfl) (fun q => absurd rfl q)) (by decide) (by decide) (by decide) (by decide) rfl (by rw [hml]; rfl) (lenOf own_pd8 rfl) rfl (by show 2 * 0 + _ ≤ _; exact Nat.le_of_eq rfl) (hb hby at_149) ?_
      rintro T9 L9 _ X9 ⟨rfl, N9q, e9⟩
      have N9 := Fr.app N8 N9q
      show own_Wp _ _ _ _ (T9.setTop (mkF m 152 #[iv p1, iv p2, iv p3, iv (0 : Int32), rv b1, rv b4, iv vt, rv b6, iv (0 : Int32)] [(.int (0 : Int32))]))
      refine own_of (fun tgt kon => XS.iload X9.here hx rfl (hb hby at_152) rfl kon) ?_
      have hc154 : (0 : Int32) = (0 : Int32) := rfl
      refine own_of (fun tgt kon => XS.icmpNo X9.here hx rfl (hb hby at_154) rfl (teq hc154).2 kon) ?_
      refine own_of (fun tgt kon => XS.iconst X9.here hx rfl (hb hby at_157) kon) ?_
      refine own_of (fun tgt kon => XS.goto X9.here hx rfl (pc0 := 158) (pc' := 162) rfl (hb hby at_158) (by decide) (by decide) kon) ?_
      show own_Wp _ _ _ _ (T9.setTop (mkF m 162 #[iv p1, iv p2, iv p3, iv (0 : Int32), rv b1, rv b4, iv vt, rv b6, iv (0 : Int32)] [(.int (1 : Int32))]))
      refine own_retW X9 (by rw [e9]; exact SW) hlk (some (.int (1 : Int32))) (own_rtI hrt) (fun fs hr => retN X9 hx (t := .boolean) hrt (by simp) (hb hby at_162) hr) ?_ (by decide) (by decide)
      rw [e9]
      exact ⟨rfl, N9⟩
    show own_Wp _ _ _ _ (T5.setTop (mkF m 49 #[iv p1, iv p2, iv p3, iv (0 : Int32), rv b1, rv b4, iv (p3 &&& (2147483647 : Int32)), uu, uu] [(.int (p3 &&& (2147483647 : Int32)))]))
    by_cases hc49 : (p3 &&& (2147483647 : Int32)) = (0 : Int32)
    · skip
      refine own_of (fun tgt kon => XS.ifNo X5.here hx rfl (hb hby at_49) rfl ((if0 _ _).trans (teq hc49).2) kon) ?_
      refine own_of (fun tgt kon => XS.iconst X5.here hx rfl (hb hby at_52) kon) ?_
      refine own_of (fun tgt kon => XS.istore X5.here hx rfl (hb hby at_53) rfl (l' := #[iv p1, iv p2, iv p3, iv (0 : Int32), rv b1, rv b4, iv (1 : Int32), uu, uu]) rfl kon) ?_
      show own_Wp _ _ _ _ (T5.setTop (mkF m 55 #[iv p1, iv p2, iv p3, iv (0 : Int32), rv b1, rv b4, iv (1 : Int32), uu, uu] []))
      exact J55 ((1 : Int32)) (by decide)
    · skip
      refine own_of (fun tgt kon => XS.ifYes X5.here hx rfl (pc0 := 49) (pc' := 55) rfl (hb hby at_49) rfl ((if0 _ _).trans (feq hc49).2) (by decide) (by decide) kon) ?_
      show own_Wp _ _ _ _ (T5.setTop (mkF m 55 #[iv p1, iv p2, iv p3, iv (0 : Int32), rv b1, rv b4, iv (p3 &&& (2147483647 : Int32)), uu, uu] []))
      exact J55 ((p3 &&& (2147483647 : Int32))) (by exact own_vt hc49)
  · skip
    show own_Wp _ _ _ _ (s₁.setTop (mkF m 4 #[iv p1, iv p2, iv p3, iv (1 : Int32), uu, uu, uu, uu, uu] []))
    refine own_of (fun tgt kon => XS.iconst X0.here hx rfl (hb hby at_4) kon) ?_
    obtain ⟨T10, h10, k10, X10, e10, E10, A10, st10⟩ := newP X0 hx hZ (ow hw 0 rfl) e0 (g := (mkF m 5 #[iv p1, iv p2, iv p3, iv (1 : Int32), uu, uu, uu, uu, uu] [(.int (2 : Int32))])) rfl (hb hby at_5) rfl (by decide) (cap := 2) (by decide) (by decide) (by decide) (by decide)
    refine own_of st10 ?_
    clear st10
    obtain ⟨b10, gq10⟩ : ∃ z, z = h0.size := ⟨_, rfl⟩
    rw [← gq10] at A10 ⊢
    have g_b10 : n0 ≤ b10 := Nat.le_trans Zs (Nat.le_of_eq gq10.symm)
    replace Zs := Nat.le_trans Zs E10.1
    replace SW := SW.ext E10
    replace O := O.ext E10
    have V_b10 : own_Ar Z h10 b10 .char 2 (fun _ => (.int (0 : Int32))) := own_Ar.new A10 (by decide) rfl
    refine own_of (fun tgt kon => XS.dup X10.here hx rfl (hb hby at_7) rfl rfl kon) ?_
    refine own_of (fun tgt kon => XS.iconst X10.here hx rfl (hb hby at_8) kon) ?_
    refine own_of (fun tgt kon => XS.iloadN X10.here hx rfl (hb hby at_9) rfl kon) ?_
    show own_Wp _ _ _ _ (T10.setTop (mkF m 10 #[iv p1, iv p2, iv p3, iv (1 : Int32), uu, uu, uu, uu, uu] [(.int p2), (.int (0 : Int32)), (.ref b10), (.ref b10)]))
    refine own_of (fun tgt kon => XS.sipush X10.here hx rfl (hb hby at_10) kon) ?_
    refine own_of (fun tgt kon => XS.iand X10.here hx rfl (hb hby at_13) rfl kon) ?_
    refine own_of (fun tgt kon => XS.i2c X10.here hx rfl (hb hby at_14) rfl kon) ?_
    obtain ⟨T11, h11, X11, e11, W11, Aq11, st11⟩ := own_stC X10 hx hZ e10 V_b10 (j := (0 : Int32)) (i := 0) (x := ((p2 &&& (255 : Int32)).toUInt32.toUInt16.toUInt32.toInt32)) (by decide) (by decide) (g := (mkF m 15 #[iv p1, iv p2, iv p3, iv (1 : Int32), uu, uu, uu, uu, uu] [(.int ((p2 &&& (255 : Int32)).toUInt32.toUInt16.toUInt32.toInt32)), (.int (0 : Int32)), (.ref b10), (.ref b10)])) rfl rfl (hb hby at_15)
    refine own_of st11 ?_
    clear st11
    replace Zs := Nat.le_trans Zs (Keep.of_wr W11).1
    replace SW := SW.mono (Keep.of_wr W11).1
    replace O := O.wr W11 g_b10
    replace V_b10 := Aq11
    clear Aq11
    have N11 := Fr.snoc X11 N0 g_b10
    refine own_of (fun tgt kon => XS.dup X11.here hx rfl (hb hby at_16) rfl rfl kon) ?_
    show own_Wp _ _ _ _ (T11.setTop (mkF m 17 #[iv p1, iv p2, iv p3, iv (1 : Int32), uu, uu, uu, uu, uu] [(.ref b10), (.ref b10)]))
    refine own_of (fun tgt kon => XS.iconst X11.here hx rfl (hb hby at_17) kon) ?_
    refine own_of (fun tgt kon => XS.iloadN X11.here hx rfl (hb hby at_18) rfl kon) ?_
    refine own_of (fun tgt kon => XS.bipush X11.here hx rfl (hb hby at_19) kon) ?_
    refine own_of (fun tgt kon => XS.iushr X11.here hx rfl (hb hby at_21) rfl kon) ?_
    refine own_of (fun tgt kon => XS.sipush X11.here hx rfl (hb hby at_22) kon) ?_
    show own_Wp _ _ _ _ (T11.setTop (mkF m 25 #[iv p1, iv p2, iv p3, iv (1 : Int32), uu, uu, uu, uu, uu] [(.int (255 : Int32)), (.int ((p2.toUInt32 >>> ((8 : Int32) &&& 31).toUInt32).toInt32)), (.int (1 : Int32)), (.ref b10), (.ref b10)]))
    refine own_of (fun tgt kon => XS.iand X11.here hx rfl (hb hby at_25) rfl kon) ?_
    refine own_of (fun tgt kon => XS.i2c X11.here hx rfl (hb hby at_26) rfl kon) ?_
    obtain ⟨T12, h12, X12, e12, W12, Aq12, st12⟩ := own_stC X11 hx hZ e11 V_b10 (j := (1 : Int32)) (i := 1) (x := ((((p2.toUInt32 >>> ((8 : Int32) &&& 31).toUInt32).toInt32) &&& (255 : Int32)).toUInt32.toUInt16.toUInt32.toInt32)) (by decide) (by decide) (g := (mkF m 27 #[iv p1, iv p2, iv p3, iv (1 : Int32), uu, uu, uu, uu, uu] [(.int ((((p2.toUInt32 >>> ((8 : Int32) &&& 31).toUInt32).toInt32) &&& (255 : Int32)).toUInt32.toUInt16.toUInt32.toInt32)), (.int (1 : Int32)), (.ref b10), (.ref b10)])) rfl rfl (hb hby at_27)
    refine own_of st12 ?_
    clear st12
    replace Zs := Nat.le_trans Zs (Keep.of_wr W12).1
    replace SW := SW.mono (Keep.of_wr W12).1
    replace O := O.wr W12 g_b10
    replace V_b10 := Aq12
    clear Aq12
    have N12 := Fr.snoc X12 N11 g_b10
    show own_Wp _ _ _ _ (T12.setTop (mkF m 28 #[iv p1, iv p2, iv p3, iv (1 : Int32), uu, uu, uu, uu, uu] [(.ref b10)]))
    replace V_b10 := V_b10.fn (f' := fun k => .int ((own_tx2 (p2 &&& (255 : Int32)) (((p2.toUInt32 >>> ((8 : Int32) &&& 31).toUInt32).toInt32) &&& (255 : Int32))) k)) (by intro k hk; rcases k with _ | _ | k; exact congrArg Value.int (own_nc _); exact congrArg Value.int (own_nc _); omega)
    have hcs : ∀ k, k < 2 → ¬ (255 : Int32) < (own_tx2 (p2 &&& (255 : Int32)) (((p2.toUInt32 >>> ((8 : Int32) &&& 31).toUInt32).toInt32) &&& (255 : Int32))) k := by intro k hk; rcases k with _ | _ | k; exact own_c255 _; exact own_c255 _; omega
    refine own_of (fun tgt kon => XS.astore X12.here hx rfl (hb hby at_28) rfl rfl (l' := #[iv p1, iv p2, iv p3, iv (1 : Int32), rv b10, uu, uu, uu, uu]) rfl kon) ?_
    obtain ⟨T13, h13, X13, e13, E13, A13, D13, -, st13⟩ := newO X12 hx hZ hown (ow hw 1 rfl) (ow hw 2 rfl) (ow hw 3 rfl) e12 (g := (mkF m 30 #[iv p1, iv p2, iv p3, iv (1 : Int32), rv b10, uu, uu, uu, uu] [])) rfl (hb hby at_30) (by decide) (by decide)
    refine own_of st13 ?_
    clear st13
    obtain ⟨b13, gq13⟩ : ∃ z, z = h12.size := ⟨_, rfl⟩
    rw [← gq13] at A13 D13 ⊢
    have ne_b10_b13 : b10 ≠ b13 := Nat.ne_of_lt (Nat.lt_of_lt_of_le V_b10.lt (Nat.le_of_eq gq13.symm))
    have g_b13 : n0 ≤ b13 := Nat.le_trans Zs (Nat.le_of_eq gq13.symm)
    replace Zs := Nat.le_trans Zs E13.1
    replace SW := SW.ext E13
    replace O := O.ext E13
    replace V_b10 := V_b10.ext E13
    have E_b13 := A13
    have F_coder_b13 : Fld Z h13 b13 "java/lang/String" "coder" "B" (.int (0 : Int32)) := D13 (Or.inr (ow hw 27 rfl)) (ty := .byte) (by decide)
    have F_value_b13 : Fld Z h13 b13 "java/lang/String" "value" "[B" .null := D13 (Or.inr (ow hw 29 rfl)) (ty := (.array .byte)) (by decide)
    refine own_of (fun tgt kon => XS.dup X13.here hx rfl (hb hby at_33) rfl rfl kon) ?_
    refine own_of (fun tgt kon => XS.aload X13.here hx rfl (hb hby at_34) rfl rfl kon) ?_
    have lt14 := E_b13.lt
    refine own_callI X13 hx hZ (y := (⟨"java/lang/String", "<init>", "([C)V"⟩ : MethodName)) (a := b13) (argsL := [(.ref b10)]) (rest := [(.ref b13)]) (W := 1) rfl hown (ow hw 4 rfl) (ow hw 5 rfl) (ow hw 3 rfl) (ow hw 6 rfl) (by decide) e13 (rms2 l Z a0 hw [] b13 b10 (own_tx2 (p2 &&& (255 : Int32)) (((p2.toUInt32 >>> ((8 : Int32) &&& 31).toUInt32).toInt32) &&& (255 : Int32))) cz h13 n0 Zs E_b13 _ _ F_value_b13 F_coder_b13 V_b10 g_b13 (Ne.symm ne_b10_b13) hcs (S_C.ext O.2) hcz) (by decide) (by decide) (by decide) (by decide) rfl (by rw [hml]; rfl) (lenOf own_pd6 rfl) rfl (by show 2 * 0 + _ ≤ _; exact Nat.le_of_eq rfl) (hb hby at_36) ?_
    rintro T14 L14 _ X14 ⟨rfl, N14q, Kq14, Eq14, c14, g_c14, szq14, Fv14, Fc14, Vq14⟩
    have N14 := Fr.app N12 N14q
    show own_Wp _ _ _ _ (T14.setTop (mkF m 39 #[iv p1, iv p2, iv p3, iv (1 : Int32), rv b10, uu, uu, uu, uu] [(.ref b13)]))
    replace Zs := Nat.le_trans Zs Kq14.1
    replace SW := SW.mono Kq14.1
    replace O := O.keep Kq14 (allS g_b13 all0)
    replace V_b10 := V_b10.keep Kq14 (ninS ne_b10_b13 nin0)
    replace E_b13 := E_b13.keep Kq14
    replace E_b13 := Eq14
    have F_value_b13 := Fv14
    have F_coder_b13 := Fc14
    have V_c14 := Vq14
    have ne_b13_c14 : b13 ≠ c14 := Nat.ne_of_lt (Nat.lt_of_lt_of_le lt14 szq14)
    refine own_of (fun tgt kon => XS.astore X14.here hx rfl (hb hby at_39) rfl rfl (l' := #[iv p1, iv p2, iv p3, iv (1 : Int32), rv b10, rv b13, uu, uu, uu]) rfl kon) ?_
    refine own_of (fun tgt kon => XS.iloadN X14.here hx rfl (hb hby at_41) rfl kon) ?_
    refine own_of (X14.ldcInt hx hown (mvT hZ (ow hw 30 rfl)) (g := (mkF m 42 #[iv p1, iv p2, iv p3, iv (1 : Int32), rv b10, rv b13, uu, uu, uu] [(.int p3)])) rfl (hb hby at_42)) ?_
    refine own_of (fun tgt kon => XS.iand X14.here hx rfl (hb hby at_44) rfl kon) ?_
    refine own_of (fun tgt kon => XS.istore X14.here hx rfl (hb hby at_45) rfl (l' := #[iv p1, iv p2, iv p3, iv (1 : Int32), rv b10, rv b13, iv (p3 &&& (2147483647 : Int32)), uu, uu]) rfl kon) ?_
    show own_Wp _ _ _ _ (T14.setTop (mkF m 47 #[iv p1, iv p2, iv p3, iv (1 : Int32), rv b10, rv b13, iv (p3 &&& (2147483647 : Int32)), uu, uu] []))
    refine own_of (fun tgt kon => XS.iload X14.here hx rfl (hb hby at_47) rfl kon) ?_
    show own_Wp _ _ _ _ (T14.setTop (mkF m 49 #[iv p1, iv p2, iv p3, iv (1 : Int32), rv b10, rv b13, iv (p3 &&& (2147483647 : Int32)), uu, uu] [(.int (p3 &&& (2147483647 : Int32)))]))
    have J55 : ∀ (vt : Int32), (¬ vt < 1) → own_Wp p.tables e below (own_KW room_1 s below (Q_rm0 Z p1 p2 p3 o0 o1 o2 o3 cz h0 n0)) (T14.setTop (mkF m 55 #[iv p1, iv p2, iv p3, iv (1 : Int32), rv b10, rv b13, iv vt, uu, uu] [])) := by
      intro vt hv
      refine own_of (fun tgt kon => XS.iloadN X14.here hx rfl (hb hby at_55) rfl kon) ?_
      have hc56 : ¬ ((1 : Int32) = (0 : Int32)) := by decide
      refine own_of (fun tgt kon => XS.ifYes X14.here hx rfl (pc0 := 56) (pc' := 76) rfl (hb hby at_56) rfl ((if0 _ _).trans (feq hc56).2) (by decide) (by decide) kon) ?_
      refine own_of (fun tgt kon => XS.iloadN X14.here hx rfl (hb hby at_76) rfl kon) ?_
      refine own_of (fun tgt kon => XS.iconst X14.here hx rfl (hb hby at_77) kon) ?_
      have hc78 : (1 : Int32) = (1 : Int32) := by decide
      refine own_of (fun tgt kon => XS.icmpNo X14.here hx rfl (hb hby at_78) rfl (teq hc78).2 kon) ?_
      obtain ⟨T15, h15, X15, e15, E15, A15, D15, -, st15⟩ := newO X14 hx hZ hown (ow hw 31 rfl) (ow hw 32 rfl) (ow hw 33 rfl) rfl (g := (mkF m 81 #[iv p1, iv p2, iv p3, iv (1 : Int32), rv b10, rv b13, iv vt, uu, uu] [])) rfl (hb hby at_81) (by decide) (by decide)
      refine own_of st15 ?_
      clear st15
      obtain ⟨b15, gq15⟩ : ∃ z, z = T14.heap.size := ⟨_, rfl⟩
      rw [← gq15] at A15 D15 ⊢
      have ne_b10_b15 : b10 ≠ b15 := Nat.ne_of_lt (Nat.lt_of_lt_of_le V_b10.lt (Nat.le_of_eq gq15.symm))
      have ne_b13_b15 : b13 ≠ b15 := Nat.ne_of_lt (Nat.lt_of_lt_of_le E_b13.lt (Nat.le_of_eq gq15.symm))
      have ne_c14_b15 : c14 ≠ b15 := Nat.ne_of_lt (Nat.lt_of_lt_of_le V_c14.lt (Nat.le_of_eq gq15.symm))
      have g_b15 : n0 ≤ b15 := Nat.le_trans Zs (Nat.le_of_eq gq15.symm)
      replace Zs := Nat.le_trans Zs E15.1
      replace SW := SW.ext E15
      replace O := O.ext E15
      replace V_b10 := V_b10.ext E15
      replace E_b13 := E_b13.ext E15
      replace F_value_b13 := F_value_b13.ext E15
      replace F_coder_b13 := F_coder_b13.ext E15
      replace V_c14 := V_c14.ext E15
      have E_b15 := A15
      have F_kind_b15 : Fld Z h15 b15 "com/example/iota_flow/iotaflow/definition/Merge" "kind" "Lcom/example/iota_flow/iotaflow/definition/Merge$Kind;" .null := D15 (Or.inr (ow hw 58 rfl)) (ty := (.object "com/example/iota_flow/iotaflow/definition/Merge$Kind")) (by decide)
      have F_flag_b15 : Fld Z h15 b15 "com/example/iota_flow/iotaflow/definition/Merge" "flag" "Ljava/lang/String;" .null := D15 (Or.inr (ow hw 60 rfl)) (ty := (.object "java/lang/String")) (by decide)
      have F_votes_b15 : Fld Z h15 b15 "com/example/iota_flow/iotaflow/definition/Merge" "votes" "I" (.int (0 : Int32)) := D15 (Or.inr (ow hw 62 rfl)) (ty := .int) (by decide)
      show own_Wp _ _ _ _ (T15.setTop (mkF m 84 #[iv p1, iv p2, iv p3, iv (1 : Int32), rv b10, rv b13, iv vt, uu, uu] [(.ref b15)]))
      refine own_of (fun tgt kon => XS.dup X15.here hx rfl (hb hby at_84) rfl rfl kon) ?_
      obtain ⟨T16, X16, e16, st16⟩ := getS2 X15 hx hZ hown (host := "") (Or.inl (ow hw 69 rfl)) Via.refl e15 (S1.ext O.2) (g := (mkF m 85 #[iv p1, iv p2, iv p3, iv (1 : Int32), rv b10, rv b13, iv vt, uu, uu] [(.ref b15), (.ref b15)])) rfl (hb hby at_85)
      refine own_of st16 ?_
      clear st16
      refine own_of (fun tgt kon => XS.aconstNull X16.here hx rfl (hb hby at_88) kon) ?_
      refine own_of (fun tgt kon => XS.iconst X16.here hx rfl (hb hby at_89) kon) ?_
      refine own_callIW X16 SW hx hZ (y := (⟨"com/example/iota_flow/iotaflow/definition/Merge", "<init>", "(Lcom/example/iota_flow/iotaflow/definition/Merge$Kind;Ljava/lang/String;I)V"⟩ : MethodName)) (a := b15) (argsL := [(.ref o1), .null, (.int (1 : Int32))]) (rest := [(.ref b15)]) (W := 1) rfl hown (ow hw 37 rfl) (ow hw 38 rfl) (ow hw 33 rfl) (ow hw 39 rfl) (by decide) e16 (rmmg1 l Z a0 hw [] b15 o0 o1 o2 o3  h15 n0 Zs O E_b15 _ _ _ F_kind_b15 F_flag_b15 F_votes_b15 g_b15 S0 S1 S2 S3 ne01 ne02 ne03 ne12 ne13 ne23) (by decide) (by decide) (by decide) (by decide) rfl (by rw [hml]; rfl) (lenOf own_pd7 rfl) rfl (by show 2 * 0 + _ ≤ _; exact Nat.le_of_eq rfl) (hb hby at_90) ?_
      clear hZ hown
      rintro sv17 T17 L17 _ X17 SWq17 hZ hown ⟨rfl, N17q, Kq17, Eq17, F17_kind, F17_flag, F17_votes⟩
      have N17 := Fr.app N14 N17q
      show own_Wp _ _ _ _ (T17.setTop (mkF m 93 #[iv p1, iv p2, iv p3, iv (1 : Int32), rv b10, rv b13, iv vt, uu, uu] [(.ref b15)]))
      replace Zs := Nat.le_trans Zs Kq17.1
      replace O := O.keep Kq17 (allS g_b15 all0)
      replace V_b10 := V_b10.keep Kq17 (ninS ne_b10_b15 nin0)
      replace E_b13 := E_b13.keep Kq17
      replace F_value_b13 := F_value_b13.keep Kq17 (ninS ne_b13_b15 nin0)
      replace F_coder_b13 := F_coder_b13.keep Kq17 (ninS ne_b13_b15 nin0)
      replace V_c14 := V_c14.keep Kq17 (ninS ne_c14_b15 nin0)
      replace E_b15 := E_b15.keep Kq17
      replace E_b15 := Eq17
      have F_kind_b15 := F17_kind
      have F_flag_b15 := F17_flag
      have F_votes_b15 := F17_votes
      replace SW := SWq17
      refine own_of (fun tgt kon => XS.astore X17.here hx rfl (hb hby at_93) rfl rfl (l' := #[iv p1, iv p2, iv p3, iv (1 : Int32), rv b10, rv b13, iv vt, rv b15, uu]) rfl kon) ?_
      refine own_of (fun tgt kon => XS.goto X17.here hx rfl (pc0 := 95) (pc' := 136) rfl (hb hby at_95) (by decide) (by decide) kon) ?_
      refine own_of (fun tgt kon => XS.iloadN X17.here hx rfl (hb hby at_136) rfl kon) ?_
      have hc137 : ¬ ((1 : Int32) = (0 : Int32)) := by decide
      refine own_of (fun tgt kon => XS.ifNo X17.here hx rfl (hb hby at_137) rfl ((if0 _ _).trans (feq hc137).1) kon) ?_
      refine own_of (fun tgt kon => XS.iconst X17.here hx rfl (hb hby at_140) kon) ?_
      show own_Wp _ _ _ _ (T17.setTop (mkF m 141 #[iv p1, iv p2, iv p3, iv (1 : Int32), rv b10, rv b13, iv vt, rv b15, uu] [(.int (1 : Int32))]))
      refine own_of (fun tgt kon => XS.goto X17.here hx rfl (pc0 := 141) (pc' := 145) rfl (hb hby at_141) (by decide) (by decide) kon) ?_
      refine own_of (fun tgt kon => XS.istore X17.here hx rfl (hb hby at_145) rfl (l' := #[iv p1, iv p2, iv p3, iv (1 : Int32), rv b10, rv b13, iv vt, rv b15, iv (1 : Int32)]) rfl kon) ?_
      refine own_of (fun tgt kon => XS.aload X17.here hx rfl (hb hby at_147) rfl rfl kon) ?_
      refine own_callV X17 hx hZ (C := "com/example/iota_flow/iotaflow/definition/Merge") (y := (⟨"com/example/iota_flow/iotaflow/definition/Merge", "once", "()Z"⟩ : MethodName)) (a := b15) (argsL := []) (rest := []) (W := 0) hown (ow hw 63 rfl) (ow hw 64 rfl) (ow hw 66 rfl) (ow hw 65 rfl) (ow hw 33 rfl) (ow hw 67 rfl) (by decide) rfl E_b15 (rmon l Z a0 hw [] b15 o1 o0 (1 : Int32) T17.heap n0 Zs F_kind_b15 (S0.ext O.2) (fun q => absurd q.symm ne01) (fun _ => rfl)) (by decide) (by decide) (by decide) (by decide) rfl (by rw [hml]; rfl) (lenOf own_pd8 rfl) rfl (by show 2 * 0 + _ ≤ _; exact Nat.le_of_eq rfl) (hb hby at_149) ?_
      rintro T18 L18 _ X18 ⟨rfl, N18q, e18⟩
      have N18 := Fr.app N17 N18q
      show own_Wp _ _ _ _ (T18.setTop (mkF m 152 #[iv p1, iv p2, iv p3, iv (1 : Int32), rv b10, rv b13, iv vt, rv b15, iv (1 : Int32)] [(.int (1 : Int32))]))
      refine own_of (fun tgt kon => XS.iload X18.here hx rfl (hb hby at_152) rfl kon) ?_
      have hc154 : (1 : Int32) = (1 : Int32) := rfl
      refine own_of (fun tgt kon => XS.icmpNo X18.here hx rfl (hb hby at_154) rfl (teq hc154).2 kon) ?_
      refine own_of (fun tgt kon => XS.iconst X18.here hx rfl (hb hby at_157) kon) ?_
      refine own_of (fun tgt kon => XS.goto X18.here hx rfl (pc0 := 158) (pc' := 162) rfl (hb hby at_158) (by decide) (by decide) kon) ?_
      show own_Wp _ _ _ _ (T18.setTop (mkF m 162 #[iv p1, iv p2, iv p3, iv (1 : Int32), rv b10, rv b13, iv vt, rv b15, iv (1 : Int32)] [(.int (1 : Int32))]))
      refine own_retW X18 (by rw [e18]; exact SW) hlk (some (.int (1 : Int32))) (own_rtI hrt) (fun fs hr => retN X18 hx (t := .boolean) hrt (by simp) (hb hby at_162) hr) ?_ (by decide) (by decide)
      rw [e18]
      exact ⟨rfl, N18⟩
    show own_Wp _ _ _ _ (T14.setTop (mkF m 49 #[iv p1, iv p2, iv p3, iv (1 : Int32), rv b10, rv b13, iv (p3 &&& (2147483647 : Int32)), uu, uu] [(.int (p3 &&& (2147483647 : Int32)))]))
    by_cases hc49 : (p3 &&& (2147483647 : Int32)) = (0 : Int32)
    · skip
      refine own_of (fun tgt kon => XS.ifNo X14.here hx rfl (hb hby at_49) rfl ((if0 _ _).trans (teq hc49).2) kon) ?_
      refine own_of (fun tgt kon => XS.iconst X14.here hx rfl (hb hby at_52) kon) ?_
      refine own_of (fun tgt kon => XS.istore X14.here hx rfl (hb hby at_53) rfl (l' := #[iv p1, iv p2, iv p3, iv (1 : Int32), rv b10, rv b13, iv (1 : Int32), uu, uu]) rfl kon) ?_
      show own_Wp _ _ _ _ (T14.setTop (mkF m 55 #[iv p1, iv p2, iv p3, iv (1 : Int32), rv b10, rv b13, iv (1 : Int32), uu, uu] []))
      exact J55 ((1 : Int32)) (by decide)
    · skip
      refine own_of (fun tgt kon => XS.ifYes X14.here hx rfl (pc0 := 49) (pc' := 55) rfl (hb hby at_49) rfl ((if0 _ _).trans (feq hc49).2) (by decide) (by decide) kon) ?_
      show own_Wp _ _ _ _ (T14.setTop (mkF m 55 #[iv p1, iv p2, iv p3, iv (1 : Int32), rv b10, rv b13, iv (p3 &&& (2147483647 : Int32)), uu, uu] []))
      exact J55 ((p3 &&& (2147483647 : Int32))) (by exact own_vt hc49)
  · skip
    show own_Wp _ _ _ _ (s₁.setTop (mkF m 4 #[iv p1, iv p2, iv p3, iv (2 : Int32), uu, uu, uu, uu, uu] []))
    refine own_of (fun tgt kon => XS.iconst X0.here hx rfl (hb hby at_4) kon) ?_
    obtain ⟨T19, h19, k19, X19, e19, E19, A19, st19⟩ := newP X0 hx hZ (ow hw 0 rfl) e0 (g := (mkF m 5 #[iv p1, iv p2, iv p3, iv (2 : Int32), uu, uu, uu, uu, uu] [(.int (2 : Int32))])) rfl (hb hby at_5) rfl (by decide) (cap := 2) (by decide) (by decide) (by decide) (by decide)
    refine own_of st19 ?_
    clear st19
    obtain ⟨b19, gq19⟩ : ∃ z, z = h0.size := ⟨_, rfl⟩
    rw [← gq19] at A19 ⊢
    have g_b19 : n0 ≤ b19 := Nat.le_trans Zs (Nat.le_of_eq gq19.symm)
    replace Zs := Nat.le_trans Zs E19.1
    replace SW := SW.ext E19
    replace O := O.ext E19
    have V_b19 : own_Ar Z h19 b19 .char 2 (fun _ => (.int (0 : Int32))) := own_Ar.new A19 (by decide) rfl
    refine own_of (fun tgt kon => XS.dup X19.here hx rfl (hb hby at_7) rfl rfl kon) ?_
    refine own_of (fun tgt kon => XS.iconst X19.here hx rfl (hb hby at_8) kon) ?_
    refine own_of (fun tgt kon => XS.iloadN X19.here hx rfl (hb hby at_9) rfl kon) ?_
    show own_Wp _ _ _ _ (T19.setTop (mkF m 10 #[iv p1, iv p2, iv p3, iv (2 : Int32), uu, uu, uu, uu, uu] [(.int p2), (.int (0 : Int32)), (.ref b19), (.ref b19)]))
    refine own_of (fun tgt kon => XS.sipush X19.here hx rfl (hb hby at_10) kon) ?_
    refine own_of (fun tgt kon => XS.iand X19.here hx rfl (hb hby at_13) rfl kon) ?_
    refine own_of (fun tgt kon => XS.i2c X19.here hx rfl (hb hby at_14) rfl kon) ?_
    obtain ⟨T20, h20, X20, e20, W20, Aq20, st20⟩ := own_stC X19 hx hZ e19 V_b19 (j := (0 : Int32)) (i := 0) (x := ((p2 &&& (255 : Int32)).toUInt32.toUInt16.toUInt32.toInt32)) (by decide) (by decide) (g := (mkF m 15 #[iv p1, iv p2, iv p3, iv (2 : Int32), uu, uu, uu, uu, uu] [(.int ((p2 &&& (255 : Int32)).toUInt32.toUInt16.toUInt32.toInt32)), (.int (0 : Int32)), (.ref b19), (.ref b19)])) rfl rfl (hb hby at_15)
    refine own_of st20 ?_
    clear st20
    replace Zs := Nat.le_trans Zs (Keep.of_wr W20).1
    replace SW := SW.mono (Keep.of_wr W20).1
    replace O := O.wr W20 g_b19
    replace V_b19 := Aq20
    clear Aq20
    have N20 := Fr.snoc X20 N0 g_b19
    refine own_of (fun tgt kon => XS.dup X20.here hx rfl (hb hby at_16) rfl rfl kon) ?_
    show own_Wp _ _ _ _ (T20.setTop (mkF m 17 #[iv p1, iv p2, iv p3, iv (2 : Int32), uu, uu, uu, uu, uu] [(.ref b19), (.ref b19)]))
    refine own_of (fun tgt kon => XS.iconst X20.here hx rfl (hb hby at_17) kon) ?_
    refine own_of (fun tgt kon => XS.iloadN X20.here hx rfl (hb hby at_18) rfl kon) ?_
    refine own_of (fun tgt kon => XS.bipush X20.here hx rfl (hb hby at_19) kon) ?_
    refine own_of (fun tgt kon => XS.iushr X20.here hx rfl (hb hby at_21) rfl kon) ?_
    refine own_of (fun tgt kon => XS.sipush X20.here hx rfl (hb hby at_22) kon) ?_
    show own_Wp _ _ _ _ (T20.setTop (mkF m 25 #[iv p1, iv p2, iv p3, iv (2 : Int32), uu, uu, uu, uu, uu] [(.int (255 : Int32)), (.int ((p2.toUInt32 >>> ((8 : Int32) &&& 31).toUInt32).toInt32)), (.int (1 : Int32)), (.ref b19), (.ref b19)]))
    refine own_of (fun tgt kon => XS.iand X20.here hx rfl (hb hby at_25) rfl kon) ?_
    refine own_of (fun tgt kon => XS.i2c X20.here hx rfl (hb hby at_26) rfl kon) ?_
    obtain ⟨T21, h21, X21, e21, W21, Aq21, st21⟩ := own_stC X20 hx hZ e20 V_b19 (j := (1 : Int32)) (i := 1) (x := ((((p2.toUInt32 >>> ((8 : Int32) &&& 31).toUInt32).toInt32) &&& (255 : Int32)).toUInt32.toUInt16.toUInt32.toInt32)) (by decide) (by decide) (g := (mkF m 27 #[iv p1, iv p2, iv p3, iv (2 : Int32), uu, uu, uu, uu, uu] [(.int ((((p2.toUInt32 >>> ((8 : Int32) &&& 31).toUInt32).toInt32) &&& (255 : Int32)).toUInt32.toUInt16.toUInt32.toInt32)), (.int (1 : Int32)), (.ref b19), (.ref b19)])) rfl rfl (hb hby at_27)
    refine own_of st21 ?_
    clear st21
    replace Zs := Nat.le_trans Zs (Keep.of_wr W21).1
    replace SW := SW.mono (Keep.of_wr W21).1
    replace O := O.wr W21 g_b19
    replace V_b19 := Aq21
    clear Aq21
    have N21 := Fr.snoc X21 N20 g_b19
    show own_Wp _ _ _ _ (T21.setTop (mkF m 28 #[iv p1, iv p2, iv p3, iv (2 : Int32), uu, uu, uu, uu, uu] [(.ref b19)]))
    replace V_b19 := V_b19.fn (f' := fun k => .int ((own_tx2 (p2 &&& (255 : Int32)) (((p2.toUInt32 >>> ((8 : Int32) &&& 31).toUInt32).toInt32) &&& (255 : Int32))) k)) (by intro k hk; rcases k with _ | _ | k; exact congrArg Value.int (own_nc _); exact congrArg Value.int (own_nc _); omega)
    have hcs : ∀ k, k < 2 → ¬ (255 : Int32) < (own_tx2 (p2 &&& (255 : Int32)) (((p2.toUInt32 >>> ((8 : Int32) &&& 31).toUInt32).toInt32) &&& (255 : Int32))) k := by intro k hk; rcases k with _ | _ | k; exact own_c255 _; exact own_c255 _; omega
    refine own_of (fun tgt kon => XS.astore X21.here hx rfl (hb hby at_28) rfl rfl (l' := #[iv p1, iv p2, iv p3, iv (2 : Int32), rv b19, uu, uu, uu, uu]) rfl kon) ?_
    obtain ⟨T22, h22, X22, e22, E22, A22, D22, -, st22⟩ := newO X21 hx hZ hown (ow hw 1 rfl) (ow hw 2 rfl) (ow hw 3 rfl) e21 (g := (mkF m 30 #[iv p1, iv p2, iv p3, iv (2 : Int32), rv b19, uu, uu, uu, uu] [])) rfl (hb hby at_30) (by decide) (by decide)
    refine own_of st22 ?_
    clear st22
    obtain ⟨b22, gq22⟩ : ∃ z, z = h21.size := ⟨_, rfl⟩
    rw [← gq22] at A22 D22 ⊢
    have ne_b19_b22 : b19 ≠ b22 := Nat.ne_of_lt (Nat.lt_of_lt_of_le V_b19.lt (Nat.le_of_eq gq22.symm))
    have g_b22 : n0 ≤ b22 := Nat.le_trans Zs (Nat.le_of_eq gq22.symm)
    replace Zs := Nat.le_trans Zs E22.1
    replace SW := SW.ext E22
    replace O := O.ext E22
    replace V_b19 := V_b19.ext E22
    have E_b22 := A22
    have F_coder_b22 : Fld Z h22 b22 "java/lang/String" "coder" "B" (.int (0 : Int32)) := D22 (Or.inr (ow hw 27 rfl)) (ty := .byte) (by decide)
    have F_value_b22 : Fld Z h22 b22 "java/lang/String" "value" "[B" .null := D22 (Or.inr (ow hw 29 rfl)) (ty := (.array .byte)) (by decide)
    refine own_of (fun tgt kon => XS.dup X22.here hx rfl (hb hby at_33) rfl rfl kon) ?_
    refine own_of (fun tgt kon => XS.aload X22.here hx rfl (hb hby at_34) rfl rfl kon) ?_
    have lt23 := E_b22.lt
    refine own_callI X22 hx hZ (y := (⟨"java/lang/String", "<init>", "([C)V"⟩ : MethodName)) (a := b22) (argsL := [(.ref b19)]) (rest := [(.ref b22)]) (W := 1) rfl hown (ow hw 4 rfl) (ow hw 5 rfl) (ow hw 3 rfl) (ow hw 6 rfl) (by decide) e22 (rms2 l Z a0 hw [] b22 b19 (own_tx2 (p2 &&& (255 : Int32)) (((p2.toUInt32 >>> ((8 : Int32) &&& 31).toUInt32).toInt32) &&& (255 : Int32))) cz h22 n0 Zs E_b22 _ _ F_value_b22 F_coder_b22 V_b19 g_b22 (Ne.symm ne_b19_b22) hcs (S_C.ext O.2) hcz) (by decide) (by decide) (by decide) (by decide) rfl (by rw [hml]; rfl) (lenOf own_pd6 rfl) rfl (by show 2 * 0 + _ ≤ _; exact Nat.le_of_eq rfl) (hb hby at_36) ?_
    rintro T23 L23 _ X23 ⟨rfl, N23q, Kq23, Eq23, c23, g_c23, szq23, Fv23, Fc23, Vq23⟩
    have N23 := Fr.app N21 N23q
    show own_Wp _ _ _ _ (T23.setTop (mkF m 39 #[iv p1, iv p2, iv p3, iv (2 : Int32), rv b19, uu, uu, uu, uu] [(.ref b22)]))
    replace Zs := Nat.le_trans Zs Kq23.1
    replace SW := SW.mono Kq23.1
    replace O := O.keep Kq23 (allS g_b22 all0)
    replace V_b19 := V_b19.keep Kq23 (ninS ne_b19_b22 nin0)
    replace E_b22 := E_b22.keep Kq23
    replace E_b22 := Eq23
    have F_value_b22 := Fv23
    have F_coder_b22 := Fc23
    have V_c23 := Vq23
    have ne_b22_c23 : b22 ≠ c23 := Nat.ne_of_lt (Nat.lt_of_lt_of_le lt23 szq23)
    refine own_of (fun tgt kon => XS.astore X23.here hx rfl (hb hby at_39) rfl rfl (l' := #[iv p1, iv p2, iv p3, iv (2 : Int32), rv b19, rv b22, uu, uu, uu]) rfl kon) ?_
    refine own_of (fun tgt kon => XS.iloadN X23.here hx rfl (hb hby at_41) rfl kon) ?_
    refine own_of (X23.ldcInt hx hown (mvT hZ (ow hw 30 rfl)) (g := (mkF m 42 #[iv p1, iv p2, iv p3, iv (2 : Int32), rv b19, rv b22, uu, uu, uu] [(.int p3)])) rfl (hb hby at_42)) ?_
    refine own_of (fun tgt kon => XS.iand X23.here hx rfl (hb hby at_44) rfl kon) ?_
    refine own_of (fun tgt kon => XS.istore X23.here hx rfl (hb hby at_45) rfl (l' := #[iv p1, iv p2, iv p3, iv (2 : Int32), rv b19, rv b22, iv (p3 &&& (2147483647 : Int32)), uu, uu]) rfl kon) ?_
    show own_Wp _ _ _ _ (T23.setTop (mkF m 47 #[iv p1, iv p2, iv p3, iv (2 : Int32), rv b19, rv b22, iv (p3 &&& (2147483647 : Int32)), uu, uu] []))
    refine own_of (fun tgt kon => XS.iload X23.here hx rfl (hb hby at_47) rfl kon) ?_
    show own_Wp _ _ _ _ (T23.setTop (mkF m 49 #[iv p1, iv p2, iv p3, iv (2 : Int32), rv b19, rv b22, iv (p3 &&& (2147483647 : Int32)), uu, uu] [(.int (p3 &&& (2147483647 : Int32)))]))
    have J55 : ∀ (vt : Int32), (¬ vt < 1) → own_Wp p.tables e below (own_KW room_1 s below (Q_rm0 Z p1 p2 p3 o0 o1 o2 o3 cz h0 n0)) (T23.setTop (mkF m 55 #[iv p1, iv p2, iv p3, iv (2 : Int32), rv b19, rv b22, iv vt, uu, uu] [])) := by
      intro vt hv
      refine own_of (fun tgt kon => XS.iloadN X23.here hx rfl (hb hby at_55) rfl kon) ?_
      have hc56 : ¬ ((2 : Int32) = (0 : Int32)) := by decide
      refine own_of (fun tgt kon => XS.ifYes X23.here hx rfl (pc0 := 56) (pc' := 76) rfl (hb hby at_56) rfl ((if0 _ _).trans (feq hc56).2) (by decide) (by decide) kon) ?_
      refine own_of (fun tgt kon => XS.iloadN X23.here hx rfl (hb hby at_76) rfl kon) ?_
      refine own_of (fun tgt kon => XS.iconst X23.here hx rfl (hb hby at_77) kon) ?_
      have hc78 : ¬ ((2 : Int32) = (1 : Int32)) := by decide
      refine own_of (fun tgt kon => XS.icmpYes X23.here hx rfl (pc0 := 78) (pc' := 98) rfl (hb hby at_78) rfl (feq hc78).2 (by decide) (by decide) kon) ?_
      refine own_of (fun tgt kon => XS.iloadN X23.here hx rfl (hb hby at_98) rfl kon) ?_
      show own_Wp _ _ _ _ (T23.setTop (mkF m 99 #[iv p1, iv p2, iv p3, iv (2 : Int32), rv b19, rv b22, iv vt, uu, uu] [(.int (2 : Int32))]))
      refine own_of (fun tgt kon => XS.iconst X23.here hx rfl (hb hby at_99) kon) ?_
      have hc100 : (2 : Int32) = (2 : Int32) := by decide
      refine own_of (fun tgt kon => XS.icmpNo X23.here hx rfl (hb hby at_100) rfl (teq hc100).2 kon) ?_
      obtain ⟨T24, h24, X24, e24, E24, A24, D24, -, st24⟩ := newO X23 hx hZ hown (ow hw 31 rfl) (ow hw 32 rfl) (ow hw 33 rfl) rfl (g := (mkF m 103 #[iv p1, iv p2, iv p3, iv (2 : Int32), rv b19, rv b22, iv vt, uu, uu] [])) rfl (hb hby at_103) (by decide) (by decide)
      refine own_of st24 ?_
      clear st24
      obtain ⟨b24, gq24⟩ : ∃ z, z = T23.heap.size := ⟨_, rfl⟩
      rw [← gq24] at A24 D24 ⊢
      have ne_b19_b24 : b19 ≠ b24 := Nat.ne_of_lt (Nat.lt_of_lt_of_le V_b19.lt (Nat.le_of_eq gq24.symm))
      have ne_b22_b24 : b22 ≠ b24 := Nat.ne_of_lt (Nat.lt_of_lt_of_le E_b22.lt (Nat.le_of_eq gq24.symm))
      have ne_c23_b24 : c23 ≠ b24 := Nat.ne_of_lt (Nat.lt_of_lt_of_le V_c23.lt (Nat.le_of_eq gq24.symm))
      have g_b24 : n0 ≤ b24 := Nat.le_trans Zs (Nat.le_of_eq gq24.symm)
      replace Zs := Nat.le_trans Zs E24.1
      replace SW := SW.ext E24
      replace O := O.ext E24
      replace V_b19 := V_b19.ext E24
      replace E_b22 := E_b22.ext E24
      replace F_value_b22 := F_value_b22.ext E24
      replace F_coder_b22 := F_coder_b22.ext E24
      replace V_c23 := V_c23.ext E24
      have E_b24 := A24
      have F_kind_b24 : Fld Z h24 b24 "com/example/iota_flow/iotaflow/definition/Merge" "kind" "Lcom/example/iota_flow/iotaflow/definition/Merge$Kind;" .null := D24 (Or.inr (ow hw 58 rfl)) (ty := (.object "com/example/iota_flow/iotaflow/definition/Merge$Kind")) (by decide)
      have F_flag_b24 : Fld Z h24 b24 "com/example/iota_flow/iotaflow/definition/Merge" "flag" "Ljava/lang/String;" .null := D24 (Or.inr (ow hw 60 rfl)) (ty := (.object "java/lang/String")) (by decide)
      have F_votes_b24 : Fld Z h24 b24 "com/example/iota_flow/iotaflow/definition/Merge" "votes" "I" (.int (0 : Int32)) := D24 (Or.inr (ow hw 62 rfl)) (ty := .int) (by decide)
      refine own_of (fun tgt kon => XS.dup X24.here hx rfl (hb hby at_106) rfl rfl kon) ?_
      obtain ⟨T25, X25, e25, st25⟩ := getS2 X24 hx hZ hown (host := "") (Or.inl (ow hw 72 rfl)) Via.refl e24 (S2.ext O.2) (g := (mkF m 107 #[iv p1, iv p2, iv p3, iv (2 : Int32), rv b19, rv b22, iv vt, uu, uu] [(.ref b24), (.ref b24)])) rfl (hb hby at_107)
      refine own_of st25 ?_
      clear st25
      show own_Wp _ _ _ _ (T25.setTop (mkF m 110 #[iv p1, iv p2, iv p3, iv (2 : Int32), rv b19, rv b22, iv vt, uu, uu] [(.ref o2), (.ref b24), (.ref b24)]))
      refine own_of (fun tgt kon => XS.aload X25.here hx rfl (hb hby at_110) rfl rfl kon) ?_
      refine own_of (fun tgt kon => XS.iconst X25.here hx rfl (hb hby at_112) kon) ?_
      refine own_callIW X25 SW hx hZ (y := (⟨"com/example/iota_flow/iotaflow/definition/Merge", "<init>", "(Lcom/example/iota_flow/iotaflow/definition/Merge$Kind;Ljava/lang/String;I)V"⟩ : MethodName)) (a := b24) (argsL := [(.ref o2), (.ref b22), (.int (1 : Int32))]) (rest := [(.ref b24)]) (W := 1) rfl hown (ow hw 37 rfl) (ow hw 38 rfl) (ow hw 33 rfl) (ow hw 39 rfl) (by decide) e25 (rmmg2 l Z a0 hw [] b24 o0 o1 o2 o3 b22 h24 n0 Zs O E_b24 _ _ _ F_kind_b24 F_flag_b24 F_votes_b24 g_b24 S0 S1 S2 S3 ne01 ne02 ne03 ne12 ne13 ne23) (by decide) (by decide) (by decide) (by decide) rfl (by rw [hml]; rfl) (lenOf own_pd7 rfl) rfl (by show 2 * 0 + _ ≤ _; exact Nat.le_of_eq rfl) (hb hby at_113) ?_
      clear hZ hown
      rintro sv26 T26 L26 _ X26 SWq26 hZ hown ⟨rfl, N26q, Kq26, Eq26, F26_kind, F26_flag, F26_votes⟩
      have N26 := Fr.app N23 N26q
      show own_Wp _ _ _ _ (T26.setTop (mkF m 116 #[iv p1, iv p2, iv p3, iv (2 : Int32), rv b19, rv b22, iv vt, uu, uu] [(.ref b24)]))
      replace Zs := Nat.le_trans Zs Kq26.1
      replace O := O.keep Kq26 (allS g_b24 all0)
      replace V_b19 := V_b19.keep Kq26 (ninS ne_b19_b24 nin0)
      replace E_b22 := E_b22.keep Kq26
      replace F_value_b22 := F_value_b22.keep Kq26 (ninS ne_b22_b24 nin0)
      replace F_coder_b22 := F_coder_b22.keep Kq26 (ninS ne_b22_b24 nin0)
      replace V_c23 := V_c23.keep Kq26 (ninS ne_c23_b24 nin0)
      replace E_b24 := E_b24.keep Kq26
      replace E_b24 := Eq26
      have F_kind_b24 := F26_kind
      have F_flag_b24 := F26_flag
      have F_votes_b24 := F26_votes
      replace SW := SWq26
      refine own_of (fun tgt kon => XS.astore X26.here hx rfl (hb hby at_116) rfl rfl (l' := #[iv p1, iv p2, iv p3, iv (2 : Int32), rv b19, rv b22, iv vt, rv b24, uu]) rfl kon) ?_
      refine own_of (fun tgt kon => XS.goto X26.here hx rfl (pc0 := 118) (pc' := 136) rfl (hb hby at_118) (by decide) (by decide) kon) ?_
      refine own_of (fun tgt kon => XS.iloadN X26.here hx rfl (hb hby at_136) rfl kon) ?_
      have hc137 : ¬ ((2 : Int32) = (0 : Int32)) := by decide
      refine own_of (fun tgt kon => XS.ifNo X26.here hx rfl (hb hby at_137) rfl ((if0 _ _).trans (feq hc137).1) kon) ?_
      refine own_of (fun tgt kon => XS.iconst X26.here hx rfl (hb hby at_140) kon) ?_
      show own_Wp _ _ _ _ (T26.setTop (mkF m 141 #[iv p1, iv p2, iv p3, iv (2 : Int32), rv b19, rv b22, iv vt, rv b24, uu] [(.int (1 : Int32))]))
      refine own_of (fun tgt kon => XS.goto X26.here hx rfl (pc0 := 141) (pc' := 145) rfl (hb hby at_141) (by decide) (by decide) kon) ?_
      refine own_of (fun tgt kon => XS.istore X26.here hx rfl (hb hby at_145) rfl (l' := #[iv p1, iv p2, iv p3, iv (2 : Int32), rv b19, rv b22, iv vt, rv b24, iv (1 : Int32)]) rfl kon) ?_
      refine own_of (fun tgt kon => XS.aload X26.here hx rfl (hb hby at_147) rfl rfl kon) ?_
      refine own_callV X26 hx hZ (C := "com/example/iota_flow/iotaflow/definition/Merge") (y := (⟨"com/example/iota_flow/iotaflow/definition/Merge", "once", "()Z"⟩ : MethodName)) (a := b24) (argsL := []) (rest := []) (W := 0) hown (ow hw 63 rfl) (ow hw 64 rfl) (ow hw 66 rfl) (ow hw 65 rfl) (ow hw 33 rfl) (ow hw 67 rfl) (by decide) rfl E_b24 (rmon l Z a0 hw [] b24 o2 o0 (1 : Int32) T26.heap n0 Zs F_kind_b24 (S0.ext O.2) (fun q => absurd q.symm ne02) (fun _ => rfl)) (by decide) (by decide) (by decide) (by decide) rfl (by rw [hml]; rfl) (lenOf own_pd8 rfl) rfl (by show 2 * 0 + _ ≤ _; exact Nat.le_of_eq rfl) (hb hby at_149) ?_
      rintro T27 L27 _ X27 ⟨rfl, N27q, e27⟩
      have N27 := Fr.app N26 N27q
      show own_Wp _ _ _ _ (T27.setTop (mkF m 152 #[iv p1, iv p2, iv p3, iv (2 : Int32), rv b19, rv b22, iv vt, rv b24, iv (1 : Int32)] [(.int (1 : Int32))]))
      refine own_of (fun tgt kon => XS.iload X27.here hx rfl (hb hby at_152) rfl kon) ?_
      have hc154 : (1 : Int32) = (1 : Int32) := rfl
      refine own_of (fun tgt kon => XS.icmpNo X27.here hx rfl (hb hby at_154) rfl (teq hc154).2 kon) ?_
      refine own_of (fun tgt kon => XS.iconst X27.here hx rfl (hb hby at_157) kon) ?_
      refine own_of (fun tgt kon => XS.goto X27.here hx rfl (pc0 := 158) (pc' := 162) rfl (hb hby at_158) (by decide) (by decide) kon) ?_
      show own_Wp _ _ _ _ (T27.setTop (mkF m 162 #[iv p1, iv p2, iv p3, iv (2 : Int32), rv b19, rv b22, iv vt, rv b24, iv (1 : Int32)] [(.int (1 : Int32))]))
      refine own_retW X27 (by rw [e27]; exact SW) hlk (some (.int (1 : Int32))) (own_rtI hrt) (fun fs hr => retN X27 hx (t := .boolean) hrt (by simp) (hb hby at_162) hr) ?_ (by decide) (by decide)
      rw [e27]
      exact ⟨rfl, N27⟩
    show own_Wp _ _ _ _ (T23.setTop (mkF m 49 #[iv p1, iv p2, iv p3, iv (2 : Int32), rv b19, rv b22, iv (p3 &&& (2147483647 : Int32)), uu, uu] [(.int (p3 &&& (2147483647 : Int32)))]))
    by_cases hc49 : (p3 &&& (2147483647 : Int32)) = (0 : Int32)
    · skip
      refine own_of (fun tgt kon => XS.ifNo X23.here hx rfl (hb hby at_49) rfl ((if0 _ _).trans (teq hc49).2) kon) ?_
      refine own_of (fun tgt kon => XS.iconst X23.here hx rfl (hb hby at_52) kon) ?_
      refine own_of (fun tgt kon => XS.istore X23.here hx rfl (hb hby at_53) rfl (l' := #[iv p1, iv p2, iv p3, iv (2 : Int32), rv b19, rv b22, iv (1 : Int32), uu, uu]) rfl kon) ?_
      show own_Wp _ _ _ _ (T23.setTop (mkF m 55 #[iv p1, iv p2, iv p3, iv (2 : Int32), rv b19, rv b22, iv (1 : Int32), uu, uu] []))
      exact J55 ((1 : Int32)) (by decide)
    · skip
      refine own_of (fun tgt kon => XS.ifYes X23.here hx rfl (pc0 := 49) (pc' := 55) rfl (hb hby at_49) rfl ((if0 _ _).trans (feq hc49).2) (by decide) (by decide) kon) ?_
      show own_Wp _ _ _ _ (T23.setTop (mkF m 55 #[iv p1, iv p2, iv p3, iv (2 : Int32), rv b19, rv b22, iv (p3 &&& (2147483647 : Int32)), uu, uu] []))
      exact J55 ((p3 &&& (2147483647 : Int32))) (by exact own_vt hc49)
  · skip
    show own_Wp _ _ _ _ (s₁.setTop (mkF m 4 #[iv p1, iv p2, iv p3, iv (3 : Int32), uu, uu, uu, uu, uu] []))
    refine own_of (fun tgt kon => XS.iconst X0.here hx rfl (hb hby at_4) kon) ?_
    obtain ⟨T28, h28, k28, X28, e28, E28, A28, st28⟩ := newP X0 hx hZ (ow hw 0 rfl) e0 (g := (mkF m 5 #[iv p1, iv p2, iv p3, iv (3 : Int32), uu, uu, uu, uu, uu] [(.int (2 : Int32))])) rfl (hb hby at_5) rfl (by decide) (cap := 2) (by decide) (by decide) (by decide) (by decide)
    refine own_of st28 ?_
    clear st28
    obtain ⟨b28, gq28⟩ : ∃ z, z = h0.size := ⟨_, rfl⟩
    rw [← gq28] at A28 ⊢
    have g_b28 : n0 ≤ b28 := Nat.le_trans Zs (Nat.le_of_eq gq28.symm)
    replace Zs := Nat.le_trans Zs E28.1
    replace SW := SW.ext E28
    replace O := O.ext E28
    have V_b28 : own_Ar Z h28 b28 .char 2 (fun _ => (.int (0 : Int32))) := own_Ar.new A28 (by decide) rfl
    refine own_of (fun tgt kon => XS.dup X28.here hx rfl (hb hby at_7) rfl rfl kon) ?_
    refine own_of (fun tgt kon => XS.iconst X28.here hx rfl (hb hby at_8) kon) ?_
    refine own_of (fun tgt kon => XS.iloadN X28.here hx rfl (hb hby at_9) rfl kon) ?_
    show own_Wp _ _ _ _ (T28.setTop (mkF m 10 #[iv p1, iv p2, iv p3, iv (3 : Int32), uu, uu, uu, uu, uu] [(.int p2), (.int (0 : Int32)), (.ref b28), (.ref b28)]))
    refine own_of (fun tgt kon => XS.sipush X28.here hx rfl (hb hby at_10) kon) ?_
    refine own_of (fun tgt kon => XS.iand X28.here hx rfl (hb hby at_13) rfl kon) ?_
    refine own_of (fun tgt kon => XS.i2c X28.here hx rfl (hb hby at_14) rfl kon) ?_
    obtain ⟨T29, h29, X29, e29, W29, Aq29, st29⟩ := own_stC X28 hx hZ e28 V_b28 (j := (0 : Int32)) (i := 0) (x := ((p2 &&& (255 : Int32)).toUInt32.toUInt16.toUInt32.toInt32)) (by decide) (by decide) (g := (mkF m 15 #[iv p1, iv p2, iv p3, iv (3 : Int32), uu, uu, uu, uu, uu] [(.int ((p2 &&& (255 : Int32)).toUInt32.toUInt16.toUInt32.toInt32)), (.int (0 : Int32)), (.ref b28), (.ref b28)])) rfl rfl (hb hby at_15)
    refine own_of st29 ?_
    clear st29
    replace Zs := Nat.le_trans Zs (Keep.of_wr W29).1
    replace SW := SW.mono (Keep.of_wr W29).1
    replace O := O.wr W29 g_b28
    replace V_b28 := Aq29
    clear Aq29
    have N29 := Fr.snoc X29 N0 g_b28
    refine own_of (fun tgt kon => XS.dup X29.here hx rfl (hb hby at_16) rfl rfl kon) ?_
    show own_Wp _ _ _ _ (T29.setTop (mkF m 17 #[iv p1, iv p2, iv p3, iv (3 : Int32), uu, uu, uu, uu, uu] [(.ref b28), (.ref b28)]))
    refine own_of (fun tgt kon => XS.iconst X29.here hx rfl (hb hby at_17) kon) ?_
    refine own_of (fun tgt kon => XS.iloadN X29.here hx rfl (hb hby at_18) rfl kon) ?_
    refine own_of (fun tgt kon => XS.bipush X29.here hx rfl (hb hby at_19) kon) ?_
    refine own_of (fun tgt kon => XS.iushr X29.here hx rfl (hb hby at_21) rfl kon) ?_
    refine own_of (fun tgt kon => XS.sipush X29.here hx rfl (hb hby at_22) kon) ?_
    show own_Wp _ _ _ _ (T29.setTop (mkF m 25 #[iv p1, iv p2, iv p3, iv (3 : Int32), uu, uu, uu, uu, uu] [(.int (255 : Int32)), (.int ((p2.toUInt32 >>> ((8 : Int32) &&& 31).toUInt32).toInt32)), (.int (1 : Int32)), (.ref b28), (.ref b28)]))
    refine own_of (fun tgt kon => XS.iand X29.here hx rfl (hb hby at_25) rfl kon) ?_
    refine own_of (fun tgt kon => XS.i2c X29.here hx rfl (hb hby at_26) rfl kon) ?_
    obtain ⟨T30, h30, X30, e30, W30, Aq30, st30⟩ := own_stC X29 hx hZ e29 V_b28 (j := (1 : Int32)) (i := 1) (x := ((((p2.toUInt32 >>> ((8 : Int32) &&& 31).toUInt32).toInt32) &&& (255 : Int32)).toUInt32.toUInt16.toUInt32.toInt32)) (by decide) (by decide) (g := (mkF m 27 #[iv p1, iv p2, iv p3, iv (3 : Int32), uu, uu, uu, uu, uu] [(.int ((((p2.toUInt32 >>> ((8 : Int32) &&& 31).toUInt32).toInt32) &&& (255 : Int32)).toUInt32.toUInt16.toUInt32.toInt32)), (.int (1 : Int32)), (.ref b28), (.ref b28)])) rfl rfl (hb hby at_27)
    refine own_of st30 ?_
    clear st30
    replace Zs := Nat.le_trans Zs (Keep.of_wr W30).1
    replace SW := SW.mono (Keep.of_wr W30).1
    replace O := O.wr W30 g_b28
    replace V_b28 := Aq30
    clear Aq30
    have N30 := Fr.snoc X30 N29 g_b28
    show own_Wp _ _ _ _ (T30.setTop (mkF m 28 #[iv p1, iv p2, iv p3, iv (3 : Int32), uu, uu, uu, uu, uu] [(.ref b28)]))
    replace V_b28 := V_b28.fn (f' := fun k => .int ((own_tx2 (p2 &&& (255 : Int32)) (((p2.toUInt32 >>> ((8 : Int32) &&& 31).toUInt32).toInt32) &&& (255 : Int32))) k)) (by intro k hk; rcases k with _ | _ | k; exact congrArg Value.int (own_nc _); exact congrArg Value.int (own_nc _); omega)
    have hcs : ∀ k, k < 2 → ¬ (255 : Int32) < (own_tx2 (p2 &&& (255 : Int32)) (((p2.toUInt32 >>> ((8 : Int32) &&& 31).toUInt32).toInt32) &&& (255 : Int32))) k := by intro k hk; rcases k with _ | _ | k; exact own_c255 _; exact own_c255 _; omega
    refine own_of (fun tgt kon => XS.astore X30.here hx rfl (hb hby at_28) rfl rfl (l' := #[iv p1, iv p2, iv p3, iv (3 : Int32), rv b28, uu, uu, uu, uu]) rfl kon) ?_
    obtain ⟨T31, h31, X31, e31, E31, A31, D31, -, st31⟩ := newO X30 hx hZ hown (ow hw 1 rfl) (ow hw 2 rfl) (ow hw 3 rfl) e30 (g := (mkF m 30 #[iv p1, iv p2, iv p3, iv (3 : Int32), rv b28, uu, uu, uu, uu] [])) rfl (hb hby at_30) (by decide) (by decide)
    refine own_of st31 ?_
    clear st31
    obtain ⟨b31, gq31⟩ : ∃ z, z = h30.size := ⟨_, rfl⟩
    rw [← gq31] at A31 D31 ⊢
    have ne_b28_b31 : b28 ≠ b31 := Nat.ne_of_lt (Nat.lt_of_lt_of_le V_b28.lt (Nat.le_of_eq gq31.symm))
    have g_b31 : n0 ≤ b31 := Nat.le_trans Zs (Nat.le_of_eq gq31.symm)
    replace Zs := Nat.le_trans Zs E31.1
    replace SW := SW.ext E31
    replace O := O.ext E31
    replace V_b28 := V_b28.ext E31
    have E_b31 := A31
    have F_coder_b31 : Fld Z h31 b31 "java/lang/String" "coder" "B" (.int (0 : Int32)) := D31 (Or.inr (ow hw 27 rfl)) (ty := .byte) (by decide)
    have F_value_b31 : Fld Z h31 b31 "java/lang/String" "value" "[B" .null := D31 (Or.inr (ow hw 29 rfl)) (ty := (.array .byte)) (by decide)
    refine own_of (fun tgt kon => XS.dup X31.here hx rfl (hb hby at_33) rfl rfl kon) ?_
    refine own_of (fun tgt kon => XS.aload X31.here hx rfl (hb hby at_34) rfl rfl kon) ?_
    have lt32 := E_b31.lt
    refine own_callI X31 hx hZ (y := (⟨"java/lang/String", "<init>", "([C)V"⟩ : MethodName)) (a := b31) (argsL := [(.ref b28)]) (rest := [(.ref b31)]) (W := 1) rfl hown (ow hw 4 rfl) (ow hw 5 rfl) (ow hw 3 rfl) (ow hw 6 rfl) (by decide) e31 (rms2 l Z a0 hw [] b31 b28 (own_tx2 (p2 &&& (255 : Int32)) (((p2.toUInt32 >>> ((8 : Int32) &&& 31).toUInt32).toInt32) &&& (255 : Int32))) cz h31 n0 Zs E_b31 _ _ F_value_b31 F_coder_b31 V_b28 g_b31 (Ne.symm ne_b28_b31) hcs (S_C.ext O.2) hcz) (by decide) (by decide) (by decide) (by decide) rfl (by rw [hml]; rfl) (lenOf own_pd6 rfl) rfl (by show 2 * 0 + _ ≤ _; exact Nat.le_of_eq rfl) (hb hby at_36) ?_
    rintro T32 L32 _ X32 ⟨rfl, N32q, Kq32, Eq32, c32, g_c32, szq32, Fv32, Fc32, Vq32⟩
    have N32 := Fr.app N30 N32q
    show own_Wp _ _ _ _ (T32.setTop (mkF m 39 #[iv p1, iv p2, iv p3, iv (3 : Int32), rv b28, uu, uu, uu, uu] [(.ref b31)]))
    replace Zs := Nat.le_trans Zs Kq32.1
    replace SW := SW.mono Kq32.1
    replace O := O.keep Kq32 (allS g_b31 all0)
    replace V_b28 := V_b28.keep Kq32 (ninS ne_b28_b31 nin0)
    replace E_b31 := E_b31.keep Kq32
    replace E_b31 := Eq32
    have F_value_b31 := Fv32
    have F_coder_b31 := Fc32
    have V_c32 := Vq32
    have ne_b31_c32 : b31 ≠ c32 := Nat.ne_of_lt (Nat.lt_of_lt_of_le lt32 szq32)
    refine own_of (fun tgt kon => XS.astore X32.here hx rfl (hb hby at_39) rfl rfl (l' := #[iv p1, iv p2, iv p3, iv (3 : Int32), rv b28, rv b31, uu, uu, uu]) rfl kon) ?_
    refine own_of (fun tgt kon => XS.iloadN X32.here hx rfl (hb hby at_41) rfl kon) ?_
    refine own_of (X32.ldcInt hx hown (mvT hZ (ow hw 30 rfl)) (g := (mkF m 42 #[iv p1, iv p2, iv p3, iv (3 : Int32), rv b28, rv b31, uu, uu, uu] [(.int p3)])) rfl (hb hby at_42)) ?_
    refine own_of (fun tgt kon => XS.iand X32.here hx rfl (hb hby at_44) rfl kon) ?_
    refine own_of (fun tgt kon => XS.istore X32.here hx rfl (hb hby at_45) rfl (l' := #[iv p1, iv p2, iv p3, iv (3 : Int32), rv b28, rv b31, iv (p3 &&& (2147483647 : Int32)), uu, uu]) rfl kon) ?_
    show own_Wp _ _ _ _ (T32.setTop (mkF m 47 #[iv p1, iv p2, iv p3, iv (3 : Int32), rv b28, rv b31, iv (p3 &&& (2147483647 : Int32)), uu, uu] []))
    refine own_of (fun tgt kon => XS.iload X32.here hx rfl (hb hby at_47) rfl kon) ?_
    show own_Wp _ _ _ _ (T32.setTop (mkF m 49 #[iv p1, iv p2, iv p3, iv (3 : Int32), rv b28, rv b31, iv (p3 &&& (2147483647 : Int32)), uu, uu] [(.int (p3 &&& (2147483647 : Int32)))]))
    have J55 : ∀ (vt : Int32), (¬ vt < 1) → own_Wp p.tables e below (own_KW room_1 s below (Q_rm0 Z p1 p2 p3 o0 o1 o2 o3 cz h0 n0)) (T32.setTop (mkF m 55 #[iv p1, iv p2, iv p3, iv (3 : Int32), rv b28, rv b31, iv vt, uu, uu] [])) := by
      intro vt hv
      refine own_of (fun tgt kon => XS.iloadN X32.here hx rfl (hb hby at_55) rfl kon) ?_
      have hc56 : ¬ ((3 : Int32) = (0 : Int32)) := by decide
      refine own_of (fun tgt kon => XS.ifYes X32.here hx rfl (pc0 := 56) (pc' := 76) rfl (hb hby at_56) rfl ((if0 _ _).trans (feq hc56).2) (by decide) (by decide) kon) ?_
      refine own_of (fun tgt kon => XS.iloadN X32.here hx rfl (hb hby at_76) rfl kon) ?_
      refine own_of (fun tgt kon => XS.iconst X32.here hx rfl (hb hby at_77) kon) ?_
      have hc78 : ¬ ((3 : Int32) = (1 : Int32)) := by decide
      refine own_of (fun tgt kon => XS.icmpYes X32.here hx rfl (pc0 := 78) (pc' := 98) rfl (hb hby at_78) rfl (feq hc78).2 (by decide) (by decide) kon) ?_
      refine own_of (fun tgt kon => XS.iloadN X32.here hx rfl (hb hby at_98) rfl kon) ?_
      show own_Wp _ _ _ _ (T32.setTop (mkF m 99 #[iv p1, iv p2, iv p3, iv (3 : Int32), rv b28, rv b31, iv vt, uu, uu] [(.int (3 : Int32))]))
      refine own_of (fun tgt kon => XS.iconst X32.here hx rfl (hb hby at_99) kon) ?_
      have hc100 : ¬ ((3 : Int32) = (2 : Int32)) := by decide
      refine own_of (fun tgt kon => XS.icmpYes X32.here hx rfl (pc0 := 100) (pc' := 121) rfl (hb hby at_100) rfl (feq hc100).2 (by decide) (by decide) kon) ?_
      obtain ⟨T33, h33, X33, e33, E33, A33, D33, -, st33⟩ := newO X32 hx hZ hown (ow hw 31 rfl) (ow hw 32 rfl) (ow hw 33 rfl) rfl (g := (mkF m 121 #[iv p1, iv p2, iv p3, iv (3 : Int32), rv b28, rv b31, iv vt, uu, uu] [])) rfl (hb hby at_121) (by decide) (by decide)
      refine own_of st33 ?_
      clear st33
      obtain ⟨b33, gq33⟩ : ∃ z, z = T32.heap.size := ⟨_, rfl⟩
      rw [← gq33] at A33 D33 ⊢
      have ne_b28_b33 : b28 ≠ b33 := Nat.ne_of_lt (Nat.lt_of_lt_of_le V_b28.lt (Nat.le_of_eq gq33.symm))
      have ne_b31_b33 : b31 ≠ b33 := Nat.ne_of_lt (Nat.lt_of_lt_of_le E_b31.lt (Nat.le_of_eq gq33.symm))
      have ne_c32_b33 : c32 ≠ b33 := Nat.ne_of_lt (Nat.lt_of_lt_of_le V_c32.lt (Nat.le_of_eq gq33.symm))
      have g_b33 : n0 ≤ b33 := Nat.le_trans Zs (Nat.le_of_eq gq33.symm)
      replace Zs := Nat.le_trans Zs E33.1
      replace SW := SW.ext E33
      replace O := O.ext E33
      replace V_b28 := V_b28.ext E33
      replace E_b31 := E_b31.ext E33
      replace F_value_b31 := F_value_b31.ext E33
      replace F_coder_b31 := F_coder_b31.ext E33
      replace V_c32 := V_c32.ext E33
      have E_b33 := A33
      have F_kind_b33 : Fld Z h33 b33 "com/example/iota_flow/iotaflow/definition/Merge" "kind" "Lcom/example/iota_flow/iotaflow/definition/Merge$Kind;" .null := D33 (Or.inr (ow hw 58 rfl)) (ty := (.object "com/example/iota_flow/iotaflow/definition/Merge$Kind")) (by decide)
      have F_flag_b33 : Fld Z h33 b33 "com/example/iota_flow/iotaflow/definition/Merge" "flag" "Ljava/lang/String;" .null := D33 (Or.inr (ow hw 60 rfl)) (ty := (.object "java/lang/String")) (by decide)
      have F_votes_b33 : Fld Z h33 b33 "com/example/iota_flow/iotaflow/definition/Merge" "votes" "I" (.int (0 : Int32)) := D33 (Or.inr (ow hw 62 rfl)) (ty := .int) (by decide)
      refine own_of (fun tgt kon => XS.dup X33.here hx rfl (hb hby at_124) rfl rfl kon) ?_
      obtain ⟨T34, X34, e34, st34⟩ := getS2 X33 hx hZ hown (host := "") (Or.inl (ow hw 71 rfl)) Via.refl e33 (S3.ext O.2) (g := (mkF m 125 #[iv p1, iv p2, iv p3, iv (3 : Int32), rv b28, rv b31, iv vt, uu, uu] [(.ref b33), (.ref b33)])) rfl (hb hby at_125)
      refine own_of st34 ?_
      clear st34
      show own_Wp _ _ _ _ (T34.setTop (mkF m 128 #[iv p1, iv p2, iv p3, iv (3 : Int32), rv b28, rv b31, iv vt, uu, uu] [(.ref o3), (.ref b33), (.ref b33)]))
      refine own_of (fun tgt kon => XS.aconstNull X34.here hx rfl (hb hby at_128) kon) ?_
      refine own_of (fun tgt kon => XS.iload X34.here hx rfl (hb hby at_129) rfl kon) ?_
      refine own_callIW X34 SW hx hZ (y := (⟨"com/example/iota_flow/iotaflow/definition/Merge", "<init>", "(Lcom/example/iota_flow/iotaflow/definition/Merge$Kind;Ljava/lang/String;I)V"⟩ : MethodName)) (a := b33) (argsL := [(.ref o3), .null, (.int vt)]) (rest := [(.ref b33)]) (W := 1) rfl hown (ow hw 37 rfl) (ow hw 38 rfl) (ow hw 33 rfl) (ow hw 39 rfl) (by decide) e34 (rmmg3 l Z a0 hw [] b33 o0 o1 o2 o3 vt h33 n0 Zs O E_b33 _ _ _ F_kind_b33 F_flag_b33 F_votes_b33 g_b33 S0 S1 S2 S3 ne01 ne02 ne03 ne12 ne13 ne23 hv) (by decide) (by decide) (by decide) (by decide) rfl (by rw [hml]; rfl) (lenOf own_pd7 rfl) rfl (by show 2 * 0 + _ ≤ _; exact Nat.le_of_eq rfl) (hb hby at_131) ?_
      clear hZ hown
      rintro sv35 T35 L35 _ X35 SWq35 hZ hown ⟨rfl, N35q, Kq35, Eq35, F35_kind, F35_flag, F35_votes⟩
      have N35 := Fr.app N32 N35q
      show own_Wp _ _ _ _ (T35.setTop (mkF m 134 #[iv p1, iv p2, iv p3, iv (3 : Int32), rv b28, rv b31, iv vt, uu, uu] [(.ref b33)]))
      replace Zs := Nat.le_trans Zs Kq35.1
      replace O := O.keep Kq35 (allS g_b33 all0)
      replace V_b28 := V_b28.keep Kq35 (ninS ne_b28_b33 nin0)
      replace E_b31 := E_b31.keep Kq35
      replace F_value_b31 := F_value_b31.keep Kq35 (ninS ne_b31_b33 nin0)
      replace F_coder_b31 := F_coder_b31.keep Kq35 (ninS ne_b31_b33 nin0)
      replace V_c32 := V_c32.keep Kq35 (ninS ne_c32_b33 nin0)
      replace E_b33 := E_b33.keep Kq35
      replace E_b33 := Eq35
      have F_kind_b33 := F35_kind
      have F_flag_b33 := F35_flag
      have F_votes_b33 := F35_votes
      replace SW := SWq35
      refine own_of (fun tgt kon => XS.astore X35.here hx rfl (hb hby at_134) rfl rfl (l' := #[iv p1, iv p2, iv p3, iv (3 : Int32), rv b28, rv b31, iv vt, rv b33, uu]) rfl kon) ?_
      refine own_of (fun tgt kon => XS.iloadN X35.here hx rfl (hb hby at_136) rfl kon) ?_
      have hc137 : ¬ ((3 : Int32) = (0 : Int32)) := by decide
      refine own_of (fun tgt kon => XS.ifNo X35.here hx rfl (hb hby at_137) rfl ((if0 _ _).trans (feq hc137).1) kon) ?_
      refine own_of (fun tgt kon => XS.iconst X35.here hx rfl (hb hby at_140) kon) ?_
      refine own_of (fun tgt kon => XS.goto X35.here hx rfl (pc0 := 141) (pc' := 145) rfl (hb hby at_141) (by decide) (by decide) kon) ?_
      show own_Wp _ _ _ _ (T35.setTop (mkF m 145 #[iv p1, iv p2, iv p3, iv (3 : Int32), rv b28, rv b31, iv vt, rv b33, uu] [(.int (1 : Int32))]))
      refine own_of (fun tgt kon => XS.istore X35.here hx rfl (hb hby at_145) rfl (l' := #[iv p1, iv p2, iv p3, iv (3 : Int32), rv b28, rv b31, iv vt, rv b33, iv (1 : Int32)]) rfl kon) ?_
      refine own_of (fun tgt kon => XS.aload X35.here hx rfl (hb hby at_147) rfl rfl kon) ?_
      refine own_callV X35 hx hZ (C := "com/example/iota_flow/iotaflow/definition/Merge") (y := (⟨"com/example/iota_flow/iotaflow/definition/Merge", "once", "()Z"⟩ : MethodName)) (a := b33) (argsL := []) (rest := []) (W := 0) hown (ow hw 63 rfl) (ow hw 64 rfl) (ow hw 66 rfl) (ow hw 65 rfl) (ow hw 33 rfl) (ow hw 67 rfl) (by decide) rfl E_b33 (rmon l Z a0 hw [] b33 o3 o0 (1 : Int32) T35.heap n0 Zs F_kind_b33 (S0.ext O.2) (fun q => absurd q.symm ne03) (fun _ => rfl)) (by decide) (by decide) (by decide) (by decide) rfl (by rw [hml]; rfl) (lenOf own_pd8 rfl) rfl (by show 2 * 0 + _ ≤ _; exact Nat.le_of_eq rfl) (hb hby at_149) ?_
      rintro T36 L36 _ X36 ⟨rfl, N36q, e36⟩
      have N36 := Fr.app N35 N36q
      show own_Wp _ _ _ _ (T36.setTop (mkF m 152 #[iv p1, iv p2, iv p3, iv (3 : Int32), rv b28, rv b31, iv vt, rv b33, iv (1 : Int32)] [(.int (1 : Int32))]))
      refine own_of (fun tgt kon => XS.iload X36.here hx rfl (hb hby at_152) rfl kon) ?_
      have hc154 : (1 : Int32) = (1 : Int32) := rfl
      refine own_of (fun tgt kon => XS.icmpNo X36.here hx rfl (hb hby at_154) rfl (teq hc154).2 kon) ?_
      refine own_of (fun tgt kon => XS.iconst X36.here hx rfl (hb hby at_157) kon) ?_
      refine own_of (fun tgt kon => XS.goto X36.here hx rfl (pc0 := 158) (pc' := 162) rfl (hb hby at_158) (by decide) (by decide) kon) ?_
      show own_Wp _ _ _ _ (T36.setTop (mkF m 162 #[iv p1, iv p2, iv p3, iv (3 : Int32), rv b28, rv b31, iv vt, rv b33, iv (1 : Int32)] [(.int (1 : Int32))]))
      refine own_retW X36 (by rw [e36]; exact SW) hlk (some (.int (1 : Int32))) (own_rtI hrt) (fun fs hr => retN X36 hx (t := .boolean) hrt (by simp) (hb hby at_162) hr) ?_ (by decide) (by decide)
      rw [e36]
      exact ⟨rfl, N36⟩
    show own_Wp _ _ _ _ (T32.setTop (mkF m 49 #[iv p1, iv p2, iv p3, iv (3 : Int32), rv b28, rv b31, iv (p3 &&& (2147483647 : Int32)), uu, uu] [(.int (p3 &&& (2147483647 : Int32)))]))
    by_cases hc49 : (p3 &&& (2147483647 : Int32)) = (0 : Int32)
    · skip
      refine own_of (fun tgt kon => XS.ifNo X32.here hx rfl (hb hby at_49) rfl ((if0 _ _).trans (teq hc49).2) kon) ?_
      refine own_of (fun tgt kon => XS.iconst X32.here hx rfl (hb hby at_52) kon) ?_
      refine own_of (fun tgt kon => XS.istore X32.here hx rfl (hb hby at_53) rfl (l' := #[iv p1, iv p2, iv p3, iv (3 : Int32), rv b28, rv b31, iv (1 : Int32), uu, uu]) rfl kon) ?_
      show own_Wp _ _ _ _ (T32.setTop (mkF m 55 #[iv p1, iv p2, iv p3, iv (3 : Int32), rv b28, rv b31, iv (1 : Int32), uu, uu] []))
      exact J55 ((1 : Int32)) (by decide)
    · skip
      refine own_of (fun tgt kon => XS.ifYes X32.here hx rfl (pc0 := 49) (pc' := 55) rfl (hb hby at_49) rfl ((if0 _ _).trans (feq hc49).2) (by decide) (by decide) kon) ?_
      show own_Wp _ _ _ _ (T32.setTop (mkF m 55 #[iv p1, iv p2, iv p3, iv (3 : Int32), rv b28, rv b31, iv (p3 &&& (2147483647 : Int32)), uu, uu] []))
      exact J55 ((p3 &&& (2147483647 : Int32))) (by exact own_vt hc49)
set_option maxRecDepth 65536 in
set_option maxHeartbeats 40000000 in
theorem comes_1 {Post : Tables → Env → Array Value → State → Outcome → State → Prop} (hpost : ∀ tb e args s v u, (limb_1_1.after args s (.returned v) u = true ∧ limb_1_2.after args s (.returned v) u = true ∧ True) → ReturnedEndW s (.returned v) u (Jvm.fieldLocs frame_1_writes args s ++ Jvm.arrayLocs frame_1_arrays args s ++ Jvm.staticLocs frame_1_statics s) 24 1152 → Post tb e args s (.returned v) u) :
    ArmFor flags0 classFile x code maxLocals ret World_1 tables_1 room_1 Calls_1 rest_1 Pre_1 Post := by
  intro l hfl _ _ p e ha hc hk s m args below hf hA hF happ hP
  obtain ⟨hcalls, hrest, hpre⟩ := hP
  obtain ⟨-, -, -, hnamed, -, -, -, hat⟩ := (Spec.applies_iff hf).mp happ
  obtain ⟨hg, hn⟩ := and_e (Cond.before_iff.mp (show (Jvm.Cond.and given_1 narrow_1).before args s = true from hpre))
  obtain ⟨g1, g2⟩ := and_e hg
  obtain ⟨g3, g4⟩ := and_e g2
  obtain ⟨g5, g6⟩ := and_e g4
  obtain ⟨w0, w1, w2, rfl⟩ : ∃ w0 w1 w2 : Value, args = #[w0, w1, w2] := by
    have hs : args.size = 3 := by simpa [Cond.value, given_1] using g1
    obtain ⟨L⟩ := args
    match L, hs with
    | [w0, w1, w2], _ => exact ⟨w0, w1, w2, rfl⟩
  have hw := fun d (hd : d ∈ tables_1) => atoms_spec (ws := Jvm.Cond.code x code maxLocals ret :: tables_1) hat d (List.mem_cons_of_mem _ hd)
  have hfit : Fit s := fun {y c} hc i hi => by
    obtain ⟨ha, rfl⟩ := Array.getElem?_eq_some_iff.mp hc
    have q := List.all_eq_true.mp ((Array.all_eq_true_iff_forall_mem.mp hF) _ (Array.getElem_mem ha)) i (List.mem_range.mpr hi)
    simpa [Array.getElem?_eq_getElem hi] using q
  obtain ⟨hsets, hown0⟩ := atoms_of _ (rest_1_c_eq ▸ (show rest_1_c.before _ s = true from hrest))
  have hr0 := Cond.before_iff.mp hown0
  obtain ⟨i0, ei0⟩ := is_v g3
  obtain rfl : w0 = (.int i0) := Option.some.inj ei0
  obtain ⟨i1, ei1⟩ := is_v g5
  obtain rfl : w1 = (.int i1) := Option.some.inj ei1
  obtain ⟨i2, ei2⟩ := is_v g6
  obtain rfl : w2 = (.int i2) := Option.some.inj ei2
  obtain ⟨u1, u2⟩ := and_e hn
  obtain ⟨u3, u4⟩ := and_e u2
  obtain ⟨u5, u6⟩ := and_e u4
  obtain ⟨u7, u8⟩ := and_e u6
  obtain ⟨u9, u10⟩ := and_e u8
  obtain ⟨u11, u12⟩ := and_e u10
  obtain ⟨u13, u14⟩ := and_e u12
  obtain ⟨o0, E_o0, ev0⟩ := own_exaRef u1
  have S0 := Sta.start ev0 (Or.inr ⟨(ow hw 35 rfl), (ow hw 36 rfl)⟩)
  have Fo0 := own_fldI ev0 u5
  obtain ⟨o1, E_o1, ev1⟩ := own_exaRef u13
  have S1 := Sta.start ev1 (Or.inr ⟨(ow hw 35 rfl), (ow hw 70 rfl)⟩)
  have Fo1 := own_fldI ev1 u14
  obtain ⟨o2, E_o2, ev2⟩ := own_exaRef u3
  have S2 := Sta.start ev2 (Or.inr ⟨(ow hw 35 rfl), (ow hw 54 rfl)⟩)
  have Fo2 := own_fldI ev2 u7
  obtain ⟨o3, E_o3, ev3⟩ := own_exaRef u9
  have S3 := Sta.start ev3 (Or.inr ⟨(ow hw 35 rfl), (ow hw 56 rfl)⟩)
  have Fo3 := own_fldI ev3 u11
  obtain ⟨cz, evc⟩ := is_v (Cond.before_iff.mp (hsets _ (List.mem_of_getElem? (i := 1) rfl)))
  have S_C := Sta.start evc (Or.inl (hsets _ (List.mem_of_getElem? (i := 0) rfl)))
  have hcz := own_notZero evc (Cond.before_iff.mp (hsets _ (List.mem_of_getElem? (i := 2) rfl)))
  obtain ⟨n, o, h1, h2, h3, _, L, rfl, ⟨rfl, N⟩, hq⟩ := rm0 l s _ hw tables_1 i0 i1 i2 o0 o1 o2 o3 cz s.heap s.heap.size (Nat.le_refl _) S0 S1 S2 S3 (Fo0.ne Fo1 (by decide)) (Fo0.ne Fo2 (by decide)) (Fo0.ne Fo3 (by decide)) (Fo1.ne Fo2 (by decide)) (Fo1.ne Fo3 (by decide)) (Fo2.ne Fo3 (by decide)) S_C hcz (Old.start s) p e ha hc hk s m _ below hf ((Spec.applies_iff_loose hf).mp happ).1 ⟨rfl, State.Warmed39.refl s, rfl⟩ trivial
  refine ⟨n, _, h1, h2, h3, hpost _ _ _ _ _ _ ⟨Cond.after_iff.mpr rfl, Cond.after_iff.mpr (eq_i res_at (Term.int_eval (1)) rfl), trivial⟩ ⟨hq.1, hq.2.1, hq.2.2.1, (hq.2.2.2.sift fun y hy => Or.inr (N y hy)).mono (by decide) (by decide)⟩⟩
theorem main_1_1 : Claimed_1_1 := comes_1 fun _ _ _ _ _ _ h hF => ⟨h.1, hF⟩
theorem main_1_2 : Claimed_1_2 := comes_1 fun _ _ _ _ _ _ h hF => ⟨h.2.1, hF⟩
end Jvm.Pilot.@@N@@
namespace Jvm.Pilot.@@N@@
open Jvm Jvm.ClassFile Sem Op Lib Jvm.Free Jvm.Stand Jvm.Pilot.@@N@@.Jvm.D
/-! MADE BY PROGRAM (witnessworld.py) out of the Statement's table words and the real class files: 24 classes; the members and pool entries that the words name. The judged class is class 1, her method 1. -/
namespace start1
open Jvm.ClassFile
def u (s : String) : CpInfo := .utf8 (stringToUtf16 s)
/-- a pool by its gaps: so many unusable entries, then the entry; so many at the end -/
def gap : Nat → List CpInfo → List CpInfo
  | 0, r => r
  | n + 1, r => .unusable :: gap n r
def poolList (es : List (Nat × CpInfo)) (last : Nat) : List CpInfo := es.foldr (fun e r => gap e.1 (e.2 :: r)) (gap last [])
def pool (es : List (Nat × CpInfo)) (last : Nat) : Array CpInfo := ⟨poolList es last⟩
def fileOf (pool : Array CpInfo) (this : Nat) (attrs : Array Attribute := #[]) (ms : Array MethodInfo := #[]) (fl : Nat := 33) (sup : Nat := 0) (ifs : Array Nat := #[]) (fds : Array FieldInfo := #[]) : ClassFile where
  minorVersion := 0
  majorVersion := 65
  constantPool := pool
  accessFlags := fl
  thisClass := this
  superClass := sup
  interfaces := ifs
  fields := fds
  methods := ms
  attributes := attrs
def plain (name : String) (sup : Option ClassId) : Class where
  name := name
  kind := .ordinary
  loader := none
  accessFlags := 33
  super := sup
  interfaces := #[]
  cf := none
  fields := #[]
  methods := #[]
  instanceTypes := #[]
  staticTypes := #[]
  resolved := #[]
  callSites := []
  init := .initialized
  statics := none
  mirror := none

def pool0 : Array CpInfo := pool [(5, u "<init>"), (0, u "()V"), (1, .class_ 10), (1, u "java/lang/Object")] 113

def k0c0 : Code := { maxStack := 0, maxLocals := 1, code := object_method_1_code, exceptionTable := #[], attributes := #[] }
def k0m0 : Method := { name := "<init>", desc := "()V", sig := { parameters := [], returnType := none }, accessFlags := 1, code := some k0c0 }
/-- java/lang/Object -/
def k0 : Class := { plain "java/lang/Object" none with
  accessFlags := 33
  interfaces := #[]
  cf := some (fileOf pool0 8 #[] #[{ accessFlags := 1, nameIndex := 5, descriptorIndex := 6, attributes := #[] }] 33 0 #[] #[])
  fields := #[]
  methods := #[k0m0]
  instanceTypes := #[]
  staticTypes := #[]
  resolved := Array.replicate 124 none
  statics := none }

def pool1 : Array CpInfo := pool [(2, .class_ 4), (1, u "java/lang/Object"), (0, u "<init>"), (0, u "()V"), (0, .class_ 8), (0, u "java/lang/String"), (0, .methodref 7 10), (0, .nameAndType 5 11), (0, u "([C)V"), (0, .integer 2147483647), (0, .class_ 14), (0, u "com/example/iota_flow/iotaflow/definition/Merge"), (0, .fieldref 16 17), (0, .class_ 18), (0, .nameAndType 19 20), (0, u "com/example/iota_flow/iotaflow/definition/Merge$Kind"), (0, u "EVERY"), (0, u "Lcom/example/iota_flow/iotaflow/definition/Merge$Kind;"), (0, .methodref 13 22), (0, .nameAndType 5 23), (0, u "(Lcom/example/iota_flow/iotaflow/definition/Merge$Kind;Ljava/lang/String;I)V"), (0, .fieldref 16 25), (0, .nameAndType 26 20), (0, u "FIRST"), (0, .fieldref 16 28), (0, .nameAndType 29 20), (0, u "FLAG"), (0, .fieldref 16 31), (0, .nameAndType 32 20), (0, u "VOTES"), (0, .methodref 13 34), (0, .nameAndType 35 36), (0, u "once"), (0, u "()Z"), (0, .class_ 38), (0, u "com/example/iota_flow/iotaflow/definition/MergeOncePinLaw"), (2, u "law"), (0, u "(III)Z")] 7

def k1m0 : Method := { name := "<init>", desc := "()V", sig := { parameters := [], returnType := none }, accessFlags := 1, code := none }
def k1c1 : Code := { maxStack := 5, maxLocals := 9, code := code, exceptionTable := #[], attributes := #[] }
def k1m1 : Method := { name := "law", desc := "(III)Z", sig := { parameters := [.int, .int, .int], returnType := some .boolean }, accessFlags := 9, code := some k1c1 }
/-- com/example/iota_flow/iotaflow/definition/MergeOncePinLaw -/
def k1 : Class := { plain "com/example/iota_flow/iotaflow/definition/MergeOncePinLaw" (some 0) with
  accessFlags := 49
  interfaces := #[]
  cf := some (fileOf pool1 37 #[] #[{ accessFlags := 1, nameIndex := 5, descriptorIndex := 6, attributes := #[] }, { accessFlags := 9, nameIndex := 41, descriptorIndex := 42, attributes := #[] }] 49 2 #[] #[])
  fields := #[]
  methods := #[k1m0, k1m1]
  instanceTypes := #[]
  staticTypes := #[]
  resolved := Array.replicate 50 none
  statics := none }

def pool2 : Array CpInfo := pool [(1, .class_ 2), (0, u "java/io/Serializable"), (0, .class_ 4), (0, u "java/lang/Object")] 2

/-- java/io/Serializable -/
def k2 : Class := { plain "java/io/Serializable" (some 0) with
  accessFlags := 1537
  interfaces := #[]
  cf := some (fileOf pool2 1 #[] #[] 1537 3 #[] #[])
  fields := #[]
  methods := #[]
  instanceTypes := #[]
  staticTypes := #[]
  resolved := Array.replicate 7 none
  statics := none }

def pool3 : Array CpInfo := pool [(1, .class_ 2), (0, u "java/lang/Comparable"), (0, .class_ 4), (0, u "java/lang/Object")] 7

/-- java/lang/Comparable -/
def k3 : Class := { plain "java/lang/Comparable" (some 0) with
  accessFlags := 1537
  interfaces := #[]
  cf := some (fileOf pool3 1 #[] #[] 1537 3 #[] #[])
  fields := #[]
  methods := #[]
  instanceTypes := #[]
  staticTypes := #[]
  resolved := Array.replicate 12 none
  statics := none }

def pool4 : Array CpInfo := pool [(2, .class_ 4), (1, u "java/lang/CharSequence"), (42, .class_ 48), (0, u "java/lang/CharSequence$1CodePointIterator"), (10, .class_ 60), (0, u "java/lang/CharSequence$1CharIterator"), (5, .class_ 67), (0, u "java/lang/Object")] 63

/-- java/lang/CharSequence -/
def k4 : Class := { plain "java/lang/CharSequence" (some 0) with
  accessFlags := 1537
  interfaces := #[]
  cf := some (fileOf pool4 2 #[.nestMembers #[47, 59]] #[] 1537 66 #[] #[])
  fields := #[]
  methods := #[]
  instanceTypes := #[]
  staticTypes := #[]
  resolved := Array.replicate 131 none
  statics := none }

def pool5 : Array CpInfo := pool [(1, .class_ 2), (0, u "java/lang/constant/Constable"), (0, .class_ 4), (0, u "java/lang/Object")] 6

/-- java/lang/constant/Constable -/
def k5 : Class := { plain "java/lang/constant/Constable" (some 0) with
  accessFlags := 1537
  interfaces := #[]
  cf := some (fileOf pool5 1 #[] #[] 1537 3 #[] #[])
  fields := #[]
  methods := #[]
  instanceTypes := #[]
  staticTypes := #[]
  resolved := Array.replicate 11 none
  statics := none }

def pool6 : Array CpInfo := pool [(1, .class_ 2), (0, u "java/lang/constant/ConstantDesc"), (0, .class_ 4), (0, u "java/lang/Object")] 32

/-- java/lang/constant/ConstantDesc -/
def k6 : Class := { plain "java/lang/constant/ConstantDesc" (some 0) with
  accessFlags := 1537
  interfaces := #[]
  cf := some (fileOf pool6 1 #[] #[] 1537 3 #[] #[])
  fields := #[]
  methods := #[]
  instanceTypes := #[]
  staticTypes := #[]
  resolved := Array.replicate 37 none
  statics := none }

def pool7 : Array CpInfo := pool [(1, .methodref 2 3), (0, .class_ 4), (0, .nameAndType 5 6), (0, u "java/lang/Object"), (0, u "<init>"), (0, u "()V"), (2, .fieldref 10 11), (0, .class_ 12), (0, .nameAndType 13 14), (0, u "java/lang/String"), (0, u "value"), (0, u "[B"), (0, .fieldref 10 16), (0, .nameAndType 17 18), (0, u "coder"), (0, u "B"), (2, u "hash"), (0, u "I"), (2, u "hashIsZero"), (0, u "Z"), (0, .methodref 10 28), (0, .nameAndType 5 29), (0, u "([CIILjava/lang/Void;)V"), (8, .fieldref 10 39), (0, .nameAndType 40 26), (0, u "COMPACT_STRINGS"), (1, .class_ 44), (1, u "java/lang/StringUTF16"), (0, u "compress"), (1, .methodref 42 48), (0, .nameAndType 49 50), (0, u "coderFromArrayLen"), (0, u "([BI)B"), (126, .methodref 42 178), (0, .nameAndType 45 179), (0, u "([CII)[B"), (395, .class_ 576), (0, u "java/lang/CharSequence"), (22, u "CASE_INSENSITIVE_ORDER"), (0, u "Ljava/util/Comparator;"), (409, u "([C)V"), (90, u "serialPersistentFields"), (0, u "[Ljava/io/ObjectStreamField;"), (0, .class_ 1104), (0, u "java/lang/String$CaseInsensitiveComparator"), (1, .class_ 1107), (0, u "java/io/Serializable"), (0, .class_ 1109), (0, u "java/lang/Comparable"), (0, .class_ 1111), (0, u "java/lang/constant/Constable"), (0, .class_ 1113), (0, u "java/lang/constant/ConstantDesc"), (2, u "serialVersionUID"), (0, u "J"), (3, u "REPL"), (0, u "C"), (2, u "LATIN1"), (1, u "UTF16")] 323

def k7m0 : Method := { name := "<init>", desc := "()V", sig := { parameters := [], returnType := none }, accessFlags := 1, code := none }
def k7c1 : Code := { maxStack := 5, maxLocals := 2, code := jdk_42_method_3_code, exceptionTable := #[], attributes := #[] }
def k7m1 : Method := { name := "<init>", desc := "([C)V", sig := { parameters := [(.array .char)], returnType := none }, accessFlags := 1, code := some k7c1 }
def k7c2 : Code := { maxStack := 4, maxLocals := 6, code := jdk_42_method_149_code, exceptionTable := #[], attributes := #[] }
def k7m2 : Method := { name := "<init>", desc := "([CIILjava/lang/Void;)V", sig := { parameters := [(.array .char), .int, .int, (.object "java/lang/Void")], returnType := none }, accessFlags := 2, code := some k7c2 }
/-- java/lang/String -/
def k7 : Class := { plain "java/lang/String" (some 0) with
  accessFlags := 49
  interfaces := #[2, 3, 4, 5, 6]
  cf := some (fileOf pool7 10 #[.nestMembers #[1103]] #[{ accessFlags := 1, nameIndex := 5, descriptorIndex := 6, attributes := #[] }, { accessFlags := 1, nameIndex := 5, descriptorIndex := 1010, attributes := #[] }, { accessFlags := 2, nameIndex := 5, descriptorIndex := 29, attributes := #[] }] 49 2 #[1106, 1108, 575, 1110, 1112] #[{ accessFlags := 18, nameIndex := 13, descriptorIndex := 14, attributes := #[] }, { accessFlags := 18, nameIndex := 17, descriptorIndex := 18, attributes := #[] }, { accessFlags := 2, nameIndex := 21, descriptorIndex := 22, attributes := #[] }, { accessFlags := 2, nameIndex := 25, descriptorIndex := 26, attributes := #[] }, { accessFlags := 26, nameIndex := 1116, descriptorIndex := 1117, attributes := #[] }, { accessFlags := 24, nameIndex := 40, descriptorIndex := 26, attributes := #[] }, { accessFlags := 26, nameIndex := 1101, descriptorIndex := 1102, attributes := #[] }, { accessFlags := 26, nameIndex := 1121, descriptorIndex := 1122, attributes := #[] }, { accessFlags := 25, nameIndex := 599, descriptorIndex := 600, attributes := #[] }, { accessFlags := 24, nameIndex := 1125, descriptorIndex := 18, attributes := #[] }, { accessFlags := 24, nameIndex := 1127, descriptorIndex := 18, attributes := #[] }])
  fields := #[{ name := "value", type := (.array .byte), accessFlags := 18, slot := 0, constantValue := 0 }, { name := "coder", type := .byte, accessFlags := 18, slot := 1, constantValue := 0 }, { name := "hash", type := .int, accessFlags := 2, slot := 2, constantValue := 0 }, { name := "hashIsZero", type := .boolean, accessFlags := 2, slot := 3, constantValue := 0 }, { name := "serialVersionUID", type := .long, accessFlags := 26, slot := 0, constantValue := 0 }, { name := "COMPACT_STRINGS", type := .boolean, accessFlags := 24, slot := 1, constantValue := 0 }, { name := "serialPersistentFields", type := (.array (.object "java/io/ObjectStreamField")), accessFlags := 26, slot := 2, constantValue := 0 }, { name := "REPL", type := .char, accessFlags := 26, slot := 3, constantValue := 0 }, { name := "CASE_INSENSITIVE_ORDER", type := (.object "java/util/Comparator"), accessFlags := 25, slot := 4, constantValue := 0 }, { name := "LATIN1", type := .byte, accessFlags := 24, slot := 5, constantValue := 0 }, { name := "UTF16", type := .byte, accessFlags := 24, slot := 6, constantValue := 0 }]
  methods := #[k7m0, k7m1, k7m2]
  instanceTypes := #[(.array .byte), .byte, .int, .boolean]
  staticTypes := #[.long, .boolean, (.array (.object "java/io/ObjectStreamField")), .char, (.object "java/util/Comparator"), .byte, .byte]
  resolved := Array.replicate 1451 none
  statics := some 0 }

def pool8 : Array CpInfo := pool [(6, .class_ 8), (1, u "java/lang/Object"), (0, u "<init>"), (0, u "()V"), (1, .class_ 14), (1, u "java/lang/StringUTF16"), (31, u "$assertionsDisabled"), (0, u "Z"), (13, u "HI_BYTE_SHIFT"), (0, u "I"), (2, u "LO_BYTE_SHIFT"), (49, .methodref 12 116), (0, .nameAndType 117 118), (0, u "compress"), (0, u "([CI[BII)I"), (3, u "([CII)[B"), (138, u "coderFromArrayLen"), (0, u "([BI)B"), (106, .class_ 371), (1, u "java/lang/StringUTF16$LinesSpliterator"), (58, u "MAX_LENGTH"), (196, .class_ 628), (0, u "java/lang/StringUTF16$CodePointsSpliterator"), (0, .class_ 630), (0, u "java/lang/StringUTF16$CharsSpliterator")] 4

def k8m0 : Method := { name := "<init>", desc := "()V", sig := { parameters := [], returnType := none }, accessFlags := 0, code := none }
def k8c1 : Code := { maxStack := 2, maxLocals := 2, code := jdk_52_method_15_code, exceptionTable := #[], attributes := #[] }
def k8m1 : Method := { name := "coderFromArrayLen", desc := "([BI)B", sig := { parameters := [(.array .byte), .int], returnType := some .byte }, accessFlags := 8, code := some k8c1 }
def k8c2 : Code := { maxStack := 5, maxLocals := 6, code := jdk_52_method_16_code, exceptionTable := #[], attributes := #[] }
def k8m2 : Method := { name := "compress", desc := "([CII)[B", sig := { parameters := [(.array .char), .int, .int], returnType := some (.array .byte) }, accessFlags := 9, code := some k8c2 }
def k8c3 : Code := { maxStack := 3, maxLocals := 7, code := jdk_52_method_21_code, exceptionTable := #[], attributes := #[] }
def k8m3 : Method := { name := "compress", desc := "([CI[BII)I", sig := { parameters := [(.array .char), .int, (.array .byte), .int, .int], returnType := some .int }, accessFlags := 9, code := some k8c3 }
/-- java/lang/StringUTF16 -/
def k8 : Class := { plain "java/lang/StringUTF16" (some 0) with
  accessFlags := 48
  interfaces := #[]
  cf := some (fileOf pool8 12 #[.nestMembers #[627, 629, 369]] #[{ accessFlags := 0, nameIndex := 9, descriptorIndex := 10, attributes := #[] }, { accessFlags := 8, nameIndex := 261, descriptorIndex := 262, attributes := #[] }, { accessFlags := 9, nameIndex := 117, descriptorIndex := 122, attributes := #[] }, { accessFlags := 9, nameIndex := 117, descriptorIndex := 118, attributes := #[] }] 48 6 #[] #[{ accessFlags := 26, nameIndex := 61, descriptorIndex := 62, attributes := #[] }, { accessFlags := 26, nameIndex := 65, descriptorIndex := 62, attributes := #[] }, { accessFlags := 24, nameIndex := 430, descriptorIndex := 62, attributes := #[] }, { accessFlags := 4120, nameIndex := 46, descriptorIndex := 47, attributes := #[] }])
  fields := #[{ name := "HI_BYTE_SHIFT", type := .int, accessFlags := 26, slot := 0, constantValue := 0 }, { name := "LO_BYTE_SHIFT", type := .int, accessFlags := 26, slot := 1, constantValue := 0 }, { name := "MAX_LENGTH", type := .int, accessFlags := 24, slot := 2, constantValue := 0 }, { name := "$assertionsDisabled", type := .boolean, accessFlags := 4120, slot := 3, constantValue := 0 }]
  methods := #[k8m0, k8m1, k8m2, k8m3]
  instanceTypes := #[]
  staticTypes := #[.int, .int, .int, .boolean]
  resolved := Array.replicate 635 none
  statics := none }

def pool9 : Array CpInfo := pool [(1, .methodref 2 3), (0, .class_ 4), (0, .nameAndType 5 6), (0, u "java/lang/Object"), (0, u "<init>"), (0, u "()V"), (0, .class_ 8), (0, u "java/lang/Record")] 13

def k9c0 : Code := { maxStack := 1, maxLocals := 1, code := jdk_30_method_1_code, exceptionTable := #[], attributes := #[] }
def k9m0 : Method := { name := "<init>", desc := "()V", sig := { parameters := [], returnType := none }, accessFlags := 4, code := some k9c0 }
/-- java/lang/Record -/
def k9 : Class := { plain "java/lang/Record" (some 0) with
  accessFlags := 1057
  interfaces := #[]
  cf := some (fileOf pool9 7 #[] #[{ accessFlags := 4, nameIndex := 5, descriptorIndex := 6, attributes := #[] }] 1057 2 #[] #[])
  fields := #[]
  methods := #[k9m0]
  instanceTypes := #[]
  staticTypes := #[]
  resolved := Array.replicate 22 none
  statics := none }

def pool10 : Array CpInfo := pool [(1, .methodref 2 3), (0, .class_ 4), (0, .nameAndType 5 6), (0, u "java/lang/Record"), (0, u "<init>"), (0, u "()V"), (0, .string 8), (0, u "kind"), (0, .methodref 10 11), (0, .class_ 12), (0, .nameAndType 13 14), (0, u "java/util/Objects"), (0, u "requireNonNull"), (0, u "(Ljava/lang/Object;Ljava/lang/String;)Ljava/lang/Object;"), (0, .fieldref 16 17), (0, .class_ 18), (0, .nameAndType 19 20), (0, u "com/example/iota_flow/iotaflow/definition/Merge$Kind"), (0, u "FLAG"), (0, u "Lcom/example/iota_flow/iotaflow/definition/Merge$Kind;"), (19, .fieldref 16 41), (0, .nameAndType 42 20), (0, u "VOTES"), (3, .fieldref 47 48), (0, .class_ 49), (0, .nameAndType 8 20), (0, u "com/example/iota_flow/iotaflow/definition/Merge"), (0, .fieldref 47 51), (0, .nameAndType 52 53), (0, u "flag"), (0, u "Ljava/lang/String;"), (0, .fieldref 47 55), (0, .nameAndType 56 57), (0, u "votes"), (0, u "I"), (3, u "(Lcom/example/iota_flow/iotaflow/definition/Merge$Kind;Ljava/lang/String;I)V"), (0, .fieldref 16 63), (0, .nameAndType 64 20), (0, u "EVERY"), (26, u "EVERY_ARRIVAL"), (0, u "Lcom/example/iota_flow/iotaflow/definition/Merge;"), (5, u "FIRST_ARRIVAL"), (8, u "once"), (0, u "()Z")] 39

def k10c0 : Code := { maxStack := 5, maxLocals := 4, code := prog_17_method_1_code, exceptionTable := #[], attributes := #[] }
def k10m0 : Method := { name := "<init>", desc := "(Lcom/example/iota_flow/iotaflow/definition/Merge$Kind;Ljava/lang/String;I)V", sig := { parameters := [(.object "com/example/iota_flow/iotaflow/definition/Merge$Kind"), (.object "java/lang/String"), .int], returnType := none }, accessFlags := 1, code := some k10c0 }
def k10c1 : Code := { maxStack := 2, maxLocals := 1, code := prog_17_method_4_code, exceptionTable := #[], attributes := #[] }
def k10m1 : Method := { name := "once", desc := "()Z", sig := { parameters := [], returnType := some .boolean }, accessFlags := 1, code := some k10c1 }
/-- com/example/iota_flow/iotaflow/definition/Merge -/
def k10 : Class := { plain "com/example/iota_flow/iotaflow/definition/Merge" (some 9) with
  accessFlags := 49
  interfaces := #[]
  cf := some (fileOf pool10 47 #[.nestMembers #[16]] #[{ accessFlags := 1, nameIndex := 5, descriptorIndex := 61, attributes := #[] }, { accessFlags := 1, nameIndex := 107, descriptorIndex := 108, attributes := #[] }] 49 2 #[] #[{ accessFlags := 18, nameIndex := 8, descriptorIndex := 20, attributes := #[] }, { accessFlags := 18, nameIndex := 52, descriptorIndex := 53, attributes := #[] }, { accessFlags := 18, nameIndex := 56, descriptorIndex := 57, attributes := #[] }, { accessFlags := 25, nameIndex := 91, descriptorIndex := 92, attributes := #[] }, { accessFlags := 25, nameIndex := 98, descriptorIndex := 92, attributes := #[] }])
  fields := #[{ name := "kind", type := (.object "com/example/iota_flow/iotaflow/definition/Merge$Kind"), accessFlags := 18, slot := 0, constantValue := 0 }, { name := "flag", type := (.object "java/lang/String"), accessFlags := 18, slot := 1, constantValue := 0 }, { name := "votes", type := .int, accessFlags := 18, slot := 2, constantValue := 0 }, { name := "EVERY_ARRIVAL", type := (.object "com/example/iota_flow/iotaflow/definition/Merge"), accessFlags := 25, slot := 0, constantValue := 0 }, { name := "FIRST_ARRIVAL", type := (.object "com/example/iota_flow/iotaflow/definition/Merge"), accessFlags := 25, slot := 1, constantValue := 0 }]
  methods := #[k10m0, k10m1]
  instanceTypes := #[(.object "com/example/iota_flow/iotaflow/definition/Merge$Kind"), (.object "java/lang/String"), .int]
  staticTypes := #[(.object "com/example/iota_flow/iotaflow/definition/Merge"), (.object "com/example/iota_flow/iotaflow/definition/Merge")]
  resolved := Array.replicate 148 none
  statics := none }

def pool11 : Array CpInfo := pool [(2, .class_ 4), (1, u "java/lang/Enum"), (0, u "name"), (0, u "Ljava/lang/String;"), (2, u "ordinal"), (0, u "I"), (1, .class_ 14), (1, u "java/lang/Object"), (4, u "hash"), (86, .class_ 108), (1, u "java/lang/Enum$EnumDesc"), (2, .class_ 112), (0, u "java/lang/constant/Constable"), (0, .class_ 114), (0, u "java/lang/Comparable"), (0, .class_ 116), (0, u "java/io/Serializable")] 87

/-- java/lang/Enum -/
def k11 : Class := { plain "java/lang/Enum" (some 0) with
  accessFlags := 1057
  interfaces := #[5, 3, 2]
  cf := some (fileOf pool11 2 #[.nestMembers #[106]] #[] 1057 12 #[111, 113, 115] #[{ accessFlags := 18, nameIndex := 5, descriptorIndex := 6, attributes := #[] }, { accessFlags := 18, nameIndex := 9, descriptorIndex := 10, attributes := #[] }, { accessFlags := 2, nameIndex := 19, descriptorIndex := 10, attributes := #[] }])
  fields := #[{ name := "name", type := (.object "java/lang/String"), accessFlags := 18, slot := 0, constantValue := 0 }, { name := "ordinal", type := .int, accessFlags := 18, slot := 1, constantValue := 0 }, { name := "hash", type := .int, accessFlags := 2, slot := 2, constantValue := 0 }]
  methods := #[]
  instanceTypes := #[(.object "java/lang/String"), .int, .int]
  staticTypes := #[]
  resolved := Array.replicate 204 none
  statics := none }

def pool12 : Array CpInfo := pool [(1, .class_ 2), (0, u "com/example/iota_flow/iotaflow/definition/Merge$Kind"), (2, u "EVERY"), (0, u "Lcom/example/iota_flow/iotaflow/definition/Merge$Kind;"), (2, u "FIRST"), (2, u "FLAG"), (2, u "VOTES"), (2, u "$VALUES"), (0, u "[Lcom/example/iota_flow/iotaflow/definition/Merge$Kind;"), (6, .class_ 28), (1, u "java/lang/Enum"), (27, .class_ 57), (0, u "com/example/iota_flow/iotaflow/definition/Merge")] 2

/-- com/example/iota_flow/iotaflow/definition/Merge$Kind -/
def k12 : Class := { plain "com/example/iota_flow/iotaflow/definition/Merge$Kind" (some 11) with
  accessFlags := 16433
  interfaces := #[]
  cf := some (fileOf pool12 1 #[.nestHost 56] #[] 16433 26 #[] #[{ accessFlags := 16409, nameIndex := 5, descriptorIndex := 6, attributes := #[] }, { accessFlags := 16409, nameIndex := 9, descriptorIndex := 6, attributes := #[] }, { accessFlags := 16409, nameIndex := 12, descriptorIndex := 6, attributes := #[] }, { accessFlags := 16409, nameIndex := 15, descriptorIndex := 6, attributes := #[] }, { accessFlags := 4122, nameIndex := 18, descriptorIndex := 19, attributes := #[] }])
  fields := #[{ name := "EVERY", type := (.object "com/example/iota_flow/iotaflow/definition/Merge$Kind"), accessFlags := 16409, slot := 0, constantValue := 0 }, { name := "FIRST", type := (.object "com/example/iota_flow/iotaflow/definition/Merge$Kind"), accessFlags := 16409, slot := 1, constantValue := 0 }, { name := "FLAG", type := (.object "com/example/iota_flow/iotaflow/definition/Merge$Kind"), accessFlags := 16409, slot := 2, constantValue := 0 }, { name := "VOTES", type := (.object "com/example/iota_flow/iotaflow/definition/Merge$Kind"), accessFlags := 16409, slot := 3, constantValue := 0 }, { name := "$VALUES", type := (.array (.object "com/example/iota_flow/iotaflow/definition/Merge$Kind")), accessFlags := 4122, slot := 4, constantValue := 0 }]
  methods := #[]
  instanceTypes := #[(.object "java/lang/String"), .int, .int]
  staticTypes := #[(.object "com/example/iota_flow/iotaflow/definition/Merge$Kind"), (.object "com/example/iota_flow/iotaflow/definition/Merge$Kind"), (.object "com/example/iota_flow/iotaflow/definition/Merge$Kind"), (.object "com/example/iota_flow/iotaflow/definition/Merge$Kind"), (.array (.object "com/example/iota_flow/iotaflow/definition/Merge$Kind"))]
  resolved := Array.replicate 60 none
  statics := some 1 }

def pool13 : Array CpInfo := pool [(2, .class_ 4), (1, u "java/lang/Object"), (0, u "<init>"), (0, u "()V"), (35, .class_ 44), (1, u "java/util/Objects"), (0, u "requireNonNull"), (48, u "(Ljava/lang/Object;Ljava/lang/String;)Ljava/lang/Object;")] 89

def k13m0 : Method := { name := "<init>", desc := "()V", sig := { parameters := [], returnType := none }, accessFlags := 2, code := none }
def k13c1 : Code := { maxStack := 3, maxLocals := 2, code := jdk_31_method_11_code, exceptionTable := #[], attributes := #[] }
def k13m1 : Method := { name := "requireNonNull", desc := "(Ljava/lang/Object;Ljava/lang/String;)Ljava/lang/Object;", sig := { parameters := [(.object "java/lang/Object"), (.object "java/lang/String")], returnType := some (.object "java/lang/Object") }, accessFlags := 9, code := some k13c1 }
/-- java/util/Objects -/
def k13 : Class := { plain "java/util/Objects" (some 0) with
  accessFlags := 49
  interfaces := #[]
  cf := some (fileOf pool13 42 #[] #[{ accessFlags := 2, nameIndex := 5, descriptorIndex := 6, attributes := #[] }, { accessFlags := 9, nameIndex := 45, descriptorIndex := 94, attributes := #[] }] 49 2 #[] #[])
  fields := #[]
  methods := #[k13m0, k13m1]
  instanceTypes := #[]
  staticTypes := #[]
  resolved := Array.replicate 184 none
  statics := none }

def pool14 : Array CpInfo := pool [(4, .class_ 6), (1, u "java/lang/Object"), (0, u "<init>"), (0, u "()V"), (5, .class_ 16), (1, u "java/lang/StringLatin1"), (104, u "$assertionsDisabled"), (0, u "Z"), (98, .class_ 223), (1, u "java/lang/StringLatin1$LinesSpliterator"), (166, .class_ 391), (0, u "java/lang/StringLatin1$CharsSpliterator")] 3

def k14m0 : Method := { name := "<init>", desc := "()V", sig := { parameters := [], returnType := none }, accessFlags := 0, code := none }
/-- java/lang/StringLatin1 -/
def k14 : Class := { plain "java/lang/StringLatin1" (some 0) with
  accessFlags := 48
  interfaces := #[]
  cf := some (fileOf pool14 14 #[.nestMembers #[390, 221]] #[{ accessFlags := 0, nameIndex := 7, descriptorIndex := 8, attributes := #[] }] 48 4 #[] #[{ accessFlags := 4120, nameIndex := 121, descriptorIndex := 122, attributes := #[] }])
  fields := #[{ name := "$assertionsDisabled", type := .boolean, accessFlags := 4120, slot := 0, constantValue := 0 }]
  methods := #[k14m0]
  instanceTypes := #[]
  staticTypes := #[.boolean]
  resolved := Array.replicate 395 none
  statics := none }

def pool15 : Array CpInfo := pool [(2, .class_ 4), (1, u "java/lang/Object"), (0, u "<init>"), (0, u "()V"), (17, .class_ 26), (1, u "jdk/internal/util/Preconditions"), (28, .class_ 56), (0, u "jdk/internal/util/Preconditions$4"), (57, .class_ 115), (0, u "jdk/internal/util/Preconditions$1"), (7, u "SIOOBE_FORMATTER"), (0, u "Ljava/util/function/BiFunction;"), (0, .class_ 126), (0, u "jdk/internal/util/Preconditions$2"), (3, u "AIOOBE_FORMATTER"), (0, .class_ 132), (0, u "jdk/internal/util/Preconditions$3"), (3, u "IOOBE_FORMATTER")] 57

def k15m0 : Method := { name := "<init>", desc := "()V", sig := { parameters := [], returnType := none }, accessFlags := 1, code := none }
/-- jdk/internal/util/Preconditions -/
def k15 : Class := { plain "jdk/internal/util/Preconditions" (some 0) with
  accessFlags := 33
  interfaces := #[]
  cf := some (fileOf pool15 24 #[.nestMembers #[55, 131, 125, 114]] #[{ accessFlags := 1, nameIndex := 5, descriptorIndex := 6, attributes := #[] }] 33 2 #[] #[{ accessFlags := 25, nameIndex := 123, descriptorIndex := 124, attributes := #[] }, { accessFlags := 25, nameIndex := 130, descriptorIndex := 124, attributes := #[] }, { accessFlags := 25, nameIndex := 136, descriptorIndex := 124, attributes := #[] }])
  fields := #[{ name := "SIOOBE_FORMATTER", type := (.object "java/util/function/BiFunction"), accessFlags := 25, slot := 0, constantValue := 0 }, { name := "AIOOBE_FORMATTER", type := (.object "java/util/function/BiFunction"), accessFlags := 25, slot := 1, constantValue := 0 }, { name := "IOOBE_FORMATTER", type := (.object "java/util/function/BiFunction"), accessFlags := 25, slot := 2, constantValue := 0 }]
  methods := #[k15m0]
  instanceTypes := #[]
  staticTypes := #[(.object "java/util/function/BiFunction"), (.object "java/util/function/BiFunction"), (.object "java/util/function/BiFunction")]
  resolved := Array.replicate 194 none
  statics := some 2 }

def pool16 : Array CpInfo := pool [(9, u "<init>"), (6, .class_ 18), (1, u "java/lang/Object"), (0, u "()V"), (1, .class_ 23), (1, u "jdk/internal/util/ArraysSupport"), (0, u "LOG2_ARRAY_LONG_INDEX_SCALE"), (0, u "I"), (2, u "U"), (0, u "Ljdk/internal/misc/Unsafe;"), (8, u "BIG_ENDIAN"), (0, u "Z"), (8, u "LOG2_BYTE_BIT_SIZE"), (4, u "LOG2_ARRAY_INT_INDEX_SCALE"), (54, u "JLA"), (0, u "Ljdk/internal/access/JavaLangAccess;"), (11, u "LOG2_ARRAY_BOOLEAN_INDEX_SCALE"), (9, u "LOG2_ARRAY_BYTE_INDEX_SCALE"), (5, u "LOG2_ARRAY_CHAR_INDEX_SCALE"), (5, u "LOG2_ARRAY_SHORT_INDEX_SCALE"), (18, u "LOG2_ARRAY_FLOAT_INDEX_SCALE"), (24, u "LOG2_ARRAY_DOUBLE_INDEX_SCALE"), (89, u "T_BOOLEAN"), (2, u "T_CHAR"), (1, u "T_FLOAT"), (1, u "T_DOUBLE"), (1, u "T_BYTE"), (1, u "T_SHORT"), (1, u "T_INT"), (1, u "T_LONG"), (1, u "SOFT_MAX_ARRAY_LENGTH")] 83

def k16m0 : Method := { name := "<init>", desc := "()V", sig := { parameters := [], returnType := none }, accessFlags := 2, code := none }
/-- jdk/internal/util/ArraysSupport -/
def k16 : Class := { plain "jdk/internal/util/ArraysSupport" (some 0) with
  accessFlags := 33
  interfaces := #[]
  cf := some (fileOf pool16 21 #[] #[{ accessFlags := 2, nameIndex := 9, descriptorIndex := 19, attributes := #[] }] 33 16 #[] #[{ accessFlags := 24, nameIndex := 28, descriptorIndex := 29, attributes := #[] }, { accessFlags := 26, nameIndex := 38, descriptorIndex := 39, attributes := #[] }, { accessFlags := 25, nameIndex := 121, descriptorIndex := 25, attributes := #[] }, { accessFlags := 25, nameIndex := 131, descriptorIndex := 25, attributes := #[] }, { accessFlags := 25, nameIndex := 137, descriptorIndex := 25, attributes := #[] }, { accessFlags := 25, nameIndex := 143, descriptorIndex := 25, attributes := #[] }, { accessFlags := 25, nameIndex := 53, descriptorIndex := 25, attributes := #[] }, { accessFlags := 25, nameIndex := 24, descriptorIndex := 25, attributes := #[] }, { accessFlags := 25, nameIndex := 162, descriptorIndex := 25, attributes := #[] }, { accessFlags := 25, nameIndex := 187, descriptorIndex := 25, attributes := #[] }, { accessFlags := 26, nameIndex := 48, descriptorIndex := 25, attributes := #[] }, { accessFlags := 25, nameIndex := 277, descriptorIndex := 25, attributes := #[] }, { accessFlags := 25, nameIndex := 280, descriptorIndex := 25, attributes := #[] }, { accessFlags := 25, nameIndex := 282, descriptorIndex := 25, attributes := #[] }, { accessFlags := 25, nameIndex := 284, descriptorIndex := 25, attributes := #[] }, { accessFlags := 25, nameIndex := 286, descriptorIndex := 25, attributes := #[] }, { accessFlags := 25, nameIndex := 288, descriptorIndex := 25, attributes := #[] }, { accessFlags := 25, nameIndex := 290, descriptorIndex := 25, attributes := #[] }, { accessFlags := 25, nameIndex := 292, descriptorIndex := 25, attributes := #[] }, { accessFlags := 26, nameIndex := 108, descriptorIndex := 109, attributes := #[] }, { accessFlags := 25, nameIndex := 294, descriptorIndex := 25, attributes := #[] }])
  fields := #[{ name := "U", type := (.object "jdk/internal/misc/Unsafe"), accessFlags := 24, slot := 0, constantValue := 0 }, { name := "BIG_ENDIAN", type := .boolean, accessFlags := 26, slot := 1, constantValue := 0 }, { name := "LOG2_ARRAY_BOOLEAN_INDEX_SCALE", type := .int, accessFlags := 25, slot := 2, constantValue := 0 }, { name := "LOG2_ARRAY_BYTE_INDEX_SCALE", type := .int, accessFlags := 25, slot := 3, constantValue := 0 }, { name := "LOG2_ARRAY_CHAR_INDEX_SCALE", type := .int, accessFlags := 25, slot := 4, constantValue := 0 }, { name := "LOG2_ARRAY_SHORT_INDEX_SCALE", type := .int, accessFlags := 25, slot := 5, constantValue := 0 }, { name := "LOG2_ARRAY_INT_INDEX_SCALE", type := .int, accessFlags := 25, slot := 6, constantValue := 0 }, { name := "LOG2_ARRAY_LONG_INDEX_SCALE", type := .int, accessFlags := 25, slot := 7, constantValue := 0 }, { name := "LOG2_ARRAY_FLOAT_INDEX_SCALE", type := .int, accessFlags := 25, slot := 8, constantValue := 0 }, { name := "LOG2_ARRAY_DOUBLE_INDEX_SCALE", type := .int, accessFlags := 25, slot := 9, constantValue := 0 }, { name := "LOG2_BYTE_BIT_SIZE", type := .int, accessFlags := 26, slot := 10, constantValue := 0 }, { name := "T_BOOLEAN", type := .int, accessFlags := 25, slot := 11, constantValue := 0 }, { name := "T_CHAR", type := .int, accessFlags := 25, slot := 12, constantValue := 0 }, { name := "T_FLOAT", type := .int, accessFlags := 25, slot := 13, constantValue := 0 }, { name := "T_DOUBLE", type := .int, accessFlags := 25, slot := 14, constantValue := 0 }, { name := "T_BYTE", type := .int, accessFlags := 25, slot := 15, constantValue := 0 }, { name := "T_SHORT", type := .int, accessFlags := 25, slot := 16, constantValue := 0 }, { name := "T_INT", type := .int, accessFlags := 25, slot := 17, constantValue := 0 }, { name := "T_LONG", type := .int, accessFlags := 25, slot := 18, constantValue := 0 }, { name := "JLA", type := (.object "jdk/internal/access/JavaLangAccess"), accessFlags := 26, slot := 19, constantValue := 0 }, { name := "SOFT_MAX_ARRAY_LENGTH", type := .int, accessFlags := 25, slot := 20, constantValue := 0 }]
  methods := #[k16m0]
  instanceTypes := #[]
  staticTypes := #[(.object "jdk/internal/misc/Unsafe"), .boolean, .int, .int, .int, .int, .int, .int, .int, .int, .int, .int, .int, .int, .int, .int, .int, .int, .int, (.object "jdk/internal/access/JavaLangAccess"), .int]
  resolved := Array.replicate 378 none
  statics := none }

def pool17 : Array CpInfo := pool [(1, u "java/lang/Cloneable"), (0, .class_ 1), (0, u "java/lang/Object"), (0, .class_ 3)] 3

/-- java/lang/Cloneable -/
def k17 : Class := { plain "java/lang/Cloneable" (some 0) with
  accessFlags := 1537
  interfaces := #[]
  cf := some (fileOf pool17 2 #[] #[] 1537 4 #[] #[])
  fields := #[]
  methods := #[]
  instanceTypes := #[]
  staticTypes := #[]
  resolved := Array.replicate 8 none
  statics := none }

/-- the primitive byte -/
def k18 : Class := { plain "byte" none with kind := .primitive 'B', accessFlags := 0x411 }
/-- [B -/
def k19 : Class := { plain "[B" (some 0) with kind := .array 18 .byte, interfaces := #[17, 2], accessFlags := 1041 }

/-- the primitive char -/
def k20 : Class := { plain "char" none with kind := .primitive 'C', accessFlags := 0x411 }
/-- [C -/
def k21 : Class := { plain "[C" (some 0) with kind := .array 20 .char, interfaces := #[17, 2], accessFlags := 1041 }

/-- the primitive int -/
def k22 : Class := { plain "int" none with kind := .primitive 'I', accessFlags := 0x411 }
/-- [I -/
def k23 : Class := { plain "[I" (some 0) with kind := .array 22 .int, interfaces := #[17, 2], accessFlags := 1041 }

def heap : Heap := #[{ cls := 7, slots := #[.long 0, .int 1, .null, .int 0, .null, .int 0, .int 0], vm := .statics 7 },
  { cls := 12, slots := #[.ref 3, .ref 4, .ref 5, .ref 6, .null], vm := .statics 12 },
  { cls := 15, slots := #[.null, .null, .null], vm := .statics 15 },
  { cls := 12, slots := #[.null, .int 0, .int 0], vm := .none },
  { cls := 12, slots := #[.null, .int 1, .int 0], vm := .none },
  { cls := 12, slots := #[.null, .int 2, .int 0], vm := .none },
  { cls := 12, slots := #[.null, .int 3, .int 0], vm := .none }]
def classes : Array Class := #[k0, k1, k2, k3, k4, k5, k6, k7, k8, k9, k10, k11, k12, k13, k14, k15, k16, k17, k18, k19, k20, k21, k22, k23]
def interned : List (Array UInt16 × Addr) := []
def slotsUsed : Nat := 27
def theMethod : MethodId := ⟨1, 1⟩
def args0 : Array Value := #[.int 2, .int 16961, .int 5]
def aboutOver (below : List Frame) : State where
  vm := { classes := classes, interned := interned.toArray }
  heap := heap
  slotsUsed := slotsUsed
  threads := #[{ frames := .invoking theMethod args0 :: below }]
def below0 : List Frame := [.native { method := ⟨0, 0⟩, args := #[] }]
def about1 : State := aboutOver below0
def p0 : Program := .bare "" "" ""
def e0 : Env := launch0.env 0 0 0
theorem w_frames : about1.frames = Frame.invoking theMethod args0 :: below0 := rfl
set_option maxRecDepth 65536 in
theorem w_args : argsFit about1.vm theMethod args0 = true := by decide +kernel
set_option maxRecDepth 65536 in
theorem w_heap : heapFits about1 = true := by decide +kernel
set_option maxRecDepth 65536 in
theorem w_runnable : about1.curStatus? = some .runnable := by decide +kernel
set_option maxRecDepth 65536 in
theorem w_alone : about1.alone = true := by decide +kernel
set_option maxRecDepth 65536 in
theorem w_named : about1.methodNamed? x = some theMethod := by decide +kernel
set_option maxRecDepth 65536 in
theorem w_hears : about1.hears theMethod below0 = true := by decide +kernel
set_option maxRecDepth 65536 in
theorem w_ripe : about1.ripe theMethod args0 below0 = true := by decide +kernel
theorem w_running : about1.status = .running := rfl
set_option maxRecDepth 65536 in
theorem w_room : about1.hasRoom e0.platform room_1 = true :=
  launch0.hasRoom_least _ room_1 (by decide +kernel) (by decide +kernel) (by decide +kernel) (by decide +kernel) (by decide +kernel) (by decide +kernel)
theorem allAtoms_all (ts : List Jvm.Cond) (a : Array Jvm.Value) (st : Jvm.State) : (allAtoms ts).before a st = ts.all (fun c => c.before a st) := by
  induction ts with
  | nil => rfl
  | cons c t ih =>
    show (Jvm.Cond.and c (allAtoms t)).before a st = _
    rw [Jvm.Cond.before_and, ih, List.all_cons]
def words1 : List Jvm.Cond := Jvm.Cond.code x code maxLocals ret :: tables_1
/-- a 'code' word, met by the world's own term for the bytes: nothing is compared byte by byte -/
theorem code_word {y : MethodName} {bytes : ByteArray} {mx : Nat} {rt : Option FieldType} {a : Array Value} {s : State} {m : MethodId} {meth : Method} {c : Code} (h1 : s.methodNamed? y = some m) (h2 : s.vm.method? m = some meth) (h3 : meth.code = some c) (h4 : c.code = bytes)
    (h5 : (c.maxLocals == mx && c.exceptionTable.isEmpty && decide (c.maxStack ≤ mostOperands) && decide (meth.sig.returnType = rt) && !meth.locks && decide (parseMethodDescriptor y.desc = some meth.sig)) = true) : (Jvm.Cond.code y bytes mx rt).before a s = true := by
  simp only [Bool.and_eq_true, beq_iff_eq, Bool.not_eq_true', decide_eq_true_eq] at h5
  obtain ⟨⟨⟨⟨⟨g1, g2⟩, g3⟩, g4⟩, g5⟩, g6⟩ := h5
  simp [Cond.before, Cond.holds, Cond.value, h1, h2, h3, h4, g1, g2, g3, g4, g5, g6]
def isCode : Jvm.Cond → Bool
  | .code _ _ _ _ => true
  | _ => false
theorem all_split {L : List Jvm.Cond} {P : Jvm.Cond → Bool} (h1 : L.all (fun c => isCode c || P c) = true) (h2 : ∀ c ∈ L.filter isCode, P c = true) : L.all P = true := by
  refine List.all_eq_true.mpr fun c hc => ?_
  have h := List.all_eq_true.mp h1 c hc
  rcases Bool.eq_false_or_eq_true (isCode c) with hi | hi
  · exact h2 c (List.mem_filter.mpr ⟨hc, hi⟩)
  · simpa [hi] using h
set_option maxRecDepth 65536 in
theorem w_c0 : (Jvm.Cond.code x code maxLocals ret).before args0 about1 = true := code_word (m := ⟨1, 1⟩) (meth := k1m1) (c := k1c1) (by decide +kernel) rfl rfl rfl (by decide +kernel)
set_option maxRecDepth 65536 in
theorem w_c1 : (Jvm.Cond.code ({ cls := "java/lang/String", name := "<init>", desc := "([C)V" } : Jvm.MethodName) jdk_42_method_3_code (2 : Nat) (Option.none : Option Jvm.ClassFile.FieldType)).before args0 about1 = true := code_word (m := ⟨7, 1⟩) (meth := k7m1) (c := k7c1) (by decide +kernel) rfl rfl rfl (by decide +kernel)
set_option maxRecDepth 65536 in
theorem w_c2 : (Jvm.Cond.code ({ cls := "java/lang/String", name := "<init>", desc := "([CIILjava/lang/Void;)V" } : Jvm.MethodName) jdk_42_method_149_code (6 : Nat) (Option.none : Option Jvm.ClassFile.FieldType)).before args0 about1 = true := code_word (m := ⟨7, 2⟩) (meth := k7m2) (c := k7c2) (by decide +kernel) rfl rfl rfl (by decide +kernel)
set_option maxRecDepth 65536 in
theorem w_c3 : (Jvm.Cond.code ({ cls := "java/lang/Object", name := "<init>", desc := "()V" } : Jvm.MethodName) object_method_1_code (1 : Nat) (Option.none : Option Jvm.ClassFile.FieldType)).before args0 about1 = true := code_word (m := ⟨0, 0⟩) (meth := k0m0) (c := k0c0) (by decide +kernel) rfl rfl rfl (by decide +kernel)
set_option maxRecDepth 65536 in
theorem w_c4 : (Jvm.Cond.code ({ cls := "java/lang/StringUTF16", name := "compress", desc := "([CII)[B" } : Jvm.MethodName) jdk_52_method_16_code (6 : Nat) (Option.some (Jvm.ClassFile.FieldType.array Jvm.ClassFile.FieldType.byte))).before args0 about1 = true := code_word (m := ⟨8, 2⟩) (meth := k8m2) (c := k8c2) (by decide +kernel) rfl rfl rfl (by decide +kernel)
set_option maxRecDepth 65536 in
theorem w_c5 : (Jvm.Cond.code ({ cls := "java/lang/StringUTF16", name := "compress", desc := "([CI[BII)I" } : Jvm.MethodName) jdk_52_method_21_code (7 : Nat) (Option.some Jvm.ClassFile.FieldType.int)).before args0 about1 = true := code_word (m := ⟨8, 3⟩) (meth := k8m3) (c := k8c3) (by decide +kernel) rfl rfl rfl (by decide +kernel)
set_option maxRecDepth 65536 in
theorem w_c6 : (Jvm.Cond.code ({ cls := "java/lang/StringUTF16", name := "coderFromArrayLen", desc := "([BI)B" } : Jvm.MethodName) jdk_52_method_15_code (2 : Nat) (Option.some Jvm.ClassFile.FieldType.byte)).before args0 about1 = true := code_word (m := ⟨8, 1⟩) (meth := k8m1) (c := k8c1) (by decide +kernel) rfl rfl rfl (by decide +kernel)
set_option maxRecDepth 65536 in
theorem w_c7 : (Jvm.Cond.code ({ cls := "com/example/iota_flow/iotaflow/definition/Merge", name := "<init>", desc := "(Lcom/example/iota_flow/iotaflow/definition/Merge$Kind;Ljava/lang/String;I)V" } : Jvm.MethodName) prog_17_method_1_code (4 : Nat) (Option.none : Option Jvm.ClassFile.FieldType)).before args0 about1 = true := code_word (m := ⟨10, 0⟩) (meth := k10m0) (c := k10c0) (by decide +kernel) rfl rfl rfl (by decide +kernel)
set_option maxRecDepth 65536 in
theorem w_c8 : (Jvm.Cond.code ({ cls := "java/lang/Record", name := "<init>", desc := "()V" } : Jvm.MethodName) jdk_30_method_1_code (1 : Nat) (Option.none : Option Jvm.ClassFile.FieldType)).before args0 about1 = true := code_word (m := ⟨9, 0⟩) (meth := k9m0) (c := k9c0) (by decide +kernel) rfl rfl rfl (by decide +kernel)
set_option maxRecDepth 65536 in
theorem w_c9 : (Jvm.Cond.code ({ cls := "java/util/Objects", name := "requireNonNull", desc := "(Ljava/lang/Object;Ljava/lang/String;)Ljava/lang/Object;" } : Jvm.MethodName) jdk_31_method_11_code (2 : Nat) (Option.some (Jvm.ClassFile.FieldType.object "java/lang/Object"))).before args0 about1 = true := code_word (m := ⟨13, 1⟩) (meth := k13m1) (c := k13c1) (by decide +kernel) rfl rfl rfl (by decide +kernel)
set_option maxRecDepth 65536 in
theorem w_c10 : (Jvm.Cond.code ({ cls := "com/example/iota_flow/iotaflow/definition/Merge", name := "once", desc := "()Z" } : Jvm.MethodName) prog_17_method_4_code (1 : Nat) (Option.some Jvm.ClassFile.FieldType.boolean)).before args0 about1 = true := code_word (m := ⟨10, 1⟩) (meth := k10m1) (c := k10c1) (by decide +kernel) rfl rfl rfl (by decide +kernel)
def codes1 : List Jvm.Cond := [Jvm.Cond.code x code maxLocals ret, Jvm.Cond.code ({ cls := "java/lang/String", name := "<init>", desc := "([C)V" } : Jvm.MethodName) jdk_42_method_3_code (2 : Nat) (Option.none : Option Jvm.ClassFile.FieldType), Jvm.Cond.code ({ cls := "java/lang/String", name := "<init>", desc := "([CIILjava/lang/Void;)V" } : Jvm.MethodName) jdk_42_method_149_code (6 : Nat) (Option.none : Option Jvm.ClassFile.FieldType), Jvm.Cond.code ({ cls := "java/lang/Object", name := "<init>", desc := "()V" } : Jvm.MethodName) object_method_1_code (1 : Nat) (Option.none : Option Jvm.ClassFile.FieldType), Jvm.Cond.code ({ cls := "java/lang/StringUTF16", name := "compress", desc := "([CII)[B" } : Jvm.MethodName) jdk_52_method_16_code (6 : Nat) (Option.some (Jvm.ClassFile.FieldType.array Jvm.ClassFile.FieldType.byte)), Jvm.Cond.code ({ cls := "java/lang/StringUTF16", name := "compress", desc := "([CI[BII)I" } : Jvm.MethodName) jdk_52_method_21_code (7 : Nat) (Option.some Jvm.ClassFile.FieldType.int), Jvm.Cond.code ({ cls := "java/lang/StringUTF16", name := "coderFromArrayLen", desc := "([BI)B" } : Jvm.MethodName) jdk_52_method_15_code (2 : Nat) (Option.some Jvm.ClassFile.FieldType.byte), Jvm.Cond.code ({ cls := "com/example/iota_flow/iotaflow/definition/Merge", name := "<init>", desc := "(Lcom/example/iota_flow/iotaflow/definition/Merge$Kind;Ljava/lang/String;I)V" } : Jvm.MethodName) prog_17_method_1_code (4 : Nat) (Option.none : Option Jvm.ClassFile.FieldType), Jvm.Cond.code ({ cls := "java/lang/Record", name := "<init>", desc := "()V" } : Jvm.MethodName) jdk_30_method_1_code (1 : Nat) (Option.none : Option Jvm.ClassFile.FieldType), Jvm.Cond.code ({ cls := "java/util/Objects", name := "requireNonNull", desc := "(Ljava/lang/Object;Ljava/lang/String;)Ljava/lang/Object;" } : Jvm.MethodName) jdk_31_method_11_code (2 : Nat) (Option.some (Jvm.ClassFile.FieldType.object "java/lang/Object")), Jvm.Cond.code ({ cls := "com/example/iota_flow/iotaflow/definition/Merge", name := "once", desc := "()Z" } : Jvm.MethodName) prog_17_method_4_code (1 : Nat) (Option.some Jvm.ClassFile.FieldType.boolean)]
set_option maxRecDepth 65536 in
theorem codes_eq : words1.filter isCode = codes1 := rfl
theorem w_codes : ∀ c ∈ words1.filter isCode, c.before args0 about1 = true := by
  rw [codes_eq]
  intro c hc
  simp only [codes1, List.mem_cons, List.not_mem_nil, or_false] at hc
  rcases hc with rfl | rfl | rfl | rfl | rfl | rfl | rfl | rfl | rfl | rfl | rfl
  · exact w_c0
  · exact w_c1
  · exact w_c2
  · exact w_c3
  · exact w_c4
  · exact w_c5
  · exact w_c6
  · exact w_c7
  · exact w_c8
  · exact w_c9
  · exact w_c10
set_option maxRecDepth 65536 in
theorem w_t1 : (words1.take 24).all (fun c => isCode c || c.before args0 about1) = true := by decide +kernel
set_option maxRecDepth 65536 in
theorem w_t2 : ((words1.drop 24).take 24).all (fun c => isCode c || c.before args0 about1) = true := by decide +kernel
set_option maxRecDepth 65536 in
theorem w_t3 : (((words1.drop 24).drop 24).take 24).all (fun c => isCode c || c.before args0 about1) = true := by decide +kernel
set_option maxRecDepth 65536 in
theorem w_t4 : (((words1.drop 24).drop 24).drop 24).all (fun c => isCode c || c.before args0 about1) = true := by decide +kernel
theorem w_tables : (allAtoms (Jvm.Cond.code x code maxLocals ret :: tables_1)).before args0 about1 = true := by
  rw [allAtoms_all]
  show words1.all (fun c => c.before args0 about1) = true
  refine all_split ?_ w_codes
  rw [← List.take_append_drop 24 words1, List.all_append, w_t1, ← List.take_append_drop 24 (words1.drop 24), List.all_append, w_t2, ← List.take_append_drop 24 ((words1.drop 24).drop 24), List.all_append, w_t3, w_t4]
  rfl
set_option maxRecDepth 65536 in
theorem w_rest : rest_1_c.before args0 about1 = true := by decide +kernel
set_option maxRecDepth 65536 in
theorem w_case : (Jvm.Cond.and given_1 narrow_1).before args0 about1 = true := by decide +kernel
theorem w_applies : (headSpec (Jvm.Cond.code x code maxLocals ret :: tables_1) room_1).applies x e0.platform about1 = true :=
  (Spec.applies_iff w_frames).mpr ⟨w_running, w_runnable, w_alone, w_named, w_hears, w_ripe, w_room, w_tables⟩
theorem atStart : AtStart classFile x code maxLocals ret World_1 tables_1 room_1 Calls_1 rest_1 Pre_1 launch0 p0 e0 about1 theMethod args0 below0 :=
  ⟨lists_1, trivial, launch0.admits_env _ _ _, launch0.least_env, fairChoices_fair.cas, fairChoices_fair.clock, w_frames, w_args, w_heap, w_applies, trivial, w_rest, w_case⟩
end start1
theorem witness_1 : WitnessClaimed_1 := ⟨start1.p0, start1.e0, start1.about1, start1.theMethod, start1.args0, start1.below0, start1.atStart⟩
end Jvm.Pilot.@@N@@
