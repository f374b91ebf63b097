import JvmDerived
import JvmDerived.Pilot.@@N@@Statement
import JvmDerived.Pilot.@@N@@Code
set_option linter.unusedVariables false
set_option linter.unusedSimpArgs false
@@BLOCK:NumsL.lean.txt@@
namespace Jvm.Pilot.@@N@@
open Jvm Jvm.ClassFile Sem Op Lib Jvm.Free Jvm.Stand Jvm.LawKit Jvm.RoadKit Bundle Jvm.Pilot.@@N@@.Jvm.D
theorem ow {a0 : Array Value} {Z : State} (hw : ∀ d ∈ tables_1, d.before a0 Z = true) (i : Nat) {d : Jvm.Cond} (h : tables_1[i]? = some d) : d.before a0 Z = true := hw _ (List.mem_of_getElem? h)
section OwnKit
abbrev uu : Slot := .unset
abbrev ss : Slot := .second
abbrev jv (x : Int64) : Slot := .val (.long x)
variable {p : Program} {l : Launch} {e : Env} {R : Room} {s : State} {m : MethodId} {args : Array Value} {below : List Frame} {meth : Method} {c : Code} {T : State} {locs : List Loc} {cells slots : Nat} {Z : State} {a0 : Array Value} {h h' : Heap} {K : State → Outcome → Prop}
/-- from here the run comes to an end that K takes -/
def own_Wp (tb : Tables) (e : Env) (below : List Frame) (K : State → Outcome → Prop) (st : State) : Prop := ∃ s₂ o, Steps tb e below st s₂ ∧ K s₂ o
theorem own_of {tb : Tables} {A B : State} (h : ∀ t, Steps tb e below B t → Steps tb e below A t) (w : own_Wp tb e below K B) : own_Wp tb e below K A := by
  obtain ⟨s₂, o, h1, h2⟩ := w
  exact ⟨s₂, o, h _ h1, h2⟩
def own_K (R : Room) (s : State) (below : List Frame) (Q : Option Value → Heap → List Loc → Prop) (s₂ : State) (o : Outcome) : Prop :=
  s₂.status = .running ∧ Ended s₂ below o ∧ ∃ v L, o = .returned v ∧ Q v s₂.heap L ∧ FrameEnd s o s₂ L R.cells R.slots
theorem own_ret {Q : Option Value → Heap → List Loc → Prop} (X : Stand p l e R s m args below meth c T locs cells slots) (hlk : meth.locks = false) (v : Option Value) (hv : meth.sig.returnType = none → v = none) {f : JFrame}
    (hs : ∀ fs, (∀ (f : JFrame) (acts : List Action), f.method = m → f.locked = none → f.entered = [] → (doReturn e (T.setTop f) acts v).1 = T.setFrames fs) → Steps p.tables e below (T.setTop f) (T.setFrames fs))
    (hQ : Q v T.heap locs) (hc : cells ≤ R.cells) (hsl : slots ≤ R.slots) : own_Wp p.tables e below (own_K R s below Q) (T.setTop f) := by
  obtain ⟨fs, hr, hrun, hended, hW, hsame⟩ := X.leave (v := v) hv hlk
  exact ⟨_, _, hs fs hr, hrun, hended, _, _, rfl, hQ, ⟨_, rfl⟩, hW, hsame.mono hc hsl⟩
theorem own_rtI {i : FieldType} {v : Option Value} {r : Option FieldType} (h1 : r = some i) : r = none → v = none := fun h => by rw [h1] at h; cases h
theorem own_retI (X : Stand p l e R s m args below meth c T locs cells slots) (hx : p.tables.exec = Jvm.exec) {pc : Nat} {Ls : Array Slot} {z : Int32} {rest : List Value} (hret : meth.sig.returnType = some .int) (hd : decode c.code pc = .ok (.ireturn, 1)) {fs : List Frame}
    (hl : ∀ (f : JFrame) (acts : List Action), f.method = m → f.locked = none → f.entered = [] → (doReturn e (T.setTop f) acts (some (.int z))).1 = T.setFrames fs) : Steps p.tables e below (T.setTop (mkF m pc Ls (.int z :: rest))) (T.setFrames fs) :=
  retOut X hx hret rfl (Or.inl ⟨rfl, Or.inl rfl, z, rfl⟩) hd hl
theorem own_retJ (X : Stand p l e R s m args below meth c T locs cells slots) (hx : p.tables.exec = Jvm.exec) {pc : Nat} {Ls : Array Slot} {z : Int64} {rest : List Value} (hret : meth.sig.returnType = some .long) (hd : decode c.code pc = .ok (.lreturn, 1)) {fs : List Frame}
    (hl : ∀ (f : JFrame) (acts : List Action), f.method = m → f.locked = none → f.entered = [] → (doReturn e (T.setTop f) acts (some (.long z))).1 = T.setFrames fs) : Steps p.tables e below (T.setTop (mkF m pc Ls (.long z :: rest))) (T.setFrames fs) :=
  retOut X hx hret rfl (Or.inr (Or.inl ⟨rfl, rfl, z, rfl⟩)) hd hl
theorem own_retR (X : Stand p l e R s m args below meth c T locs cells slots) (hx : p.tables.exec = Jvm.exec) {pc : Nat} {Ls : Array Slot} {w : Value} {t : FieldType} {rest : List Value} (hret : meth.sig.returnType = some t) (hw : w.isRef = true) (ht : t.isReference = true) (hn : narrow t w = w) (hd : decode c.code pc = .ok (.areturn, 1)) {fs : List Frame}
    (hl : ∀ (f : JFrame) (acts : List Action), f.method = m → f.locked = none → f.entered = [] → (doReturn e (T.setTop f) acts (some w)).1 = T.setFrames fs) : Steps p.tables e below (T.setTop (mkF m pc Ls (w :: rest))) (T.setFrames fs) :=
  retOut X hx hret hn (Or.inr (Or.inr (Or.inr (Or.inr ⟨rfl, ht, hw⟩)))) hd hl
/-- a method's contract: called so, at the heap h0, it returns as Q says -/
abbrev own_Ctr (l : Launch) (Z : State) (y : MethodName) (bytes : ByteArray) (maxL : Nat) (ret : Option FieldType) (ws : List Jvm.Cond) (rm : Room) (as' : Array Value) (h0 : Heap) (Q : Option Value → Heap → List Loc → Prop) : Prop :=
  MetFree l y (head1 (Jvm.Cond.code y bytes maxL ret :: ws) rm) (fun a U => a = as' ∧ Z.Warmed39 U.vm ∧ U.heap = h0) (fun _ _ _ _ _ => True) (fun _ U o U' => ∃ v L, o = .returned v ∧ Q v U'.heap L ∧ FrameEnd U o U' L rm.cells rm.slots)
theorem own_enter {y : MethodName} {bytes : ByteArray} {maxL : Nat} {ret : Option FieldType} {ws : List Jvm.Cond} {rm : Room} {as' : Array Value} {h0 : Heap} {Q : Option Value → Heap → List Loc → Prop} (hpl : plainFor y = true)
    (body : ∀ (p : Program) (e : Env) (s : State) (m : MethodId) (below : List Frame) (meth : Method) (c : Code) (s₁ : State), Stand p l e rm s m as' below meth c s₁ [] 0 0 → p.tables.exec = Jvm.exec → c.code = bytes → c.maxLocals = maxL → meth.sig.returnType = ret → meth.locks = false → Z.Warmed39 s.vm → s.vm.findClass y.cls = some m.cls → meth.name = y.name → s₁.heap = h0 → own_Wp p.tables e below (own_K rm s below Q) (s₁.setTop (entryFrame m as' maxL))) :
    own_Ctr l Z y bytes maxL ret ws rm as' h0 Q := by
  refine MetFree.of_bodySF hpl hisR ?_
  intro p e s m args below meth c s₁ Bd hml0 hP hK
  obtain ⟨rfl, hZ, hh⟩ := hP
  obtain ⟨s₂, o, h1, h2, h3, h4⟩ := body p e s m below meth c s₁ (Stand.of_body Bd) Bd.exec Bd.bytes hml0 Bd.returns Bd.notSynchronized hZ (findClass_of_methodNamed Bd.named) (name_of_methodNamed Bd.named Bd.method).1 (by rw [← hh, Bd.state]; rfl)
  exact ⟨s₂, o, h1, h2, h3, h4⟩
section Calls
variable {own C : String} {index maxL W : Nat} {y z : MethodName} {bytes : ByteArray} {ret : Option FieldType} {rm : Room} {Q : Option Value → Heap → List Loc → Prop} {argsL rest : List Value} {g : JFrame} {a : Addr}
theorem own_callS (X : Stand p l e R s m args below meth c T locs cells slots) (hx : p.tables.exec = Jvm.exec) (hZ : Z.Warmed39 s.vm) (hown : s.vm.findClass own = some m.cls)
    (w1 : (Jvm.Cond.methodLink own index y).before a0 Z = true) (w2 : (Jvm.Cond.static y).before a0 Z = true) (w3 : (Jvm.Cond.initialized y.cls).before a0 Z = true) (w4 : (Jvm.Cond.code y bytes maxL ret).before a0 Z = true)
    (hy : y.cls ≠ "java/lang/invoke/MethodHandle" ∧ y.cls ≠ "java/lang/invoke/VarHandle") (eT : T.heap = h) (hM : own_Ctr l Z y bytes maxL ret [] rm argsL.toArray h Q)
    (hf : rm.frames + 1 ≤ R.frames) (hl : W + (maxL + 11) + rm.locals ≤ R.locals) (hc : cells + rm.cells ≤ R.cells) (hs : slots + rm.slots ≤ R.slots)
    (hg : g.method = m) (hsize : g.locals.size = c.maxLocals) (hlen : ∀ sig, parseMethodDescriptor y.desc = some sig → argsL.length = sig.parameters.length) (hstack : g.stack = argsL.reverse ++ rest) (hW : 2 * g.monitorRoom + (rest.map fun v => v.category).sum ≤ W) (hdg : decode c.code g.pc = .ok (.invokestatic index, 3))
    (k : ∀ (T' : State) (L : List Loc) (v : Option Value), Stand p l e R s m args below meth c T' (locs ++ L) (cells + rm.cells) (slots + rm.slots) → Q v T'.heap L → own_Wp p.tables e below K (T'.setTop { g with pc := g.pc + 3, stack := v.toList ++ rest })) :
    own_Wp p.tables e below K (T.setTop g) := by
  obtain ⟨v, _, ⟨T', L', k', n'⟩, -, X', ⟨Lc, hQ, l1, y1, z1⟩, st⟩ := Jvm.LawKit.callS X hx hown (mvT hZ w1) (mvT hZ w2) (mvT hZ w3) (mvT hZ w4) hy (backOf (W := W) hM hZ w4 w3 hf hl) hg hsize hlen hstack hW hdg (fun _ _ => ⟨rfl, eT, hc, hs⟩)
  dsimp only [Pt.U, Pt.locs, Pt.cells, Pt.slots] at X' l1 y1 z1 st hQ
  subst l1 y1 z1
  exact own_of st (k _ _ _ X' hQ)
theorem own_callI (X : Stand p l e R s m args below meth c T locs cells slots) (hx : p.tables.exec = Jvm.exec) (hZ : Z.Warmed39 s.vm) (hy1 : y.name = "<init>") (hown : s.vm.findClass own = some m.cls)
    (w1 : (Jvm.Cond.methodLink own index y).before a0 Z = true) (w2 : (Jvm.Cond.instanceMethod y).before a0 Z = true) (w3 : (Jvm.Cond.initialized y.cls).before a0 Z = true) (w4 : (Jvm.Cond.code y bytes maxL none).before a0 Z = true)
    (hy : y.cls ≠ "java/lang/invoke/MethodHandle" ∧ y.cls ≠ "java/lang/invoke/VarHandle") (eT : T.heap = h) (hM : own_Ctr l Z y bytes maxL none [] rm (.ref a :: argsL).toArray h Q)
    (hf : rm.frames + 1 ≤ R.frames) (hl : W + (maxL + 11) + rm.locals ≤ R.locals) (hc : cells + rm.cells ≤ R.cells) (hs : slots + rm.slots ≤ R.slots)
    (hg : g.method = m) (hsize : g.locals.size = c.maxLocals) (hlen : ∀ sig, parseMethodDescriptor y.desc = some sig → argsL.length = sig.parameters.length) (hstack : g.stack = argsL.reverse ++ .ref a :: rest) (hW : 2 * g.monitorRoom + (rest.map fun v => v.category).sum ≤ W) (hdg : decode c.code g.pc = .ok (.invokespecial index, 3))
    (k : ∀ (T' : State) (L : List Loc) (v : Option Value), Stand p l e R s m args below meth c T' (locs ++ L) (cells + rm.cells) (slots + rm.slots) → Q v T'.heap L → own_Wp p.tables e below K (T'.setTop { g with pc := g.pc + 3, stack := v.toList ++ rest })) :
    own_Wp p.tables e below K (T.setTop g) := by
  obtain ⟨v, _, ⟨T', L', k', n'⟩, -, X', ⟨Lc, hQ, l1, y1, z1⟩, st⟩ := X.specialBack hx hy1 hown (mvT hZ w1) (mvT hZ w2) (mvT hZ w4) hy (backOf (W := W) hM hZ w4 w3 hf hl) hg hsize (Steps.refl _) hlen hstack hW hdg (fun _ _ => ⟨rfl, eT, hc, hs⟩)
  dsimp only [Pt.U, Pt.locs, Pt.cells, Pt.slots] at X' l1 y1 z1 st hQ
  subst l1 y1 z1
  exact own_of (fun t q => st.trans q) (k _ _ _ X' hQ)
theorem own_callV (X : Stand p l e R s m args below meth c T locs cells slots) (hx : p.tables.exec = Jvm.exec) (hZ : Z.Warmed39 s.vm) (hown : s.vm.findClass own = some m.cls)
    (w1 : (Jvm.Cond.methodLink own index y).before a0 Z = true) (w2 : (Jvm.Cond.declares y).before a0 Z = true) (w5 : (Jvm.Cond.selects C y y).before a0 Z = true) (w6 : (Jvm.Cond.instanceMethod y).before a0 Z = true) (w3 : (Jvm.Cond.initialized y.cls).before a0 Z = true) (w4 : (Jvm.Cond.code y bytes maxL ret).before a0 Z = true)
    (hy : y.cls ≠ "java/lang/invoke/MethodHandle" ∧ y.cls ≠ "java/lang/invoke/VarHandle") (eT : T.heap = h) (E : Exa Z h a C) (hM : own_Ctr l Z y bytes maxL ret [] rm (.ref a :: argsL).toArray h Q)
    (hf : rm.frames + 1 ≤ R.frames) (hl : W + (maxL + 11) + rm.locals ≤ R.locals) (hc : cells + rm.cells ≤ R.cells) (hs : slots + rm.slots ≤ R.slots)
    (hg : g.method = m) (hsize : g.locals.size = c.maxLocals) (hlen : ∀ sig, parseMethodDescriptor y.desc = some sig → argsL.length = sig.parameters.length) (hstack : g.stack = argsL.reverse ++ .ref a :: rest) (hW : 2 * g.monitorRoom + (rest.map fun v => v.category).sum ≤ W) (hdg : decode c.code g.pc = .ok (.invokevirtual index, 3))
    (k : ∀ (T' : State) (L : List Loc) (v : Option Value), Stand p l e R s m args below meth c T' (locs ++ L) (cells + rm.cells) (slots + rm.slots) → Q v T'.heap L → own_Wp p.tables e below K (T'.setTop { g with pc := g.pc + 3, stack := v.toList ++ rest })) :
    own_Wp p.tables e below K (T.setTop g) := by
  obtain ⟨cq, kq, qa, qb, qc⟩ := isOf hZ eT E
  obtain ⟨v, _, ⟨T', L', k', n'⟩, -, X', ⟨Lc, hQ, l1, y1, z1⟩, st⟩ := X.virtualBack hx hown (mvT hZ w1) (mvT hZ w2) (notFace_of_selects (args := #[]) (mvT hZ w5)) (mvT hZ w5) (mvT hZ w6) hy (backOf (W := W) hM hZ w4 w3 hf hl) qa qc hg hsize (Steps.refl _) hlen hstack hW hdg (fun _ _ => ⟨rfl, eT, hc, hs⟩)
  dsimp only [Pt.U, Pt.locs, Pt.cells, Pt.slots] at X' l1 y1 z1 st hQ
  subst l1 y1 z1
  exact own_of (fun t q => st.trans q) (k _ _ _ X' hQ)
theorem own_callP {nI : Nat} {C0 : String} (X : Stand p l e R s m args below meth c T locs cells slots) (hx : p.tables.exec = Jvm.exec) (hZ : Z.Warmed39 s.vm) (hown : s.vm.findClass own = some m.cls)
    (w1 : (Jvm.Cond.methodLink own index y).before a0 Z = true) (w2 : (Jvm.Cond.instanceMethod y).before a0 Z = true) (wi : (Jvm.Cond.instantiable y.cls nI).before a0 Z = true) (wp : (Jvm.Cond.privateMethod y).before a0 Z = true) (w3 : (Jvm.Cond.initialized y.cls).before a0 Z = true) (w4 : (Jvm.Cond.code y bytes maxL ret).before a0 Z = true)
    (hy : y.cls ≠ "java/lang/invoke/MethodHandle" ∧ y.cls ≠ "java/lang/invoke/VarHandle") (eT : T.heap = h) (E : Exa Z h a C0) (hM : own_Ctr l Z y bytes maxL ret [] rm (.ref a :: argsL).toArray h Q)
    (hf : rm.frames + 1 ≤ R.frames) (hl : W + (maxL + 11) + rm.locals ≤ R.locals) (hc : cells + rm.cells ≤ R.cells) (hs : slots + rm.slots ≤ R.slots)
    (hg : g.method = m) (hsize : g.locals.size = c.maxLocals) (hlen : ∀ sig, parseMethodDescriptor y.desc = some sig → argsL.length = sig.parameters.length) (hstack : g.stack = argsL.reverse ++ .ref a :: rest) (hW : 2 * g.monitorRoom + (rest.map fun v => v.category).sum ≤ W) (hdg : decode c.code g.pc = .ok (.invokevirtual index, 3))
    (k : ∀ (T' : State) (L : List Loc) (v : Option Value), Stand p l e R s m args below meth c T' (locs ++ L) (cells + rm.cells) (slots + rm.slots) → Q v T'.heap L → own_Wp p.tables e below K (T'.setTop { g with pc := g.pc + 3, stack := v.toList ++ rest })) :
    own_Wp p.tables e below K (T.setTop g) := by
  obtain ⟨cq, q1, q2⟩ := E.cell
  obtain ⟨ci, ki, i1, i2, -, i4, -⟩ := Cond.instantiable_spec (mvT (args := args) hZ wi)
  simp only [Bool.or_eq_false_iff] at i4
  have hpr : s.PrivateAt y := Cond.privateMethod_at (mvP hZ wp (args := #[]))
  have hsel : (Jvm.Cond.selects y.cls y y).before args s = true := selects_self_of_private i1 i2 i4.1 hpr (mvT hZ w2) hy
  obtain ⟨v, _, ⟨T', L', k', n'⟩, -, X', ⟨Lc, hQ, l1, y1, z1⟩, st⟩ := X.privateBack hx hown (mvT hZ w1) (mvT hZ w2) hsel hpr (mvT hZ w4) hy (backOf (W := W) hM hZ w4 w3 hf hl) hg hsize (Steps.refl _) (by rw [eT]; exact q1) q2 hlen hstack hW hdg (fun _ _ => ⟨rfl, eT, hc, hs⟩)
  dsimp only [Pt.U, Pt.locs, Pt.cells, Pt.slots] at X' l1 y1 z1 st hQ
  subst l1 y1 z1
  exact own_of (fun t q => st.trans q) (k _ _ _ X' hQ)
end Calls
end OwnKit
section OwnArr
variable {p : Program} {l : Launch} {e : Env} {R : Room} {s : State} {m : MethodId} {args : Array Value} {below : List Frame} {meth : Method} {c : Code} {T : State} {locs : List Loc} {cells slots : Nat} {Z : State} {a0 : Array Value} {h h' : Heap} {K : State → Outcome → Prop}
variable {a b : Addr} {ty : FieldType} {n sl : Nat} {f : Nat → Value} {v : Value} {ws : List Addr}
theorem own_nat {j : Int32} {i : Nat} (hj : j.toInt = (i : Int)) : j.toNatClampNeg = i := by
  show j.toInt.toNat = i
  rw [hj]; exact Int.toNat_natCast i
theorem own_nneg {j : Int32} {i : Nat} (hj : j.toInt = (i : Int)) : ¬ j < 0 := by
  rw [Int32.lt_iff_toInt_lt, hj]
  show ¬ ((i : Int) < 0)
  omega
/-- the array at a: its kind, its length, its elements -/
def own_Ar (Z : State) (h : Heap) (a : Addr) (ty : FieldType) (n : Nat) (f : Nat → Value) : Prop := n < 2147483648 ∧ ∃ c : Cell, Arr Z h a c ty ∧ c.slots.size = n ∧ ∀ i, i < n → c.slots[i]? = some (f i)
def own_set (f : Nat → Value) (i : Nat) (v : Value) : Nat → Value := fun k => if k = i then v else f k
theorem own_set_eq (f : Nat → Value) (i : Nat) (v : Value) : own_set f i v i = v := if_pos rfl
theorem own_set_ne {f : Nat → Value} {i k : Nat} {v : Value} (q : k ≠ i) : own_set f i v k = f k := if_neg q
theorem own_Ar.lt (F : own_Ar Z h a ty n f) : a < h.size := by obtain ⟨_, c, A, -⟩ := F; exact A.lt
theorem own_Ar.ext (F : own_Ar Z h a ty n f) (E : Ext h h') : own_Ar Z h' a ty n f := by obtain ⟨q, c, A, r⟩ := F; exact ⟨q, c, A.ext E, r⟩
theorem own_Ar.other (F : own_Ar Z h a ty n f) (W : Wr h h' b sl v) (q : a ≠ b) : own_Ar Z h' a ty n f := by obtain ⟨q0, c, A, r⟩ := F; exact ⟨q0, c, A.other W q, r⟩
theorem own_Ar.keep (F : own_Ar Z h a ty n f) (K : Keep h h' ws) (q : a ∉ ws) : own_Ar Z h' a ty n f := by obtain ⟨q0, c, A, r⟩ := F; exact ⟨q0, c, ⟨K.2.1 a c A.1 q, A.2⟩, r⟩
theorem own_Ar.fn {f' : Nat → Value} (F : own_Ar Z h a ty n f) (q : ∀ i, i < n → f i = f' i) : own_Ar Z h a ty n f' := by obtain ⟨q0, c, A, r1, r2⟩ := F; exact ⟨q0, c, A, r1, fun i hi => by rw [← q i hi]; exact r2 i hi⟩
theorem own_Ar.new {k : ClassId} {z : Int32} (A : Arr Z h a (newA k ty z) ty) (q : ¬ z < 0) (e : z.toNatClampNeg = n) : own_Ar Z h a ty n (fun _ => defaultValue ty) := by
  refine ⟨by rw [← e]; exact (back32 q).2, _, A, by rw [sz_new, e], fun i hi => ?_⟩
  simp [newA, e, hi]
theorem own_Ar.start (A : Arr Z h a c' ty) (hs : c'.slots.size < 2147483648) (H : ∀ i, i < c'.slots.size → c'.slots[i]? = some (f i)) : own_Ar Z h a ty c'.slots.size f := ⟨hs, _, A, rfl, H⟩
section Steps
variable {j : Int32} {i : Nat} {g : JFrame} {rest : List Value}
theorem own_in {cl : Cell} (hj : j.toInt = (i : Int)) (hi : i < n) (hsz : cl.slots.size = n) : ¬ (j < 0 ∨ cl.slots.size ≤ j.toNatClampNeg) := by
  rw [own_nat hj, hsz]
  rintro (q | q)
  · exact own_nneg hj q
  · omega
theorem own_iaload {v : Int32} (X : Stand p l e R s m args below meth c T locs cells slots) (hx : p.tables.exec = Jvm.exec) (hZ : Z.Warmed39 s.vm) (eT : T.heap = h) (A : own_Ar Z h a .int n f) (hj : j.toInt = (i : Int)) (hi : i < n) (hv : f i = .int v)
    (hg : g.method = m) (hs : g.stack = .int j :: .ref a :: rest) (hd : decode c.code g.pc = .ok (.iaload, 1)) (k : own_Wp p.tables e below K (T.setTop { g with pc := g.pc + 1, stack := .int v :: rest })) : own_Wp p.tables e below K (T.setTop g) := by
  obtain ⟨-, cl, A, hsz, H⟩ := A
  exact own_of (X.iaload hx (by rw [eT]; exact A.1) (State.isArrayOf_alike hZ.alike A.2.1) A.2.2 (own_in hj hi hsz) (by rw [own_nat hj, H i hi, hv]) hg hs hd) k
theorem own_laload {v : Int64} (X : Stand p l e R s m args below meth c T locs cells slots) (hx : p.tables.exec = Jvm.exec) (hZ : Z.Warmed39 s.vm) (eT : T.heap = h) (A : own_Ar Z h a .long n f) (hj : j.toInt = (i : Int)) (hi : i < n) (hv : f i = .long v)
    (hg : g.method = m) (hs : g.stack = .int j :: .ref a :: rest) (hd : decode c.code g.pc = .ok (.laload, 1)) (k : own_Wp p.tables e below K (T.setTop { g with pc := g.pc + 1, stack := .long v :: rest })) : own_Wp p.tables e below K (T.setTop g) := by
  obtain ⟨-, cl, A, hsz, H⟩ := A
  exact own_of (X.laload hx (by rw [eT]; exact A.1) (State.isArrayOf_alike hZ.alike A.2.1) A.2.2 (own_in hj hi hsz) (by rw [own_nat hj, H i hi, hv]) hg hs hd) k
theorem own_baload {v : Int32} (X : Stand p l e R s m args below meth c T locs cells slots) (hx : p.tables.exec = Jvm.exec) (hZ : Z.Warmed39 s.vm) (eT : T.heap = h) (A : own_Ar Z h a .byte n f) (hj : j.toInt = (i : Int)) (hi : i < n) (hv : f i = .int v)
    (hg : g.method = m) (hs : g.stack = .int j :: .ref a :: rest) (hd : decode c.code g.pc = .ok (.baload, 1)) (k : own_Wp p.tables e below K (T.setTop { g with pc := g.pc + 1, stack := .int v :: rest })) : own_Wp p.tables e below K (T.setTop g) := by
  obtain ⟨-, cl, A, hsz, H⟩ := A
  exact own_of (X.baloadBytes hx (by rw [eT]; exact A.1) (State.isArrayOf_alike hZ.alike A.2.1) A.2.2 (own_in hj hi hsz) (by rw [own_nat hj, H i hi, hv]) hg hs hd) k
theorem own_caload {v : Int32} (X : Stand p l e R s m args below meth c T locs cells slots) (hx : p.tables.exec = Jvm.exec) (hZ : Z.Warmed39 s.vm) (eT : T.heap = h) (A : own_Ar Z h a .char n f) (hj : j.toInt = (i : Int)) (hi : i < n) (hv : f i = .int v)
    (hg : g.method = m) (hs : g.stack = .int j :: .ref a :: rest) (hd : decode c.code g.pc = .ok (.caload, 1)) (k : own_Wp p.tables e below K (T.setTop { g with pc := g.pc + 1, stack := .int v :: rest })) : own_Wp p.tables e below K (T.setTop g) := by
  obtain ⟨-, cl, A, hsz, H⟩ := A
  exact own_of (X.caload hx (by rw [eT]; exact A.1) (State.isArrayOf_alike hZ.alike A.2.1) A.2.2 (own_in hj hi hsz) (by rw [own_nat hj, H i hi, hv]) hg hs hd) k
theorem own_zaload {v : Int32} (X : Stand p l e R s m args below meth c T locs cells slots) (hx : p.tables.exec = Jvm.exec) (hZ : Z.Warmed39 s.vm) (eT : T.heap = h) (A : own_Ar Z h a .boolean n f) (hj : j.toInt = (i : Int)) (hi : i < n) (hv : f i = .int v)
    (hg : g.method = m) (hs : g.stack = .int j :: .ref a :: rest) (hd : decode c.code g.pc = .ok (.baload, 1)) (k : own_Wp p.tables e below K (T.setTop { g with pc := g.pc + 1, stack := .int v :: rest })) : own_Wp p.tables e below K (T.setTop g) := by
  obtain ⟨-, cl, A, hsz, H⟩ := A
  exact own_of (X.baloadBooleans hx (by rw [eT]; exact A.1) (State.isArrayOf_alike hZ.alike A.2.1) A.2.2 (own_in hj hi hsz) (by rw [own_nat hj, H i hi, hv]) hg hs hd) k
theorem own_aaload {C : String} {v : Value} (X : Stand p l e R s m args below meth c T locs cells slots) (hx : p.tables.exec = Jvm.exec) (hZ : Z.Warmed39 s.vm) (eT : T.heap = h) (A : own_Ar Z h a (.object C) n f) (hj : j.toInt = (i : Int)) (hi : i < n) (hv : f i = v)
    (hg : g.method = m) (hs : g.stack = .int j :: .ref a :: rest) (hd : decode c.code g.pc = .ok (.aaload, 1)) (k : own_Wp p.tables e below K (T.setTop { g with pc := g.pc + 1, stack := v :: rest })) : own_Wp p.tables e below K (T.setTop g) := by
  obtain ⟨-, cl, A, hsz, H⟩ := A
  exact own_of (X.aaload hx (by rw [eT]; exact A.1) (State.isArrayOf_alike hZ.alike A.2.1) rfl A.2.2 (own_in hj hi hsz) (by rw [own_nat hj, H i hi, hv]) hg hs hd) k
theorem own_len {z : Int32} (X : Stand p l e R s m args below meth c T locs cells slots) (hx : p.tables.exec = Jvm.exec) (hZ : Z.Warmed39 s.vm) (eT : T.heap = h) (A : own_Ar Z h a ty n f) (hz : z.toInt = (n : Int))
    (hg : g.method = m) (hs : g.stack = .ref a :: rest) (hd : decode c.code g.pc = .ok (.arraylength, 1)) (k : own_Wp p.tables e below K (T.setTop { g with pc := g.pc + 1, stack := .int z :: rest })) : own_Wp p.tables e below K (T.setTop g) := by
  obtain ⟨-, cl, A, hsz, H⟩ := A
  have q : cl.slots.size.toInt32 = z := by rw [hsz, ← own_nat hz]; exact (back32 (own_nneg hz)).1
  rw [← q] at k
  exact own_of (X.arraylength hx (by rw [eT]; exact A.1) (State.isArrayOf_alike hZ.alike A.2.1) hg hs hd) k
theorem own_Ar.set {cl : Cell} {hn : n < 2147483648} (A : Arr Z h a cl ty) (hsz : cl.slots.size = n) (H : ∀ i, i < n → cl.slots[i]? = some (f i)) (hi : i < n) (W : Wr h h' a i v) : own_Ar Z h' a ty n (own_set f i v) := by
  refine ⟨hn, _, A.same W, by rw [sz_set]; exact hsz, fun q hq => ?_⟩
  by_cases e : q = i
  · subst e; rw [own_set_eq]; simp [Cell.setSlot, hsz, hq]
  · rw [own_set_ne e, ← H q hq]; exact Array.getElem?_setIfInBounds_ne (Ne.symm e)
theorem own_stI {x : Int32} (X : Stand p l e R s m args below meth c T locs cells slots) (hx : p.tables.exec = Jvm.exec) (hZ : Z.Warmed39 s.vm) (eT : T.heap = h) (A : own_Ar Z h a .int n f) (hj : j.toInt = (i : Int)) (hi : i < n)
    (hg : g.method = m) (hs : g.stack = .int x :: .int j :: .ref a :: rest) (hd : decode c.code g.pc = .ok (.iastore, 1)) :
    ∃ T' h', Stand p l e R s m args below meth c T' (locs ++ [⟨a, i⟩]) cells slots ∧ T'.heap = h' ∧ Wr h h' a i (.int x) ∧ own_Ar Z h' a .int n (own_set f i (.int x)) ∧ ∀ target, Steps p.tables e below (T'.setTop { g with pc := g.pc + 1, stack := rest }) target → Steps p.tables e below (T.setTop g) target := by
  obtain ⟨hn, cl, A, hsz, H⟩ := A
  obtain ⟨T', h', X', e', W, st⟩ := stI X hx hZ eT A (own_in hj hi hsz) hg hs hd
  rw [own_nat hj] at X' W
  exact ⟨T', h', X', e', W, own_Ar.set (hn := hn) A hsz H hi W, st⟩
theorem own_stJ {x : Int64} (X : Stand p l e R s m args below meth c T locs cells slots) (hx : p.tables.exec = Jvm.exec) (hZ : Z.Warmed39 s.vm) (eT : T.heap = h) (A : own_Ar Z h a .long n f) (hj : j.toInt = (i : Int)) (hi : i < n)
    (hg : g.method = m) (hs : g.stack = .long x :: .int j :: .ref a :: rest) (hd : decode c.code g.pc = .ok (.lastore, 1)) :
    ∃ T' h', Stand p l e R s m args below meth c T' (locs ++ [⟨a, i⟩]) cells slots ∧ T'.heap = h' ∧ Wr h h' a i (.long x) ∧ own_Ar Z h' a .long n (own_set f i (.long x)) ∧ ∀ target, Steps p.tables e below (T'.setTop { g with pc := g.pc + 1, stack := rest }) target → Steps p.tables e below (T.setTop g) target := by
  obtain ⟨hn, cl, A, hsz, H⟩ := A
  obtain ⟨T', h', X', e', W, st⟩ := stJ X hx hZ eT A (own_in hj hi hsz) hg hs hd
  rw [own_nat hj] at X' W
  exact ⟨T', h', X', e', W, own_Ar.set (hn := hn) A hsz H hi W, st⟩
theorem own_stB {x : Int32} (X : Stand p l e R s m args below meth c T locs cells slots) (hx : p.tables.exec = Jvm.exec) (hZ : Z.Warmed39 s.vm) (eT : T.heap = h) (A : own_Ar Z h a .byte n f) (hj : j.toInt = (i : Int)) (hi : i < n)
    (hg : g.method = m) (hs : g.stack = .int x :: .int j :: .ref a :: rest) (hd : decode c.code g.pc = .ok (.bastore, 1)) :
    ∃ T' h', Stand p l e R s m args below meth c T' (locs ++ [⟨a, i⟩]) cells slots ∧ T'.heap = h' ∧ Wr h h' a i (.int x.toInt8.toInt32) ∧ own_Ar Z h' a .byte n (own_set f i (.int x.toInt8.toInt32)) ∧ ∀ target, Steps p.tables e below (T'.setTop { g with pc := g.pc + 1, stack := rest }) target → Steps p.tables e below (T.setTop g) target := by
  obtain ⟨hn, cl, A, hsz, H⟩ := A
  obtain ⟨T', h', X', e', W, st⟩ := stB X hx hZ eT A (own_in hj hi hsz) hg hs hd
  rw [own_nat hj] at X' W
  exact ⟨T', h', X', e', W, own_Ar.set (hn := hn) A hsz H hi W, st⟩
theorem own_stC {x : Int32} (X : Stand p l e R s m args below meth c T locs cells slots) (hx : p.tables.exec = Jvm.exec) (hZ : Z.Warmed39 s.vm) (eT : T.heap = h) (A : own_Ar Z h a .char n f) (hj : j.toInt = (i : Int)) (hi : i < n)
    (hg : g.method = m) (hs : g.stack = .int x :: .int j :: .ref a :: rest) (hd : decode c.code g.pc = .ok (.castore, 1)) :
    ∃ T' h', Stand p l e R s m args below meth c T' (locs ++ [⟨a, i⟩]) cells slots ∧ T'.heap = h' ∧ Wr h h' a i (.int (nar .char x)) ∧ own_Ar Z h' a .char n (own_set f i (.int (nar .char x))) ∧ ∀ target, Steps p.tables e below (T'.setTop { g with pc := g.pc + 1, stack := rest }) target → Steps p.tables e below (T.setTop g) target := by
  obtain ⟨hn, cl, A, hsz, H⟩ := A
  obtain ⟨T', h', X', e', W, st⟩ := stC X hx hZ eT A (own_in hj hi hsz) hg hs hd
  rw [own_nat hj] at X' W
  exact ⟨T', h', X', e', W, own_Ar.set (hn := hn) A hsz H hi W, st⟩
end Steps
theorem own_more {cells' slots' : Nat} (X : Stand p l e R s m args below meth c T locs cells slots) (h1 : cells ≤ cells') (h2 : slots ≤ slots') : Stand p l e R s m args below meth c T locs cells' slots' := { X with same := X.same.mono h1 h2 }
section Start
variable {C nm d : String}
theorem own_refArr {t : Term} (ha : (Jvm.Cond.arrayOf t ty).value args s none s [] = some true) : ∃ (a : Addr) (cl : Cell), Arr s s.heap a cl ty ∧ s.arrayAt? a = some cl ∧ t.eval args s none [] s = some (.ref a) := by
  obtain ⟨a, ev⟩ : ∃ a, t.eval args s none [] s = some (.ref a) := by
    simp only [Cond.value] at ha
    split at ha
    · cases ha
    · split at ha
      · exact ⟨_, by assumption⟩
      · cases ha
      · cases ha
  obtain ⟨cl, A⟩ := Arr.start ev ha
  exact ⟨a, cl, A, IntBox.arrayAt_of A.1 A.2.1 A.2.2, ev⟩
theorem own_exaRef {t : Term} {K : String} (h : (Jvm.Cond.exactly t K).value args s none s [] = some true) : ∃ a, Exa s s.heap a K ∧ t.eval args s none [] s = some (.ref a) := by
  obtain ⟨a', c', cell, k, e1, -⟩ := Cond.exactly_spec (Cond.before_iff.mpr h)
  exact ⟨a', Exa.start e1 h, e1⟩
theorem own_fldOf {t : Term} {v : Value} {O : String} (ev : t.eval args s none [] s = some (.ref a)) (e : (Term.field t O nm d).eval args s none [] s = some v) : Fld s s.heap a O nm d v := by
  simp only [Term.eval, ev, Option.bind_eq_bind, Option.bind_some] at e
  exact Fld.start e
theorem own_fldI {t : Term} {x : Int32} {O : String} (ev : t.eval args s none [] s = some (.ref a)) (h : (Jvm.Cond.eq (.field t O nm d) (.int x)).value args s none s [] = some true) : Fld s s.heap a O nm d (.int x) := by
  cases he : (Term.field t O nm d).eval args s none [] s with
  | none => simp [Cond.value, he] at h
  | some w =>
    have : w = .int x := by
      simp only [Cond.value, he] at h
      rw [show (Term.int x).eval args s none [] s = some (.int x) from rfl] at h
      cases w <;> simp at h
      subst h; rfl
    subst this
    exact own_fldOf ev he
theorem own_isRef {t : Term} (h : (Jvm.Cond.isRef t).value args s none s [] = some true) : ∃ v, t.eval args s none [] s = some v ∧ (v = .null ∨ ∃ b, v = .ref b) := by
  simp only [Cond.value] at h
  cases he : t.eval args s none [] s with
  | none => simp [he] at h
  | some w => rw [he] at h; cases w <;> simp at h <;> simp
theorem own_notZero {t : Term} {x : Int32} (ev : t.eval args s none [] s = some (.int x)) (h : (Jvm.Cond.not (Jvm.Cond.eq t (.int 0))).value args s none s [] = some true) : ¬ x = 0 := by
  intro q
  subst q
  simp [Cond.value, ev, Term.eval] at h
theorem own_ltOf {x y : Int32} {i k : Nat} (h1 : x.toInt = (i : Int)) (h2 : y.toInt = (k : Int)) (h : i < k) : x < y := by
  rw [Int32.lt_iff_toInt_lt, h1, h2]; omega
theorem own_Ar.some {cl : Cell} (A : Arr Z h a cl ty) (hs : cl.slots.size < 2147483648) : own_Ar Z h a ty cl.slots.size (fun k => (cl.slots[k]?).getD .null) :=
  ⟨hs, _, A, rfl, fun i hi => by simp [Array.getElem?_eq_getElem hi]⟩
/-- a static that holds an array, at the start -/
theorem own_staArr (hi : (Jvm.Cond.initialized C).before args s = true) (hl : (Jvm.Cond.laysStatic C nm d).before args s = true) (ha : (Jvm.Cond.arrayOf (.static C nm d) ty).value args s none s [] = some true) :
    ∃ (a : Addr) (cl : Cell), Sta s s.heap C nm d (.ref a) ∧ Arr s s.heap a cl ty ∧ s.arrayAt? a = some cl ∧ (Term.static C nm d).eval args s none [] s = some (.ref a) := by
  obtain ⟨a, ev⟩ : ∃ a, (Term.static C nm d).eval args s none [] s = some (.ref a) := by
    simp only [Cond.value] at ha
    split at ha
    · cases ha
    · split at ha
      · exact ⟨_, by assumption⟩
      · cases ha
      · cases ha
  obtain ⟨cl, A⟩ := Arr.start ev ha
  exact ⟨a, cl, Sta.start ev (Or.inr ⟨hi, hl⟩), A, IntBox.arrayAt_of A.1 A.2.1 A.2.2, ev⟩
/-- an element that the case names -/
theorem own_elemEq {t i b : Term} {x : Int32} {cl : Cell} {jj : Int32} {idx : List Nat} (ev : t.eval args s none idx s = some (.ref a)) (hat : s.arrayAt? a = some cl) (hi : i.eval args s none idx s = some (.int jj)) (hb : b.eval args s none idx s = some (.int x)) (h : (Jvm.Cond.eq (.elem t i) b).value args s none s idx = some true) : ¬ jj < 0 ∧ cl.slots[jj.toNatClampNeg]? = some (.int x) := by
  simp only [Cond.value, hb] at h
  cases he : (Term.elem t i).eval args s none idx s with
  | none => simp [he] at h
  | some w =>
    obtain ⟨a', j', cl', q1, q2, q3, q4, q5⟩ := Term.elem_spec he
    cases ev.symm.trans q1
    cases hi.symm.trans q2
    cases hat.symm.trans q3
    rw [he] at h
    cases w <;> simp at h
    subst h
    exact ⟨fun z => q4 (Or.inl z), q5⟩
theorem own_lenEq {t : Term} {x : Int32} {cl : Cell} (ev : t.eval args s none [] s = some (.ref a)) (hat : s.arrayAt? a = some cl) (h : (Jvm.Cond.eq (.length t) (.int x)).value args s none s [] = some true) : (cl.slots.size : Int) = x.toInt := by
  simp only [Cond.value, Term.eval, ev, hat, Option.bind_eq_bind, Option.bind_some] at h
  by_cases q : cl.slots.size < 2147483648
  · simp [q] at h
    rw [← h]
    exact (Int32.toInt_ofNat_of_lt q).symm
  · simp [q] at h
theorem own_or {A B : Jvm.Cond} {idx : List Nat} (h : (Jvm.Cond.or A B).value args s none s idx = some true) : A.value args s none s idx = some true ∨ B.value args s none s idx = some true := by
  simp only [Cond.value] at h
  split at h
  · exact Or.inr h
  · exact Or.inl h
theorem own_leV {A B : Term} {x y : Int32} {idx : List Nat} (ha : A.eval args s none idx s = some (.int x)) (hb : B.eval args s none idx s = some (.int y)) (h : (Jvm.Cond.le A B).value args s none s idx = some true) : x.toInt ≤ y.toInt := by
  rw [Cond.le_ints ha hb] at h
  exact Int32.le_iff_toInt_le.mp (by simpa using h)
theorem own_ltV {A B : Term} {x y : Int32} {idx : List Nat} (ha : A.eval args s none idx s = some (.int x)) (hb : B.eval args s none idx s = some (.int y)) (h : (Jvm.Cond.lt A B).value args s none s idx = some true) : x.toInt < y.toInt := by
  simp only [Cond.value, ha, hb] at h
  exact Int32.lt_iff_toInt_lt.mp (by simpa using h)
theorem own_idx {k : Nat} (hk : k < 2147483648) : (k.toInt32).toInt = (k : Int) := Int32.toInt_ofNat_of_lt hk
section Elems
variable {t b : Term} {cl : Cell} {x lo hi : Int32} {k : Nat}
theorem own_elemK (ev : ∀ idx, t.eval args s none idx s = some (.ref a)) (hat : s.arrayAt? a = some cl) (hk : k < 2147483648) (hb : b.eval args s none [k] s = some (.int x)) (h : (Jvm.Cond.eq (.elem t (.index 0)) b).value args s none s [k] = some true) : cl.slots[k]? = some (.int x) := by
  have q := (own_elemEq (ev _) hat (Term.index_eval k) hb h).2
  rwa [own_nat (own_idx hk)] at q
theorem own_all1 (ev : ∀ idx, t.eval args s none idx s = some (.ref a)) (hat : s.arrayAt? a = some cl) (hn : cl.slots.size < 2147483648) (h : (Jvm.Cond.all t (.or (.le (.int lo) (.index 0)) (.eq (.elem t (.index 0)) b))).value args s none s [] = some true) (hk : k < cl.slots.size) (h1 : (k : Int) < lo.toInt) (hb : b.eval args s none [k] s = some (.int x)) : cl.slots[k]? = some (.int x) := by
  rcases own_or (Cond.all_elim (ev _) hat h k hk) with q | q
  · have := own_leV rfl (Term.index_eval k) q; rw [own_idx (by omega)] at this; omega
  · exact own_elemK ev hat (by omega) hb q
theorem own_all2 (ev : ∀ idx, t.eval args s none idx s = some (.ref a)) (hat : s.arrayAt? a = some cl) (hn : cl.slots.size < 2147483648) (h : (Jvm.Cond.all t (.or (.lt (.index 0) (.int lo)) (.or (.le (.int hi) (.index 0)) (.eq (.elem t (.index 0)) b)))).value args s none s [] = some true) (hk : k < cl.slots.size) (h1 : lo.toInt ≤ (k : Int)) (h2 : (k : Int) < hi.toInt) (hb : b.eval args s none [k] s = some (.int x)) : cl.slots[k]? = some (.int x) := by
  rcases own_or (Cond.all_elim (ev _) hat h k hk) with q | q
  · have := own_ltV (Term.index_eval k) rfl q; rw [own_idx (by omega)] at this; omega
  · rcases own_or q with q | q
    · have := own_leV rfl (Term.index_eval k) q; rw [own_idx (by omega)] at this; omega
    · exact own_elemK ev hat (by omega) hb q
theorem own_all3 (ev : ∀ idx, t.eval args s none idx s = some (.ref a)) (hat : s.arrayAt? a = some cl) (hn : cl.slots.size < 2147483648) (h : (Jvm.Cond.all t (.or (.lt (.index 0) (.int lo)) (.eq (.elem t (.index 0)) b))).value args s none s [] = some true) (hk : k < cl.slots.size) (h1 : lo.toInt ≤ (k : Int)) (hb : b.eval args s none [k] s = some (.int x)) : cl.slots[k]? = some (.int x) := by
  rcases own_or (Cond.all_elim (ev _) hat h k hk) with q | q
  · have := own_ltV (Term.index_eval k) rfl q; rw [own_idx (by omega)] at this; omega
  · exact own_elemK ev hat (by omega) hb q
theorem own_one (ev : ∀ idx, t.eval args s none idx s = some (.ref a)) (hat : s.arrayAt? a = some cl) (h : (Jvm.Cond.eq (.elem t (.int lo)) (.int x)).value args s none s [] = some true) (hk : lo.toInt = (k : Int)) : cl.slots[k]? = some (.int x) := by
  have q := (own_elemEq (ev _) hat rfl rfl h).2
  rwa [own_nat hk] at q
end Elems
end Start
end OwnArr
section OwnW
variable {p : Program} {l : Launch} {e : Env} {R : Room} {s sv : State} {m : MethodId} {args : Array Value} {below : List Frame} {meth : Method} {c : Code} {T : State} {locs : List Loc} {cells slots : Nat} {Z : State} {a0 : Array Value} {h h' : Heap} {K : State → Outcome → Prop}
/-- sv is the start with the tables at hand: since the start s it may have interned texts, in cells made since -/
def own_SW (s sv : State) (h : Heap) : Prop := ∃ vm k, sv = s.setVm vm ∧ s.Since vm k ∧ k ≤ h.size
theorem own_SW.mono (S : own_SW s sv h) (q : h.size ≤ h'.size) : own_SW s sv h' := by obtain ⟨vm, k, h1, h2, h3⟩ := S; exact ⟨vm, k, h1, h2, Nat.le_trans h3 q⟩
theorem own_SW.ext (S : own_SW s sv h) (E : Ext h h') : own_SW s sv h' := S.mono E.1
theorem own_SW.keep {ws : List Addr} (S : own_SW s sv h) (K : Keep h h' ws) : own_SW s sv h' := S.mono K.1
def own_KW (R : Room) (s : State) (below : List Frame) (Q : Option Value → Heap → List Loc → Prop) (s₂ : State) (o : Outcome) : Prop :=
  s₂.status = .running ∧ Ended s₂ below o ∧ ∃ v L, o = .returned v ∧ Q v s₂.heap L ∧ ReturnedEndW s o s₂ L R.cells R.slots
theorem own_retW {Q : Option Value → Heap → List Loc → Prop} (X : Stand p l e R sv m args below meth c T locs cells slots) (S : own_SW s sv T.heap) (hlk : meth.locks = false) (v : Option Value) (hv : meth.sig.returnType = none → v = none) {f : JFrame}
    (hs : ∀ fs, (∀ (f : JFrame) (acts : List Action), f.method = m → f.locked = none → f.entered = [] → (doReturn e (T.setTop f) acts v).1 = T.setFrames fs) → Steps p.tables e below (T.setTop f) (T.setFrames fs))
    (hQ : Q v T.heap locs) (hc : cells ≤ R.cells) (hsl : slots ≤ R.slots) : own_Wp p.tables e below (own_KW R s below Q) (T.setTop f) := by
  obtain ⟨vm, k, rfl, hS, hk⟩ := S
  obtain ⟨fs, hr, hrun, hended, h1, h2, h3, h4⟩ := X.leaveW hS hk (v := v) hv hlk
  exact ⟨_, _, hs fs hr, hrun, hended, _, _, rfl, hQ, h1, h2, h3, h4.mono hc hsl⟩
abbrev own_CtrW (l : Launch) (Z : State) (y : MethodName) (bytes : ByteArray) (maxL : Nat) (ret : Option FieldType) (ws : List Jvm.Cond) (rm : Room) (as' : Array Value) (h0 : Heap) (Q : Option Value → Heap → List Loc → Prop) : Prop :=
  MetFree l y (head1 (Jvm.Cond.code y bytes maxL ret :: ws) rm) (fun a U => a = as' ∧ Z.Warmed39 U.vm ∧ U.heap = h0) (fun _ _ _ _ _ => True) (fun _ U o U' => ∃ v L, o = .returned v ∧ Q v U'.heap L ∧ ReturnedEndW U o U' L rm.cells rm.slots)
theorem own_enterW {y : MethodName} {bytes : ByteArray} {maxL : Nat} {ret : Option FieldType} {ws : List Jvm.Cond} {rm : Room} {as' : Array Value} {h0 : Heap} {Q : Option Value → Heap → List Loc → Prop} (hpl : plainFor y = true)
    (body : ∀ (p : Program) (e : Env) (s : State) (m : MethodId) (below : List Frame) (meth : Method) (c : Code) (s₁ : State), Stand p l e rm s m as' below meth c s₁ [] 0 0 → own_SW s s h0 → p.tables.exec = Jvm.exec → c.code = bytes → c.maxLocals = maxL → meth.sig.returnType = ret → meth.locks = false → Z.Warmed39 s.vm → s.vm.findClass y.cls = some m.cls → meth.name = y.name → s₁.heap = h0 → own_Wp p.tables e below (own_KW rm s below Q) (s₁.setTop (entryFrame m as' maxL))) :
    own_CtrW l Z y bytes maxL ret ws rm as' h0 Q := by
  refine MetFree.of_bodySF hpl hisR ?_
  intro p e s m args below meth c s₁ Bd hml0 hP hK
  obtain ⟨rfl, hZ, hh⟩ := hP
  obtain ⟨s₂, o, h1, h2, h3, h4⟩ := body p e s m below meth c s₁ (Stand.of_body Bd) ⟨s.vm, 0, rfl, (State.WarmedH.refl s).since 0, Nat.zero_le _⟩ Bd.exec Bd.bytes hml0 Bd.returns Bd.notSynchronized hZ (findClass_of_methodNamed Bd.named) (name_of_methodNamed Bd.named Bd.method).1 (by rw [← hh, Bd.state]; rfl)
  exact ⟨s₂, o, h1, h2, h3, h4⟩
theorem own_ldc {own text : String} {index n : Nat} {g : JFrame} (X : Stand p l e R sv m args below meth c T locs cells slots) (hx : p.tables.exec = Jvm.exec) (hZ : Z.Warmed39 sv.vm) (hown : sv.vm.findClass own = some m.cls) (w : (Jvm.Cond.stringLink own index text).before a0 Z = true) (wS : ∀ a ∈ Bundle.stringAtoms, a.before a0 Z = true)
    (eT : T.heap = h) (S : own_SW s sv h) (hg : g.method = m) (hd : decode c.code g.pc = .ok (.ldc index, 2)) (hn : 4 * text.toList.length ≤ n) (hbig : n ≤ 536870912) (hc : cells + 2 ≤ R.cells) (hl : slots + (n + 4) ≤ R.slots) :
    ∃ (a : Addr) (T' : State) (h' : Heap) (sv' : State), Stand p l e R sv' m args below meth c T' locs (cells + 2) (slots + (n + 4)) ∧ T'.heap = h' ∧ Ext h h' ∧ own_SW s sv' h' ∧ Z.Warmed39 sv'.vm ∧ sv'.vm.findClass own = some m.cls ∧
      ∀ target, Steps p.tables e below (T'.setTop { g with pc := g.pc + 2, stack := .ref a :: g.stack }) target → Steps p.tables e below (T.setTop g) target := by
  obtain ⟨vm, k, rfl, hS, hk⟩ := S
  obtain ⟨a, T', h', k1, X', e', E, hS', hk', hZ', hown', st⟩ := ldcS X hx hZ hown w wS eT hS hk hg hd hn hbig hc hl
  exact ⟨a, T', h', _, X', e', E, ⟨_, _, rfl, hS', hk'⟩, hZ', hown', st⟩
section Calls
variable {own C : String} {index maxL W : Nat} {y z : MethodName} {bytes : ByteArray} {ret : Option FieldType} {rm : Room} {Q : Option Value → Heap → List Loc → Prop} {argsL rest : List Value} {g : JFrame} {a : Addr}
theorem own_callSW (X : Stand p l e R sv m args below meth c T locs cells slots) (S : own_SW s sv h) (hx : p.tables.exec = Jvm.exec) (hZ : Z.Warmed39 sv.vm) (hown : sv.vm.findClass own = some m.cls)
    (w1 : (Jvm.Cond.methodLink own index y).before a0 Z = true) (w2 : (Jvm.Cond.static y).before a0 Z = true) (w3 : (Jvm.Cond.initialized y.cls).before a0 Z = true) (w4 : (Jvm.Cond.code y bytes maxL ret).before a0 Z = true)
    (hy : y.cls ≠ "java/lang/invoke/MethodHandle" ∧ y.cls ≠ "java/lang/invoke/VarHandle") (eT : T.heap = h) (hM : own_CtrW l Z y bytes maxL ret [] rm argsL.toArray h Q)
    (hf : rm.frames + 1 ≤ R.frames) (hl : W + (maxL + 11) + rm.locals ≤ R.locals) (hc : cells + rm.cells ≤ R.cells) (hs : slots + rm.slots ≤ R.slots)
    (hg : g.method = m) (hsize : g.locals.size = c.maxLocals) (hlen : ∀ sig, parseMethodDescriptor y.desc = some sig → argsL.length = sig.parameters.length) (hstack : g.stack = argsL.reverse ++ rest) (hW : 2 * g.monitorRoom + (rest.map fun v => v.category).sum ≤ W) (hdg : decode c.code g.pc = .ok (.invokestatic index, 3))
    (k : ∀ (sv' : State) (T' : State) (L : List Loc) (v : Option Value), Stand p l e R sv' m args below meth c T' (locs ++ L) (cells + rm.cells) (slots + rm.slots) → own_SW s sv' T'.heap → Z.Warmed39 sv'.vm → sv'.vm.findClass own = some m.cls → Q v T'.heap L → own_Wp p.tables e below K (T'.setTop { g with pc := g.pc + 3, stack := v.toList ++ rest })) :
    own_Wp p.tables e below K (T.setTop g) := by
  obtain ⟨vm, k0, rfl, hS, hk⟩ := S
  obtain ⟨v, _, ⟨T', L', k', n'⟩, -, X', hS', hgr, ⟨Lc, hQ, l1, y1, z1⟩, st⟩ := callSS X hx hown (mvT hZ w1) (mvT hZ w2) (mvT hZ w3) (mvT hZ w4) hy (backOfS (W := W) hM hZ w4 w3 hf hl) hg hsize hlen hstack hW hdg (fun _ _ => ⟨rfl, eT, hc, hs⟩)
  dsimp only [Pt.U, Pt.locs, Pt.cells, Pt.slots] at X' l1 y1 z1 st hQ hS' hgr
  subst l1 y1 z1
  rw [eT] at hgr
  exact own_of (fun t q => st.trans q) (k _ _ _ _ X' ⟨_, _, rfl, hS.trans hS' (Nat.le_trans hk hgr), Nat.le_refl _⟩ (State.Warmed39.trans hZ hS'.1) (by rw [show ((s.setVm vm).setVm T'.vm).vm = T'.vm from rfl, hS'.1.alike.findClass]; exact hown) hQ)
theorem own_callIW (X : Stand p l e R sv m args below meth c T locs cells slots) (S : own_SW s sv h) (hx : p.tables.exec = Jvm.exec) (hZ : Z.Warmed39 sv.vm) (hy1 : y.name = "<init>") (hown : sv.vm.findClass own = some m.cls)
    (w1 : (Jvm.Cond.methodLink own index y).before a0 Z = true) (w2 : (Jvm.Cond.instanceMethod y).before a0 Z = true) (w3 : (Jvm.Cond.initialized y.cls).before a0 Z = true) (w4 : (Jvm.Cond.code y bytes maxL none).before a0 Z = true)
    (hy : y.cls ≠ "java/lang/invoke/MethodHandle" ∧ y.cls ≠ "java/lang/invoke/VarHandle") (eT : T.heap = h) (hM : own_CtrW l Z y bytes maxL none [] rm (.ref a :: argsL).toArray h Q)
    (hf : rm.frames + 1 ≤ R.frames) (hl : W + (maxL + 11) + rm.locals ≤ R.locals) (hc : cells + rm.cells ≤ R.cells) (hs : slots + rm.slots ≤ R.slots)
    (hg : g.method = m) (hsize : g.locals.size = c.maxLocals) (hlen : ∀ sig, parseMethodDescriptor y.desc = some sig → argsL.length = sig.parameters.length) (hstack : g.stack = argsL.reverse ++ .ref a :: rest) (hW : 2 * g.monitorRoom + (rest.map fun v => v.category).sum ≤ W) (hdg : decode c.code g.pc = .ok (.invokespecial index, 3))
    (k : ∀ (sv' : State) (T' : State) (L : List Loc) (v : Option Value), Stand p l e R sv' m args below meth c T' (locs ++ L) (cells + rm.cells) (slots + rm.slots) → own_SW s sv' T'.heap → Z.Warmed39 sv'.vm → sv'.vm.findClass own = some m.cls → Q v T'.heap L → own_Wp p.tables e below K (T'.setTop { g with pc := g.pc + 3, stack := v.toList ++ rest })) :
    own_Wp p.tables e below K (T.setTop g) := by
  obtain ⟨vm, k0, rfl, hS, hk⟩ := S
  obtain ⟨v, _, ⟨T', L', k', n'⟩, -, X', hS', hgr, ⟨Lc, hQ, l1, y1, z1⟩, st⟩ := X.specialBackS hx hy1 hown (mvT hZ w1) (mvT hZ w2) (mvT hZ w4) hy (backOfS (W := W) hM hZ w4 w3 hf hl) hg hsize (Steps.refl _) hlen hstack hW hdg (fun _ _ => ⟨rfl, eT, hc, hs⟩)
  dsimp only [Pt.U, Pt.locs, Pt.cells, Pt.slots] at X' l1 y1 z1 st hQ hS' hgr
  subst l1 y1 z1
  rw [eT] at hgr
  exact own_of (fun t q => st.trans q) (k _ _ _ _ X' ⟨_, _, rfl, hS.trans hS' (Nat.le_trans hk hgr), Nat.le_refl _⟩ (State.Warmed39.trans hZ hS'.1) (by rw [show ((s.setVm vm).setVm T'.vm).vm = T'.vm from rfl, hS'.1.alike.findClass]; exact hown) hQ)
end Calls
end OwnW
section OwnH
variable {p : Program} {l : Launch} {e : Env} {R : Room} {s sv : State} {m : MethodId} {args : Array Value} {below : List Frame} {meth : Method} {c : Code} {T : State} {locs : List Loc} {cells slots : Nat} {Z : State} {a0 : Array Value} {h0 h h' : Heap} {K : State → Outcome → Prop} {EL : List (String × Nat)}
/-- since the entry (s, h0) texts may have been interned; the assumed literals still hold their texts -/
def own_SH (Z : State) (EL : List (String × Nat)) (s sv : State) (h0 h : Heap) : Prop := own_SW s sv h ∧ CHr Z EL s.vm h0 sv.vm h
theorem own_SH.ext (S : own_SH Z EL s sv h0 h) (E : Ext h h') : own_SH Z EL s sv h0 h' := ⟨S.1.ext E, S.2.trans (CHr.ext E S.2.1)⟩
theorem own_SH.keep {ws : List Addr} (S : own_SH Z EL s sv h0 h) (K : Keep h h' ws) (q : ∀ x ∈ ws, Safe Z EL sv.vm h x) : own_SH Z EL s sv h0 h' := ⟨S.1.keep K, S.2.trans (CHr.keep K q S.2.1)⟩
theorem own_SH.wr {a : Addr} {sl : Nat} {v : Value} (S : own_SH Z EL s sv h0 h) (W : Wr h h' a sl v) (q : Safe Z EL sv.vm h a) : own_SH Z EL s sv h0 h' := ⟨S.1.mono (Keep.of_wr W).1, S.2.trans (CHr.wr W q S.2.1)⟩
def own_KH (Z : State) (EL : List (String × Nat)) (R : Room) (s : State) (below : List Frame) (Q : Option Value → Heap → List Loc → Prop) (s₂ : State) (o : Outcome) : Prop :=
  s₂.status = .running ∧ Ended s₂ below o ∧ ∃ v L, o = .returned v ∧ Q v s₂.heap L ∧ CHr Z EL s.vm s.heap s₂.vm s₂.heap ∧ ReturnedEndW s o s₂ L R.cells R.slots
theorem own_retH {Q : Option Value → Heap → List Loc → Prop} (X : Stand p l e R sv m args below meth c T locs cells slots) (hZ : Z.Warmed39 sv.vm) (hEL : EW Z a0 EL) (S : own_SH Z EL s sv s.heap T.heap) (hlk : meth.locks = false) (v : Option Value) (hv : meth.sig.returnType = none → v = none) {f : JFrame}
    (hs : ∀ fs, (∀ (f : JFrame) (acts : List Action), f.method = m → f.locked = none → f.entered = [] → (doReturn e (T.setTop f) acts v).1 = T.setFrames fs) → Steps p.tables e below (T.setTop f) (T.setFrames fs))
    (hQ : Q v T.heap locs) (hc : cells ≤ R.cells) (hsl : slots ≤ R.slots) : own_Wp p.tables e below (own_KH Z EL R s below Q) (T.setTop f) := by
  obtain ⟨⟨vm, k, rfl, hS, hk⟩, S2⟩ := S
  obtain ⟨fs, hr, hrun, hended, h1, h2, h3, h4⟩ := X.leaveW hS hk (v := v) hv hlk
  have C : CHr Z EL vm T.heap T.vm T.heap := CHv.at X hZ hEL S2.1
  exact ⟨_, _, hs fs hr, hrun, hended, _, _, rfl, hQ, S2.trans C, h1, h2, h3, h4.mono hc hsl⟩
abbrev own_CtrH (EL : List (String × Nat)) (ss : List Addr) (l : Launch) (Z : State) (y : MethodName) (bytes : ByteArray) (maxL : Nat) (ret : Option FieldType) (ws : List Jvm.Cond) (rm : Room) (as' : Array Value) (h0 : Heap) (Q : Option Value → Heap → List Loc → Prop) : Prop :=
  MetFree l y (head1 (Jvm.Cond.code y bytes maxL ret :: ws) rm) (fun a U => a = as' ∧ Z.Warmed39 U.vm ∧ U.heap = h0 ∧ CHv Z EL U.vm h0 ∧ ∀ x ∈ ss, Safe Z EL U.vm h0 x) (fun _ _ _ _ _ => True) (fun _ U o U' => ∃ v L, o = .returned v ∧ Q v U'.heap L ∧ CHr Z EL U.vm U.heap U'.vm U'.heap ∧ ReturnedEndW U o U' L rm.cells rm.slots)
theorem own_enterH {ss : List Addr} {y : MethodName} {bytes : ByteArray} {maxL : Nat} {ret : Option FieldType} {ws : List Jvm.Cond} {rm : Room} {as' : Array Value} {h0 : Heap} {Q : Option Value → Heap → List Loc → Prop} (hpl : plainFor y = true)
    (body : ∀ (p : Program) (e : Env) (s : State) (m : MethodId) (below : List Frame) (meth : Method) (c : Code) (s₁ : State), Stand p l e rm s m as' below meth c s₁ [] 0 0 → own_SH Z EL s s s.heap h0 → (∀ x ∈ ss, Safe Z EL s.vm h0 x) → p.tables.exec = Jvm.exec → c.code = bytes → c.maxLocals = maxL → meth.sig.returnType = ret → meth.locks = false → Z.Warmed39 s.vm → s.vm.findClass y.cls = some m.cls → meth.name = y.name → s₁.heap = h0 → own_Wp p.tables e below (own_KH Z EL rm s below Q) (s₁.setTop (entryFrame m as' maxL))) :
    own_CtrH EL ss l Z y bytes maxL ret ws rm as' h0 Q := by
  refine MetFree.of_bodySF hpl hisR ?_
  intro p e s m args below meth c s₁ Bd hml0 hP hK
  obtain ⟨rfl, hZ, hh, hC, hSs⟩ := hP
  obtain ⟨s₂, o, h1, h2, h3, h4⟩ := body p e s m below meth c s₁ (Stand.of_body Bd) ⟨⟨s.vm, 0, rfl, (State.WarmedH.refl s).since 0, Nat.zero_le _⟩, by rw [hh]; exact CHr.refl hC⟩ hSs Bd.exec Bd.bytes hml0 Bd.returns Bd.notSynchronized hZ (findClass_of_methodNamed Bd.named) (name_of_methodNamed Bd.named Bd.method).1 (by rw [← hh, Bd.state]; rfl)
  exact ⟨s₂, o, h1, h2, h3, h4⟩
/-- ldc of a text, unread -/
theorem own_ldcH {own text : String} {index n : Nat} {g : JFrame} (X : Stand p l e R sv m args below meth c T locs cells slots) (hx : p.tables.exec = Jvm.exec) (hZ : Z.Warmed39 sv.vm) (hown : sv.vm.findClass own = some m.cls) (w : (Jvm.Cond.stringLink own index text).before a0 Z = true) (wS : ∀ a ∈ Bundle.stringAtoms, a.before a0 Z = true) (hEL : EW Z a0 EL)
    (eT : T.heap = h) (S : own_SH Z EL s sv h0 h) (hg : g.method = m) (hd : decode c.code g.pc = .ok (.ldc index, 2)) (hn : 4 * text.toList.length ≤ n) (hbig : n ≤ 536870912) (hc : cells + 2 ≤ R.cells) (hl : slots + (n + 4) ≤ R.slots) :
    ∃ (a : Addr) (T' : State) (h' : Heap) (sv' : State), Stand p l e R sv' m args below meth c T' locs (cells + 2) (slots + (n + 4)) ∧ T'.heap = h' ∧ Ext h h' ∧ own_SH Z EL s sv' h0 h' ∧ Z.Warmed39 sv'.vm ∧ sv'.vm.findClass own = some m.cls ∧ CHr Z EL sv.vm h sv'.vm h' ∧
      ∀ target, Steps p.tables e below (T'.setTop { g with pc := g.pc + 2, stack := .ref a :: g.stack }) target → Steps p.tables e below (T.setTop g) target := by
  obtain ⟨⟨vm, k, rfl, hS, hk⟩, S2⟩ := S
  obtain ⟨a, T', h', k1, X', e', E, hS', hk', hZ', hown', C, -, st⟩ := ldcOH X hx hZ hown w wS eT hS hk hEL S2.1 hg hd hn hbig hc hl
  exact ⟨a, T', h', _, X', e', E, ⟨⟨_, _, rfl, hS', hk'⟩, S2.trans C⟩, hZ', hown', C, st⟩
/-- ldc of the empty text -/
theorem own_ldcE {own : String} {index : Nat} {g : JFrame} (X : Stand p l e R sv m args below meth c T locs cells slots) (hx : p.tables.exec = Jvm.exec) (hZ : Z.Warmed39 sv.vm) (hown : sv.vm.findClass own = some m.cls) (w : (Jvm.Cond.stringLink own index "").before a0 Z = true) (wS : ∀ a ∈ Bundle.stringAtoms, a.before a0 Z = true) (hEL : EW Z a0 EL) (hmem : (own, index) ∈ EL)
    (eT : T.heap = h) (S : own_SH Z EL s sv h0 h) (hg : g.method = m) (hd : decode c.code g.pc = .ok (.ldc index, 2)) (hc : cells + 2 ≤ R.cells) (hl : slots + 4 ≤ R.slots) :
    ∃ (a b : Addr) (T' : State) (h' : Heap) (sv' : State), Stand p l e R sv' m args below meth c T' locs (cells + 2) (slots + 4) ∧ T'.heap = h' ∧ Ext h h' ∧ own_SH Z EL s sv' h0 h' ∧ Z.Warmed39 sv'.vm ∧ sv'.vm.findClass own = some m.cls ∧ CHr Z EL sv.vm h sv'.vm h' ∧
      Exa Z h' a "java/lang/String" ∧ Fld Z h' a "java/lang/String" "coder" "B" (.int (0 : Int32)) ∧ Fld Z h' a "java/lang/String" "value" "[B" (.ref b) ∧ own_Ar Z h' b .byte 0 (fun _ => .int (0 : Int32)) ∧ (∀ x, Safe Z EL sv'.vm h' x → x ≠ a ∧ x ≠ b) ∧
      ∀ target, Steps p.tables e below (T'.setTop { g with pc := g.pc + 2, stack := .ref a :: g.stack }) target → Steps p.tables e below (T.setTop g) target := by
  obtain ⟨⟨vm, k, rfl, hS, hk⟩, S2⟩ := S
  obtain ⟨a, T', h', k1, b, kk, X', e', E, hS', hk', hZ', hown', q1, q2, q3, q4, -, -, C, -, hne, st⟩ := ldcCH X hx hZ hown w wS eT hS hk hEL hmem S2.1 (vs := []) (z := (0 : Int32)) ⟨fun c hc => by simp at hc, rfl⟩ (by decide) (by decide) hg hd (n := 0) (by decide) (by decide) hc hl
  obtain ⟨cl, A1, A2, A3, A4, A5, A6⟩ := q4
  exact ⟨a, b, T', h', _, X', e', E, ⟨⟨_, _, rfl, hS', hk'⟩, S2.trans C⟩, hZ', hown', C, q1, q2, q3, ⟨by decide, cl, A1, by rw [A3]; decide, fun i hi => absurd hi (Nat.not_lt_zero _)⟩, hne, st⟩
theorem own_backH {ss : List Addr} {vm0 : Vm} {y : MethodName} {bytes : ByteArray} {maxL : Nat} {ret : Option FieldType} {rm : Room} {len W : Nat} {as' : Array Value} {Q : Option Value → Heap → List Loc → Prop}
    (hM : own_CtrH EL ss l Z y bytes maxL ret [] rm as' h Q)
    (hZ : Z.Warmed39 vm0) (wc : (Cond.code y bytes maxL ret).before a0 Z = true) (wz : (Cond.initialized y.cls).before a0 Z = true) (hf : rm.frames + 1 ≤ R.frames) (hl : W + (maxL + 11) + rm.locals ≤ R.locals) (hEL : EW Z a0 EL) (H : CHv Z EL vm0 h) (hss : ∀ x ∈ ss, Safe Z EL vm0 h x ∧ x < h.size) :
    BackS l R p e below (s.setVm vm0) args y len W (fun A a => a = as' ∧ A.U.heap = h ∧ A.cells + rm.cells ≤ R.cells ∧ A.slots + rm.slots ≤ R.slots)
      (fun A _ v B => ∃ L, Q v B.U.heap L ∧ B.locs = A.locs ++ L ∧ B.cells = A.cells + rm.cells ∧ B.slots = A.slots + rm.slots ∧ CHr Z EL vm0 h B.U.vm B.U.heap) :=
  BackS.of_freeW (bytes := bytes) (maxL := maxL) (ret := ret) (E := fun _ first o t L k n => k = rm.cells ∧ n = rm.slots ∧ (∃ v, o = .returned v ∧ Q v t.heap L) ∧ CHr Z EL first.vm first.heap t.vm t.heap) hM hf hl
    (fun m meth c A a Y hp => have hU : Z.Warmed39 A.U.vm := wtrans (s := s.setVm vm0) hZ Y.warmed
      ⟨by show (Cond.and _ .tt).before a A.U = true; rw [Cond.before_and, mv hU wc]; rfl, mv hU wc, mv hU wz, hp.2.2.1, hp.2.2.2⟩)
    (fun m meth c A a g mk Y hp => ⟨hp.1, wtrans (s := s.setVm vm0) hZ Y.warmed, hp.2.1, (CHv.at Y hZ hEL H).1, fun x hx => (CHv.at Y hZ hEL H).safe (hss x hx).2 (hss x hx).1⟩) (fun _ _ _ _ _ _ _ _ _ => trivial)
    (fun _ _ _ _ ⟨v, L, h1, h2, h3, h4⟩ => ⟨L, _, _, h4, rfl, rfl, ⟨v, h1, h2⟩, h3⟩)
    (fun m meth c A a g mk v t L k n Y hp _ _ ⟨e1, e2, ⟨v', e3, e4⟩, e5⟩ => by
      cases e3; subst e1 e2
      refine ⟨L, e4, rfl, rfl, rfl, (CHv.at Y hZ hEL H).trans ?_⟩
      rw [← hp.2.1]; exact e5)
theorem own_safeAr {vm : Vm} {x : Addr} {ty : FieldType} {n : Nat} {f : Nat → Value} (hal : Z.vm.Alike vm) (A : own_Ar Z h x ty n f) (q : ty ≠ .byte) : Safe Z EL vm h x := by obtain ⟨-, c, A, -⟩ := A; exact Safe.arr hal A q
/-- a law's contract: the literals are held at its start -/
abbrev own_CtrG (EL : List (String × Nat)) (l : Launch) (Z : State) (y : MethodName) (bytes : ByteArray) (maxL : Nat) (ret : Option FieldType) (ws : List Jvm.Cond) (rm : Room) (as' : Array Value) (h0 : Heap) (Q : Option Value → Heap → List Loc → Prop) : Prop :=
  MetFree l y (head1 (Jvm.Cond.code y bytes maxL ret :: ws) rm) (fun a U => a = as' ∧ Z.Warmed39 U.vm ∧ U.heap = h0 ∧ CHv Z EL U.vm h0) (fun _ _ _ _ _ => True) (fun _ U o U' => ∃ v L, o = .returned v ∧ Q v U'.heap L ∧ ReturnedEndW U o U' L rm.cells rm.slots)
theorem own_enterG {y : MethodName} {bytes : ByteArray} {maxL : Nat} {ret : Option FieldType} {ws : List Jvm.Cond} {rm : Room} {as' : Array Value} {h0 : Heap} {Q : Option Value → Heap → List Loc → Prop} (hpl : plainFor y = true)
    (body : ∀ (p : Program) (e : Env) (s : State) (m : MethodId) (below : List Frame) (meth : Method) (c : Code) (s₁ : State), Stand p l e rm s m as' below meth c s₁ [] 0 0 → own_SH Z EL s s s.heap h0 → p.tables.exec = Jvm.exec → c.code = bytes → c.maxLocals = maxL → meth.sig.returnType = ret → meth.locks = false → Z.Warmed39 s.vm → s.vm.findClass y.cls = some m.cls → meth.name = y.name → s₁.heap = h0 → own_Wp p.tables e below (own_KW rm s below Q) (s₁.setTop (entryFrame m as' maxL))) :
    own_CtrG EL l Z y bytes maxL ret ws rm as' h0 Q := by
  refine MetFree.of_bodySF hpl hisR ?_
  intro p e s m args below meth c s₁ Bd hml0 hP hK
  obtain ⟨rfl, hZ, hh, hC⟩ := hP
  obtain ⟨s₂, o, h1, h2, h3, h4⟩ := body p e s m below meth c s₁ (Stand.of_body Bd) ⟨⟨s.vm, 0, rfl, (State.WarmedH.refl s).since 0, Nat.zero_le _⟩, by rw [hh]; exact CHr.refl hC⟩ Bd.exec Bd.bytes hml0 Bd.returns Bd.notSynchronized hZ (findClass_of_methodNamed Bd.named) (name_of_methodNamed Bd.named Bd.method).1 (by rw [← hh, Bd.state]; rfl)
  exact ⟨s₂, o, h1, h2, h3, h4⟩
section Calls
variable {own C : String} {index maxL W : Nat} {y z : MethodName} {bytes : ByteArray} {ret : Option FieldType} {rm : Room} {Q : Option Value → Heap → List Loc → Prop} {argsL rest : List Value} {g : JFrame} {a : Addr} {ss : List Addr}
theorem own_callSH (X : Stand p l e R sv m args below meth c T locs cells slots) (S : own_SH Z EL s sv h0 h) (hEL : EW Z a0 EL) (hx : p.tables.exec = Jvm.exec) (hZ : Z.Warmed39 sv.vm) (hown : sv.vm.findClass own = some m.cls)
    (w1 : (Jvm.Cond.methodLink own index y).before a0 Z = true) (w2 : (Jvm.Cond.static y).before a0 Z = true) (w3 : (Jvm.Cond.initialized y.cls).before a0 Z = true) (w4 : (Jvm.Cond.code y bytes maxL ret).before a0 Z = true)
    (hy : y.cls ≠ "java/lang/invoke/MethodHandle" ∧ y.cls ≠ "java/lang/invoke/VarHandle") (eT : T.heap = h) (hM : own_CtrH EL ss l Z y bytes maxL ret [] rm argsL.toArray h Q) (hss : ∀ x ∈ ss, Safe Z EL sv.vm h x ∧ x < h.size)
    (hf : rm.frames + 1 ≤ R.frames) (hl : W + (maxL + 11) + rm.locals ≤ R.locals) (hc : cells + rm.cells ≤ R.cells) (hs : slots + rm.slots ≤ R.slots)
    (hg : g.method = m) (hsize : g.locals.size = c.maxLocals) (hlen : ∀ sig, parseMethodDescriptor y.desc = some sig → argsL.length = sig.parameters.length) (hstack : g.stack = argsL.reverse ++ rest) (hW : 2 * g.monitorRoom + (rest.map fun v => v.category).sum ≤ W) (hdg : decode c.code g.pc = .ok (.invokestatic index, 3))
    (k : ∀ (sv' : State) (T' : State) (L : List Loc) (v : Option Value), Stand p l e R sv' m args below meth c T' (locs ++ L) (cells + rm.cells) (slots + rm.slots) → own_SH Z EL s sv' h0 T'.heap → Z.Warmed39 sv'.vm → sv'.vm.findClass own = some m.cls → CHr Z EL sv.vm h sv'.vm T'.heap → Q v T'.heap L → own_Wp p.tables e below K (T'.setTop { g with pc := g.pc + 3, stack := v.toList ++ rest })) :
    own_Wp p.tables e below K (T.setTop g) := by
  obtain ⟨⟨vm, k0, rfl, hS, hk⟩, S2⟩ := S
  obtain ⟨v, _, ⟨T', L', k', n'⟩, -, X', hS', hgr, ⟨Lc, hQ, l1, y1, z1, C⟩, st⟩ := callSS X hx hown (mvT hZ w1) (mvT hZ w2) (mvT hZ w3) (mvT hZ w4) hy (own_backH (W := W) hM hZ w4 w3 hf hl hEL S2.1 hss) hg hsize hlen hstack hW hdg (fun _ _ => ⟨rfl, eT, hc, hs⟩)
  dsimp only [Pt.U, Pt.locs, Pt.cells, Pt.slots] at X' l1 y1 z1 st hQ hS' hgr C
  subst l1 y1 z1
  rw [eT] at hgr
  exact own_of (fun t q => st.trans q) (k _ _ _ _ X' ⟨⟨_, _, rfl, hS.trans hS' (Nat.le_trans hk hgr), Nat.le_refl _⟩, S2.trans C⟩ (State.Warmed39.trans hZ hS'.1) (by rw [show ((s.setVm vm).setVm T'.vm).vm = T'.vm from rfl, hS'.1.alike.findClass]; exact hown) C hQ)
theorem own_callIH (X : Stand p l e R sv m args below meth c T locs cells slots) (S : own_SH Z EL s sv h0 h) (hEL : EW Z a0 EL) (hx : p.tables.exec = Jvm.exec) (hZ : Z.Warmed39 sv.vm) (hy1 : y.name = "<init>") (hown : sv.vm.findClass own = some m.cls)
    (w1 : (Jvm.Cond.methodLink own index y).before a0 Z = true) (w2 : (Jvm.Cond.instanceMethod y).before a0 Z = true) (w3 : (Jvm.Cond.initialized y.cls).before a0 Z = true) (w4 : (Jvm.Cond.code y bytes maxL none).before a0 Z = true)
    (hy : y.cls ≠ "java/lang/invoke/MethodHandle" ∧ y.cls ≠ "java/lang/invoke/VarHandle") (eT : T.heap = h) (hM : own_CtrH EL ss l Z y bytes maxL none [] rm (.ref a :: argsL).toArray h Q) (hss : ∀ x ∈ ss, Safe Z EL sv.vm h x ∧ x < h.size)
    (hf : rm.frames + 1 ≤ R.frames) (hl : W + (maxL + 11) + rm.locals ≤ R.locals) (hc : cells + rm.cells ≤ R.cells) (hs : slots + rm.slots ≤ R.slots)
    (hg : g.method = m) (hsize : g.locals.size = c.maxLocals) (hlen : ∀ sig, parseMethodDescriptor y.desc = some sig → argsL.length = sig.parameters.length) (hstack : g.stack = argsL.reverse ++ .ref a :: rest) (hW : 2 * g.monitorRoom + (rest.map fun v => v.category).sum ≤ W) (hdg : decode c.code g.pc = .ok (.invokespecial index, 3))
    (k : ∀ (sv' : State) (T' : State) (L : List Loc) (v : Option Value), Stand p l e R sv' m args below meth c T' (locs ++ L) (cells + rm.cells) (slots + rm.slots) → own_SH Z EL s sv' h0 T'.heap → Z.Warmed39 sv'.vm → sv'.vm.findClass own = some m.cls → CHr Z EL sv.vm h sv'.vm T'.heap → Q v T'.heap L → own_Wp p.tables e below K (T'.setTop { g with pc := g.pc + 3, stack := v.toList ++ rest })) :
    own_Wp p.tables e below K (T.setTop g) := by
  obtain ⟨⟨vm, k0, rfl, hS, hk⟩, S2⟩ := S
  obtain ⟨v, _, ⟨T', L', k', n'⟩, -, X', hS', hgr, ⟨Lc, hQ, l1, y1, z1, C⟩, st⟩ := X.specialBackS hx hy1 hown (mvT hZ w1) (mvT hZ w2) (mvT hZ w4) hy (own_backH (W := W) hM hZ w4 w3 hf hl hEL S2.1 hss) hg hsize (Steps.refl _) hlen hstack hW hdg (fun _ _ => ⟨rfl, eT, hc, hs⟩)
  dsimp only [Pt.U, Pt.locs, Pt.cells, Pt.slots] at X' l1 y1 z1 st hQ hS' hgr C
  subst l1 y1 z1
  rw [eT] at hgr
  exact own_of (fun t q => st.trans q) (k _ _ _ _ X' ⟨⟨_, _, rfl, hS.trans hS' (Nat.le_trans hk hgr), Nat.le_refl _⟩, S2.trans C⟩ (State.Warmed39.trans hZ hS'.1) (by rw [show ((s.setVm vm).setVm T'.vm).vm = T'.vm from rfl, hS'.1.alike.findClass]; exact hown) C hQ)
end Calls
end OwnH
section OwnU
variable {p : Program} {l : Launch} {e : Env} {R : Room} {s : State} {m : MethodId} {args : Array Value} {below : List Frame} {meth : Method} {c : Code} {T : State} {locs : List Loc} {cells slots : Nat} {Z : State} {a0 : Array Value} {h : Heap} {K : State → Outcome → Prop}
variable {own C owner : String} {index maxL W : Nat} {x y : MethodName} {bytes : ByteArray} {ret : Option FieldType} {rm : Room} {Q : Option Value → Heap → List Loc → Prop} {argsL rest : List Value} {g : JFrame} {a : Addr}
/-- a virtual call of a method that an ancestor declares -/
theorem own_callU (X : Stand p l e R s m args below meth c T locs cells slots) (hx : p.tables.exec = Jvm.exec) (hZ : Z.Warmed39 s.vm) (hown : s.vm.findClass own = some m.cls)
    (w1 : (Jvm.Cond.methodLink own index x).before a0 Z = true) (w7 : (Jvm.Cond.sameMethod x.cls owner x.name x.desc).before a0 Z = true) (w2 : (Jvm.Cond.declares ⟨owner, x.name, x.desc⟩).before a0 Z = true) (ho : owner ≠ "java/lang/invoke/MethodHandle" ∧ owner ≠ "java/lang/invoke/VarHandle") (w5 : (Jvm.Cond.selects C x y).before a0 Z = true) (w6 : (Jvm.Cond.instanceMethod y).before a0 Z = true) (w3 : (Jvm.Cond.initialized y.cls).before a0 Z = true) (w4 : (Jvm.Cond.code y bytes maxL ret).before a0 Z = true)
    (eT : T.heap = h) (E : Exa Z h a C) (hM : own_Ctr l Z y bytes maxL ret [] rm (.ref a :: argsL).toArray h Q)
    (hf : rm.frames + 1 ≤ R.frames) (hl : W + (maxL + 11) + rm.locals ≤ R.locals) (hc : cells + rm.cells ≤ R.cells) (hs : slots + rm.slots ≤ R.slots)
    (hg : g.method = m) (hsize : g.locals.size = c.maxLocals) (hlen : ∀ sig, parseMethodDescriptor x.desc = some sig → argsL.length = sig.parameters.length) (hstack : g.stack = argsL.reverse ++ .ref a :: rest) (hW : 2 * g.monitorRoom + (rest.map fun v => v.category).sum ≤ W) (hdg : decode c.code g.pc = .ok (.invokevirtual index, 3))
    (k : ∀ (T' : State) (L : List Loc) (v : Option Value), Stand p l e R s m args below meth c T' (locs ++ L) (cells + rm.cells) (slots + rm.slots) → Q v T'.heap L → own_Wp p.tables e below K (T'.setTop { g with pc := g.pc + 3, stack := v.toList ++ rest })) :
    own_Wp p.tables e below K (T.setTop g) := by
  obtain ⟨cq, kq, qa, qb, qc⟩ := isOf hZ eT E
  obtain ⟨v, _, ⟨T', L', k', n'⟩, -, X', ⟨Lc, hQ, l1, y1, z1⟩, st⟩ := X.virtualBackUp hx hown (mvT hZ w1) (mvT hZ w7) (mvT hZ w2) ho (mvT hZ w5) (mvT hZ w6) (backOf (W := W) hM hZ w4 w3 hf hl) qa qc hg hsize (Steps.refl _) hlen hstack hW hdg (fun _ _ => ⟨rfl, eT, hc, hs⟩)
  dsimp only [Pt.U, Pt.locs, Pt.cells, Pt.slots] at X' l1 y1 z1 st hQ
  subst l1 y1 z1
  exact own_of (fun t q => st.trans q) (k _ _ _ X' hQ)
end OwnU
theorem own_strA {a0 : Array Value} {Z : State} (hw : ∀ d ∈ tables_1, d.before a0 Z = true) : ∀ a ∈ Bundle.stringAtoms, a.before a0 Z = true := (List.forall_mem_cons.mpr ⟨(ow hw 6 rfl), (List.forall_mem_cons.mpr ⟨(ow hw 5 rfl), (List.forall_mem_cons.mpr ⟨(ow hw 19 rfl), (List.forall_mem_cons.mpr ⟨(ow hw 20 rfl), (List.forall_mem_cons.mpr ⟨(ow hw 21 rfl), (List.forall_mem_cons.mpr ⟨(ow hw 22 rfl), (List.forall_mem_cons.mpr ⟨(ow hw 23 rfl), (fun _ q => nomatch q)⟩)⟩)⟩)⟩)⟩)⟩)⟩)
theorem own_ofN {k : Nat} (h : k < 2147483648) : (Int32.ofNat k).toInt = (k : Int) := Int32.toInt_ofNat_of_lt h
theorem own_succ (k : Nat) : Int32.ofNat k + (1 : Int32) = Int32.ofNat (k + 1) := (Int32.ofNat_add k 1).symm
def own_tx2 (x y : Int32) : Nat → Int32 := fun k => match k with | 0 => x | _ => y
def own_by (x : Int32) : Int32 := x.toInt8.toInt32.toInt8.toInt32
theorem own_pn0 : plainName "java/lang/StringUTF16" = true := by first | (simp [plainName, overriddenIn]; done) | decide +kernel
theorem d12_0 : decode jdk_52_method_21_code 0 = .ok (.iconst 0, 1) := by decide +kernel
theorem d12_1 : decode jdk_52_method_21_code 1 = .ok (.istore 5, 2) := by decide +kernel
theorem d12_3 : decode jdk_52_method_21_code 3 = .ok (.iload 5, 2) := by decide +kernel
theorem d12_5 : decode jdk_52_method_21_code 5 = .ok (.iload 4, 2) := by decide +kernel
theorem d12_7 : decode jdk_52_method_21_code 7 = .ok (.if_icmp .ge 37, 3) := by decide +kernel
theorem d12_10 : decode jdk_52_method_21_code 10 = .ok (.aload_n 0, 1) := by decide +kernel
theorem d12_11 : decode jdk_52_method_21_code 11 = .ok (.iload_n 1, 1) := by decide +kernel
theorem d12_12 : decode jdk_52_method_21_code 12 = .ok (.caload, 1) := by decide +kernel
theorem d12_13 : decode jdk_52_method_21_code 13 = .ok (.istore 6, 2) := by decide +kernel
theorem d12_15 : decode jdk_52_method_21_code 15 = .ok (.iload 6, 2) := by decide +kernel
theorem d12_17 : decode jdk_52_method_21_code 17 = .ok (.sipush 255, 3) := by decide +kernel
theorem d12_20 : decode jdk_52_method_21_code 20 = .ok (.if_icmp .le 6, 3) := by decide +kernel
theorem d12_26 : decode jdk_52_method_21_code 26 = .ok (.aload_n 2, 1) := by decide +kernel
theorem d12_27 : decode jdk_52_method_21_code 27 = .ok (.iload_n 3, 1) := by decide +kernel
theorem d12_28 : decode jdk_52_method_21_code 28 = .ok (.iload 6, 2) := by decide +kernel
theorem d12_30 : decode jdk_52_method_21_code 30 = .ok (.i2b, 1) := by decide +kernel
theorem d12_31 : decode jdk_52_method_21_code 31 = .ok (.bastore, 1) := by decide +kernel
theorem d12_32 : decode jdk_52_method_21_code 32 = .ok (.iinc 1 1, 3) := by decide +kernel
theorem d12_35 : decode jdk_52_method_21_code 35 = .ok (.iinc 3 1, 3) := by decide +kernel
theorem d12_38 : decode jdk_52_method_21_code 38 = .ok (.iinc 5 1, 3) := by decide +kernel
theorem d12_41 : decode jdk_52_method_21_code 41 = .ok (.goto (-38), 3) := by decide +kernel
theorem d12_44 : decode jdk_52_method_21_code 44 = .ok (.iload 4, 2) := by decide +kernel
theorem d12_46 : decode jdk_52_method_21_code 46 = .ok (.ireturn, 1) := by decide +kernel
def Q_rmc5 (Z : State) (a1 : Addr) (a3 : Addr) (f : Nat → Value) (cs : Nat → Int32) (h0 : Heap) (n0 : Nat) (v : Option Value) (h : Heap) (L : List Loc) : Prop := v = some (.int (2 : Int32)) ∧ Fr n0 L ∧ Keep h0 h [a3] ∧ own_Ar Z h a3 .byte 2 (fun k => .int (own_by (cs k)))
set_option maxRecDepth 65536 in
set_option maxHeartbeats 40000000 in
theorem rmc5 (l : Launch) (Z : State) (a0 : Array Value) (hw : ∀ d ∈ tables_1, d.before a0 Z = true) (ws : List Jvm.Cond) (a1 : Addr) (a3 : Addr) (f : Nat → Value) (cs : Nat → Int32) (h0 : Heap) (n0 : Nat) (Z0 : n0 ≤ h0.size) (V_a1 : own_Ar Z h0 a1 .char 2 (fun k => .int (cs k))) (V_a3 : own_Ar Z h0 a3 .byte 2 f) (g_a3 : n0 ≤ a3) (ne13 : a1 ≠ a3) (hcs : ∀ k, k < 2 → ¬ (255 : Int32) < cs k) :
    own_Ctr l Z (⟨"java/lang/StringUTF16", "compress", "([CI[BII)I"⟩ : MethodName) jdk_52_method_21_code 7 (some .int) ws ({ frames := 0, cells := 0, slots := 0, locals := 0 } : Room) #[(.ref a1), (.int (0 : Int32)), (.ref a3), (.int (0 : Int32)), (.int (2 : Int32))] h0 (Q_rmc5 Z a1 a3 f cs h0 n0) := by
  refine own_enter (plainFor_of_name own_pn0) ?_
  intro p e s m below meth c s₁ X0 hx hby hml hrt hlk hZ hown hnm e0
  have N0 := Fr.nil n0
  have Zs := Z0
  have K0 := Keep.refl h0 [a3]
  rw [show entryFrame m #[(.ref a1), (.int (0 : Int32)), (.ref a3), (.int (0 : Int32)), (.int (2 : Int32))] 7 = mkF m 0 #[rv a1, iv (0 : Int32), rv a3, iv (0 : Int32), iv (2 : Int32), uu, uu] [] from by first | (simp [entryFrame, mkF, argsToLocals, Value.category]; done) | rfl]
  show own_Wp _ _ _ _ (s₁.setTop (mkF m 0 #[rv a1, iv (0 : Int32), rv a3, iv (0 : Int32), iv (2 : Int32), uu, uu] []))
  refine own_of (fun tgt kon => XS.iconst X0.here hx rfl (hb hby d12_0) kon) ?_
  refine own_of (fun tgt kon => XS.istore X0.here hx rfl (hb hby d12_1) rfl (l' := #[rv a1, iv (0 : Int32), rv a3, iv (0 : Int32), iv (2 : Int32), iv (0 : Int32), uu]) rfl kon) ?_
  refine own_of (fun tgt kon => XS.iload X0.here hx rfl (hb hby d12_3) rfl kon) ?_
  refine own_of (fun tgt kon => XS.iload X0.here hx rfl (hb hby d12_5) rfl kon) ?_
  have hc7 : (0 : Int32) < (2 : Int32) := by decide
  refine own_of (fun tgt kon => XS.icmpNo X0.here hx rfl (hb hby d12_7) rfl (tlt hc7).2.1 kon) ?_
  refine own_of (fun tgt kon => XS.aloadN X0.here hx rfl (hb hby d12_10) rfl rfl kon) ?_
  show own_Wp _ _ _ _ (s₁.setTop (mkF m 11 #[rv a1, iv (0 : Int32), rv a3, iv (0 : Int32), iv (2 : Int32), iv (0 : Int32), uu] [(.ref a1)]))
  refine own_of (fun tgt kon => XS.iloadN X0.here hx rfl (hb hby d12_11) rfl kon) ?_
  refine own_caload X0 hx hZ e0 V_a1 (j := (0 : Int32)) (i := 0) (v := (cs 0)) (by decide) (by decide) rfl rfl rfl (hb hby d12_12) ?_
  refine own_of (fun tgt kon => XS.istore X0.here hx rfl (hb hby d12_13) rfl (l' := #[rv a1, iv (0 : Int32), rv a3, iv (0 : Int32), iv (2 : Int32), iv (0 : Int32), iv (cs 0)]) rfl kon) ?_
  refine own_of (fun tgt kon => XS.iload X0.here hx rfl (hb hby d12_15) rfl kon) ?_
  refine own_of (fun tgt kon => XS.sipush X0.here hx rfl (hb hby d12_17) kon) ?_
  show own_Wp _ _ _ _ (s₁.setTop (mkF m 20 #[rv a1, iv (0 : Int32), rv a3, iv (0 : Int32), iv (2 : Int32), iv (0 : Int32), iv (cs 0)] [(.int (255 : Int32)), (.int (cs 0))]))
  have hc20 : ¬ ((255 : Int32) < (cs 0)) := hcs 0 (by decide)
  refine own_of (fun tgt kon => XS.icmpYes X0.here hx rfl (pc0 := 20) (pc' := 26) rfl (hb hby d12_20) rfl (flt hc20).2.2.2 (by decide) (by decide) kon) ?_
  refine own_of (fun tgt kon => XS.aloadN X0.here hx rfl (hb hby d12_26) rfl rfl kon) ?_
  refine own_of (fun tgt kon => XS.iloadN X0.here hx rfl (hb hby d12_27) rfl kon) ?_
  refine own_of (fun tgt kon => XS.iload X0.here hx rfl (hb hby d12_28) rfl kon) ?_
  refine own_of (fun tgt kon => XS.i2b X0.here hx rfl (hb hby d12_30) rfl kon) ?_
  show own_Wp _ _ _ _ (s₁.setTop (mkF m 31 #[rv a1, iv (0 : Int32), rv a3, iv (0 : Int32), iv (2 : Int32), iv (0 : Int32), iv (cs 0)] [(.int ((cs 0).toInt8.toInt32)), (.int (0 : Int32)), (.ref a3)]))
  obtain ⟨T1, h1, X1, e1, W1, Aq1, st1⟩ := own_stB X0 hx hZ e0 V_a3 (j := (0 : Int32)) (i := 0) (x := ((cs 0).toInt8.toInt32)) (by decide) (by decide) (g := (mkF m 31 #[rv a1, iv (0 : Int32), rv a3, iv (0 : Int32), iv (2 : Int32), iv (0 : Int32), iv (cs 0)] [(.int ((cs 0).toInt8.toInt32)), (.int (0 : Int32)), (.ref a3)])) rfl rfl (hb hby d12_31)
  refine own_of st1 ?_
  clear st1
  replace Zs := Nat.le_trans Zs (Keep.of_wr W1).1
  replace K0 := K0.wr W1 (Or.inl (List.mem_of_getElem? (i := 0) rfl))
  replace V_a1 := V_a1.other W1 ne13
  replace V_a3 := Aq1
  clear Aq1
  have N1 := Fr.snoc X1 N0 g_a3
  refine own_of (fun tgt kon => XS.iinc X1.here hx rfl (hb hby d12_32) rfl (l' := #[rv a1, iv ((0 : Int32) + (1 : Int32)), rv a3, iv (0 : Int32), iv (2 : Int32), iv (0 : Int32), iv (cs 0)]) rfl kon) ?_
  refine own_of (fun tgt kon => XS.iinc X1.here hx rfl (hb hby d12_35) rfl (l' := #[rv a1, iv ((0 : Int32) + (1 : Int32)), rv a3, iv ((0 : Int32) + (1 : Int32)), iv (2 : Int32), iv (0 : Int32), iv (cs 0)]) rfl kon) ?_
  refine own_of (fun tgt kon => XS.iinc X1.here hx rfl (hb hby d12_38) rfl (l' := #[rv a1, iv ((0 : Int32) + (1 : Int32)), rv a3, iv ((0 : Int32) + (1 : Int32)), iv (2 : Int32), iv ((0 : Int32) + (1 : Int32)), iv (cs 0)]) rfl kon) ?_
  refine own_of (fun tgt kon => XS.goto X1.here hx rfl (pc0 := 41) (pc' := 3) rfl (hb hby d12_41) (by decide) (by decide) kon) ?_
  show own_Wp _ _ _ _ (T1.setTop (mkF m 3 #[rv a1, iv ((0 : Int32) + (1 : Int32)), rv a3, iv ((0 : Int32) + (1 : Int32)), iv (2 : Int32), iv ((0 : Int32) + (1 : Int32)), iv (cs 0)] []))
  refine own_of (fun tgt kon => XS.iload X1.here hx rfl (hb hby d12_3) rfl kon) ?_
  refine own_of (fun tgt kon => XS.iload X1.here hx rfl (hb hby d12_5) rfl kon) ?_
  have hc7_2 : ((0 : Int32) + (1 : Int32)) < (2 : Int32) := by decide
  refine own_of (fun tgt kon => XS.icmpNo X1.here hx rfl (hb hby d12_7) rfl (tlt hc7_2).2.1 kon) ?_
  refine own_of (fun tgt kon => XS.aloadN X1.here hx rfl (hb hby d12_10) rfl rfl kon) ?_
  refine own_of (fun tgt kon => XS.iloadN X1.here hx rfl (hb hby d12_11) rfl kon) ?_
  show own_Wp _ _ _ _ (T1.setTop (mkF m 12 #[rv a1, iv ((0 : Int32) + (1 : Int32)), rv a3, iv ((0 : Int32) + (1 : Int32)), iv (2 : Int32), iv ((0 : Int32) + (1 : Int32)), iv (cs 0)] [(.int ((0 : Int32) + (1 : Int32))), (.ref a1)]))
  refine own_caload X1 hx hZ e1 V_a1 (j := ((0 : Int32) + (1 : Int32))) (i := 1) (v := (cs 1)) (by decide) (by decide) rfl rfl rfl (hb hby d12_12) ?_
  refine own_of (fun tgt kon => XS.istore X1.here hx rfl (hb hby d12_13) rfl (l' := #[rv a1, iv ((0 : Int32) + (1 : Int32)), rv a3, iv ((0 : Int32) + (1 : Int32)), iv (2 : Int32), iv ((0 : Int32) + (1 : Int32)), iv (cs 1)]) rfl kon) ?_
  refine own_of (fun tgt kon => XS.iload X1.here hx rfl (hb hby d12_15) rfl kon) ?_
  refine own_of (fun tgt kon => XS.sipush X1.here hx rfl (hb hby d12_17) kon) ?_
  have hc20_2 : ¬ ((255 : Int32) < (cs 1)) := hcs 1 (by decide)
  refine own_of (fun tgt kon => XS.icmpYes X1.here hx rfl (pc0 := 20) (pc' := 26) rfl (hb hby d12_20) rfl (flt hc20_2).2.2.2 (by decide) (by decide) kon) ?_
  refine own_of (fun tgt kon => XS.aloadN X1.here hx rfl (hb hby d12_26) rfl rfl kon) ?_
  show own_Wp _ _ _ _ (T1.setTop (mkF m 27 #[rv a1, iv ((0 : Int32) + (1 : Int32)), rv a3, iv ((0 : Int32) + (1 : Int32)), iv (2 : Int32), iv ((0 : Int32) + (1 : Int32)), iv (cs 1)] [(.ref a3)]))
  refine own_of (fun tgt kon => XS.iloadN X1.here hx rfl (hb hby d12_27) rfl kon) ?_
  refine own_of (fun tgt kon => XS.iload X1.here hx rfl (hb hby d12_28) rfl kon) ?_
  refine own_of (fun tgt kon => XS.i2b X1.here hx rfl (hb hby d12_30) rfl kon) ?_
  obtain ⟨T2, h2, X2, e2, W2, Aq2, st2⟩ := own_stB X1 hx hZ e1 V_a3 (j := ((0 : Int32) + (1 : Int32))) (i := 1) (x := ((cs 1).toInt8.toInt32)) (by decide) (by decide) (g := (mkF m 31 #[rv a1, iv ((0 : Int32) + (1 : Int32)), rv a3, iv ((0 : Int32) + (1 : Int32)), iv (2 : Int32), iv ((0 : Int32) + (1 : Int32)), iv (cs 1)] [(.int ((cs 1).toInt8.toInt32)), (.int ((0 : Int32) + (1 : Int32))), (.ref a3)])) rfl rfl (hb hby d12_31)
  refine own_of st2 ?_
  clear st2
  replace Zs := Nat.le_trans Zs (Keep.of_wr W2).1
  replace K0 := K0.wr W2 (Or.inl (List.mem_of_getElem? (i := 0) rfl))
  replace V_a1 := V_a1.other W2 ne13
  replace V_a3 := Aq2
  clear Aq2
  have N2 := Fr.snoc X2 N1 g_a3
  refine own_of (fun tgt kon => XS.iinc X2.here hx rfl (hb hby d12_32) rfl (l' := #[rv a1, iv (((0 : Int32) + (1 : Int32)) + (1 : Int32)), rv a3, iv ((0 : Int32) + (1 : Int32)), iv (2 : Int32), iv ((0 : Int32) + (1 : Int32)), iv (cs 1)]) rfl kon) ?_
  show own_Wp _ _ _ _ (T2.setTop (mkF m 35 #[rv a1, iv (((0 : Int32) + (1 : Int32)) + (1 : Int32)), rv a3, iv ((0 : Int32) + (1 : Int32)), iv (2 : Int32), iv ((0 : Int32) + (1 : Int32)), iv (cs 1)] []))
  refine own_of (fun tgt kon => XS.iinc X2.here hx rfl (hb hby d12_35) rfl (l' := #[rv a1, iv (((0 : Int32) + (1 : Int32)) + (1 : Int32)), rv a3, iv (((0 : Int32) + (1 : Int32)) + (1 : Int32)), iv (2 : Int32), iv ((0 : Int32) + (1 : Int32)), iv (cs 1)]) rfl kon) ?_
  refine own_of (fun tgt kon => XS.iinc X2.here hx rfl (hb hby d12_38) rfl (l' := #[rv a1, iv (((0 : Int32) + (1 : Int32)) + (1 : Int32)), rv a3, iv (((0 : Int32) + (1 : Int32)) + (1 : Int32)), iv (2 : Int32), iv (((0 : Int32) + (1 : Int32)) + (1 : Int32)), iv (cs 1)]) rfl kon) ?_
  refine own_of (fun tgt kon => XS.goto X2.here hx rfl (pc0 := 41) (pc' := 3) rfl (hb hby d12_41) (by decide) (by decide) kon) ?_
  refine own_of (fun tgt kon => XS.iload X2.here hx rfl (hb hby d12_3) rfl kon) ?_
  refine own_of (fun tgt kon => XS.iload X2.here hx rfl (hb hby d12_5) rfl kon) ?_
  show own_Wp _ _ _ _ (T2.setTop (mkF m 7 #[rv a1, iv (((0 : Int32) + (1 : Int32)) + (1 : Int32)), rv a3, iv (((0 : Int32) + (1 : Int32)) + (1 : Int32)), iv (2 : Int32), iv (((0 : Int32) + (1 : Int32)) + (1 : Int32)), iv (cs 1)] [(.int (2 : Int32)), (.int (((0 : Int32) + (1 : Int32)) + (1 : Int32)))]))
  have hc7_3 : ¬ ((((0 : Int32) + (1 : Int32)) + (1 : Int32)) < (2 : Int32)) := by decide
  refine own_of (fun tgt kon => XS.icmpYes X2.here hx rfl (pc0 := 7) (pc' := 44) rfl (hb hby d12_7) rfl (flt hc7_3).2.1 (by decide) (by decide) kon) ?_
  refine own_of (fun tgt kon => XS.iload X2.here hx rfl (hb hby d12_44) rfl kon) ?_
  show own_Wp _ _ _ _ (T2.setTop (mkF m 46 #[rv a1, iv (((0 : Int32) + (1 : Int32)) + (1 : Int32)), rv a3, iv (((0 : Int32) + (1 : Int32)) + (1 : Int32)), iv (2 : Int32), iv (((0 : Int32) + (1 : Int32)) + (1 : Int32)), iv (cs 1)] [(.int (2 : Int32))]))
  refine own_ret X2 hlk (some (.int (2 : Int32))) (own_rtI hrt) (fun fs hr => own_retI X2 hx hrt (hb hby d12_46) hr) ?_ (by decide) (by decide)
  rw [e2]
  exact ⟨rfl, N2, K0, V_a3.fn (by intro k hk; rcases k with _ | _ | k <;> first | rfl | omega)⟩
theorem d11_0 : decode jdk_52_method_16_code 0 = .ok (.iload_n 2, 1) := by decide +kernel
theorem d11_1 : decode jdk_52_method_16_code 1 = .ok (.newarray .byte, 2) := by decide +kernel
theorem d11_3 : decode jdk_52_method_16_code 3 = .ok (.astore_n 3, 1) := by decide +kernel
theorem d11_4 : decode jdk_52_method_16_code 4 = .ok (.aload_n 0, 1) := by decide +kernel
theorem d11_5 : decode jdk_52_method_16_code 5 = .ok (.iload_n 1, 1) := by decide +kernel
theorem d11_6 : decode jdk_52_method_16_code 6 = .ok (.aload_n 3, 1) := by decide +kernel
theorem d11_7 : decode jdk_52_method_16_code 7 = .ok (.iconst 0, 1) := by decide +kernel
theorem d11_8 : decode jdk_52_method_16_code 8 = .ok (.iload_n 2, 1) := by decide +kernel
theorem d11_9 : decode jdk_52_method_16_code 9 = .ok (.invokestatic 115, 3) := by decide +kernel
theorem own_pd0 : parseMethodDescriptor "([CI[BII)I" = some ⟨[(.array .char), .int, (.array .byte), .int, .int], some .int⟩ := by decide +kernel
theorem d11_12 : decode jdk_52_method_16_code 12 = .ok (.istore 4, 2) := by decide +kernel
theorem d11_14 : decode jdk_52_method_16_code 14 = .ok (.iload 4, 2) := by decide +kernel
theorem d11_16 : decode jdk_52_method_16_code 16 = .ok (.iload_n 2, 1) := by decide +kernel
theorem d11_17 : decode jdk_52_method_16_code 17 = .ok (.if_icmp .eq 40, 3) := by decide +kernel
theorem d11_57 : decode jdk_52_method_16_code 57 = .ok (.aload_n 3, 1) := by decide +kernel
theorem d11_58 : decode jdk_52_method_16_code 58 = .ok (.areturn, 1) := by decide +kernel
def Q_rmc3 (Z : State) (a1 : Addr) (cs : Nat → Int32) (h0 : Heap) (n0 : Nat) (v : Option Value) (h : Heap) (L : List Loc) : Prop := ∃ b, v = some (.ref b) ∧ Fr n0 L ∧ Keep h0 h [] ∧ n0 ≤ b ∧ h0.size ≤ b ∧ own_Ar Z h b .byte 2 (fun k => .int (own_by (cs k)))
set_option maxRecDepth 65536 in
set_option maxHeartbeats 40000000 in
theorem rmc3 (l : Launch) (Z : State) (a0 : Array Value) (hw : ∀ d ∈ tables_1, d.before a0 Z = true) (ws : List Jvm.Cond) (a1 : Addr) (cs : Nat → Int32) (h0 : Heap) (n0 : Nat) (Z0 : n0 ≤ h0.size) (V_a1 : own_Ar Z h0 a1 .char 2 (fun k => .int (cs k))) (hcs : ∀ k, k < 2 → ¬ (255 : Int32) < cs k) :
    own_Ctr l Z (⟨"java/lang/StringUTF16", "compress", "([CII)[B"⟩ : MethodName) jdk_52_method_16_code 6 (some (.array .byte)) ws ({ frames := 1, cells := 1, slots := 2, locals := 18 } : Room) #[(.ref a1), (.int (0 : Int32)), (.int (2 : Int32))] h0 (Q_rmc3 Z a1 cs h0 n0) := by
  refine own_enter (plainFor_of_name own_pn0) ?_
  intro p e s m below meth c s₁ X0 hx hby hml hrt hlk hZ hown hnm e0
  have N0 := Fr.nil n0
  have Zs := Z0
  have K0 := Keep.refl h0 []
  rw [show entryFrame m #[(.ref a1), (.int (0 : Int32)), (.int (2 : Int32))] 6 = mkF m 0 #[rv a1, iv (0 : Int32), iv (2 : Int32), uu, uu, uu] [] from by first | (simp [entryFrame, mkF, argsToLocals, Value.category]; done) | rfl]
  show own_Wp _ _ _ _ (s₁.setTop (mkF m 0 #[rv a1, iv (0 : Int32), iv (2 : Int32), uu, uu, uu] []))
  refine own_of (fun tgt kon => XS.iloadN X0.here hx rfl (hb hby d11_0) rfl kon) ?_
  obtain ⟨T1, h1, k1, X1, e1, E1, A1, st1⟩ := newP X0 hx hZ (ow hw 19 rfl) e0 (g := (mkF m 1 #[rv a1, iv (0 : Int32), iv (2 : Int32), uu, uu, uu] [(.int (2 : Int32))])) rfl (hb hby d11_1) rfl (by decide) (cap := 2) (by decide) (by decide) (by decide) (by decide)
  refine own_of st1 ?_
  clear st1
  obtain ⟨b1, gq1⟩ : ∃ z, z = h0.size := ⟨_, rfl⟩
  rw [← gq1] at A1 ⊢
  have ne_a1_b1 : a1 ≠ b1 := Nat.ne_of_lt (Nat.lt_of_lt_of_le V_a1.lt (Nat.le_of_eq gq1.symm))
  have g_b1 : n0 ≤ b1 := Nat.le_trans Zs (Nat.le_of_eq gq1.symm)
  have sz_b1 : h0.size ≤ b1 := Nat.le_trans K0.1 (Nat.le_of_eq gq1.symm)
  replace Zs := Nat.le_trans Zs E1.1
  replace K0 := K0.ext E1
  replace V_a1 := V_a1.ext E1
  have V_b1 : own_Ar Z h1 b1 .byte 2 (fun _ => (.int (0 : Int32))) := own_Ar.new A1 (by decide) rfl
  refine own_of (fun tgt kon => XS.astoreN X1.here hx rfl (hb hby d11_3) rfl rfl (l' := #[rv a1, iv (0 : Int32), iv (2 : Int32), rv b1, uu, uu]) rfl kon) ?_
  refine own_of (fun tgt kon => XS.aloadN X1.here hx rfl (hb hby d11_4) rfl rfl kon) ?_
  refine own_of (fun tgt kon => XS.iloadN X1.here hx rfl (hb hby d11_5) rfl kon) ?_
  show own_Wp _ _ _ _ (T1.setTop (mkF m 6 #[rv a1, iv (0 : Int32), iv (2 : Int32), rv b1, uu, uu] [(.int (0 : Int32)), (.ref a1)]))
  refine own_of (fun tgt kon => XS.aloadN X1.here hx rfl (hb hby d11_6) rfl rfl kon) ?_
  refine own_of (fun tgt kon => XS.iconst X1.here hx rfl (hb hby d11_7) kon) ?_
  refine own_of (fun tgt kon => XS.iloadN X1.here hx rfl (hb hby d11_8) rfl kon) ?_
  refine own_callS X1 hx hZ (y := (⟨"java/lang/StringUTF16", "compress", "([CI[BII)I"⟩ : MethodName)) (argsL := [(.ref a1), (.int (0 : Int32)), (.ref b1), (.int (0 : Int32)), (.int (2 : Int32))]) (rest := []) (W := 0) hown (ow hw 81 rfl) (ow hw 82 rfl) (ow hw 79 rfl) (ow hw 83 rfl) (by decide) e1 (rmc5 l Z a0 hw [] a1 b1 _ cs h1 n0 Zs V_a1 V_b1 g_b1 ne_a1_b1 hcs) (by decide) (by decide) (by decide) (by decide) rfl (by rw [hml]; rfl) (lenOf own_pd0 rfl) rfl (by show 2 * 0 + _ ≤ _; exact Nat.le_of_eq rfl) (hb hby d11_9) ?_
  rintro T2 L2 _ X2 ⟨rfl, N2q, Kq2, Vq2⟩
  have N2 := Fr.app N0 N2q
  show own_Wp _ _ _ _ (T2.setTop (mkF m 12 #[rv a1, iv (0 : Int32), iv (2 : Int32), rv b1, uu, uu] [(.int (2 : Int32))]))
  replace Zs := Nat.le_trans Zs Kq2.1
  replace K0 := K0.trans Kq2 (allS (P := fun z => z ∈ _ ∨ _ ≤ z) (Or.inr sz_b1) all0)
  replace V_a1 := V_a1.keep Kq2 (ninS ne_a1_b1 nin0)
  have V_b1 := Vq2
  refine own_of (fun tgt kon => XS.istore X2.here hx rfl (hb hby d11_12) rfl (l' := #[rv a1, iv (0 : Int32), iv (2 : Int32), rv b1, iv (2 : Int32), uu]) rfl kon) ?_
  refine own_of (fun tgt kon => XS.iload X2.here hx rfl (hb hby d11_14) rfl kon) ?_
  refine own_of (fun tgt kon => XS.iloadN X2.here hx rfl (hb hby d11_16) rfl kon) ?_
  have hc17 : (2 : Int32) = (2 : Int32) := rfl
  refine own_of (fun tgt kon => XS.icmpYes X2.here hx rfl (pc0 := 17) (pc' := 57) rfl (hb hby d11_17) rfl (teq hc17).1 (by decide) (by decide) kon) ?_
  refine own_of (fun tgt kon => XS.aloadN X2.here hx rfl (hb hby d11_57) rfl rfl kon) ?_
  show own_Wp _ _ _ _ (T2.setTop (mkF m 58 #[rv a1, iv (0 : Int32), iv (2 : Int32), rv b1, iv (2 : Int32), uu] [(.ref b1)]))
  refine own_ret X2 hlk (some (.ref b1)) (own_rtI hrt) (fun fs hr => own_retR X2 hx hrt rfl rfl rfl (hb hby d11_58) hr) ?_ (by decide) (by decide)
  exact ⟨_, rfl, N2, K0, g_b1, sz_b1, V_b1⟩
theorem d13_0 : decode jdk_52_method_15_code 0 = .ok (.iload_n 1, 1) := by decide +kernel
theorem d13_1 : decode jdk_52_method_15_code 1 = .ok (.aload_n 0, 1) := by decide +kernel
theorem d13_2 : decode jdk_52_method_15_code 2 = .ok (.arraylength, 1) := by decide +kernel
theorem d13_3 : decode jdk_52_method_15_code 3 = .ok (.isub, 1) := by decide +kernel
theorem d13_4 : decode jdk_52_method_15_code 4 = .ok (.bipush 31, 2) := by decide +kernel
theorem d13_6 : decode jdk_52_method_15_code 6 = .ok (.iushr, 1) := by decide +kernel
theorem d13_7 : decode jdk_52_method_15_code 7 = .ok (.i2b, 1) := by decide +kernel
theorem d13_8 : decode jdk_52_method_15_code 8 = .ok (.ireturn, 1) := by decide +kernel
def Q_rmcf (Z : State) (a1 : Addr) (f : Nat → Value) (h0 : Heap) (n0 : Nat) (v : Option Value) (h : Heap) (L : List Loc) : Prop := v = some (.int (0 : Int32)) ∧ Fr n0 L ∧ h = h0
set_option maxRecDepth 65536 in
set_option maxHeartbeats 40000000 in
theorem rmcf (l : Launch) (Z : State) (a0 : Array Value) (hw : ∀ d ∈ tables_1, d.before a0 Z = true) (ws : List Jvm.Cond) (a1 : Addr) (f : Nat → Value) (h0 : Heap) (n0 : Nat) (Z0 : n0 ≤ h0.size) (V_a1 : own_Ar Z h0 a1 .byte 2 f) :
    own_Ctr l Z (⟨"java/lang/StringUTF16", "coderFromArrayLen", "([BI)B"⟩ : MethodName) jdk_52_method_15_code 2 (some .byte) ws ({ frames := 0, cells := 0, slots := 0, locals := 0 } : Room) #[(.ref a1), (.int (2 : Int32))] h0 (Q_rmcf Z a1 f h0 n0) := by
  refine own_enter (plainFor_of_name own_pn0) ?_
  intro p e s m below meth c s₁ X0 hx hby hml hrt hlk hZ hown hnm e0
  have N0 := Fr.nil n0
  have Zs := Z0
  rw [show entryFrame m #[(.ref a1), (.int (2 : Int32))] 2 = mkF m 0 #[rv a1, iv (2 : Int32)] [] from by first | (simp [entryFrame, mkF, argsToLocals, Value.category]; done) | rfl]
  show own_Wp _ _ _ _ (s₁.setTop (mkF m 0 #[rv a1, iv (2 : Int32)] []))
  refine own_of (fun tgt kon => XS.iloadN X0.here hx rfl (hb hby d13_0) rfl kon) ?_
  refine own_of (fun tgt kon => XS.aloadN X0.here hx rfl (hb hby d13_1) rfl rfl kon) ?_
  refine own_len X0 hx hZ e0 V_a1 (z := (2 : Int32)) (by decide) rfl rfl (hb hby d13_2) ?_
  refine own_of (fun tgt kon => XS.isub X0.here hx rfl (hb hby d13_3) rfl kon) ?_
  refine own_of (fun tgt kon => XS.bipush X0.here hx rfl (hb hby d13_4) kon) ?_
  show own_Wp _ _ _ _ (s₁.setTop (mkF m 6 #[rv a1, iv (2 : Int32)] [(.int (31 : Int32)), (.int ((2 : Int32) - (2 : Int32)))]))
  refine own_of (fun tgt kon => XS.iushr X0.here hx rfl (hb hby d13_6) rfl kon) ?_
  refine own_of (fun tgt kon => XS.i2b X0.here hx rfl (hb hby d13_7) rfl kon) ?_
  show own_Wp _ _ _ _ (s₁.setTop (mkF m 8 #[rv a1, iv (2 : Int32)] [(.int (((((2 : Int32) - (2 : Int32)).toUInt32 >>> ((31 : Int32) &&& 31).toUInt32).toInt32).toInt8.toInt32))]))
  refine own_ret X0 hlk (some (.int (nar .byte (((((2 : Int32) - (2 : Int32)).toUInt32 >>> ((31 : Int32) &&& 31).toUInt32).toInt32).toInt8.toInt32)))) (own_rtI hrt) (fun fs hr => retN X0 hx (t := .byte) hrt (by simp) (hb hby d13_8) hr) ?_ (by decide) (by decide)
  rw [e0]
  exact ⟨congrArg (fun z => some (Value.int z)) (by decide), N0, rfl⟩
theorem own_pn1 : plainName "java/lang/String" = true := by first | (simp [plainName, overriddenIn]; done) | decide +kernel
theorem d3_0 : decode jdk_42_method_149_code 0 = .ok (.aload_n 0, 1) := by decide +kernel
theorem d3_1 : decode jdk_42_method_149_code 1 = .ok (.invokespecial 1, 3) := by decide +kernel
theorem d3_4 : decode jdk_42_method_149_code 4 = .ok (.iload_n 3, 1) := by decide +kernel
theorem d3_5 : decode jdk_42_method_149_code 5 = .ok (.ifCond .ne 22, 3) := by decide +kernel
theorem d3_27 : decode jdk_42_method_149_code 27 = .ok (.getstatic 38, 3) := by decide +kernel
theorem d3_30 : decode jdk_42_method_149_code 30 = .ok (.ifCond .eq 28, 3) := by decide +kernel
theorem d3_33 : decode jdk_42_method_149_code 33 = .ok (.aload_n 1, 1) := by decide +kernel
theorem d3_34 : decode jdk_42_method_149_code 34 = .ok (.iload_n 2, 1) := by decide +kernel
theorem d3_35 : decode jdk_42_method_149_code 35 = .ok (.iload_n 3, 1) := by decide +kernel
theorem d3_36 : decode jdk_42_method_149_code 36 = .ok (.invokestatic 177, 3) := by decide +kernel
theorem own_pd1 : parseMethodDescriptor "([CII)[B" = some ⟨[(.array .char), .int, .int], some (.array .byte)⟩ := by decide +kernel
theorem d3_39 : decode jdk_42_method_149_code 39 = .ok (.astore 5, 2) := by decide +kernel
theorem d3_41 : decode jdk_42_method_149_code 41 = .ok (.aload_n 0, 1) := by decide +kernel
theorem d3_42 : decode jdk_42_method_149_code 42 = .ok (.aload 5, 2) := by decide +kernel
theorem d3_44 : decode jdk_42_method_149_code 44 = .ok (.iload_n 3, 1) := by decide +kernel
theorem d3_45 : decode jdk_42_method_149_code 45 = .ok (.invokestatic 47, 3) := by decide +kernel
theorem own_pd2 : parseMethodDescriptor "([BI)B" = some ⟨[(.array .byte), .int], some .byte⟩ := by decide +kernel
theorem d3_48 : decode jdk_42_method_149_code 48 = .ok (.putfield 15, 3) := by decide +kernel
theorem d3_51 : decode jdk_42_method_149_code 51 = .ok (.aload_n 0, 1) := by decide +kernel
theorem d3_52 : decode jdk_42_method_149_code 52 = .ok (.aload 5, 2) := by decide +kernel
theorem d3_54 : decode jdk_42_method_149_code 54 = .ok (.putfield 9, 3) := by decide +kernel
theorem d3_57 : decode jdk_42_method_149_code 57 = .ok (.return_, 1) := by decide +kernel
def Q_rms4 (Z : State) (a1 : Addr) (a2 : Addr) (cs : Nat → Int32) (cz : Int32) (h0 : Heap) (n0 : Nat) (v : Option Value) (h : Heap) (L : List Loc) : Prop := v = none ∧ Fr n0 L ∧ Keep h0 h [a1] ∧ Exa Z h a1 "java/lang/String" ∧ ∃ b, n0 ≤ b ∧ h0.size ≤ b ∧ Fld Z h a1 "java/lang/String" "value" "[B" (.ref b) ∧ Fld Z h a1 "java/lang/String" "coder" "B" (.int (0 : Int32)) ∧ own_Ar Z h b .byte 2 (fun k => .int (own_by (cs k)))
set_option maxRecDepth 65536 in
set_option maxHeartbeats 40000000 in
theorem rms4 (l : Launch) (Z : State) (a0 : Array Value) (hw : ∀ d ∈ tables_1, d.before a0 Z = true) (ws : List Jvm.Cond) (a1 : Addr) (a2 : Addr) (cs : Nat → Int32) (cz : Int32) (h0 : Heap) (n0 : Nat) (Z0 : n0 ≤ h0.size) (E_a1 : Exa Z h0 a1 "java/lang/String") (u_value : Value) (u_coder : Value) (F_value : Fld Z h0 a1 "java/lang/String" "value" "[B" u_value) (F_coder : Fld Z h0 a1 "java/lang/String" "coder" "B" u_coder) (V_a2 : own_Ar Z h0 a2 .char 2 (fun k => .int (cs k))) (g_a1 : n0 ≤ a1) (ne12 : a1 ≠ a2) (hcs : ∀ k, k < 2 → ¬ (255 : Int32) < cs k) (S_C : Sta Z h0 "java/lang/String" "COMPACT_STRINGS" "Z" (.int cz)) (hcz : ¬ cz = 0) :
    own_Ctr l Z (⟨"java/lang/String", "<init>", "([CIILjava/lang/Void;)V"⟩ : MethodName) jdk_42_method_149_code 6 none ws ({ frames := 2, cells := 1, slots := 2, locals := 35 } : Room) #[(.ref a1), (.ref a2), (.int (0 : Int32)), (.int (2 : Int32)), .null] h0 (Q_rms4 Z a1 a2 cs cz h0 n0) := by
  refine own_enter (plainFor_of_name own_pn1) ?_
  intro p e s m below meth c s₁ X0 hx hby hml hrt hlk hZ hown hnm e0
  have N0 := Fr.nil n0
  have Zs := Z0
  have K0 := Keep.refl h0 [a1]
  rw [show entryFrame m #[(.ref a1), (.ref a2), (.int (0 : Int32)), (.int (2 : Int32)), .null] 6 = mkF m 0 #[rv a1, rv a2, iv (0 : Int32), iv (2 : Int32), .val .null, uu] [] from by first | (simp [entryFrame, mkF, argsToLocals, Value.category]; done) | rfl]
  show own_Wp _ _ _ _ (s₁.setTop (mkF m 0 #[rv a1, rv a2, iv (0 : Int32), iv (2 : Int32), .val .null, uu] []))
  refine own_of (fun tgt kon => XS.aloadN X0.here hx rfl (hb hby d3_0) rfl rfl kon) ?_
  obtain ⟨T1, X1, e1, st1⟩ := initO X0 hx hZ hown (ow hw 15 rfl) (ow hw 16 rfl) (ow hw 17 rfl) e0 (g := (mkF m 1 #[rv a1, rv a2, iv (0 : Int32), iv (2 : Int32), .val .null, uu] [(.ref a1)])) rfl (by rw [hml]; rfl) rfl (hb hby d3_1) (by decide) (W := 0) (by show 2 * 0 + _ ≤ _; exact Nat.le_of_eq rfl) (by decide)
  refine own_of st1 ?_
  clear st1
  show own_Wp _ _ _ _ (T1.setTop (mkF m 4 #[rv a1, rv a2, iv (0 : Int32), iv (2 : Int32), .val .null, uu] []))
  refine own_of (fun tgt kon => XS.iloadN X1.here hx rfl (hb hby d3_4) rfl kon) ?_
  have hc5 : ¬ ((2 : Int32) = (0 : Int32)) := by decide
  refine own_of (fun tgt kon => XS.ifYes X1.here hx rfl (pc0 := 5) (pc' := 27) rfl (hb hby d3_5) rfl ((if0 _ _).trans (feq hc5).2) (by decide) (by decide) kon) ?_
  obtain ⟨T2, X2, e2, st2⟩ := getS2 X1 hx hZ hown (host := "") (Or.inl (ow hw 76 rfl)) Via.refl e1 S_C (g := (mkF m 27 #[rv a1, rv a2, iv (0 : Int32), iv (2 : Int32), .val .null, uu] [])) rfl (hb hby d3_27)
  refine own_of st2 ?_
  clear st2
  have hc30 : ¬ (cz = (0 : Int32)) := hcz
  refine own_of (fun tgt kon => XS.ifNo X2.here hx rfl (hb hby d3_30) rfl ((if0 _ _).trans (feq hc30).1) kon) ?_
  refine own_of (fun tgt kon => XS.aloadN X2.here hx rfl (hb hby d3_33) rfl rfl kon) ?_
  show own_Wp _ _ _ _ (T2.setTop (mkF m 34 #[rv a1, rv a2, iv (0 : Int32), iv (2 : Int32), .val .null, uu] [(.ref a2)]))
  refine own_of (fun tgt kon => XS.iloadN X2.here hx rfl (hb hby d3_34) rfl kon) ?_
  refine own_of (fun tgt kon => XS.iloadN X2.here hx rfl (hb hby d3_35) rfl kon) ?_
  have lt3 := E_a1.lt
  refine own_callS X2 hx hZ (y := (⟨"java/lang/StringUTF16", "compress", "([CII)[B"⟩ : MethodName)) (argsL := [(.ref a2), (.int (0 : Int32)), (.int (2 : Int32))]) (rest := []) (W := 0) hown (ow hw 77 rfl) (ow hw 78 rfl) (ow hw 79 rfl) (ow hw 80 rfl) (by decide) e2 (rmc3 l Z a0 hw [] a2 cs h0 n0 Zs V_a2 hcs) (by decide) (by decide) (by decide) (by decide) rfl (by rw [hml]; rfl) (lenOf own_pd1 rfl) rfl (by show 2 * 0 + _ ≤ _; exact Nat.le_of_eq rfl) (hb hby d3_36) ?_
  rintro T3 L3 _ X3 ⟨c3, rfl, N3q, Kq3, g_c3, szq3, Vq3⟩
  have N3 := Fr.app N0 N3q
  show own_Wp _ _ _ _ (T3.setTop (mkF m 39 #[rv a1, rv a2, iv (0 : Int32), iv (2 : Int32), .val .null, uu] [(.ref c3)]))
  replace Zs := Nat.le_trans Zs Kq3.1
  replace K0 := K0.trans Kq3 all0
  replace E_a1 := E_a1.keep Kq3
  replace F_value := F_value.keep Kq3 nin0
  replace F_coder := F_coder.keep Kq3 nin0
  replace V_a2 := V_a2.keep Kq3 nin0
  have V_c3 := Vq3
  have ne_a1_c3 : a1 ≠ c3 := Nat.ne_of_lt (Nat.lt_of_lt_of_le lt3 szq3)
  have sz_c3 : h0.size ≤ c3 := szq3
  refine own_of (fun tgt kon => XS.astore X3.here hx rfl (hb hby d3_39) rfl rfl (l' := #[rv a1, rv a2, iv (0 : Int32), iv (2 : Int32), .val .null, rv c3]) rfl kon) ?_
  refine own_of (fun tgt kon => XS.aloadN X3.here hx rfl (hb hby d3_41) rfl rfl kon) ?_
  refine own_of (fun tgt kon => XS.aload X3.here hx rfl (hb hby d3_42) rfl rfl kon) ?_
  refine own_of (fun tgt kon => XS.iloadN X3.here hx rfl (hb hby d3_44) rfl kon) ?_
  refine own_callS X3 hx hZ (y := (⟨"java/lang/StringUTF16", "coderFromArrayLen", "([BI)B"⟩ : MethodName)) (argsL := [(.ref c3), (.int (2 : Int32))]) (rest := [(.ref a1)]) (W := 1) hown (ow hw 84 rfl) (ow hw 85 rfl) (ow hw 79 rfl) (ow hw 86 rfl) (by decide) rfl (rmcf l Z a0 hw [] c3 _ T3.heap n0 Zs V_c3) (by decide) (by decide) (by decide) (by decide) rfl (by rw [hml]; rfl) (lenOf own_pd2 rfl) rfl (by show 2 * 0 + _ ≤ _; exact Nat.le_of_eq rfl) (hb hby d3_45) ?_
  rintro T4 L4 _ X4 ⟨rfl, N4q, e4⟩
  have N4 := Fr.app N3 N4q
  show own_Wp _ _ _ _ (T4.setTop (mkF m 48 #[rv a1, rv a2, iv (0 : Int32), iv (2 : Int32), .val .null, rv c3] [(.int (0 : Int32)), (.ref a1)]))
  obtain ⟨T5, h5, X5, e5, W5, st5⟩ := putFN X4 hx hZ hown (ow hw 25 rfl) Via.refl e4 F_coder E_a1 (Or.inr ⟨(ow hw 21 rfl), rfl, hnm⟩) (ow hw 5 rfl) (ty := .byte) (v' := (.int (0 : Int32))) (by decide) rfl (by decide) (g := (mkF m 48 #[rv a1, rv a2, iv (0 : Int32), iv (2 : Int32), .val .null, rv c3] [(.int (0 : Int32)), (.ref a1)])) rfl rfl (hb hby d3_48)
  refine own_of st5 ?_
  clear st5
  have Fq5 := Fld.same W5 F_coder
  replace Zs := Nat.le_trans Zs (Keep.of_wr W5).1
  replace K0 := K0.wr W5 (Or.inl (List.mem_of_getElem? (i := 0) rfl))
  replace E_a1 := E_a1.wr W5
  replace F_value := F_value.other W5 (Or.inr (slot_ne (Or.inr (ow hw 20 rfl)) (Or.inr (ow hw 21 rfl)) (by decide) (t := (.array .byte)) (t' := .byte) (by decide) (by decide)))
  replace V_a2 := V_a2.other W5 (Ne.symm ne12)
  replace V_c3 := V_c3.other W5 (Ne.symm ne_a1_c3)
  replace F_coder := Fq5
  clear Fq5
  have N5 := Fr.snoc X5 N4 g_a1
  refine own_of (fun tgt kon => XS.aloadN X5.here hx rfl (hb hby d3_51) rfl rfl kon) ?_
  refine own_of (fun tgt kon => XS.aload X5.here hx rfl (hb hby d3_52) rfl rfl kon) ?_
  obtain ⟨T6, h6, X6, e6, W6, st6⟩ := putF X5 hx hZ hown (host := "") (Or.inl (ow hw 24 rfl)) Via.refl e5 F_value E_a1 (Or.inr ⟨(ow hw 20 rfl), rfl, hnm⟩) (ow hw 5 rfl) (ty := (.array .byte)) (by decide) rfl rfl (g := (mkF m 54 #[rv a1, rv a2, iv (0 : Int32), iv (2 : Int32), .val .null, rv c3] [(.ref c3), (.ref a1)])) rfl rfl (hb hby d3_54)
  refine own_of st6 ?_
  clear st6
  have Fq6 := Fld.same W6 F_value
  replace Zs := Nat.le_trans Zs (Keep.of_wr W6).1
  replace K0 := K0.wr W6 (Or.inl (List.mem_of_getElem? (i := 0) rfl))
  replace E_a1 := E_a1.wr W6
  replace F_coder := F_coder.other W6 (Or.inr (slot_ne (Or.inr (ow hw 21 rfl)) (Or.inr (ow hw 20 rfl)) (by decide) (t := .byte) (t' := (.array .byte)) (by decide) (by decide)))
  replace V_a2 := V_a2.other W6 (Ne.symm ne12)
  replace V_c3 := V_c3.other W6 (Ne.symm ne_a1_c3)
  replace F_value := Fq6
  clear Fq6
  have N6 := Fr.snoc X6 N5 g_a1
  show own_Wp _ _ _ _ (T6.setTop (mkF m 57 #[rv a1, rv a2, iv (0 : Int32), iv (2 : Int32), .val .null, rv c3] []))
  refine own_ret X6 hlk none (fun _ => rfl) (fun fs hr => X6.returnOut hx hrt (hb hby d3_57) hr) ?_ (by decide) (by decide)
  rw [e6]
  exact ⟨rfl, N6, K0, E_a1, c3, g_c3, sz_c3, F_value, F_coder, V_c3⟩
theorem d2_0 : decode jdk_42_method_3_code 0 = .ok (.aload_n 0, 1) := by decide +kernel
theorem d2_1 : decode jdk_42_method_3_code 1 = .ok (.aload_n 1, 1) := by decide +kernel
theorem d2_2 : decode jdk_42_method_3_code 2 = .ok (.iconst 0, 1) := by decide +kernel
theorem d2_3 : decode jdk_42_method_3_code 3 = .ok (.aload_n 1, 1) := by decide +kernel
theorem d2_4 : decode jdk_42_method_3_code 4 = .ok (.arraylength, 1) := by decide +kernel
theorem d2_5 : decode jdk_42_method_3_code 5 = .ok (.aconst_null, 1) := by decide +kernel
theorem d2_6 : decode jdk_42_method_3_code 6 = .ok (.invokespecial 27, 3) := by decide +kernel
theorem own_pd3 : parseMethodDescriptor "([CIILjava/lang/Void;)V" = some ⟨[(.array .char), .int, .int, (.object "java/lang/Void")], none⟩ := by decide +kernel
theorem d2_9 : decode jdk_42_method_3_code 9 = .ok (.return_, 1) := by decide +kernel
def Q_rms2 (Z : State) (a1 : Addr) (a2 : Addr) (cs : Nat → Int32) (cz : Int32) (h0 : Heap) (n0 : Nat) (v : Option Value) (h : Heap) (L : List Loc) : Prop := v = none ∧ Fr n0 L ∧ Keep h0 h [a1] ∧ Exa Z h a1 "java/lang/String" ∧ ∃ b, n0 ≤ b ∧ h0.size ≤ b ∧ Fld Z h a1 "java/lang/String" "value" "[B" (.ref b) ∧ Fld Z h a1 "java/lang/String" "coder" "B" (.int (0 : Int32)) ∧ own_Ar Z h b .byte 2 (fun k => .int (own_by (cs k)))
set_option maxRecDepth 65536 in
set_option maxHeartbeats 40000000 in
theorem rms2 (l : Launch) (Z : State) (a0 : Array Value) (hw : ∀ d ∈ tables_1, d.before a0 Z = true) (ws : List Jvm.Cond) (a1 : Addr) (a2 : Addr) (cs : Nat → Int32) (cz : Int32) (h0 : Heap) (n0 : Nat) (Z0 : n0 ≤ h0.size) (E_a1 : Exa Z h0 a1 "java/lang/String") (u_value : Value) (u_coder : Value) (F_value : Fld Z h0 a1 "java/lang/String" "value" "[B" u_value) (F_coder : Fld Z h0 a1 "java/lang/String" "coder" "B" u_coder) (V_a2 : own_Ar Z h0 a2 .char 2 (fun k => .int (cs k))) (g_a1 : n0 ≤ a1) (ne12 : a1 ≠ a2) (hcs : ∀ k, k < 2 → ¬ (255 : Int32) < cs k) (S_C : Sta Z h0 "java/lang/String" "COMPACT_STRINGS" "Z" (.int cz)) (hcz : ¬ cz = 0) :
    own_Ctr l Z (⟨"java/lang/String", "<init>", "([C)V"⟩ : MethodName) jdk_42_method_3_code 2 none ws ({ frames := 3, cells := 1, slots := 2, locals := 52 } : Room) #[(.ref a1), (.ref a2)] h0 (Q_rms2 Z a1 a2 cs cz h0 n0) := by
  refine own_enter (plainFor_of_name own_pn1) ?_
  intro p e s m below meth c s₁ X0 hx hby hml hrt hlk hZ hown hnm e0
  have N0 := Fr.nil n0
  have Zs := Z0
  have K0 := Keep.refl h0 [a1]
  rw [show entryFrame m #[(.ref a1), (.ref a2)] 2 = mkF m 0 #[rv a1, rv a2] [] from by first | (simp [entryFrame, mkF, argsToLocals, Value.category]; done) | rfl]
  show own_Wp _ _ _ _ (s₁.setTop (mkF m 0 #[rv a1, rv a2] []))
  refine own_of (fun tgt kon => XS.aloadN X0.here hx rfl (hb hby d2_0) rfl rfl kon) ?_
  refine own_of (fun tgt kon => XS.aloadN X0.here hx rfl (hb hby d2_1) rfl rfl kon) ?_
  refine own_of (fun tgt kon => XS.iconst X0.here hx rfl (hb hby d2_2) kon) ?_
  refine own_of (fun tgt kon => XS.aloadN X0.here hx rfl (hb hby d2_3) rfl rfl kon) ?_
  refine own_len X0 hx hZ e0 V_a2 (z := (2 : Int32)) (by decide) rfl rfl (hb hby d2_4) ?_
  show own_Wp _ _ _ _ (s₁.setTop (mkF m 5 #[rv a1, rv a2] [(.int (2 : Int32)), (.int (0 : Int32)), (.ref a2), (.ref a1)]))
  refine own_of (fun tgt kon => XS.aconstNull X0.here hx rfl (hb hby d2_5) kon) ?_
  refine own_callI X0 hx hZ (y := (⟨"java/lang/String", "<init>", "([CIILjava/lang/Void;)V"⟩ : MethodName)) (a := a1) (argsL := [(.ref a2), (.int (0 : Int32)), (.int (2 : Int32)), .null]) (rest := []) (W := 0) rfl hown (ow hw 11 rfl) (ow hw 12 rfl) (ow hw 6 rfl) (ow hw 14 rfl) (by decide) e0 (rms4 l Z a0 hw [] a1 a2 cs cz h0 n0 Zs E_a1 _ _ F_value F_coder V_a2 g_a1 ne12 hcs S_C hcz) (by decide) (by decide) (by decide) (by decide) rfl (by rw [hml]; rfl) (lenOf own_pd3 rfl) rfl (by show 2 * 0 + _ ≤ _; exact Nat.le_of_eq rfl) (hb hby d2_6) ?_
  rintro T1 L1 _ X1 ⟨rfl, N1q, Kq1, Eq1, c1, g_c1, szq1, Fv1, Fc1, Vq1⟩
  have N1 := Fr.app N0 N1q
  show own_Wp _ _ _ _ (T1.setTop (mkF m 9 #[rv a1, rv a2] []))
  replace Zs := Nat.le_trans Zs Kq1.1
  replace K0 := K0.trans Kq1 (allS (P := fun z => z ∈ _ ∨ _ ≤ z) (Or.inl (List.mem_of_getElem? (i := 0) rfl)) all0)
  replace E_a1 := E_a1.keep Kq1
  replace V_a2 := V_a2.keep Kq1 (ninS (Ne.symm ne12) nin0)
  replace E_a1 := Eq1
  have F_value := Fv1
  have F_coder := Fc1
  have V_c1 := Vq1
  have sz_c1 := szq1
  refine own_ret X1 hlk none (fun _ => rfl) (fun fs hr => X1.returnOut hx hrt (hb hby d2_9) hr) ?_ (by decide) (by decide)
  exact ⟨rfl, N1, K0, E_a1, c1, g_c1, sz_c1, F_value, F_coder, V_c1⟩
theorem own_and3n {x k : Int32} (h : k = x &&& (3 : Int32)) : ∃ n : Nat, n < 4 ∧ k = Int32.ofNat n := by
  have h1 := Jvm.Kit.i32_mask x 3 (k := 2) (by decide) (by decide)
  rw [← h] at h1
  refine ⟨(x.toInt % 2 ^ 2).toNat, by omega, Int32.toInt_inj.mp ?_⟩
  rw [own_ofN (by omega)]; omega
theorem own_xor255 (y a : Int32) : (y &&& 255) ^^^ (a &&& 255) = (y ^^^ a) &&& 255 := by
  apply Int32.toBitVec_inj.mp
  simp only [Int32.toBitVec_xor, Int32.toBitVec_and]
  apply BitVec.eq_of_getLsbD_eq
  intro i hi
  simp only [BitVec.getLsbD_xor, BitVec.getLsbD_and]
  cases y.toBitVec.getLsbD i <;> cases a.toBitVec.getLsbD i <;> cases (255 : Int32).toBitVec.getLsbD i <;> rfl
/-- a char of 0 to 255 -/
def own_C8 (c : Int32) : Prop := ∃ y, c = y &&& 255
theorem own_C8.le {c : Int32} (h : own_C8 c) : ¬ (255 : Int32) < c := by
  obtain ⟨y, rfl⟩ := h
  have h := Jvm.Kit.i32_mask y 255 (k := 8) (by decide) (by decide)
  rw [Int32.lt_iff_toInt_lt, h]
  have l : (255 : Int32).toInt = 255 := by decide
  omega
theorem own_C8.nar {c : Int32} (h : own_C8 c) : nar .char c = c := by obtain ⟨y, rfl⟩ := h; exact i2c_mask y
theorem own_C8.flag {x c : Int32} (h : c = (x &&& (255 : Int32)).toUInt32.toUInt16.toUInt32.toInt32) : own_C8 c := ⟨x, by rw [h]; exact i2c_mask x⟩
theorem own_C8.arr {c d a sel x : Int32} (hc : own_C8 c) (hs : sel = if x = (0 : Int32) then (0 : Int32) else 255) (h : d = (c ^^^ (a &&& sel)).toUInt32.toUInt16.toUInt32.toInt32) : own_C8 d := by
  obtain ⟨y, rfl⟩ := hc
  by_cases q : x = 0
  · rw [if_pos q] at hs; subst hs
    rw [show (a &&& (0 : Int32)) = 0 from Int32.and_zero, Int32.xor_zero] at h
    exact ⟨y, by rw [h]; exact i2c_mask y⟩
  · rw [if_neg q] at hs; subst hs
    rw [own_xor255] at h
    exact ⟨_, by rw [h]; exact i2c_mask _⟩
theorem own_by256 : ∀ a b : Fin 256, own_by (Int32.ofNat a.1) = own_by (Int32.ofNat b.1) → a = b := by decide +kernel
theorem own_C8.nat {c : Int32} (h : own_C8 c) : ∃ a : Fin 256, c = Int32.ofNat a.1 := by
  obtain ⟨y, rfl⟩ := h
  have h := Jvm.Kit.i32_mask y 255 (k := 8) (by decide) (by decide)
  exact ⟨⟨(y.toInt % 2 ^ 8).toNat, by omega⟩, Int32.toInt_inj.mp (by rw [h, own_ofN (by show (y.toInt % 2 ^ 8).toNat < _; omega)]; show _ = (((y.toInt % 2 ^ 8).toNat : Nat) : Int); omega)⟩
theorem own_C8.inj {c d : Int32} (hc : own_C8 c) (hd : own_C8 d) (h : own_by c = own_by d) : c = d := by
  obtain ⟨a, rfl⟩ := hc.nat
  obtain ⟨b, rfl⟩ := hd.nat
  rw [own_by256 a b h]
theorem own_ofNI {a b : Nat} (ha : a < 4) (hb : b < 4) (h : Int32.ofNat a = Int32.ofNat b) : a = b := by
  have q := congrArg Int32.toInt h
  rw [own_ofN (by omega), own_ofN (by omega)] at q; omega
theorem own_ltN {a b : Nat} (ha : a < 4) (hb : b < 4) : Int32.ofNat a < Int32.ofNat b ↔ a < b := by
  rw [Int32.lt_iff_toInt_lt, own_ofN (by omega), own_ofN (by omega)]; omega
def own_P (n1 n2 : Nat) (c0 c1 d0 d1 : Int32) : Prop := n1 = n2 ∧ ∀ j, j < n1 → (fun k => own_by (own_tx2 c0 c1 k)) j = (fun k => own_by (own_tx2 d0 d1 k)) j
theorem own_Pyes {n1 n2 : Nat} {c0 c1 d0 d1 : Int32} (hn1 : n1 ≤ 2) (e : n2 = n1) (h0 : ¬ n1 < 1 → d0 = c0) (h1 : ¬ n1 < 2 → d1 = c1) : own_P n1 n2 c0 c1 d0 d1 := by
  refine ⟨e.symm, fun j hj => ?_⟩
  rcases j with _ | _ | j
  · show own_by c0 = own_by d0; rw [h0 (by omega)]
  · show own_by c1 = own_by d1; rw [h1 (by omega)]
  · omega
theorem own_P0 {n1 n2 : Nat} {c0 c1 d0 d1 : Int32} (hc : own_C8 c0) (hd : own_C8 d0) (q : ¬ n1 < 1) (h : own_P n1 n2 c0 c1 d0 d1) : d0 = c0 := (hc.inj hd (h.2 0 (by omega))).symm
theorem own_P1 {n1 n2 : Nat} {c0 c1 d0 d1 : Int32} (hc : own_C8 c1) (hd : own_C8 d1) (q : ¬ n1 < 2) (h : own_P n1 n2 c0 c1 d0 d1) : d1 = c1 := (hc.inj hd (h.2 1 (by omega))).symm
def EL_1 : List (String × Nat) := [("java/lang/String", 7)]
theorem own_EL {a0 : Array Value} {Z : State} (hw : ∀ d ∈ tables_1, d.before a0 Z = true) : EW Z a0 EL_1 := EW.cons (ow hw 18 rfl) (by intro c hc; simp at hc) EW.nil
theorem d3_8 : decode jdk_42_method_149_code 8 = .ok (.aload_n 0, 1) := by decide +kernel
theorem d3_9 : decode jdk_42_method_149_code 9 = .ok (.ldc 7, 2) := by decide +kernel
theorem d3_11 : decode jdk_42_method_149_code 11 = .ok (.getfield 9, 3) := by decide +kernel
theorem d3_14 : decode jdk_42_method_149_code 14 = .ok (.putfield 9, 3) := by decide +kernel
theorem d3_17 : decode jdk_42_method_149_code 17 = .ok (.aload_n 0, 1) := by decide +kernel
theorem d3_18 : decode jdk_42_method_149_code 18 = .ok (.ldc 7, 2) := by decide +kernel
theorem d3_20 : decode jdk_42_method_149_code 20 = .ok (.getfield 15, 3) := by decide +kernel
theorem d3_23 : decode jdk_42_method_149_code 23 = .ok (.putfield 15, 3) := by decide +kernel
theorem d3_26 : decode jdk_42_method_149_code 26 = .ok (.return_, 1) := by decide +kernel
def Q_rms40 (Z : State) (a1 : Addr) (a2 : Addr) (h0 : Heap) (n0 : Nat) (v : Option Value) (h : Heap) (L : List Loc) : Prop := v = none ∧ Fr n0 L ∧ Keep h0 h [a1] ∧ Exa Z h a1 "java/lang/String" ∧ ∃ b, Fld Z h a1 "java/lang/String" "value" "[B" (.ref b) ∧ Fld Z h a1 "java/lang/String" "coder" "B" (.int (0 : Int32)) ∧ own_Ar Z h b .byte 0 (fun _ => .int (0 : Int32))
set_option maxRecDepth 65536 in
set_option maxHeartbeats 40000000 in
theorem rms40 (l : Launch) (Z : State) (a0 : Array Value) (hw : ∀ d ∈ tables_1, d.before a0 Z = true) (ws : List Jvm.Cond) (a1 : Addr) (a2 : Addr) (h0 : Heap) (n0 : Nat) (Z0 : n0 ≤ h0.size) (E_a1 : Exa Z h0 a1 "java/lang/String") (u_value : Value) (u_coder : Value) (F_value_a1 : Fld Z h0 a1 "java/lang/String" "value" "[B" u_value) (F_coder_a1 : Fld Z h0 a1 "java/lang/String" "coder" "B" u_coder) (g_a1 : n0 ≤ a1) :
    own_CtrH EL_1 [a1] l Z (⟨"java/lang/String", "<init>", "([CIILjava/lang/Void;)V"⟩ : MethodName) jdk_42_method_149_code 6 none ws ({ frames := 1, cells := 4, slots := 8, locals := 12 } : Room) #[(.ref a1), (.ref a2), (.int (0 : Int32)), (.int (0 : Int32)), .null] h0 (Q_rms40 Z a1 a2 h0 n0) := by
  refine own_enterH (plainFor_of_name own_pn1) ?_
  intro p e s m below meth c s₁ X0 SH hsafe hx hby hml hrt hlk hZ hown hnm e0
  have N0 := Fr.nil n0
  have Zs := Z0
  have S_a1 := hsafe a1 (List.mem_of_getElem? (i := 0) rfl)
  have K0 := Keep.refl h0 [a1]
  rw [show entryFrame m #[(.ref a1), (.ref a2), (.int (0 : Int32)), (.int (0 : Int32)), .null] 6 = mkF m 0 #[rv a1, rv a2, iv (0 : Int32), iv (0 : Int32), .val .null, uu] [] from by first | (simp [entryFrame, mkF, argsToLocals, Value.category]; done) | rfl]
  show own_Wp _ _ _ _ (s₁.setTop (mkF m 0 #[rv a1, rv a2, iv (0 : Int32), iv (0 : Int32), .val .null, uu] []))
  refine own_of (fun tgt kon => XS.aloadN X0.here hx rfl (hb hby d3_0) rfl rfl kon) ?_
  obtain ⟨T1, X1, e1, st1⟩ := initO X0 hx hZ hown (ow hw 15 rfl) (ow hw 16 rfl) (ow hw 17 rfl) e0 (g := (mkF m 1 #[rv a1, rv a2, iv (0 : Int32), iv (0 : Int32), .val .null, uu] [(.ref a1)])) rfl (by rw [hml]; rfl) rfl (hb hby d3_1) (by decide) (W := 0) (by show 2 * 0 + _ ≤ _; exact Nat.le_of_eq rfl) (by decide)
  refine own_of st1 ?_
  clear st1
  show own_Wp _ _ _ _ (T1.setTop (mkF m 4 #[rv a1, rv a2, iv (0 : Int32), iv (0 : Int32), .val .null, uu] []))
  refine own_of (fun tgt kon => XS.iloadN X1.here hx rfl (hb hby d3_4) rfl kon) ?_
  have hc5 : (0 : Int32) = (0 : Int32) := rfl
  refine own_of (fun tgt kon => XS.ifNo X1.here hx rfl (hb hby d3_5) rfl ((if0 _ _).trans (teq hc5).2) kon) ?_
  refine own_of (fun tgt kon => XS.aloadN X1.here hx rfl (hb hby d3_8) rfl rfl kon) ?_
  obtain ⟨y2, z2, T2, h2, sv2, X2, e2, E2, SHq, hZq, hownq, CH2, E_y2, F_coder_y2, F_value_y2, V_z2, hne2, st2⟩ := own_ldcE X1 hx hZ hown (ow hw 18 rfl) (own_strA hw) (own_EL hw) (by decide) e1 SH (g := (mkF m 9 #[rv a1, rv a2, iv (0 : Int32), iv (0 : Int32), .val .null, uu] [(.ref a1)])) rfl (hb hby d3_9) (by decide) (by decide)
  refine own_of st2 ?_
  clear st2 hZ hown
  have hZ := hZq
  have hown := hownq
  clear hZq hownq
  replace S_a1 := CH2.safe E_a1.lt S_a1
  replace Zs := Nat.le_trans Zs E2.1
  replace K0 := K0.ext E2
  replace E_a1 := E_a1.ext E2
  replace F_value_a1 := F_value_a1.ext E2
  replace F_coder_a1 := F_coder_a1.ext E2
  clear SH
  have SH := SHq
  clear SHq
  have ne_a1_y2 : a1 ≠ y2 := (hne2 _ S_a1).1
  have ne_a1_z2 : a1 ≠ z2 := (hne2 _ S_a1).2
  obtain ⟨T3, X3, e3, st3⟩ := getF X2 hx hZ hown (host := "") (Or.inl (ow hw 24 rfl)) Via.refl e2 F_value_y2 (g := (mkF m 11 #[rv a1, rv a2, iv (0 : Int32), iv (0 : Int32), .val .null, uu] [(.ref y2), (.ref a1)])) rfl rfl (hb hby d3_11)
  refine own_of st3 ?_
  clear st3
  show own_Wp _ _ _ _ (T3.setTop (mkF m 14 #[rv a1, rv a2, iv (0 : Int32), iv (0 : Int32), .val .null, uu] [(.ref z2), (.ref a1)]))
  obtain ⟨T4, h4, X4, e4, W4, st4⟩ := putF X3 hx hZ hown (host := "") (Or.inl (ow hw 24 rfl)) Via.refl e3 F_value_a1 E_a1 (Or.inr ⟨(ow hw 20 rfl), rfl, hnm⟩) (ow hw 5 rfl) (ty := (.array .byte)) (by decide) rfl rfl (g := (mkF m 14 #[rv a1, rv a2, iv (0 : Int32), iv (0 : Int32), .val .null, uu] [(.ref z2), (.ref a1)])) rfl rfl (hb hby d3_14)
  refine own_of st4 ?_
  clear st4
  have Fq4 := Fld.same W4 F_value_a1
  replace Zs := Nat.le_trans Zs (Keep.of_wr W4).1
  have q_S_a1 := Safe.wr W4 S_a1 SH.2.1 S_a1
  replace SH := SH.wr W4 S_a1
  replace S_a1 := q_S_a1
  clear q_S_a1
  replace K0 := K0.wr W4 (Or.inl (List.mem_of_getElem? (i := 0) rfl))
  replace E_a1 := E_a1.wr W4
  replace F_coder_a1 := F_coder_a1.other W4 (Or.inr (slot_ne (Or.inr (ow hw 21 rfl)) (Or.inr (ow hw 20 rfl)) (by decide) (t := .byte) (t' := (.array .byte)) (by decide) (by decide)))
  replace E_y2 := E_y2.wr W4
  replace F_value_y2 := F_value_y2.other W4 (Or.inl (Ne.symm ne_a1_y2))
  replace F_coder_y2 := F_coder_y2.other W4 (Or.inl (Ne.symm ne_a1_y2))
  replace V_z2 := V_z2.other W4 (Ne.symm ne_a1_z2)
  replace F_value_a1 := Fq4
  clear Fq4
  have N4 := Fr.snoc X4 N0 g_a1
  refine own_of (fun tgt kon => XS.aloadN X4.here hx rfl (hb hby d3_17) rfl rfl kon) ?_
  obtain ⟨y5, z5, T5, h5, sv5, X5, e5, E5, SHq, hZq, hownq, CH5, E_y5, F_coder_y5, F_value_y5, V_z5, hne5, st5⟩ := own_ldcE X4 hx hZ hown (ow hw 18 rfl) (own_strA hw) (own_EL hw) (by decide) e4 SH (g := (mkF m 18 #[rv a1, rv a2, iv (0 : Int32), iv (0 : Int32), .val .null, uu] [(.ref a1)])) rfl (hb hby d3_18) (by decide) (by decide)
  refine own_of st5 ?_
  clear st5 hZ hown
  have hZ := hZq
  have hown := hownq
  clear hZq hownq
  replace S_a1 := CH5.safe E_a1.lt S_a1
  replace Zs := Nat.le_trans Zs E5.1
  replace K0 := K0.ext E5
  replace E_a1 := E_a1.ext E5
  replace F_value_a1 := F_value_a1.ext E5
  replace F_coder_a1 := F_coder_a1.ext E5
  replace E_y2 := E_y2.ext E5
  replace F_value_y2 := F_value_y2.ext E5
  replace F_coder_y2 := F_coder_y2.ext E5
  replace V_z2 := V_z2.ext E5
  clear SH
  have SH := SHq
  clear SHq
  have ne_a1_y5 : a1 ≠ y5 := (hne5 _ S_a1).1
  have ne_a1_z5 : a1 ≠ z5 := (hne5 _ S_a1).2
  obtain ⟨T6, X6, e6, st6⟩ := getF X5 hx hZ hown (host := "") (Or.inl (ow hw 25 rfl)) Via.refl e5 F_coder_y5 (g := (mkF m 20 #[rv a1, rv a2, iv (0 : Int32), iv (0 : Int32), .val .null, uu] [(.ref y5), (.ref a1)])) rfl rfl (hb hby d3_20)
  refine own_of st6 ?_
  clear st6
  obtain ⟨T7, h7, X7, e7, W7, st7⟩ := putFN X6 hx hZ hown (ow hw 25 rfl) Via.refl e6 F_coder_a1 E_a1 (Or.inr ⟨(ow hw 21 rfl), rfl, hnm⟩) (ow hw 5 rfl) (ty := .byte) (v' := (.int (0 : Int32))) (by decide) rfl (by decide) (g := (mkF m 23 #[rv a1, rv a2, iv (0 : Int32), iv (0 : Int32), .val .null, uu] [(.int (0 : Int32)), (.ref a1)])) rfl rfl (hb hby d3_23)
  refine own_of st7 ?_
  clear st7
  have Fq7 := Fld.same W7 F_coder_a1
  replace Zs := Nat.le_trans Zs (Keep.of_wr W7).1
  have q_S_a1 := Safe.wr W7 S_a1 SH.2.1 S_a1
  replace SH := SH.wr W7 S_a1
  replace S_a1 := q_S_a1
  clear q_S_a1
  replace K0 := K0.wr W7 (Or.inl (List.mem_of_getElem? (i := 0) rfl))
  replace E_a1 := E_a1.wr W7
  replace F_value_a1 := F_value_a1.other W7 (Or.inr (slot_ne (Or.inr (ow hw 20 rfl)) (Or.inr (ow hw 21 rfl)) (by decide) (t := (.array .byte)) (t' := .byte) (by decide) (by decide)))
  replace E_y2 := E_y2.wr W7
  replace F_value_y2 := F_value_y2.other W7 (Or.inl (Ne.symm ne_a1_y2))
  replace F_coder_y2 := F_coder_y2.other W7 (Or.inl (Ne.symm ne_a1_y2))
  replace V_z2 := V_z2.other W7 (Ne.symm ne_a1_z2)
  replace E_y5 := E_y5.wr W7
  replace F_value_y5 := F_value_y5.other W7 (Or.inl (Ne.symm ne_a1_y5))
  replace F_coder_y5 := F_coder_y5.other W7 (Or.inl (Ne.symm ne_a1_y5))
  replace V_z5 := V_z5.other W7 (Ne.symm ne_a1_z5)
  replace F_coder_a1 := Fq7
  clear Fq7
  have N7 := Fr.snoc X7 N4 g_a1
  show own_Wp _ _ _ _ (T7.setTop (mkF m 26 #[rv a1, rv a2, iv (0 : Int32), iv (0 : Int32), .val .null, uu] []))
  refine own_retH X7 hZ (own_EL hw) (by rw [e7]; exact SH) hlk none (fun _ => rfl) (fun fs hr => X7.returnOut hx hrt (hb hby d3_26) hr) ?_ (by decide) (by decide)
  rw [e7]
  exact ⟨rfl, N7, K0, E_a1, z2, F_value_a1, F_coder_a1, V_z2⟩
def Q_rms20 (Z : State) (a1 : Addr) (a2 : Addr) (f2 : Nat → Value) (h0 : Heap) (n0 : Nat) (v : Option Value) (h : Heap) (L : List Loc) : Prop := v = none ∧ Fr n0 L ∧ Keep h0 h [a1] ∧ Exa Z h a1 "java/lang/String" ∧ ∃ b, Fld Z h a1 "java/lang/String" "value" "[B" (.ref b) ∧ Fld Z h a1 "java/lang/String" "coder" "B" (.int (0 : Int32)) ∧ own_Ar Z h b .byte 0 (fun _ => .int (0 : Int32))
set_option maxRecDepth 65536 in
set_option maxHeartbeats 40000000 in
theorem rms20 (l : Launch) (Z : State) (a0 : Array Value) (hw : ∀ d ∈ tables_1, d.before a0 Z = true) (ws : List Jvm.Cond) (a1 : Addr) (a2 : Addr) (f2 : Nat → Value) (h0 : Heap) (n0 : Nat) (Z0 : n0 ≤ h0.size) (E_a1 : Exa Z h0 a1 "java/lang/String") (u_value : Value) (u_coder : Value) (F_value_a1 : Fld Z h0 a1 "java/lang/String" "value" "[B" u_value) (F_coder_a1 : Fld Z h0 a1 "java/lang/String" "coder" "B" u_coder) (g_a1 : n0 ≤ a1) (V_a2 : own_Ar Z h0 a2 .char 0 f2) (ne12 : a1 ≠ a2) :
    own_CtrH EL_1 [a1] l Z (⟨"java/lang/String", "<init>", "([C)V"⟩ : MethodName) jdk_42_method_3_code 2 none ws ({ frames := 2, cells := 4, slots := 8, locals := 29 } : Room) #[(.ref a1), (.ref a2)] h0 (Q_rms20 Z a1 a2 f2 h0 n0) := by
  refine own_enterH (plainFor_of_name own_pn1) ?_
  intro p e s m below meth c s₁ X0 SH hsafe hx hby hml hrt hlk hZ hown hnm e0
  have N0 := Fr.nil n0
  have Zs := Z0
  have S_a1 := hsafe a1 (List.mem_of_getElem? (i := 0) rfl)
  have K0 := Keep.refl h0 [a1]
  rw [show entryFrame m #[(.ref a1), (.ref a2)] 2 = mkF m 0 #[rv a1, rv a2] [] from by first | (simp [entryFrame, mkF, argsToLocals, Value.category]; done) | rfl]
  show own_Wp _ _ _ _ (s₁.setTop (mkF m 0 #[rv a1, rv a2] []))
  refine own_of (fun tgt kon => XS.aloadN X0.here hx rfl (hb hby d2_0) rfl rfl kon) ?_
  refine own_of (fun tgt kon => XS.aloadN X0.here hx rfl (hb hby d2_1) rfl rfl kon) ?_
  refine own_of (fun tgt kon => XS.iconst X0.here hx rfl (hb hby d2_2) kon) ?_
  refine own_of (fun tgt kon => XS.aloadN X0.here hx rfl (hb hby d2_3) rfl rfl kon) ?_
  refine own_len X0 hx hZ e0 V_a2 (z := (0 : Int32)) (by decide) rfl rfl (hb hby d2_4) ?_
  show own_Wp _ _ _ _ (s₁.setTop (mkF m 5 #[rv a1, rv a2] [(.int (0 : Int32)), (.int (0 : Int32)), (.ref a2), (.ref a1)]))
  refine own_of (fun tgt kon => XS.aconstNull X0.here hx rfl (hb hby d2_5) kon) ?_
  refine own_callIH X0 SH (own_EL hw) hx hZ (y := (⟨"java/lang/String", "<init>", "([CIILjava/lang/Void;)V"⟩ : MethodName)) (a := a1) (argsL := [(.ref a2), (.int (0 : Int32)), (.int (0 : Int32)), .null]) (rest := []) (W := 0) rfl hown (ow hw 11 rfl) (ow hw 12 rfl) (ow hw 6 rfl) (ow hw 14 rfl) (by decide) e0 (rms40 l Z a0 hw [] a1 a2 h0 n0 Zs E_a1 _ _ F_value_a1 F_coder_a1 g_a1) (allS (P := fun z => Safe Z EL_1 s.vm h0 z ∧ z < (h0).size) ⟨S_a1, E_a1.lt⟩ all0) (by decide) (by decide) (by decide) (by decide) rfl (by rw [hml]; rfl) (lenOf own_pd3 rfl) rfl (by show 2 * 0 + _ ≤ _; exact Nat.le_of_eq rfl) (hb hby d2_6) ?_
  have lt_S_a1 := E_a1.lt
  clear hZ hown
  rintro sv1 T1 L1 _ X1 SHq hZ hown CH1 ⟨rfl, N1q, Kq1, Eq1, c1, Fv1, Fc1, Vq1⟩
  have N1 := Fr.app N0 N1q
  show own_Wp _ _ _ _ (T1.setTop (mkF m 9 #[rv a1, rv a2] []))
  replace Zs := Nat.le_trans Zs Kq1.1
  replace K0 := K0.trans Kq1 (allS (P := fun z => z ∈ _ ∨ _ ≤ z) (Or.inl (List.mem_of_getElem? (i := 0) rfl)) all0)
  replace E_a1 := E_a1.keep Kq1
  replace V_a2 := V_a2.keep Kq1 (ninS (Ne.symm ne12) nin0)
  replace E_a1 := Eq1
  have F_value_a1 := Fv1
  have F_coder_a1 := Fc1
  have V_c1 := Vq1
  clear SH
  have SH := SHq
  clear SHq
  replace S_a1 := CH1.safe lt_S_a1 S_a1
  refine own_retH X1 hZ (own_EL hw) SH hlk none (fun _ => rfl) (fun fs hr => X1.returnOut hx hrt (hb hby d2_9) hr) ?_ (by decide) (by decide)
  exact ⟨rfl, N1, K0, E_a1, c1, F_value_a1, F_coder_a1, V_c1⟩
theorem own_pn2 : plainName "java/lang/StringLatin1" = true := by first | (simp [plainName, overriddenIn]; done) | decide +kernel
theorem d15_0 : decode jdk_43_method_3_code 0 = .ok (.iload_n 0, 1) := by decide +kernel
theorem d15_1 : decode jdk_43_method_3_code 1 = .ok (.sipush 255, 3) := by decide +kernel
theorem d15_4 : decode jdk_43_method_3_code 4 = .ok (.if_icmp .gt 7, 3) := by decide +kernel
theorem d15_7 : decode jdk_43_method_3_code 7 = .ok (.iconst 1, 1) := by decide +kernel
theorem d15_8 : decode jdk_43_method_3_code 8 = .ok (.goto 4, 3) := by decide +kernel
theorem d15_12 : decode jdk_43_method_3_code 12 = .ok (.ireturn, 1) := by decide +kernel
def Q_rmce (Z : State) (p1 : Int32) (h0 : Heap) (n0 : Nat) (v : Option Value) (h : Heap) (L : List Loc) : Prop := v = some (.int (1 : Int32)) ∧ Fr n0 L ∧ h = h0
set_option maxRecDepth 65536 in
set_option maxHeartbeats 40000000 in
theorem rmce (l : Launch) (Z : State) (a0 : Array Value) (hw : ∀ d ∈ tables_1, d.before a0 Z = true) (ws : List Jvm.Cond) (p1 : Int32) (h0 : Heap) (n0 : Nat) (Z0 : n0 ≤ h0.size) (hp : ¬ (255 : Int32) < p1) :
    own_Ctr l Z (⟨"java/lang/StringLatin1", "canEncode", "(C)Z"⟩ : MethodName) jdk_43_method_3_code 1 (some .boolean) ws ({ frames := 0, cells := 0, slots := 0, locals := 0 } : Room) #[(.int p1)] h0 (Q_rmce Z p1 h0 n0) := by
  refine own_enter (plainFor_of_name own_pn2) ?_
  intro p e s m below meth c s₁ X0 hx hby hml hrt hlk hZ hown hnm e0
  have N0 := Fr.nil n0
  have Zs := Z0
  rw [show entryFrame m #[(.int p1)] 1 = mkF m 0 #[iv p1] [] from by first | (simp [entryFrame, mkF, argsToLocals, Value.category]; done) | rfl]
  show own_Wp _ _ _ _ (s₁.setTop (mkF m 0 #[iv p1] []))
  refine own_of (fun tgt kon => XS.iloadN X0.here hx rfl (hb hby d15_0) rfl kon) ?_
  refine own_of (fun tgt kon => XS.sipush X0.here hx rfl (hb hby d15_1) kon) ?_
  have hc4 : ¬ ((255 : Int32) < p1) := hp
  refine own_of (fun tgt kon => XS.icmpNo X0.here hx rfl (hb hby d15_4) rfl (flt hc4).2.2.1 kon) ?_
  refine own_of (fun tgt kon => XS.iconst X0.here hx rfl (hb hby d15_7) kon) ?_
  refine own_of (fun tgt kon => XS.goto X0.here hx rfl (pc0 := 8) (pc' := 12) rfl (hb hby d15_8) (by decide) (by decide) kon) ?_
  show own_Wp _ _ _ _ (s₁.setTop (mkF m 12 #[iv p1] [(.int (1 : Int32))]))
  refine own_ret X0 hlk (some (.int (1 : Int32))) (own_rtI hrt) (fun fs hr => retN X0 hx (t := .boolean) hrt (by simp) (hb hby d15_12) hr) ?_ (by decide) (by decide)
  rw [e0]
  exact ⟨rfl, N0, rfl⟩
theorem d16_0 : decode jdk_43_method_46_code 0 = .ok (.iconst 1, 1) := by decide +kernel
theorem d16_1 : decode jdk_43_method_46_code 1 = .ok (.newarray .byte, 2) := by decide +kernel
theorem d16_3 : decode jdk_43_method_46_code 3 = .ok (.dup, 1) := by decide +kernel
theorem d16_4 : decode jdk_43_method_46_code 4 = .ok (.iconst 0, 1) := by decide +kernel
theorem d16_5 : decode jdk_43_method_46_code 5 = .ok (.iload_n 0, 1) := by decide +kernel
theorem d16_6 : decode jdk_43_method_46_code 6 = .ok (.i2b, 1) := by decide +kernel
theorem d16_7 : decode jdk_43_method_46_code 7 = .ok (.bastore, 1) := by decide +kernel
theorem d16_8 : decode jdk_43_method_46_code 8 = .ok (.areturn, 1) := by decide +kernel
def Q_rmtb (Z : State) (p1 : Int32) (h0 : Heap) (n0 : Nat) (v : Option Value) (h : Heap) (L : List Loc) : Prop := ∃ b, v = some (.ref b) ∧ Fr n0 L ∧ Keep h0 h [] ∧ n0 ≤ b ∧ h0.size ≤ b ∧ own_Ar Z h b .byte 1 (fun _ => .int (own_by p1))
set_option maxRecDepth 65536 in
set_option maxHeartbeats 40000000 in
theorem rmtb (l : Launch) (Z : State) (a0 : Array Value) (hw : ∀ d ∈ tables_1, d.before a0 Z = true) (ws : List Jvm.Cond) (p1 : Int32) (h0 : Heap) (n0 : Nat) (Z0 : n0 ≤ h0.size)  :
    own_Ctr l Z (⟨"java/lang/StringLatin1", "toBytes", "(C)[B"⟩ : MethodName) jdk_43_method_46_code 1 (some (.array .byte)) ws ({ frames := 0, cells := 1, slots := 1, locals := 0 } : Room) #[(.int p1)] h0 (Q_rmtb Z p1 h0 n0) := by
  refine own_enter (plainFor_of_name own_pn2) ?_
  intro p e s m below meth c s₁ X0 hx hby hml hrt hlk hZ hown hnm e0
  have N0 := Fr.nil n0
  have Zs := Z0
  have K0 := Keep.refl h0 []
  rw [show entryFrame m #[(.int p1)] 1 = mkF m 0 #[iv p1] [] from by first | (simp [entryFrame, mkF, argsToLocals, Value.category]; done) | rfl]
  show own_Wp _ _ _ _ (s₁.setTop (mkF m 0 #[iv p1] []))
  refine own_of (fun tgt kon => XS.iconst X0.here hx rfl (hb hby d16_0) kon) ?_
  obtain ⟨T1, h1, k1, X1, e1, E1, A1, st1⟩ := newP X0 hx hZ (ow hw 19 rfl) e0 (g := (mkF m 1 #[iv p1] [(.int (1 : Int32))])) rfl (hb hby d16_1) rfl (by decide) (cap := 1) (by decide) (by decide) (by decide) (by decide)
  refine own_of st1 ?_
  clear st1
  obtain ⟨b1, gq1⟩ : ∃ z, z = h0.size := ⟨_, rfl⟩
  rw [← gq1] at A1 ⊢
  have g_b1 : n0 ≤ b1 := Nat.le_trans Zs (Nat.le_of_eq gq1.symm)
  have sz_b1 : h0.size ≤ b1 := Nat.le_trans K0.1 (Nat.le_of_eq gq1.symm)
  replace Zs := Nat.le_trans Zs E1.1
  replace K0 := K0.ext E1
  have V_b1 : own_Ar Z h1 b1 .byte 1 (fun _ => (.int (0 : Int32))) := own_Ar.new A1 (by decide) rfl
  refine own_of (fun tgt kon => XS.dup X1.here hx rfl (hb hby d16_3) rfl rfl kon) ?_
  refine own_of (fun tgt kon => XS.iconst X1.here hx rfl (hb hby d16_4) kon) ?_
  refine own_of (fun tgt kon => XS.iloadN X1.here hx rfl (hb hby d16_5) rfl kon) ?_
  show own_Wp _ _ _ _ (T1.setTop (mkF m 6 #[iv p1] [(.int p1), (.int (0 : Int32)), (.ref b1), (.ref b1)]))
  refine own_of (fun tgt kon => XS.i2b X1.here hx rfl (hb hby d16_6) rfl kon) ?_
  obtain ⟨T2, h2, X2, e2, W2, Aq2, st2⟩ := own_stB X1 hx hZ e1 V_b1 (j := (0 : Int32)) (i := 0) (x := (p1.toInt8.toInt32)) (by decide) (by decide) (g := (mkF m 7 #[iv p1] [(.int (p1.toInt8.toInt32)), (.int (0 : Int32)), (.ref b1), (.ref b1)])) rfl rfl (hb hby d16_7)
  refine own_of st2 ?_
  clear st2
  replace Zs := Nat.le_trans Zs (Keep.of_wr W2).1
  replace K0 := K0.wr W2 (Or.inr sz_b1)
  replace V_b1 := Aq2
  clear Aq2
  have N2 := Fr.snoc X2 N0 g_b1
  show own_Wp _ _ _ _ (T2.setTop (mkF m 8 #[iv p1] [(.ref b1)]))
  refine own_ret X2 hlk (some (.ref b1)) (own_rtI hrt) (fun fs hr => own_retR X2 hx hrt rfl rfl rfl (hb hby d16_8) hr) ?_ (by decide) (by decide)
  rw [e2]
  exact ⟨_, rfl, N2, K0, g_b1, sz_b1, V_b1.fn (by intro k hk; obtain rfl : k = 0 := (by omega); rfl)⟩
theorem d17_0 : decode jdk_42_method_151_code 0 = .ok (.aload_n 0, 1) := by decide +kernel
theorem d17_1 : decode jdk_42_method_151_code 1 = .ok (.invokespecial 1, 3) := by decide +kernel
theorem d17_4 : decode jdk_42_method_151_code 4 = .ok (.aload_n 0, 1) := by decide +kernel
theorem d17_5 : decode jdk_42_method_151_code 5 = .ok (.aload_n 1, 1) := by decide +kernel
theorem d17_6 : decode jdk_42_method_151_code 6 = .ok (.putfield 9, 3) := by decide +kernel
theorem d17_9 : decode jdk_42_method_151_code 9 = .ok (.aload_n 0, 1) := by decide +kernel
theorem d17_10 : decode jdk_42_method_151_code 10 = .ok (.iload_n 2, 1) := by decide +kernel
theorem d17_11 : decode jdk_42_method_151_code 11 = .ok (.putfield 15, 3) := by decide +kernel
theorem d17_14 : decode jdk_42_method_151_code 14 = .ok (.return_, 1) := by decide +kernel
def Q_rmbb (Z : State) (a1 : Addr) (a2 : Addr) (h0 : Heap) (n0 : Nat) (v : Option Value) (h : Heap) (L : List Loc) : Prop := v = none ∧ Fr n0 L ∧ Keep h0 h [a1] ∧ Exa Z h a1 "java/lang/String" ∧ Fld Z h a1 "java/lang/String" "value" "[B" (.ref a2) ∧ Fld Z h a1 "java/lang/String" "coder" "B" (.int (0 : Int32))
set_option maxRecDepth 65536 in
set_option maxHeartbeats 40000000 in
theorem rmbb (l : Launch) (Z : State) (a0 : Array Value) (hw : ∀ d ∈ tables_1, d.before a0 Z = true) (ws : List Jvm.Cond) (a1 : Addr) (a2 : Addr) (h0 : Heap) (n0 : Nat) (Z0 : n0 ≤ h0.size) (E_a1 : Exa Z h0 a1 "java/lang/String") (u_value : Value) (u_coder : Value) (F_value_a1 : Fld Z h0 a1 "java/lang/String" "value" "[B" u_value) (F_coder_a1 : Fld Z h0 a1 "java/lang/String" "coder" "B" u_coder) (g_a1 : n0 ≤ a1) :
    own_Ctr l Z (⟨"java/lang/String", "<init>", "([BB)V"⟩ : MethodName) jdk_42_method_151_code 3 none ws ({ frames := 1, cells := 0, slots := 0, locals := 12 } : Room) #[(.ref a1), (.ref a2), (.int (0 : Int32))] h0 (Q_rmbb Z a1 a2 h0 n0) := by
  refine own_enter (plainFor_of_name own_pn1) ?_
  intro p e s m below meth c s₁ X0 hx hby hml hrt hlk hZ hown hnm e0
  have N0 := Fr.nil n0
  have Zs := Z0
  have K0 := Keep.refl h0 [a1]
  rw [show entryFrame m #[(.ref a1), (.ref a2), (.int (0 : Int32))] 3 = mkF m 0 #[rv a1, rv a2, iv (0 : Int32)] [] from by first | (simp [entryFrame, mkF, argsToLocals, Value.category]; done) | rfl]
  show own_Wp _ _ _ _ (s₁.setTop (mkF m 0 #[rv a1, rv a2, iv (0 : Int32)] []))
  refine own_of (fun tgt kon => XS.aloadN X0.here hx rfl (hb hby d17_0) rfl rfl kon) ?_
  obtain ⟨T1, X1, e1, st1⟩ := initO X0 hx hZ hown (ow hw 15 rfl) (ow hw 16 rfl) (ow hw 17 rfl) e0 (g := (mkF m 1 #[rv a1, rv a2, iv (0 : Int32)] [(.ref a1)])) rfl (by rw [hml]; rfl) rfl (hb hby d17_1) (by decide) (W := 0) (by show 2 * 0 + _ ≤ _; exact Nat.le_of_eq rfl) (by decide)
  refine own_of st1 ?_
  clear st1
  show own_Wp _ _ _ _ (T1.setTop (mkF m 4 #[rv a1, rv a2, iv (0 : Int32)] []))
  refine own_of (fun tgt kon => XS.aloadN X1.here hx rfl (hb hby d17_4) rfl rfl kon) ?_
  refine own_of (fun tgt kon => XS.aloadN X1.here hx rfl (hb hby d17_5) rfl rfl kon) ?_
  obtain ⟨T2, h2, X2, e2, W2, st2⟩ := putF X1 hx hZ hown (host := "") (Or.inl (ow hw 24 rfl)) Via.refl e1 F_value_a1 E_a1 (Or.inr ⟨(ow hw 20 rfl), rfl, hnm⟩) (ow hw 5 rfl) (ty := (.array .byte)) (by decide) rfl rfl (g := (mkF m 6 #[rv a1, rv a2, iv (0 : Int32)] [(.ref a2), (.ref a1)])) rfl rfl (hb hby d17_6)
  refine own_of st2 ?_
  clear st2
  have Fq2 := Fld.same W2 F_value_a1
  replace Zs := Nat.le_trans Zs (Keep.of_wr W2).1
  replace K0 := K0.wr W2 (Or.inl (List.mem_of_getElem? (i := 0) rfl))
  replace E_a1 := E_a1.wr W2
  replace F_coder_a1 := F_coder_a1.other W2 (Or.inr (slot_ne (Or.inr (ow hw 21 rfl)) (Or.inr (ow hw 20 rfl)) (by decide) (t := .byte) (t' := (.array .byte)) (by decide) (by decide)))
  replace F_value_a1 := Fq2
  clear Fq2
  have N2 := Fr.snoc X2 N0 g_a1
  refine own_of (fun tgt kon => XS.aloadN X2.here hx rfl (hb hby d17_9) rfl rfl kon) ?_
  refine own_of (fun tgt kon => XS.iloadN X2.here hx rfl (hb hby d17_10) rfl kon) ?_
  show own_Wp _ _ _ _ (T2.setTop (mkF m 11 #[rv a1, rv a2, iv (0 : Int32)] [(.int (0 : Int32)), (.ref a1)]))
  obtain ⟨T3, h3, X3, e3, W3, st3⟩ := putFN X2 hx hZ hown (ow hw 25 rfl) Via.refl e2 F_coder_a1 E_a1 (Or.inr ⟨(ow hw 21 rfl), rfl, hnm⟩) (ow hw 5 rfl) (ty := .byte) (v' := (.int (0 : Int32))) (by decide) rfl (by decide) (g := (mkF m 11 #[rv a1, rv a2, iv (0 : Int32)] [(.int (0 : Int32)), (.ref a1)])) rfl rfl (hb hby d17_11)
  refine own_of st3 ?_
  clear st3
  have Fq3 := Fld.same W3 F_coder_a1
  replace Zs := Nat.le_trans Zs (Keep.of_wr W3).1
  replace K0 := K0.wr W3 (Or.inl (List.mem_of_getElem? (i := 0) rfl))
  replace E_a1 := E_a1.wr W3
  replace F_value_a1 := F_value_a1.other W3 (Or.inr (slot_ne (Or.inr (ow hw 20 rfl)) (Or.inr (ow hw 21 rfl)) (by decide) (t := (.array .byte)) (t' := .byte) (by decide) (by decide)))
  replace F_coder_a1 := Fq3
  clear Fq3
  have N3 := Fr.snoc X3 N2 g_a1
  show own_Wp _ _ _ _ (T3.setTop (mkF m 14 #[rv a1, rv a2, iv (0 : Int32)] []))
  refine own_ret X3 hlk none (fun _ => rfl) (fun fs hr => X3.returnOut hx hrt (hb hby d17_14) hr) ?_ (by decide) (by decide)
  rw [e3]
  exact ⟨rfl, N3, K0, E_a1, F_value_a1, F_coder_a1⟩
theorem d14_0 : decode jdk_42_method_139_code 0 = .ok (.getstatic 38, 3) := by decide +kernel
theorem d14_3 : decode jdk_42_method_139_code 3 = .ok (.ifCond .eq 23, 3) := by decide +kernel
theorem d14_6 : decode jdk_42_method_139_code 6 = .ok (.iload_n 0, 1) := by decide +kernel
theorem d14_7 : decode jdk_42_method_139_code 7 = .ok (.invokestatic 1015, 3) := by decide +kernel
theorem own_pd4 : parseMethodDescriptor "(C)Z" = some ⟨[.char], some .boolean⟩ := by decide +kernel
theorem d14_10 : decode jdk_42_method_139_code 10 = .ok (.ifCond .eq 16, 3) := by decide +kernel
theorem d14_13 : decode jdk_42_method_139_code 13 = .ok (.new 10, 3) := by decide +kernel
theorem d14_16 : decode jdk_42_method_139_code 16 = .ok (.dup, 1) := by decide +kernel
theorem d14_17 : decode jdk_42_method_139_code 17 = .ok (.iload_n 0, 1) := by decide +kernel
theorem d14_18 : decode jdk_42_method_139_code 18 = .ok (.invokestatic 1018, 3) := by decide +kernel
theorem own_pd5 : parseMethodDescriptor "(C)[B" = some ⟨[.char], some (.array .byte)⟩ := by decide +kernel
theorem d14_21 : decode jdk_42_method_139_code 21 = .ok (.iconst 0, 1) := by decide +kernel
theorem d14_22 : decode jdk_42_method_139_code 22 = .ok (.invokespecial 209, 3) := by decide +kernel
theorem own_pd6 : parseMethodDescriptor "([BB)V" = some ⟨[(.array .byte), .byte], none⟩ := by decide +kernel
theorem d14_25 : decode jdk_42_method_139_code 25 = .ok (.areturn, 1) := by decide +kernel
def Q_rmvo (Z : State) (p1 : Int32) (cz : Int32) (h0 : Heap) (n0 : Nat) (v : Option Value) (h : Heap) (L : List Loc) : Prop := ∃ x b, v = some (.ref x) ∧ Fr n0 L ∧ Keep h0 h [] ∧ n0 ≤ x ∧ h0.size ≤ x ∧ Exa Z h x "java/lang/String" ∧ Fld Z h x "java/lang/String" "value" "[B" (.ref b) ∧ Fld Z h x "java/lang/String" "coder" "B" (.int (0 : Int32)) ∧ own_Ar Z h b .byte 1 (fun _ => .int (own_by p1))
set_option maxRecDepth 65536 in
set_option maxHeartbeats 40000000 in
theorem rmvo (l : Launch) (Z : State) (a0 : Array Value) (hw : ∀ d ∈ tables_1, d.before a0 Z = true) (ws : List Jvm.Cond) (p1 : Int32) (cz : Int32) (h0 : Heap) (n0 : Nat) (Z0 : n0 ≤ h0.size) (hp : ¬ (255 : Int32) < p1) (S_C : Sta Z h0 "java/lang/String" "COMPACT_STRINGS" "Z" (.int cz)) (hcz : ¬ cz = 0) :
    own_Ctr l Z (⟨"java/lang/String", "valueOf", "(C)Ljava/lang/String;"⟩ : MethodName) jdk_42_method_139_code 1 (some (.object "java/lang/String")) ws ({ frames := 2, cells := 2, slots := 5, locals := 27 } : Room) #[(.int p1)] h0 (Q_rmvo Z p1 cz h0 n0) := by
  refine own_enter (plainFor_of_name own_pn1) ?_
  intro p e s m below meth c s₁ X0 hx hby hml hrt hlk hZ hown hnm e0
  have N0 := Fr.nil n0
  have Zs := Z0
  have K0 := Keep.refl h0 []
  rw [show entryFrame m #[(.int p1)] 1 = mkF m 0 #[iv p1] [] from by first | (simp [entryFrame, mkF, argsToLocals, Value.category]; done) | rfl]
  show own_Wp _ _ _ _ (s₁.setTop (mkF m 0 #[iv p1] []))
  obtain ⟨T1, X1, e1, st1⟩ := getS2 X0 hx hZ hown (host := "") (Or.inl (ow hw 76 rfl)) Via.refl e0 S_C (g := (mkF m 0 #[iv p1] [])) rfl (hb hby d14_0)
  refine own_of st1 ?_
  clear st1
  have hc3 : ¬ (cz = (0 : Int32)) := hcz
  refine own_of (fun tgt kon => XS.ifNo X1.here hx rfl (hb hby d14_3) rfl ((if0 _ _).trans (feq hc3).1) kon) ?_
  refine own_of (fun tgt kon => XS.iloadN X1.here hx rfl (hb hby d14_6) rfl kon) ?_
  refine own_callS X1 hx hZ (y := (⟨"java/lang/StringLatin1", "canEncode", "(C)Z"⟩ : MethodName)) (argsL := [(.int p1)]) (rest := []) (W := 0) hown (ow hw 90 rfl) (ow hw 91 rfl) (ow hw 92 rfl) (ow hw 93 rfl) (by decide) e1 (rmce l Z a0 hw [] p1 h0 n0 Zs hp) (by decide) (by decide) (by decide) (by decide) rfl (by rw [hml]; rfl) (lenOf own_pd4 rfl) rfl (by show 2 * 0 + _ ≤ _; exact Nat.le_of_eq rfl) (hb hby d14_7) ?_
  rintro T2 L2 _ X2 ⟨rfl, N2q, e2⟩
  have N2 := Fr.app N0 N2q
  show own_Wp _ _ _ _ (T2.setTop (mkF m 10 #[iv p1] [(.int (1 : Int32))]))
  have hc10 : ¬ ((1 : Int32) = (0 : Int32)) := by decide
  refine own_of (fun tgt kon => XS.ifNo X2.here hx rfl (hb hby d14_10) rfl ((if0 _ _).trans (feq hc10).1) kon) ?_
  obtain ⟨T3, h3, X3, e3, E3, A3, D3, -, st3⟩ := newO X2 hx hZ hown (ow hw 94 rfl) (ow hw 5 rfl) (ow hw 6 rfl) e2 (g := (mkF m 13 #[iv p1] [])) rfl (hb hby d14_13) (by decide) (by decide)
  refine own_of st3 ?_
  clear st3
  obtain ⟨b3, gq3⟩ : ∃ z, z = h0.size := ⟨_, rfl⟩
  rw [← gq3] at A3 D3 ⊢
  have g_b3 : n0 ≤ b3 := Nat.le_trans Zs (Nat.le_of_eq gq3.symm)
  have sz_b3 : h0.size ≤ b3 := Nat.le_trans K0.1 (Nat.le_of_eq gq3.symm)
  replace Zs := Nat.le_trans Zs E3.1
  replace K0 := K0.ext E3
  have E_b3 := A3
  have F_value_b3 : Fld Z h3 b3 "java/lang/String" "value" "[B" .null := D3 (Or.inr (ow hw 20 rfl)) (ty := (.array .byte)) (by decide)
  have F_coder_b3 : Fld Z h3 b3 "java/lang/String" "coder" "B" (.int (0 : Int32)) := D3 (Or.inr (ow hw 21 rfl)) (ty := .byte) (by decide)
  refine own_of (fun tgt kon => XS.dup X3.here hx rfl (hb hby d14_16) rfl rfl kon) ?_
  refine own_of (fun tgt kon => XS.iloadN X3.here hx rfl (hb hby d14_17) rfl kon) ?_
  have lt4_b3 := E_b3.lt
  have kz4 := K0.1
  refine own_callS X3 hx hZ (y := (⟨"java/lang/StringLatin1", "toBytes", "(C)[B"⟩ : MethodName)) (argsL := [(.int p1)]) (rest := [(.ref b3), (.ref b3)]) (W := 2) hown (ow hw 95 rfl) (ow hw 96 rfl) (ow hw 92 rfl) (ow hw 97 rfl) (by decide) e3 (rmtb l Z a0 hw [] p1 h3 n0 Zs) (by decide) (by decide) (by decide) (by decide) rfl (by rw [hml]; rfl) (lenOf own_pd5 rfl) rfl (by show 2 * 0 + _ ≤ _; exact Nat.le_of_eq rfl) (hb hby d14_18) ?_
  rintro T4 L4 _ X4 ⟨c4, rfl, N4q, Kq4, g_c4, szq4, Vq4⟩
  have N4 := Fr.app N2 N4q
  show own_Wp _ _ _ _ (T4.setTop (mkF m 21 #[iv p1] [(.ref c4), (.ref b3), (.ref b3)]))
  replace Zs := Nat.le_trans Zs Kq4.1
  replace K0 := K0.trans Kq4 all0
  replace E_b3 := E_b3.keep Kq4
  replace F_value_b3 := F_value_b3.keep Kq4 nin0
  replace F_coder_b3 := F_coder_b3.keep Kq4 nin0
  have V_c4 := Vq4
  have sz_c4 : h0.size ≤ c4 := Nat.le_trans kz4 szq4
  have ne_b3_c4 : b3 ≠ c4 := Nat.ne_of_lt (Nat.lt_of_lt_of_le lt4_b3 szq4)
  refine own_of (fun tgt kon => XS.iconst X4.here hx rfl (hb hby d14_21) kon) ?_
  refine own_callI X4 hx hZ (y := (⟨"java/lang/String", "<init>", "([BB)V"⟩ : MethodName)) (a := b3) (argsL := [(.ref c4), (.int (0 : Int32))]) (rest := [(.ref b3)]) (W := 1) rfl hown (ow hw 98 rfl) (ow hw 99 rfl) (ow hw 6 rfl) (ow hw 100 rfl) (by decide) rfl (rmbb l Z a0 hw [] b3 c4 T4.heap n0 Zs E_b3 _ _ F_value_b3 F_coder_b3 g_b3) (by decide) (by decide) (by decide) (by decide) rfl (by rw [hml]; rfl) (lenOf own_pd6 rfl) rfl (by show 2 * 0 + _ ≤ _; exact Nat.le_of_eq rfl) (hb hby d14_22) ?_
  rintro T5 L5 _ X5 ⟨rfl, N5q, Kq5, Eq5, Fv5, Fc5⟩
  have N5 := Fr.app N4 N5q
  show own_Wp _ _ _ _ (T5.setTop (mkF m 25 #[iv p1] [(.ref b3)]))
  replace Zs := Nat.le_trans Zs Kq5.1
  replace K0 := K0.trans Kq5 (allS (P := fun z => z ∈ _ ∨ _ ≤ z) (Or.inr sz_b3) all0)
  replace E_b3 := E_b3.keep Kq5
  replace V_c4 := V_c4.keep Kq5 (ninS (Ne.symm ne_b3_c4) nin0)
  replace E_b3 := Eq5
  have F_value_b3 := Fv5
  have F_coder_b3 := Fc5
  refine own_ret X5 hlk (some (.ref b3)) (own_rtI hrt) (fun fs hr => own_retR X5 hx hrt rfl rfl rfl (hb hby d14_25) hr) ?_ (by decide) (by decide)
  exact ⟨_, _, rfl, N5, K0, g_b3, sz_b3, E_b3, F_value_b3, F_coder_b3, V_c4⟩
theorem d19_0 : decode jdk_43_method_13_code 0 = .ok (.aload_n 0, 1) := by decide +kernel
theorem d19_1 : decode jdk_43_method_13_code 1 = .ok (.arraylength, 1) := by decide +kernel
theorem d19_2 : decode jdk_43_method_13_code 2 = .ok (.aload_n 1, 1) := by decide +kernel
theorem d19_3 : decode jdk_43_method_13_code 3 = .ok (.arraylength, 1) := by decide +kernel
theorem d19_4 : decode jdk_43_method_13_code 4 = .ok (.if_icmp .ne 30, 3) := by decide +kernel
theorem d19_7 : decode jdk_43_method_13_code 7 = .ok (.iconst 0, 1) := by decide +kernel
theorem d19_8 : decode jdk_43_method_13_code 8 = .ok (.istore_n 2, 1) := by decide +kernel
theorem d19_9 : decode jdk_43_method_13_code 9 = .ok (.iload_n 2, 1) := by decide +kernel
theorem d19_10 : decode jdk_43_method_13_code 10 = .ok (.aload_n 0, 1) := by decide +kernel
theorem d19_11 : decode jdk_43_method_13_code 11 = .ok (.arraylength, 1) := by decide +kernel
theorem d19_12 : decode jdk_43_method_13_code 12 = .ok (.if_icmp .ge 20, 3) := by decide +kernel
theorem d19_15 : decode jdk_43_method_13_code 15 = .ok (.aload_n 0, 1) := by decide +kernel
theorem d19_16 : decode jdk_43_method_13_code 16 = .ok (.iload_n 2, 1) := by decide +kernel
theorem d19_17 : decode jdk_43_method_13_code 17 = .ok (.baload, 1) := by decide +kernel
theorem d19_18 : decode jdk_43_method_13_code 18 = .ok (.aload_n 1, 1) := by decide +kernel
theorem d19_19 : decode jdk_43_method_13_code 19 = .ok (.iload_n 2, 1) := by decide +kernel
theorem d19_20 : decode jdk_43_method_13_code 20 = .ok (.baload, 1) := by decide +kernel
theorem d19_21 : decode jdk_43_method_13_code 21 = .ok (.if_icmp .eq 5, 3) := by decide +kernel
theorem d19_26 : decode jdk_43_method_13_code 26 = .ok (.iinc 2 1, 3) := by decide +kernel
theorem d19_29 : decode jdk_43_method_13_code 29 = .ok (.goto (-20), 3) := by decide +kernel
theorem d19_24 : decode jdk_43_method_13_code 24 = .ok (.iconst 0, 1) := by decide +kernel
theorem d19_25 : decode jdk_43_method_13_code 25 = .ok (.ireturn, 1) := by decide +kernel
theorem d19_32 : decode jdk_43_method_13_code 32 = .ok (.iconst 1, 1) := by decide +kernel
theorem d19_33 : decode jdk_43_method_13_code 33 = .ok (.ireturn, 1) := by decide +kernel
theorem d19_34 : decode jdk_43_method_13_code 34 = .ok (.iconst 0, 1) := by decide +kernel
theorem d19_35 : decode jdk_43_method_13_code 35 = .ok (.ireturn, 1) := by decide +kernel
def Q_rmle (Z : State) (a1 : Addr) (a2 : Addr) (n1 : Nat) (n2 : Nat) (f1 : Nat → Int32) (f2 : Nat → Int32) (r : Int32) (h0 : Heap) (n0 : Nat) (v : Option Value) (h : Heap) (L : List Loc) : Prop := v = some (.int r) ∧ Fr n0 L ∧ h = h0
set_option maxRecDepth 65536 in
set_option maxHeartbeats 40000000 in
theorem rmle (l : Launch) (Z : State) (a0 : Array Value) (hw : ∀ d ∈ tables_1, d.before a0 Z = true) (ws : List Jvm.Cond) (a1 : Addr) (a2 : Addr) (n1 : Nat) (n2 : Nat) (f1 : Nat → Int32) (f2 : Nat → Int32) (r : Int32) (h0 : Heap) (n0 : Nat) (Z0 : n0 ≤ h0.size) (V_a1 : own_Ar Z h0 a1 .byte n1 (fun k => .int (f1 k))) (V_a2 : own_Ar Z h0 a2 .byte n2 (fun k => .int (f2 k))) (hr1 : (n1 = n2 ∧ ∀ j, j < n1 → f1 j = f2 j) → r = 1) (hr0 : ¬ (n1 = n2 ∧ ∀ j, j < n1 → f1 j = f2 j) → r = 0) (hn1 : n1 ≤ 2) (hn2 : n2 ≤ 2) :
    own_Ctr l Z (⟨"java/lang/StringLatin1", "equals", "([B[B)Z"⟩ : MethodName) jdk_43_method_13_code 3 (some .boolean) ws ({ frames := 0, cells := 0, slots := 0, locals := 0 } : Room) #[(.ref a1), (.ref a2)] h0 (Q_rmle Z a1 a2 n1 n2 f1 f2 r h0 n0) := by
  refine own_enter (plainFor_of_name own_pn2) ?_
  intro p e s m below meth c s₁ X0 hx hby hml hrt hlk hZ hown hnm e0
  have N0 := Fr.nil n0
  have Zs := Z0
  rw [show entryFrame m #[(.ref a1), (.ref a2)] 3 = mkF m 0 #[rv a1, rv a2, uu] [] from by first | (simp [entryFrame, mkF, argsToLocals, Value.category]; done) | rfl]
  show own_Wp _ _ _ _ (s₁.setTop (mkF m 0 #[rv a1, rv a2, uu] []))
  refine own_of (fun tgt kon => XS.aloadN X0.here hx rfl (hb hby d19_0) rfl rfl kon) ?_
  refine own_len X0 hx hZ e0 V_a1 (z := (Int32.ofNat n1)) (own_ofN (by omega)) rfl rfl (hb hby d19_1) ?_
  refine own_of (fun tgt kon => XS.aloadN X0.here hx rfl (hb hby d19_2) rfl rfl kon) ?_
  refine own_len X0 hx hZ e0 V_a2 (z := (Int32.ofNat n2)) (own_ofN (by omega)) rfl rfl (hb hby d19_3) ?_
  by_cases hc4 : (Int32.ofNat n1) = (Int32.ofNat n2)
  · skip
    refine own_of (fun tgt kon => XS.icmpNo X0.here hx rfl (hb hby d19_4) rfl (teq hc4).2 kon) ?_
    show own_Wp _ _ _ _ (s₁.setTop (mkF m 7 #[rv a1, rv a2, uu] []))
    have hnn : n1 = n2 := by
      have q := congrArg Int32.toInt hc4
      rw [own_ofN (by omega), own_ofN (by omega)] at q
      omega
    refine own_of (fun tgt kon => XS.iconst X0.here hx rfl (hb hby d19_7) kon) ?_
    refine own_of (fun tgt kon => XS.istoreN X0.here hx rfl (hb hby d19_8) rfl (l' := #[rv a1, rv a2, iv (0 : Int32)]) rfl kon) ?_
    show own_Wp _ _ _ _ (s₁.setTop (mkF m 9 #[rv a1, rv a2, iv (0 : Int32)] []))
    rw [show (0 : Int32) = Int32.ofNat 0 from rfl]
    show own_Wp _ _ _ _ (s₁.setTop (mkF m 9 #[rv a1, rv a2, iv (Int32.ofNat 0)] []))
    have J9 : ∀ (nn : Nat) (T1 : State) (lc1 : List Loc) (k : Nat), (Stand p l e ({ frames := 0, cells := 0, slots := 0, locals := 0 } : Room) s m #[(.ref a1), (.ref a2)] below meth c T1 lc1 0 0) → (T1.heap = h0) → (Fr n0 lc1) → (k ≤ n1) → (∀ j, j < k → f1 j = f2 j) → (n1 - k < nn) → own_Wp p.tables e below (own_K ({ frames := 0, cells := 0, slots := 0, locals := 0 } : Room) s below (Q_rmle Z a1 a2 n1 n2 f1 f2 r h0 n0)) (T1.setTop (mkF m 9 #[rv a1, rv a2, iv (Int32.ofNat k)] [])) := by
      intro nn
      induction nn with
      | zero => intro T1 lc1 k X1 e1 N1 hk heq hmu; exact absurd hmu (Nat.not_lt_zero _)
      | succ nn ih =>
        intro T1 lc1 k X1 e1 N1 hk heq hmu
        refine own_of (fun tgt kon => XS.iloadN X1.here hx rfl (hb hby d19_9) rfl kon) ?_
        refine own_of (fun tgt kon => XS.aloadN X1.here hx rfl (hb hby d19_10) rfl rfl kon) ?_
        refine own_len X1 hx hZ e1 V_a1 (z := (Int32.ofNat n1)) (own_ofN (by omega)) rfl rfl (hb hby d19_11) ?_
        by_cases hc12 : (Int32.ofNat k) < (Int32.ofNat n1)
        · skip
          refine own_of (fun tgt kon => XS.icmpNo X1.here hx rfl (hb hby d19_12) rfl (tlt hc12).2.1 kon) ?_
          show own_Wp _ _ _ _ (T1.setTop (mkF m 15 #[rv a1, rv a2, iv (Int32.ofNat k)] []))
          have hlt : k < n1 := by
            have q := hc12
            rw [Int32.lt_iff_toInt_lt, own_ofN (by omega), own_ofN (by omega)] at q
            omega
          refine own_of (fun tgt kon => XS.aloadN X1.here hx rfl (hb hby d19_15) rfl rfl kon) ?_
          refine own_of (fun tgt kon => XS.iloadN X1.here hx rfl (hb hby d19_16) rfl kon) ?_
          refine own_baload X1 hx hZ e1 V_a1 (j := (Int32.ofNat k)) (i := k) (v := (f1 k)) (own_ofN (by omega)) hlt rfl rfl rfl (hb hby d19_17) ?_
          refine own_of (fun tgt kon => XS.aloadN X1.here hx rfl (hb hby d19_18) rfl rfl kon) ?_
          refine own_of (fun tgt kon => XS.iloadN X1.here hx rfl (hb hby d19_19) rfl kon) ?_
          show own_Wp _ _ _ _ (T1.setTop (mkF m 20 #[rv a1, rv a2, iv (Int32.ofNat k)] [(.int (Int32.ofNat k)), (.ref a2), (.int (f1 k))]))
          refine own_baload X1 hx hZ e1 V_a2 (j := (Int32.ofNat k)) (i := k) (v := (f2 k)) (own_ofN (by omega)) (by omega) rfl rfl rfl (hb hby d19_20) ?_
          by_cases hc21 : (f1 k) = (f2 k)
          · skip
            refine own_of (fun tgt kon => XS.icmpYes X1.here hx rfl (pc0 := 21) (pc' := 26) rfl (hb hby d19_21) rfl (teq hc21).1 (by decide) (by decide) kon) ?_
            refine own_of (fun tgt kon => XS.iinc X1.here hx rfl (hb hby d19_26) rfl (l' := #[rv a1, rv a2, iv ((Int32.ofNat k) + (1 : Int32))]) rfl kon) ?_
            refine own_of (fun tgt kon => XS.goto X1.here hx rfl (pc0 := 29) (pc' := 9) rfl (hb hby d19_29) (by decide) (by decide) kon) ?_
            show own_Wp _ _ _ _ (T1.setTop (mkF m 9 #[rv a1, rv a2, iv ((Int32.ofNat k) + (1 : Int32))] []))
            rw [own_succ]
            show own_Wp _ _ _ _ (T1.setTop (mkF m 9 #[rv a1, rv a2, iv (Int32.ofNat (k + 1))] []))
            exact ih T1 _ (k + 1) X1 e1 N1 (by omega) (by intro j hj; exact if e : j = k then e ▸ hc21 else heq j (by omega)) (by omega)
          · skip
            refine own_of (fun tgt kon => XS.icmpNo X1.here hx rfl (hb hby d19_21) rfl (feq hc21).1 kon) ?_
            refine own_of (fun tgt kon => XS.iconst X1.here hx rfl (hb hby d19_24) kon) ?_
            show own_Wp _ _ _ _ (T1.setTop (mkF m 25 #[rv a1, rv a2, iv (Int32.ofNat k)] [(.int (0 : Int32))]))
            refine own_ret X1 hlk (some (.int (0 : Int32))) (own_rtI hrt) (fun fs hr => retN X1 hx (t := .boolean) hrt (by simp) (hb hby d19_25) hr) ?_ (by decide) (by decide)
            rw [e1]
            exact ⟨by rw [hr0 (fun q => hc21 (q.2 k hlt))], N1, rfl⟩
        · skip
          refine own_of (fun tgt kon => XS.icmpYes X1.here hx rfl (pc0 := 12) (pc' := 32) rfl (hb hby d19_12) rfl (flt hc12).2.1 (by decide) (by decide) kon) ?_
          refine own_of (fun tgt kon => XS.iconst X1.here hx rfl (hb hby d19_32) kon) ?_
          show own_Wp _ _ _ _ (T1.setTop (mkF m 33 #[rv a1, rv a2, iv (Int32.ofNat k)] [(.int (1 : Int32))]))
          refine own_ret X1 hlk (some (.int (1 : Int32))) (own_rtI hrt) (fun fs hr => retN X1 hx (t := .boolean) hrt (by simp) (hb hby d19_33) hr) ?_ (by decide) (by decide)
          rw [e1]
          exact ⟨by rw [hr1 ⟨hnn, fun j hj => heq j (by have q := hc12; rw [Int32.lt_iff_toInt_lt, own_ofN (by omega), own_ofN (by omega)] at q; omega)⟩], N1, rfl⟩
    show own_Wp _ _ _ _ (s₁.setTop (mkF m 9 #[rv a1, rv a2, iv (Int32.ofNat 0)] []))
    exact J9 _ s₁ _ (0) X0 e0 N0 (by omega) (by intro j hj; omega) (Nat.lt_succ_self _)
  · skip
    refine own_of (fun tgt kon => XS.icmpYes X0.here hx rfl (pc0 := 4) (pc' := 34) rfl (hb hby d19_4) rfl (feq hc4).2 (by decide) (by decide) kon) ?_
    refine own_of (fun tgt kon => XS.iconst X0.here hx rfl (hb hby d19_34) kon) ?_
    show own_Wp _ _ _ _ (s₁.setTop (mkF m 35 #[rv a1, rv a2, uu] [(.int (0 : Int32))]))
    refine own_ret X0 hlk (some (.int (0 : Int32))) (own_rtI hrt) (fun fs hr => retN X0 hx (t := .boolean) hrt (by simp) (hb hby d19_35) hr) ?_ (by decide) (by decide)
    rw [e0]
    exact ⟨by rw [hr0 (fun q => hc4 (by rw [q.1]))], N0, rfl⟩
theorem d18_0 : decode jdk_42_method_66_code 0 = .ok (.aload_n 0, 1) := by decide +kernel
theorem d18_1 : decode jdk_42_method_66_code 1 = .ok (.aload_n 1, 1) := by decide +kernel
theorem d18_2 : decode jdk_42_method_66_code 2 = .ok (.if_acmp .ne 5, 3) := by decide +kernel
theorem d18_7 : decode jdk_42_method_66_code 7 = .ok (.aload_n 1, 1) := by decide +kernel
theorem d18_8 : decode jdk_42_method_66_code 8 = .ok (.instanceof 10, 3) := by decide +kernel
theorem d18_11 : decode jdk_42_method_66_code 11 = .ok (.ifCond .eq 43, 3) := by decide +kernel
theorem d18_14 : decode jdk_42_method_66_code 14 = .ok (.aload_n 1, 1) := by decide +kernel
theorem d18_15 : decode jdk_42_method_66_code 15 = .ok (.checkcast 10, 3) := by decide +kernel
theorem d18_18 : decode jdk_42_method_66_code 18 = .ok (.astore_n 2, 1) := by decide +kernel
theorem d18_19 : decode jdk_42_method_66_code 19 = .ok (.getstatic 38, 3) := by decide +kernel
theorem d18_22 : decode jdk_42_method_66_code 22 = .ok (.ifCond .eq 14, 3) := by decide +kernel
theorem d18_25 : decode jdk_42_method_66_code 25 = .ok (.aload_n 0, 1) := by decide +kernel
theorem d18_26 : decode jdk_42_method_66_code 26 = .ok (.getfield 15, 3) := by decide +kernel
theorem d18_29 : decode jdk_42_method_66_code 29 = .ok (.aload_n 2, 1) := by decide +kernel
theorem d18_30 : decode jdk_42_method_66_code 30 = .ok (.getfield 15, 3) := by decide +kernel
theorem d18_33 : decode jdk_42_method_66_code 33 = .ok (.if_icmp .ne 21, 3) := by decide +kernel
theorem d18_36 : decode jdk_42_method_66_code 36 = .ok (.aload_n 0, 1) := by decide +kernel
theorem d18_37 : decode jdk_42_method_66_code 37 = .ok (.getfield 9, 3) := by decide +kernel
theorem d18_40 : decode jdk_42_method_66_code 40 = .ok (.aload_n 2, 1) := by decide +kernel
theorem d18_41 : decode jdk_42_method_66_code 41 = .ok (.getfield 9, 3) := by decide +kernel
theorem d18_44 : decode jdk_42_method_66_code 44 = .ok (.invokestatic 541, 3) := by decide +kernel
theorem own_pd7 : parseMethodDescriptor "([B[B)Z" = some ⟨[(.array .byte), (.array .byte)], some .boolean⟩ := by decide +kernel
theorem d18_47 : decode jdk_42_method_66_code 47 = .ok (.ifCond .eq 7, 3) := by decide +kernel
theorem d18_54 : decode jdk_42_method_66_code 54 = .ok (.iconst 0, 1) := by decide +kernel
theorem d18_55 : decode jdk_42_method_66_code 55 = .ok (.ireturn, 1) := by decide +kernel
theorem d18_50 : decode jdk_42_method_66_code 50 = .ok (.iconst 1, 1) := by decide +kernel
theorem d18_51 : decode jdk_42_method_66_code 51 = .ok (.goto 4, 3) := by decide +kernel
def Q_rmeq (Z : State) (a1 : Addr) (a2 : Addr) (v1 : Addr) (v2 : Addr) (n1 : Nat) (n2 : Nat) (f1 : Nat → Int32) (f2 : Nat → Int32) (r : Int32) (cz : Int32) (h0 : Heap) (n0 : Nat) (v : Option Value) (h : Heap) (L : List Loc) : Prop := v = some (.int r) ∧ Fr n0 L ∧ h = h0
set_option maxRecDepth 65536 in
set_option maxHeartbeats 40000000 in
theorem rmeq (l : Launch) (Z : State) (a0 : Array Value) (hw : ∀ d ∈ tables_1, d.before a0 Z = true) (ws : List Jvm.Cond) (a1 : Addr) (a2 : Addr) (v1 : Addr) (v2 : Addr) (n1 : Nat) (n2 : Nat) (f1 : Nat → Int32) (f2 : Nat → Int32) (r : Int32) (cz : Int32) (h0 : Heap) (n0 : Nat) (Z0 : n0 ≤ h0.size) (E_a1 : Exa Z h0 a1 "java/lang/String") (F_value_a1 : Fld Z h0 a1 "java/lang/String" "value" "[B" (.ref v1)) (F_coder_a1 : Fld Z h0 a1 "java/lang/String" "coder" "B" (.int (0 : Int32))) (V_v1 : own_Ar Z h0 v1 .byte n1 (fun k => .int (f1 k))) (E_a2 : Exa Z h0 a2 "java/lang/String") (F_value_a2 : Fld Z h0 a2 "java/lang/String" "value" "[B" (.ref v2)) (F_coder_a2 : Fld Z h0 a2 "java/lang/String" "coder" "B" (.int (0 : Int32))) (V_v2 : own_Ar Z h0 v2 .byte n2 (fun k => .int (f2 k))) (ne12 : a1 ≠ a2) (hr1 : (n1 = n2 ∧ ∀ j, j < n1 → f1 j = f2 j) → r = 1) (hr0 : ¬ (n1 = n2 ∧ ∀ j, j < n1 → f1 j = f2 j) → r = 0) (hn1 : n1 ≤ 2) (hn2 : n2 ≤ 2) (S_C : Sta Z h0 "java/lang/String" "COMPACT_STRINGS" "Z" (.int cz)) (hcz : ¬ cz = 0) :
    own_Ctr l Z (⟨"java/lang/String", "equals", "(Ljava/lang/Object;)Z"⟩ : MethodName) jdk_42_method_66_code 3 (some .boolean) ws ({ frames := 1, cells := 0, slots := 0, locals := 14 } : Room) #[(.ref a1), (.ref a2)] h0 (Q_rmeq Z a1 a2 v1 v2 n1 n2 f1 f2 r cz h0 n0) := by
  refine own_enter (plainFor_of_name own_pn1) ?_
  intro p e s m below meth c s₁ X0 hx hby hml hrt hlk hZ hown hnm e0
  have N0 := Fr.nil n0
  have Zs := Z0
  rw [show entryFrame m #[(.ref a1), (.ref a2)] 3 = mkF m 0 #[rv a1, rv a2, uu] [] from by first | (simp [entryFrame, mkF, argsToLocals, Value.category]; done) | rfl]
  show own_Wp _ _ _ _ (s₁.setTop (mkF m 0 #[rv a1, rv a2, uu] []))
  refine own_of (fun tgt kon => XS.aloadN X0.here hx rfl (hb hby d18_0) rfl rfl kon) ?_
  refine own_of (fun tgt kon => XS.aloadN X0.here hx rfl (hb hby d18_1) rfl rfl kon) ?_
  refine own_of (fun tgt kon => Jvm.RoadKit.acmp (g := (mkF m 2 #[rv a1, rv a2, uu] [(.ref a2), (.ref a1)])) X0 hx rfl rfl rfl (pc0 := 2) (pc' := 7) (same := false) rfl (hb hby d18_2) rfl (decide_eq_false fun q => ne12 (Value.ref.inj q)) (by decide) (by decide) kon) ?_
  show own_Wp _ _ _ _ (s₁.setTop (mkF m 7 #[rv a1, rv a2, uu] []))
  refine own_of (fun tgt kon => XS.aloadN X0.here hx rfl (hb hby d18_7) rfl rfl kon) ?_
  obtain ⟨T1, X1, e1, st1⟩ := instY X0 hx hZ hown (ow hw 94 rfl) e0 (Ins.self E_a2) (g := (mkF m 8 #[rv a1, rv a2, uu] [(.ref a2)])) rfl rfl (hb hby d18_8)
  refine own_of st1 ?_
  clear st1
  have hc11 : ¬ ((1 : Int32) = (0 : Int32)) := by decide
  refine own_of (fun tgt kon => XS.ifNo X1.here hx rfl (hb hby d18_11) rfl ((if0 _ _).trans (feq hc11).1) kon) ?_
  refine own_of (fun tgt kon => XS.aloadN X1.here hx rfl (hb hby d18_14) rfl rfl kon) ?_
  obtain ⟨T2, X2, e2, st2⟩ := castY X1 hx hZ hown (ow hw 94 rfl) e1 (Ins.self E_a2) (g := (mkF m 15 #[rv a1, rv a2, uu] [(.ref a2)])) rfl rfl (hb hby d18_15)
  refine own_of st2 ?_
  clear st2
  show own_Wp _ _ _ _ (T2.setTop (mkF m 18 #[rv a1, rv a2, uu] [(.ref a2)]))
  refine own_of (fun tgt kon => XS.astoreN X2.here hx rfl (hb hby d18_18) rfl rfl (l' := #[rv a1, rv a2, rv a2]) rfl kon) ?_
  obtain ⟨T3, X3, e3, st3⟩ := getS2 X2 hx hZ hown (host := "") (Or.inl (ow hw 76 rfl)) Via.refl e2 S_C (g := (mkF m 19 #[rv a1, rv a2, rv a2] [])) rfl (hb hby d18_19)
  refine own_of st3 ?_
  clear st3
  have hc22 : ¬ (cz = (0 : Int32)) := hcz
  refine own_of (fun tgt kon => XS.ifNo X3.here hx rfl (hb hby d18_22) rfl ((if0 _ _).trans (feq hc22).1) kon) ?_
  refine own_of (fun tgt kon => XS.aloadN X3.here hx rfl (hb hby d18_25) rfl rfl kon) ?_
  obtain ⟨T4, X4, e4, st4⟩ := getF X3 hx hZ hown (host := "") (Or.inl (ow hw 25 rfl)) Via.refl e3 F_coder_a1 (g := (mkF m 26 #[rv a1, rv a2, rv a2] [(.ref a1)])) rfl rfl (hb hby d18_26)
  refine own_of st4 ?_
  clear st4
  show own_Wp _ _ _ _ (T4.setTop (mkF m 29 #[rv a1, rv a2, rv a2] [(.int (0 : Int32))]))
  refine own_of (fun tgt kon => XS.aloadN X4.here hx rfl (hb hby d18_29) rfl rfl kon) ?_
  obtain ⟨T5, X5, e5, st5⟩ := getF X4 hx hZ hown (host := "") (Or.inl (ow hw 25 rfl)) Via.refl e4 F_coder_a2 (g := (mkF m 30 #[rv a1, rv a2, rv a2] [(.ref a2), (.int (0 : Int32))])) rfl rfl (hb hby d18_30)
  refine own_of st5 ?_
  clear st5
  have hc33 : (0 : Int32) = (0 : Int32) := rfl
  refine own_of (fun tgt kon => XS.icmpNo X5.here hx rfl (hb hby d18_33) rfl (teq hc33).2 kon) ?_
  refine own_of (fun tgt kon => XS.aloadN X5.here hx rfl (hb hby d18_36) rfl rfl kon) ?_
  obtain ⟨T6, X6, e6, st6⟩ := getF X5 hx hZ hown (host := "") (Or.inl (ow hw 24 rfl)) Via.refl e5 F_value_a1 (g := (mkF m 37 #[rv a1, rv a2, rv a2] [(.ref a1)])) rfl rfl (hb hby d18_37)
  refine own_of st6 ?_
  clear st6
  show own_Wp _ _ _ _ (T6.setTop (mkF m 40 #[rv a1, rv a2, rv a2] [(.ref v1)]))
  refine own_of (fun tgt kon => XS.aloadN X6.here hx rfl (hb hby d18_40) rfl rfl kon) ?_
  obtain ⟨T7, X7, e7, st7⟩ := getF X6 hx hZ hown (host := "") (Or.inl (ow hw 24 rfl)) Via.refl e6 F_value_a2 (g := (mkF m 41 #[rv a1, rv a2, rv a2] [(.ref a2), (.ref v1)])) rfl rfl (hb hby d18_41)
  refine own_of st7 ?_
  clear st7
  refine own_callS X7 hx hZ (y := (⟨"java/lang/StringLatin1", "equals", "([B[B)Z"⟩ : MethodName)) (argsL := [(.ref v1), (.ref v2)]) (rest := []) (W := 0) hown (ow hw 107 rfl) (ow hw 108 rfl) (ow hw 92 rfl) (ow hw 109 rfl) (by decide) e7 (rmle l Z a0 hw [] v1 v2 n1 n2 f1 f2 r h0 n0 Zs V_v1 V_v2 hr1 hr0 hn1 hn2) (by decide) (by decide) (by decide) (by decide) rfl (by rw [hml]; rfl) (lenOf own_pd7 rfl) rfl (by show 2 * 0 + _ ≤ _; exact Nat.le_of_eq rfl) (hb hby d18_44) ?_
  rintro T8 L8 _ X8 ⟨rfl, N8q, e8⟩
  have N8 := Fr.app N0 N8q
  show own_Wp _ _ _ _ (T8.setTop (mkF m 47 #[rv a1, rv a2, rv a2] [(.int r)]))
  by_cases hc47 : r = (0 : Int32)
  · skip
    refine own_of (fun tgt kon => XS.ifYes X8.here hx rfl (pc0 := 47) (pc' := 54) rfl (hb hby d18_47) rfl ((if0 _ _).trans (teq hc47).1) (by decide) (by decide) kon) ?_
    refine own_of (fun tgt kon => XS.iconst X8.here hx rfl (hb hby d18_54) kon) ?_
    show own_Wp _ _ _ _ (T8.setTop (mkF m 55 #[rv a1, rv a2, rv a2] [(.int (0 : Int32))]))
    refine own_ret X8 hlk (some (.int (0 : Int32))) (own_rtI hrt) (fun fs hr => retN X8 hx (t := .boolean) hrt (by simp) (hb hby d18_55) hr) ?_ (by decide) (by decide)
    rw [e8]
    exact ⟨by rw [hc47], N8, rfl⟩
  · skip
    refine own_of (fun tgt kon => XS.ifNo X8.here hx rfl (hb hby d18_47) rfl ((if0 _ _).trans (feq hc47).1) kon) ?_
    refine own_of (fun tgt kon => XS.iconst X8.here hx rfl (hb hby d18_50) kon) ?_
    refine own_of (fun tgt kon => XS.goto X8.here hx rfl (pc0 := 51) (pc' := 55) rfl (hb hby d18_51) (by decide) (by decide) kon) ?_
    show own_Wp _ _ _ _ (T8.setTop (mkF m 55 #[rv a1, rv a2, rv a2] [(.int (1 : Int32))]))
    refine own_ret X8 hlk (some (.int (1 : Int32))) (own_rtI hrt) (fun fs hr => retN X8 hx (t := .boolean) hrt (by simp) (hb hby d18_55) hr) ?_ (by decide) (by decide)
    rw [e8]
    have e : r = 1 := by
      rcases Classical.em (n1 = n2 ∧ ∀ j, j < n1 → f1 j = f2 j) with q | q
      · exact hr1 q
      · exact absurd (hr0 q) hc47
    exact ⟨by rw [e], N8, rfl⟩
def Q_rmeqn (Z : State) (a1 : Addr) (h0 : Heap) (n0 : Nat) (v : Option Value) (h : Heap) (L : List Loc) : Prop := v = some (.int (0 : Int32)) ∧ Fr n0 L ∧ h = h0
set_option maxRecDepth 65536 in
set_option maxHeartbeats 40000000 in
theorem rmeqn (l : Launch) (Z : State) (a0 : Array Value) (hw : ∀ d ∈ tables_1, d.before a0 Z = true) (ws : List Jvm.Cond) (a1 : Addr) (h0 : Heap) (n0 : Nat) (Z0 : n0 ≤ h0.size)  :
    own_Ctr l Z (⟨"java/lang/String", "equals", "(Ljava/lang/Object;)Z"⟩ : MethodName) jdk_42_method_66_code 3 (some .boolean) ws ({ frames := 0, cells := 0, slots := 0, locals := 0 } : Room) #[(.ref a1), .null] h0 (Q_rmeqn Z a1 h0 n0) := by
  refine own_enter (plainFor_of_name own_pn1) ?_
  intro p e s m below meth c s₁ X0 hx hby hml hrt hlk hZ hown hnm e0
  have N0 := Fr.nil n0
  have Zs := Z0
  rw [show entryFrame m #[(.ref a1), .null] 3 = mkF m 0 #[rv a1, .val .null, uu] [] from by first | (simp [entryFrame, mkF, argsToLocals, Value.category]; done) | rfl]
  show own_Wp _ _ _ _ (s₁.setTop (mkF m 0 #[rv a1, .val .null, uu] []))
  refine own_of (fun tgt kon => XS.aloadN X0.here hx rfl (hb hby d18_0) rfl rfl kon) ?_
  refine own_of (fun tgt kon => XS.aloadN X0.here hx rfl (hb hby d18_1) rfl rfl kon) ?_
  refine own_of (fun tgt kon => Jvm.RoadKit.acmp (g := (mkF m 2 #[rv a1, .val .null, uu] [.null, (.ref a1)])) X0 hx rfl rfl rfl (pc0 := 2) (pc' := 7) (same := false) rfl (hb hby d18_2) rfl (decide_eq_false nofun) (by decide) (by decide) kon) ?_
  show own_Wp _ _ _ _ (s₁.setTop (mkF m 7 #[rv a1, .val .null, uu] []))
  refine own_of (fun tgt kon => XS.aloadN X0.here hx rfl (hb hby d18_7) rfl rfl kon) ?_
  refine own_of (X0.instanceofNull hx (g := (mkF m 8 #[rv a1, .val .null, uu] [.null])) rfl rfl (hb hby d18_8)) ?_
  have hc11 : (0 : Int32) = (0 : Int32) := rfl
  refine own_of (fun tgt kon => XS.ifYes X0.here hx rfl (pc0 := 11) (pc' := 54) rfl (hb hby d18_11) rfl ((if0 _ _).trans (teq hc11).1) (by decide) (by decide) kon) ?_
  refine own_of (fun tgt kon => XS.iconst X0.here hx rfl (hb hby d18_54) kon) ?_
  show own_Wp _ _ _ _ (s₁.setTop (mkF m 55 #[rv a1, .val .null, uu] [(.int (0 : Int32))]))
  refine own_ret X0 hlk (some (.int (0 : Int32))) (own_rtI hrt) (fun fs hr => retN X0 hx (t := .boolean) hrt (by simp) (hb hby d18_55) hr) ?_ (by decide) (by decide)
  rw [e0]
  exact ⟨rfl, N0, rfl⟩
theorem own_pn3 : plainName "com/example/iota_flow/iotaflow/definition/MergeStartsPinLaw" = true := by first | (simp [plainName, overriddenIn]; done) | decide +kernel
theorem d1_0 : decode method_2_code 0 = .ok (.iload_n 0, 1) := by decide +kernel
theorem d1_1 : decode method_2_code 1 = .ok (.ifCond .ne 14, 3) := by decide +kernel
theorem d1_4 : decode method_2_code 4 = .ok (.new 7, 3) := by decide +kernel
theorem d1_7 : decode method_2_code 7 = .ok (.dup, 1) := by decide +kernel
theorem d1_8 : decode method_2_code 8 = .ok (.iconst 0, 1) := by decide +kernel
theorem d1_9 : decode method_2_code 9 = .ok (.newarray .char, 2) := by decide +kernel
theorem d1_11 : decode method_2_code 11 = .ok (.invokespecial 9, 3) := by decide +kernel
theorem own_pd8 : parseMethodDescriptor "([C)V" = some ⟨[(.array .char)], none⟩ := by decide +kernel
theorem d1_14 : decode method_2_code 14 = .ok (.areturn, 1) := by decide +kernel
theorem d1_15 : decode method_2_code 15 = .ok (.iload_n 0, 1) := by decide +kernel
theorem d1_16 : decode method_2_code 16 = .ok (.iconst 1, 1) := by decide +kernel
theorem d1_17 : decode method_2_code 17 = .ok (.if_icmp .ne 8, 3) := by decide +kernel
theorem d1_20 : decode method_2_code 20 = .ok (.iload_n 1, 1) := by decide +kernel
theorem d1_21 : decode method_2_code 21 = .ok (.invokestatic 12, 3) := by decide +kernel
theorem own_pd9 : parseMethodDescriptor "(C)Ljava/lang/String;" = some ⟨[.char], some (.object "java/lang/String")⟩ := by decide +kernel
theorem d1_24 : decode method_2_code 24 = .ok (.areturn, 1) := by decide +kernel
theorem d1_25 : decode method_2_code 25 = .ok (.new 7, 3) := by decide +kernel
theorem d1_28 : decode method_2_code 28 = .ok (.dup, 1) := by decide +kernel
theorem d1_29 : decode method_2_code 29 = .ok (.iconst 2, 1) := by decide +kernel
theorem d1_30 : decode method_2_code 30 = .ok (.newarray .char, 2) := by decide +kernel
theorem d1_32 : decode method_2_code 32 = .ok (.dup, 1) := by decide +kernel
theorem d1_33 : decode method_2_code 33 = .ok (.iconst 0, 1) := by decide +kernel
theorem d1_34 : decode method_2_code 34 = .ok (.iload_n 1, 1) := by decide +kernel
theorem d1_35 : decode method_2_code 35 = .ok (.castore, 1) := by decide +kernel
theorem d1_36 : decode method_2_code 36 = .ok (.dup, 1) := by decide +kernel
theorem d1_37 : decode method_2_code 37 = .ok (.iconst 1, 1) := by decide +kernel
theorem d1_38 : decode method_2_code 38 = .ok (.iload_n 2, 1) := by decide +kernel
theorem d1_39 : decode method_2_code 39 = .ok (.castore, 1) := by decide +kernel
theorem d1_40 : decode method_2_code 40 = .ok (.invokespecial 9, 3) := by decide +kernel
theorem d1_43 : decode method_2_code 43 = .ok (.areturn, 1) := by decide +kernel
def Q_rmmk (Z : State) (n : Nat) (pa : Int32) (pb : Int32) (cz : Int32) (h0 : Heap) (n0 : Nat) (v : Option Value) (h : Heap) (L : List Loc) : Prop := ∃ x b, v = some (.ref x) ∧ Fr n0 L ∧ Keep h0 h [] ∧ n0 ≤ x ∧ h0.size ≤ x ∧ Exa Z h x "java/lang/String" ∧ Fld Z h x "java/lang/String" "value" "[B" (.ref b) ∧ Fld Z h x "java/lang/String" "coder" "B" (.int (0 : Int32)) ∧ own_Ar Z h b .byte n (fun k => .int (own_by ((own_tx2 pa pb) k)))
set_option maxRecDepth 65536 in
set_option maxHeartbeats 40000000 in
theorem rmmk (l : Launch) (Z : State) (a0 : Array Value) (hw : ∀ d ∈ tables_1, d.before a0 Z = true) (ws : List Jvm.Cond) (n : Nat) (pa : Int32) (pb : Int32) (cz : Int32) (h0 : Heap) (n0 : Nat) (Z0 : n0 ≤ h0.size) (hn2 : n ≤ 2) (ha : own_C8 pa) (hb' : own_C8 pb) (S_C : Sta Z Z.heap "java/lang/String" "COMPACT_STRINGS" "Z" (.int cz)) (hcz : ¬ cz = 0) (O : Old Z n0 h0) :
    own_CtrH EL_1 [] l Z (⟨"com/example/iota_flow/iotaflow/definition/MergeStartsPinLaw", "make", "(ICC)Ljava/lang/String;"⟩ : MethodName) method_2_code 3 (some (.object "java/lang/String")) ws ({ frames := 4, cells := 6, slots := 12, locals := 66 } : Room) #[(.int (Int32.ofNat n)), (.int pa), (.int pb)] h0 (Q_rmmk Z n pa pb cz h0 n0) := by
  refine own_enterH (plainFor_of_name own_pn3) ?_
  intro p e s m below meth c s₁ X0 SH hsafe hx hby hml hrt hlk hZ hown hnm e0
  have N0 := Fr.nil n0
  have Zs := Z0
  have K0 := Keep.refl h0 []
  rw [show entryFrame m #[(.int (Int32.ofNat n)), (.int pa), (.int pb)] 3 = mkF m 0 #[iv (Int32.ofNat n), iv pa, iv pb] [] from by first | (simp [entryFrame, mkF, argsToLocals, Value.category]; done) | rfl]
  show own_Wp _ _ _ _ (s₁.setTop (mkF m 0 #[iv (Int32.ofNat n), iv pa, iv pb] []))
  refine own_of (fun tgt kon => XS.iloadN X0.here hx rfl (hb hby d1_0) rfl kon) ?_
  by_cases hc1 : (Int32.ofNat n) = (0 : Int32)
  · skip
    refine own_of (fun tgt kon => XS.ifNo X0.here hx rfl (hb hby d1_1) rfl ((if0 _ _).trans (teq hc1).2) kon) ?_
    show own_Wp _ _ _ _ (s₁.setTop (mkF m 4 #[iv (Int32.ofNat n), iv pa, iv pb] []))
    have hne : n = 0 := own_ofNI (by omega) (by omega) hc1
    obtain ⟨T1, h1, X1, e1, E1, A1, D1, -, st1⟩ := newO X0 hx hZ hown (ow hw 4 rfl) (ow hw 5 rfl) (ow hw 6 rfl) e0 (g := (mkF m 4 #[iv (Int32.ofNat n), iv pa, iv pb] [])) rfl (hb hby d1_4) (by decide) (by decide)
    refine own_of st1 ?_
    clear st1
    obtain ⟨b1, gq1⟩ : ∃ z, z = h0.size := ⟨_, rfl⟩
    rw [← gq1] at A1 D1 ⊢
    have S_b1 := Safe.ext E1 SH.2.1 (Safe.new (x := b1) (Nat.le_of_eq gq1.symm))
    have g_b1 : n0 ≤ b1 := Nat.le_trans Zs (Nat.le_of_eq gq1.symm)
    have sz_b1 : h0.size ≤ b1 := Nat.le_trans K0.1 (Nat.le_of_eq gq1.symm)
    replace Zs := Nat.le_trans Zs E1.1
    replace SH := SH.ext E1
    replace O := O.ext E1
    replace K0 := K0.ext E1
    have E_b1 := A1
    have F_value_b1 : Fld Z h1 b1 "java/lang/String" "value" "[B" .null := D1 (Or.inr (ow hw 20 rfl)) (ty := (.array .byte)) (by decide)
    have F_coder_b1 : Fld Z h1 b1 "java/lang/String" "coder" "B" (.int (0 : Int32)) := D1 (Or.inr (ow hw 21 rfl)) (ty := .byte) (by decide)
    refine own_of (fun tgt kon => XS.dup X1.here hx rfl (hb hby d1_7) rfl rfl kon) ?_
    refine own_of (fun tgt kon => XS.iconst X1.here hx rfl (hb hby d1_8) kon) ?_
    obtain ⟨T2, h2, k2, X2, e2, E2, A2, st2⟩ := newP X1 hx hZ (ow hw 7 rfl) e1 (g := (mkF m 9 #[iv (Int32.ofNat n), iv pa, iv pb] [(.int (0 : Int32)), (.ref b1), (.ref b1)])) rfl (hb hby d1_9) rfl (by decide) (cap := 0) (by decide) (by decide) (by decide) (by decide)
    refine own_of st2 ?_
    clear st2
    obtain ⟨b2, gq2⟩ : ∃ z, z = h1.size := ⟨_, rfl⟩
    rw [← gq2] at A2 ⊢
    have ne_b1_b2 : b1 ≠ b2 := Nat.ne_of_lt (Nat.lt_of_lt_of_le E_b1.lt (Nat.le_of_eq gq2.symm))
    have S_b2 := Safe.ext E2 SH.2.1 (Safe.new (x := b2) (Nat.le_of_eq gq2.symm))
    have g_b2 : n0 ≤ b2 := Nat.le_trans Zs (Nat.le_of_eq gq2.symm)
    have sz_b2 : h0.size ≤ b2 := Nat.le_trans K0.1 (Nat.le_of_eq gq2.symm)
    replace Zs := Nat.le_trans Zs E2.1
    replace S_b1 := Safe.ext E2 SH.2.1 S_b1
    replace SH := SH.ext E2
    replace O := O.ext E2
    replace K0 := K0.ext E2
    replace E_b1 := E_b1.ext E2
    replace F_value_b1 := F_value_b1.ext E2
    replace F_coder_b1 := F_coder_b1.ext E2
    have V_b2 : own_Ar Z h2 b2 .char 0 (fun _ => (.int (0 : Int32))) := own_Ar.new A2 (by decide) rfl
    refine own_callIH X2 SH (own_EL hw) hx hZ (y := (⟨"java/lang/String", "<init>", "([C)V"⟩ : MethodName)) (a := b1) (argsL := [(.ref b2)]) (rest := [(.ref b1)]) (W := 1) rfl hown (ow hw 8 rfl) (ow hw 9 rfl) (ow hw 6 rfl) (ow hw 10 rfl) (by decide) e2 (rms20 l Z a0 hw [] b1 b2 _ h2 n0 Zs E_b1 _ _ F_value_b1 F_coder_b1 g_b1 V_b2 ne_b1_b2) (allS (P := fun z => Safe Z EL_1 s.vm h2 z ∧ z < (h2).size) ⟨S_b1, E_b1.lt⟩ all0) (by decide) (by decide) (by decide) (by decide) rfl (by rw [hml]; rfl) (lenOf own_pd8 rfl) rfl (by show 2 * 0 + _ ≤ _; exact Nat.le_of_eq rfl) (hb hby d1_11) ?_
    have lt_S_b1 := E_b1.lt
    have lt_S_b2 := V_b2.lt
    clear hZ hown
    rintro sv3 T3 L3 _ X3 SHq hZ hown CH3 ⟨rfl, N3q, Kq3, Eq3, c3, Fv3, Fc3, Vq3⟩
    have N3 := Fr.app N0 N3q
    show own_Wp _ _ _ _ (T3.setTop (mkF m 14 #[iv (Int32.ofNat n), iv pa, iv pb] [(.ref b1)]))
    replace Zs := Nat.le_trans Zs Kq3.1
    replace O := O.keep Kq3 (allS g_b1 all0)
    replace K0 := K0.trans Kq3 (allS (P := fun z => z ∈ _ ∨ _ ≤ z) (Or.inr sz_b1) all0)
    replace E_b1 := E_b1.keep Kq3
    replace V_b2 := V_b2.keep Kq3 (ninS (Ne.symm ne_b1_b2) nin0)
    replace E_b1 := Eq3
    have F_value_b1 := Fv3
    have F_coder_b1 := Fc3
    have V_c3 := Vq3
    clear SH
    have SH := SHq
    clear SHq
    replace S_b1 := CH3.safe lt_S_b1 S_b1
    replace S_b2 := CH3.safe lt_S_b2 S_b2
    refine own_retH X3 hZ (own_EL hw) SH hlk (some (.ref b1)) (own_rtI hrt) (fun fs hr => own_retR X3 hx hrt rfl rfl rfl (hb hby d1_14) hr) ?_ (by decide) (by decide)
    exact ⟨_, _, rfl, N3, K0, g_b1, sz_b1, E_b1, F_value_b1, F_coder_b1, (by rw [hne]; exact V_c3.fn (fun k hk => absurd hk (Nat.not_lt_zero _)))⟩
  · skip
    refine own_of (fun tgt kon => XS.ifYes X0.here hx rfl (pc0 := 1) (pc' := 15) rfl (hb hby d1_1) rfl ((if0 _ _).trans (feq hc1).2) (by decide) (by decide) kon) ?_
    refine own_of (fun tgt kon => XS.iloadN X0.here hx rfl (hb hby d1_15) rfl kon) ?_
    refine own_of (fun tgt kon => XS.iconst X0.here hx rfl (hb hby d1_16) kon) ?_
    by_cases hc17 : (Int32.ofNat n) = (1 : Int32)
    · skip
      refine own_of (fun tgt kon => XS.icmpNo X0.here hx rfl (hb hby d1_17) rfl (teq hc17).2 kon) ?_
      refine own_of (fun tgt kon => XS.iloadN X0.here hx rfl (hb hby d1_20) rfl kon) ?_
      show own_Wp _ _ _ _ (s₁.setTop (mkF m 21 #[iv (Int32.ofNat n), iv pa, iv pb] [(.int pa)]))
      refine own_callS X0 hx hZ (y := (⟨"java/lang/String", "valueOf", "(C)Ljava/lang/String;"⟩ : MethodName)) (argsL := [(.int pa)]) (rest := []) (W := 0) hown (ow hw 87 rfl) (ow hw 88 rfl) (ow hw 6 rfl) (ow hw 89 rfl) (by decide) e0 (rmvo l Z a0 hw [] pa cz h0 n0 Zs ha.le (S_C.ext O.2) hcz) (by decide) (by decide) (by decide) (by decide) rfl (by rw [hml]; rfl) (lenOf own_pd9 rfl) rfl (by show 2 * 0 + _ ≤ _; exact Nat.le_of_eq rfl) (hb hby d1_21) ?_
      rintro T4 L4 _ X4 ⟨x4, c4, rfl, N4q, Kq4, g_x4, sz_x4, E_x4, F_value_x4, F_coder_x4, V_c4⟩
      have N4 := Fr.app N0 N4q
      show own_Wp _ _ _ _ (T4.setTop (mkF m 24 #[iv (Int32.ofNat n), iv pa, iv pb] [(.ref x4)]))
      replace Zs := Nat.le_trans Zs Kq4.1
      have hsf : ∀ x ∈ ([] : List Addr), Safe Z EL_1 s.vm h0 x := fun _ q => nomatch q
      replace SH := SH.keep Kq4 hsf
      clear hsf
      replace O := O.keep Kq4 all0
      replace K0 := K0.trans Kq4 all0
      refine own_retH X4 hZ (own_EL hw) SH hlk (some (.ref x4)) (own_rtI hrt) (fun fs hr => own_retR X4 hx hrt rfl rfl rfl (hb hby d1_24) hr) ?_ (by decide) (by decide)
      exact ⟨_, _, rfl, N4, K0, g_x4, sz_x4, E_x4, F_value_x4, F_coder_x4, (by rw [own_ofNI (a := n) (b := 1) (by omega) (by omega) hc17]; exact V_c4.fn (fun k hk => by obtain rfl : k = 0 := (by omega); rfl))⟩
    · skip
      refine own_of (fun tgt kon => XS.icmpYes X0.here hx rfl (pc0 := 17) (pc' := 25) rfl (hb hby d1_17) rfl (feq hc17).2 (by decide) (by decide) kon) ?_
      show own_Wp _ _ _ _ (s₁.setTop (mkF m 25 #[iv (Int32.ofNat n), iv pa, iv pb] []))
      have hne : n = 2 := by
        have q0 : n ≠ 0 := fun q => hc1 (by rw [q]; rfl)
        have q1 : n ≠ 1 := fun q => hc17 (by rw [q]; rfl)
        omega
      obtain ⟨T5, h5, X5, e5, E5, A5, D5, -, st5⟩ := newO X0 hx hZ hown (ow hw 4 rfl) (ow hw 5 rfl) (ow hw 6 rfl) e0 (g := (mkF m 25 #[iv (Int32.ofNat n), iv pa, iv pb] [])) rfl (hb hby d1_25) (by decide) (by decide)
      refine own_of st5 ?_
      clear st5
      obtain ⟨b5, gq5⟩ : ∃ z, z = h0.size := ⟨_, rfl⟩
      rw [← gq5] at A5 D5 ⊢
      have S_b5 := Safe.ext E5 SH.2.1 (Safe.new (x := b5) (Nat.le_of_eq gq5.symm))
      have g_b5 : n0 ≤ b5 := Nat.le_trans Zs (Nat.le_of_eq gq5.symm)
      have sz_b5 : h0.size ≤ b5 := Nat.le_trans K0.1 (Nat.le_of_eq gq5.symm)
      replace Zs := Nat.le_trans Zs E5.1
      replace SH := SH.ext E5
      replace O := O.ext E5
      replace K0 := K0.ext E5
      have E_b5 := A5
      have F_value_b5 : Fld Z h5 b5 "java/lang/String" "value" "[B" .null := D5 (Or.inr (ow hw 20 rfl)) (ty := (.array .byte)) (by decide)
      have F_coder_b5 : Fld Z h5 b5 "java/lang/String" "coder" "B" (.int (0 : Int32)) := D5 (Or.inr (ow hw 21 rfl)) (ty := .byte) (by decide)
      refine own_of (fun tgt kon => XS.dup X5.here hx rfl (hb hby d1_28) rfl rfl kon) ?_
      refine own_of (fun tgt kon => XS.iconst X5.here hx rfl (hb hby d1_29) kon) ?_
      obtain ⟨T6, h6, k6, X6, e6, E6, A6, st6⟩ := newP X5 hx hZ (ow hw 7 rfl) e5 (g := (mkF m 30 #[iv (Int32.ofNat n), iv pa, iv pb] [(.int (2 : Int32)), (.ref b5), (.ref b5)])) rfl (hb hby d1_30) rfl (by decide) (cap := 2) (by decide) (by decide) (by decide) (by decide)
      refine own_of st6 ?_
      clear st6
      obtain ⟨b6, gq6⟩ : ∃ z, z = h5.size := ⟨_, rfl⟩
      rw [← gq6] at A6 ⊢
      have ne_b5_b6 : b5 ≠ b6 := Nat.ne_of_lt (Nat.lt_of_lt_of_le E_b5.lt (Nat.le_of_eq gq6.symm))
      have S_b6 := Safe.ext E6 SH.2.1 (Safe.new (x := b6) (Nat.le_of_eq gq6.symm))
      have g_b6 : n0 ≤ b6 := Nat.le_trans Zs (Nat.le_of_eq gq6.symm)
      have sz_b6 : h0.size ≤ b6 := Nat.le_trans K0.1 (Nat.le_of_eq gq6.symm)
      replace Zs := Nat.le_trans Zs E6.1
      replace S_b5 := Safe.ext E6 SH.2.1 S_b5
      replace SH := SH.ext E6
      replace O := O.ext E6
      replace K0 := K0.ext E6
      replace E_b5 := E_b5.ext E6
      replace F_value_b5 := F_value_b5.ext E6
      replace F_coder_b5 := F_coder_b5.ext E6
      have V_b6 : own_Ar Z h6 b6 .char 2 (fun _ => (.int (0 : Int32))) := own_Ar.new A6 (by decide) rfl
      refine own_of (fun tgt kon => XS.dup X6.here hx rfl (hb hby d1_32) rfl rfl kon) ?_
      show own_Wp _ _ _ _ (T6.setTop (mkF m 33 #[iv (Int32.ofNat n), iv pa, iv pb] [(.ref b6), (.ref b6), (.ref b5), (.ref b5)]))
      refine own_of (fun tgt kon => XS.iconst X6.here hx rfl (hb hby d1_33) kon) ?_
      refine own_of (fun tgt kon => XS.iloadN X6.here hx rfl (hb hby d1_34) rfl kon) ?_
      obtain ⟨T7, h7, X7, e7, W7, Aq7, st7⟩ := own_stC X6 hx hZ e6 V_b6 (j := (0 : Int32)) (i := 0) (x := pa) (by decide) (by decide) (g := (mkF m 35 #[iv (Int32.ofNat n), iv pa, iv pb] [(.int pa), (.int (0 : Int32)), (.ref b6), (.ref b6), (.ref b5), (.ref b5)])) rfl rfl (hb hby d1_35)
      refine own_of st7 ?_
      clear st7
      replace Zs := Nat.le_trans Zs (Keep.of_wr W7).1
      have q_S_b5 := Safe.wr W7 S_b6 SH.2.1 S_b5
      have q_S_b6 := Safe.wr W7 S_b6 SH.2.1 S_b6
      replace SH := SH.wr W7 S_b6
      replace S_b5 := q_S_b5
      clear q_S_b5
      replace S_b6 := q_S_b6
      clear q_S_b6
      replace O := O.wr W7 g_b6
      replace K0 := K0.wr W7 (Or.inr sz_b6)
      replace E_b5 := E_b5.wr W7
      replace F_value_b5 := F_value_b5.other W7 (Or.inl ne_b5_b6)
      replace F_coder_b5 := F_coder_b5.other W7 (Or.inl ne_b5_b6)
      replace V_b6 := Aq7
      clear Aq7
      have N7 := Fr.snoc X7 N0 g_b6
      refine own_of (fun tgt kon => XS.dup X7.here hx rfl (hb hby d1_36) rfl rfl kon) ?_
      refine own_of (fun tgt kon => XS.iconst X7.here hx rfl (hb hby d1_37) kon) ?_
      show own_Wp _ _ _ _ (T7.setTop (mkF m 38 #[iv (Int32.ofNat n), iv pa, iv pb] [(.int (1 : Int32)), (.ref b6), (.ref b6), (.ref b5), (.ref b5)]))
      refine own_of (fun tgt kon => XS.iloadN X7.here hx rfl (hb hby d1_38) rfl kon) ?_
      obtain ⟨T8, h8, X8, e8, W8, Aq8, st8⟩ := own_stC X7 hx hZ e7 V_b6 (j := (1 : Int32)) (i := 1) (x := pb) (by decide) (by decide) (g := (mkF m 39 #[iv (Int32.ofNat n), iv pa, iv pb] [(.int pb), (.int (1 : Int32)), (.ref b6), (.ref b6), (.ref b5), (.ref b5)])) rfl rfl (hb hby d1_39)
      refine own_of st8 ?_
      clear st8
      replace Zs := Nat.le_trans Zs (Keep.of_wr W8).1
      have q_S_b5 := Safe.wr W8 S_b6 SH.2.1 S_b5
      have q_S_b6 := Safe.wr W8 S_b6 SH.2.1 S_b6
      replace SH := SH.wr W8 S_b6
      replace S_b5 := q_S_b5
      clear q_S_b5
      replace S_b6 := q_S_b6
      clear q_S_b6
      replace O := O.wr W8 g_b6
      replace K0 := K0.wr W8 (Or.inr sz_b6)
      replace E_b5 := E_b5.wr W8
      replace F_value_b5 := F_value_b5.other W8 (Or.inl ne_b5_b6)
      replace F_coder_b5 := F_coder_b5.other W8 (Or.inl ne_b5_b6)
      replace V_b6 := Aq8
      clear Aq8
      have N8 := Fr.snoc X8 N7 g_b6
      show own_Wp _ _ _ _ (T8.setTop (mkF m 40 #[iv (Int32.ofNat n), iv pa, iv pb] [(.ref b6), (.ref b5), (.ref b5)]))
      replace V_b6 := V_b6.fn (f' := fun k => .int ((own_tx2 pa pb) k)) (by intro k hk; rcases k with _ | _ | k; exact congrArg Value.int ha.nar; exact congrArg Value.int hb'.nar; omega)
      have hcs : ∀ k, k < 2 → ¬ (255 : Int32) < (own_tx2 pa pb) k := by intro k hk; rcases k with _ | _ | k; exact ha.le; exact hb'.le; omega
      have lt9 := E_b5.lt
      refine own_callI X8 hx hZ (y := (⟨"java/lang/String", "<init>", "([C)V"⟩ : MethodName)) (a := b5) (argsL := [(.ref b6)]) (rest := [(.ref b5)]) (W := 1) rfl hown (ow hw 8 rfl) (ow hw 9 rfl) (ow hw 6 rfl) (ow hw 10 rfl) (by decide) e8 (rms2 l Z a0 hw [] b5 b6 (own_tx2 pa pb) cz h8 n0 Zs E_b5 _ _ F_value_b5 F_coder_b5 V_b6 g_b5 ne_b5_b6 hcs (S_C.ext O.2) hcz) (by decide) (by decide) (by decide) (by decide) rfl (by rw [hml]; rfl) (lenOf own_pd8 rfl) rfl (by show 2 * 0 + _ ≤ _; exact Nat.le_of_eq rfl) (hb hby d1_40) ?_
      rintro T9 L9 _ X9 ⟨rfl, N9q, Kq9, Eq9, c9, g_c9, szq9, Fv9, Fc9, Vq9⟩
      have N9 := Fr.app N8 N9q
      show own_Wp _ _ _ _ (T9.setTop (mkF m 43 #[iv (Int32.ofNat n), iv pa, iv pb] [(.ref b5)]))
      replace Zs := Nat.le_trans Zs Kq9.1
      have hsf : ∀ x ∈ [b5], Safe Z EL_1 s.vm h8 x := (allS (P := fun z => Safe Z EL_1 s.vm h8 z) S_b5 all0)
      have q_S_b5 := Safe.keep Kq9 hsf SH.2.1 S_b5
      have q_S_b6 := Safe.keep Kq9 hsf SH.2.1 S_b6
      replace SH := SH.keep Kq9 hsf
      clear hsf
      replace S_b5 := q_S_b5
      clear q_S_b5
      replace S_b6 := q_S_b6
      clear q_S_b6
      replace O := O.keep Kq9 (allS g_b5 all0)
      replace K0 := K0.trans Kq9 (allS (P := fun z => z ∈ _ ∨ _ ≤ z) (Or.inr sz_b5) all0)
      replace E_b5 := E_b5.keep Kq9
      replace V_b6 := V_b6.keep Kq9 (ninS (Ne.symm ne_b5_b6) nin0)
      replace E_b5 := Eq9
      have F_value_b5 := Fv9
      have F_coder_b5 := Fc9
      have V_c9 := Vq9
      have ne_b5_c9 : b5 ≠ c9 := Nat.ne_of_lt (Nat.lt_of_lt_of_le lt9 szq9)
      refine own_retH X9 hZ (own_EL hw) SH hlk (some (.ref b5)) (own_rtI hrt) (fun fs hr => own_retR X9 hx hrt rfl rfl rfl (hb hby d1_43) hr) ?_ (by decide) (by decide)
      exact ⟨_, _, rfl, N9, K0, g_b5, sz_b5, E_b5, F_value_b5, F_coder_b5, (by rw [hne]; exact V_c9)⟩
theorem own_pn4 : plainName "java/lang/Record" = true := by first | (simp [plainName, overriddenIn]; done) | decide +kernel
theorem d6_0 : decode jdk_30_method_1_code 0 = .ok (.aload_n 0, 1) := by decide +kernel
theorem d6_1 : decode jdk_30_method_1_code 1 = .ok (.invokespecial 1, 3) := by decide +kernel
theorem d6_4 : decode jdk_30_method_1_code 4 = .ok (.return_, 1) := by decide +kernel
def Q_rmri (Z : State) (a1 : Addr) (h0 : Heap) (n0 : Nat) (v : Option Value) (h : Heap) (L : List Loc) : Prop := v = none ∧ Fr n0 L ∧ h = h0
set_option maxRecDepth 65536 in
set_option maxHeartbeats 40000000 in
theorem rmri (l : Launch) (Z : State) (a0 : Array Value) (hw : ∀ d ∈ tables_1, d.before a0 Z = true) (ws : List Jvm.Cond) (a1 : Addr) (h0 : Heap) (n0 : Nat) (Z0 : n0 ≤ h0.size)  :
    own_Ctr l Z (⟨"java/lang/Record", "<init>", "()V"⟩ : MethodName) jdk_30_method_1_code 1 none ws ({ frames := 1, cells := 0, slots := 0, locals := 12 } : Room) #[(.ref a1)] h0 (Q_rmri Z a1 h0 n0) := by
  refine own_enter (plainFor_of_name own_pn4) ?_
  intro p e s m below meth c s₁ X0 hx hby hml hrt hlk hZ hown hnm e0
  have N0 := Fr.nil n0
  have Zs := Z0
  rw [show entryFrame m #[(.ref a1)] 1 = mkF m 0 #[rv a1] [] from by first | (simp [entryFrame, mkF, argsToLocals, Value.category]; done) | rfl]
  show own_Wp _ _ _ _ (s₁.setTop (mkF m 0 #[rv a1] []))
  refine own_of (fun tgt kon => XS.aloadN X0.here hx rfl (hb hby d6_0) rfl rfl kon) ?_
  obtain ⟨T1, X1, e1, st1⟩ := initO X0 hx hZ hown (ow hw 40 rfl) (ow hw 16 rfl) (ow hw 17 rfl) e0 (g := (mkF m 1 #[rv a1] [(.ref a1)])) rfl (by rw [hml]; rfl) rfl (hb hby d6_1) (by decide) (W := 0) (by show 2 * 0 + _ ≤ _; exact Nat.le_of_eq rfl) (by decide)
  refine own_of st1 ?_
  clear st1
  show own_Wp _ _ _ _ (T1.setTop (mkF m 4 #[rv a1] []))
  refine own_ret X1 hlk none (fun _ => rfl) (fun fs hr => X1.returnOut hx hrt (hb hby d6_4) hr) ?_ (by decide) (by decide)
  rw [e1]
  exact ⟨rfl, N0, rfl⟩
theorem own_pn5 : plainName "java/util/Objects" = true := by first | (simp [plainName, overriddenIn]; done) | decide +kernel
theorem d7_0 : decode jdk_31_method_11_code 0 = .ok (.aload_n 0, 1) := by decide +kernel
theorem d7_1 : decode jdk_31_method_11_code 1 = .ok (.ifnonnull 12, 3) := by decide +kernel
theorem d7_13 : decode jdk_31_method_11_code 13 = .ok (.aload_n 0, 1) := by decide +kernel
theorem d7_14 : decode jdk_31_method_11_code 14 = .ok (.areturn, 1) := by decide +kernel
def Q_rmrn (Z : State) (a1 : Addr) (a2 : Addr) (h0 : Heap) (n0 : Nat) (v : Option Value) (h : Heap) (L : List Loc) : Prop := v = some (.ref a1) ∧ Fr n0 L ∧ h = h0
set_option maxRecDepth 65536 in
set_option maxHeartbeats 40000000 in
theorem rmrn (l : Launch) (Z : State) (a0 : Array Value) (hw : ∀ d ∈ tables_1, d.before a0 Z = true) (ws : List Jvm.Cond) (a1 : Addr) (a2 : Addr) (h0 : Heap) (n0 : Nat) (Z0 : n0 ≤ h0.size)  :
    own_Ctr l Z (⟨"java/util/Objects", "requireNonNull", "(Ljava/lang/Object;Ljava/lang/String;)Ljava/lang/Object;"⟩ : MethodName) jdk_31_method_11_code 2 (some (.object "java/lang/Object")) ws ({ frames := 0, cells := 0, slots := 0, locals := 0 } : Room) #[(.ref a1), (.ref a2)] h0 (Q_rmrn Z a1 a2 h0 n0) := by
  refine own_enter (plainFor_of_name own_pn5) ?_
  intro p e s m below meth c s₁ X0 hx hby hml hrt hlk hZ hown hnm e0
  have N0 := Fr.nil n0
  have Zs := Z0
  rw [show entryFrame m #[(.ref a1), (.ref a2)] 2 = mkF m 0 #[rv a1, rv a2] [] from by first | (simp [entryFrame, mkF, argsToLocals, Value.category]; done) | rfl]
  show own_Wp _ _ _ _ (s₁.setTop (mkF m 0 #[rv a1, rv a2] []))
  refine own_of (fun tgt kon => XS.aloadN X0.here hx rfl (hb hby d7_0) rfl rfl kon) ?_
  refine own_of (fun tgt kon => XS.ifnonnullYes X0.here hx rfl (pc0 := 1) (pc' := 13) rfl (hb hby d7_1) rfl (by decide) (by decide) kon) ?_
  refine own_of (fun tgt kon => XS.aloadN X0.here hx rfl (hb hby d7_13) rfl rfl kon) ?_
  show own_Wp _ _ _ _ (s₁.setTop (mkF m 14 #[rv a1, rv a2] [(.ref a1)]))
  refine own_ret X0 hlk (some (.ref a1)) (own_rtI hrt) (fun fs hr => own_retR X0 hx hrt rfl rfl rfl (hb hby d7_14) hr) ?_ (by decide) (by decide)
  rw [e0]
  exact ⟨rfl, N0, rfl⟩
theorem own_pn6 : plainName "com/example/iota_flow/iotaflow/definition/Merge" = true := by first | (simp [plainName, overriddenIn]; done) | decide +kernel
theorem d5_0 : decode prog_17_method_1_code 0 = .ok (.aload_n 0, 1) := by decide +kernel
theorem d5_1 : decode prog_17_method_1_code 1 = .ok (.invokespecial 1, 3) := by decide +kernel
theorem own_pd10 : parseMethodDescriptor "()V" = some ⟨[], none⟩ := by decide +kernel
theorem d5_4 : decode prog_17_method_1_code 4 = .ok (.aload_n 1, 1) := by decide +kernel
theorem d5_5 : decode prog_17_method_1_code 5 = .ok (.ldc 7, 2) := by decide +kernel
theorem d5_7 : decode prog_17_method_1_code 7 = .ok (.invokestatic 9, 3) := by decide +kernel
theorem own_pd11 : parseMethodDescriptor "(Ljava/lang/Object;Ljava/lang/String;)Ljava/lang/Object;" = some ⟨[(.object "java/lang/Object"), (.object "java/lang/String")], some (.object "java/lang/Object")⟩ := by decide +kernel
theorem d5_10 : decode prog_17_method_1_code 10 = .ok (.pop, 1) := by decide +kernel
theorem d5_11 : decode prog_17_method_1_code 11 = .ok (.aload_n 1, 1) := by decide +kernel
theorem d5_12 : decode prog_17_method_1_code 12 = .ok (.getstatic 15, 3) := by decide +kernel
theorem d5_15 : decode prog_17_method_1_code 15 = .ok (.if_acmp .ne 7, 3) := by decide +kernel
theorem d5_22 : decode prog_17_method_1_code 22 = .ok (.iconst 0, 1) := by decide +kernel
theorem d5_23 : decode prog_17_method_1_code 23 = .ok (.aload_n 2, 1) := by decide +kernel
theorem d5_24 : decode prog_17_method_1_code 24 = .ok (.ifnull 7, 3) := by decide +kernel
theorem d5_31 : decode prog_17_method_1_code 31 = .ok (.iconst 0, 1) := by decide +kernel
theorem d5_32 : decode prog_17_method_1_code 32 = .ok (.if_icmp .eq 34, 3) := by decide +kernel
theorem d5_66 : decode prog_17_method_1_code 66 = .ok (.aload_n 1, 1) := by decide +kernel
theorem d5_67 : decode prog_17_method_1_code 67 = .ok (.getstatic 40, 3) := by decide +kernel
theorem d5_70 : decode prog_17_method_1_code 70 = .ok (.if_acmp .ne 11, 3) := by decide +kernel
theorem d5_81 : decode prog_17_method_1_code 81 = .ok (.iload_n 3, 1) := by decide +kernel
theorem d5_82 : decode prog_17_method_1_code 82 = .ok (.iconst 1, 1) := by decide +kernel
theorem d5_83 : decode prog_17_method_1_code 83 = .ok (.if_icmp .eq 21, 3) := by decide +kernel
theorem d5_104 : decode prog_17_method_1_code 104 = .ok (.aload_n 0, 1) := by decide +kernel
theorem d5_105 : decode prog_17_method_1_code 105 = .ok (.aload_n 1, 1) := by decide +kernel
theorem d5_106 : decode prog_17_method_1_code 106 = .ok (.putfield 46, 3) := by decide +kernel
theorem d5_109 : decode prog_17_method_1_code 109 = .ok (.aload_n 0, 1) := by decide +kernel
theorem d5_110 : decode prog_17_method_1_code 110 = .ok (.aload_n 2, 1) := by decide +kernel
theorem d5_111 : decode prog_17_method_1_code 111 = .ok (.putfield 50, 3) := by decide +kernel
theorem d5_114 : decode prog_17_method_1_code 114 = .ok (.aload_n 0, 1) := by decide +kernel
theorem d5_115 : decode prog_17_method_1_code 115 = .ok (.iload_n 3, 1) := by decide +kernel
theorem d5_116 : decode prog_17_method_1_code 116 = .ok (.putfield 54, 3) := by decide +kernel
theorem d5_119 : decode prog_17_method_1_code 119 = .ok (.return_, 1) := by decide +kernel
def Q_rmmg0 (Z : State) (a1 : Addr) (o0 : Addr) (o1 : Addr) (o2 : Addr) (o3 : Addr) (h0 : Heap) (n0 : Nat) (v : Option Value) (h : Heap) (L : List Loc) : Prop := v = none ∧ Fr n0 L ∧ Keep h0 h [a1] ∧ Exa Z h a1 "com/example/iota_flow/iotaflow/definition/Merge" ∧ Fld Z h a1 "com/example/iota_flow/iotaflow/definition/Merge" "kind" "Lcom/example/iota_flow/iotaflow/definition/Merge$Kind;" (.ref o0) ∧ Fld Z h a1 "com/example/iota_flow/iotaflow/definition/Merge" "flag" "Ljava/lang/String;" .null ∧ Fld Z h a1 "com/example/iota_flow/iotaflow/definition/Merge" "votes" "I" (.int (1 : Int32))
set_option maxRecDepth 65536 in
set_option maxHeartbeats 40000000 in
theorem rmmg0 (l : Launch) (Z : State) (a0 : Array Value) (hw : ∀ d ∈ tables_1, d.before a0 Z = true) (ws : List Jvm.Cond) (a1 : Addr) (o0 : Addr) (o1 : Addr) (o2 : Addr) (o3 : Addr) (h0 : Heap) (n0 : Nat) (Z0 : n0 ≤ h0.size) (O : Old Z n0 h0) (E_a1 : Exa Z h0 a1 "com/example/iota_flow/iotaflow/definition/Merge") (u_kind : Value) (u_flag : Value) (u_votes : Value) (F_kind : Fld Z h0 a1 "com/example/iota_flow/iotaflow/definition/Merge" "kind" "Lcom/example/iota_flow/iotaflow/definition/Merge$Kind;" u_kind) (F_flag : Fld Z h0 a1 "com/example/iota_flow/iotaflow/definition/Merge" "flag" "Ljava/lang/String;" u_flag) (F_votes : Fld Z h0 a1 "com/example/iota_flow/iotaflow/definition/Merge" "votes" "I" u_votes) (g_a1 : n0 ≤ a1) (S0 : Sta Z Z.heap "com/example/iota_flow/iotaflow/definition/Merge$Kind" "EVERY" "Lcom/example/iota_flow/iotaflow/definition/Merge$Kind;" (.ref o0)) (S1 : Sta Z Z.heap "com/example/iota_flow/iotaflow/definition/Merge$Kind" "FIRST" "Lcom/example/iota_flow/iotaflow/definition/Merge$Kind;" (.ref o1)) (S2 : Sta Z Z.heap "com/example/iota_flow/iotaflow/definition/Merge$Kind" "FLAG" "Lcom/example/iota_flow/iotaflow/definition/Merge$Kind;" (.ref o2)) (S3 : Sta Z Z.heap "com/example/iota_flow/iotaflow/definition/Merge$Kind" "VOTES" "Lcom/example/iota_flow/iotaflow/definition/Merge$Kind;" (.ref o3)) (ne01 : o0 ≠ o1) (ne02 : o0 ≠ o2) (ne03 : o0 ≠ o3) (ne12 : o1 ≠ o2) (ne13 : o1 ≠ o3) (ne23 : o2 ≠ o3) :
    own_CtrW l Z (⟨"com/example/iota_flow/iotaflow/definition/Merge", "<init>", "(Lcom/example/iota_flow/iotaflow/definition/Merge$Kind;Ljava/lang/String;I)V"⟩ : MethodName) prog_17_method_1_code 4 none ws ({ frames := 2, cells := 2, slots := 20, locals := 24 } : Room) #[(.ref a1), (.ref o0), .null, (.int (1 : Int32))] h0 (Q_rmmg0 Z a1 o0 o1 o2 o3 h0 n0) := by
  refine own_enterW (plainFor_of_name own_pn6) ?_
  intro p e s m below meth c s₁ X0 SW hx hby hml hrt hlk hZ hown hnm e0
  have N0 := Fr.nil n0
  have Zs := Z0
  have K0 := Keep.refl h0 [a1]
  rw [show entryFrame m #[(.ref a1), (.ref o0), .null, (.int (1 : Int32))] 4 = mkF m 0 #[rv a1, rv o0, .val .null, iv (1 : Int32)] [] from by first | (simp [entryFrame, mkF, argsToLocals, Value.category]; done) | rfl]
  show own_Wp _ _ _ _ (s₁.setTop (mkF m 0 #[rv a1, rv o0, .val .null, iv (1 : Int32)] []))
  refine own_of (fun tgt kon => XS.aloadN X0.here hx rfl (hb hby d5_0) rfl rfl kon) ?_
  refine own_callI X0 hx hZ (y := (⟨"java/lang/Record", "<init>", "()V"⟩ : MethodName)) (a := a1) (argsL := []) (rest := []) (W := 0) rfl hown (ow hw 35 rfl) (ow hw 36 rfl) (ow hw 38 rfl) (ow hw 39 rfl) (by decide) e0 (rmri l Z a0 hw [] a1 h0 n0 Zs) (by decide) (by decide) (by decide) (by decide) rfl (by rw [hml]; rfl) (lenOf own_pd10 rfl) rfl (by show 2 * 0 + _ ≤ _; exact Nat.le_of_eq rfl) (hb hby d5_1) ?_
  rintro T1 L1 _ X1 ⟨rfl, N1q, e1⟩
  have N1 := Fr.app N0 N1q
  show own_Wp _ _ _ _ (T1.setTop (mkF m 4 #[rv a1, rv o0, .val .null, iv (1 : Int32)] []))
  refine own_of (fun tgt kon => XS.aloadN X1.here hx rfl (hb hby d5_4) rfl rfl kon) ?_
  obtain ⟨y2, T2, h2, sv2, X2, e2, E2, SWq2, hZq2, hownq2, st2⟩ := own_ldc X1 hx hZ hown (ow hw 41 rfl) (own_strA hw) e1 SW (g := (mkF m 5 #[rv a1, rv o0, .val .null, iv (1 : Int32)] [(.ref o0)])) rfl (hb hby d5_5) (n := 16) (by decide) (by decide) (by decide) (by decide)
  refine own_of st2 ?_
  clear st2 hZ hown
  have hZ := hZq2
  have hown := hownq2
  replace Zs := Nat.le_trans Zs E2.1
  replace O := O.ext E2
  replace K0 := K0.ext E2
  replace E_a1 := E_a1.ext E2
  replace F_kind := F_kind.ext E2
  replace F_flag := F_flag.ext E2
  replace F_votes := F_votes.ext E2
  replace SW := SWq2
  refine own_callS X2 hx hZ (y := (⟨"java/util/Objects", "requireNonNull", "(Ljava/lang/Object;Ljava/lang/String;)Ljava/lang/Object;"⟩ : MethodName)) (argsL := [(.ref o0), (.ref y2)]) (rest := []) (W := 0) hown (ow hw 42 rfl) (ow hw 43 rfl) (ow hw 44 rfl) (ow hw 45 rfl) (by decide) e2 (rmrn l Z a0 hw [] o0 y2 h2 n0 Zs) (by decide) (by decide) (by decide) (by decide) rfl (by rw [hml]; rfl) (lenOf own_pd11 rfl) rfl (by show 2 * 0 + _ ≤ _; exact Nat.le_of_eq rfl) (hb hby d5_7) ?_
  rintro T3 L3 _ X3 ⟨rfl, N3q, e3⟩
  have N3 := Fr.app N1 N3q
  show own_Wp _ _ _ _ (T3.setTop (mkF m 10 #[rv a1, rv o0, .val .null, iv (1 : Int32)] [(.ref o0)]))
  refine own_of (fun tgt kon => XS.pop X3.here hx rfl (hb hby d5_10) rfl rfl kon) ?_
  refine own_of (fun tgt kon => XS.aloadN X3.here hx rfl (hb hby d5_11) rfl rfl kon) ?_
  obtain ⟨T4, X4, e4, st4⟩ := getS2 X3 hx hZ hown (host := "") (Or.inl (ow hw 46 rfl)) Via.refl e3 (S2.ext O.2) (g := (mkF m 12 #[rv a1, rv o0, .val .null, iv (1 : Int32)] [(.ref o0)])) rfl (hb hby d5_12)
  refine own_of st4 ?_
  clear st4
  refine own_of (fun tgt kon => Jvm.RoadKit.acmp (g := (mkF m 15 #[rv a1, rv o0, .val .null, iv (1 : Int32)] [(.ref o2), (.ref o0)])) X4 hx rfl rfl rfl (pc0 := 15) (pc' := 22) (same := false) rfl (hb hby d5_15) rfl (decide_eq_false fun q => ne02 (Value.ref.inj q)) (by decide) (by decide) kon) ?_
  show own_Wp _ _ _ _ (T4.setTop (mkF m 22 #[rv a1, rv o0, .val .null, iv (1 : Int32)] []))
  refine own_of (fun tgt kon => XS.iconst X4.here hx rfl (hb hby d5_22) kon) ?_
  refine own_of (fun tgt kon => XS.aloadN X4.here hx rfl (hb hby d5_23) rfl rfl kon) ?_
  refine own_of (fun tgt kon => XS.ifnullYes X4.here hx rfl (pc0 := 24) (pc' := 31) rfl (hb hby d5_24) rfl (by decide) (by decide) kon) ?_
  refine own_of (fun tgt kon => XS.iconst X4.here hx rfl (hb hby d5_31) kon) ?_
  have hc32 : (0 : Int32) = (0 : Int32) := rfl
  refine own_of (fun tgt kon => XS.icmpYes X4.here hx rfl (pc0 := 32) (pc' := 66) rfl (hb hby d5_32) rfl (teq hc32).1 (by decide) (by decide) kon) ?_
  refine own_of (fun tgt kon => XS.aloadN X4.here hx rfl (hb hby d5_66) rfl rfl kon) ?_
  show own_Wp _ _ _ _ (T4.setTop (mkF m 67 #[rv a1, rv o0, .val .null, iv (1 : Int32)] [(.ref o0)]))
  obtain ⟨T5, X5, e5, st5⟩ := getS2 X4 hx hZ hown (host := "") (Or.inl (ow hw 48 rfl)) Via.refl e4 (S3.ext O.2) (g := (mkF m 67 #[rv a1, rv o0, .val .null, iv (1 : Int32)] [(.ref o0)])) rfl (hb hby d5_67)
  refine own_of st5 ?_
  clear st5
  refine own_of (fun tgt kon => Jvm.RoadKit.acmp (g := (mkF m 70 #[rv a1, rv o0, .val .null, iv (1 : Int32)] [(.ref o3), (.ref o0)])) X5 hx rfl rfl rfl (pc0 := 70) (pc' := 81) (same := false) rfl (hb hby d5_70) rfl (decide_eq_false fun q => ne03 (Value.ref.inj q)) (by decide) (by decide) kon) ?_
  show own_Wp _ _ _ _ (T5.setTop (mkF m 81 #[rv a1, rv o0, .val .null, iv (1 : Int32)] []))
  refine own_of (fun tgt kon => XS.iloadN X5.here hx rfl (hb hby d5_81) rfl kon) ?_
  refine own_of (fun tgt kon => XS.iconst X5.here hx rfl (hb hby d5_82) kon) ?_
  have hc83 : (1 : Int32) = (1 : Int32) := rfl
  refine own_of (fun tgt kon => XS.icmpYes X5.here hx rfl (pc0 := 83) (pc' := 104) rfl (hb hby d5_83) rfl (teq hc83).1 (by decide) (by decide) kon) ?_
  refine own_of (fun tgt kon => XS.aloadN X5.here hx rfl (hb hby d5_104) rfl rfl kon) ?_
  refine own_of (fun tgt kon => XS.aloadN X5.here hx rfl (hb hby d5_105) rfl rfl kon) ?_
  show own_Wp _ _ _ _ (T5.setTop (mkF m 106 #[rv a1, rv o0, .val .null, iv (1 : Int32)] [(.ref o0), (.ref a1)]))
  obtain ⟨T6, h6, X6, e6, W6, st6⟩ := putF X5 hx hZ hown (host := "") (Or.inl (ow hw 50 rfl)) Via.refl e5 F_kind E_a1 (Or.inr ⟨(ow hw 51 rfl), rfl, hnm⟩) (ow hw 27 rfl) (ty := (.object "com/example/iota_flow/iotaflow/definition/Merge$Kind")) (by decide) rfl rfl (g := (mkF m 106 #[rv a1, rv o0, .val .null, iv (1 : Int32)] [(.ref o0), (.ref a1)])) rfl rfl (hb hby d5_106)
  refine own_of st6 ?_
  clear st6
  have Fq6 := Fld.same W6 F_kind
  replace Zs := Nat.le_trans Zs (Keep.of_wr W6).1
  replace O := O.wr W6 g_a1
  replace K0 := K0.wr W6 (Or.inl (List.mem_of_getElem? (i := 0) rfl))
  replace E_a1 := E_a1.wr W6
  replace F_flag := F_flag.other W6 (Or.inr (slot_ne (Or.inr (ow hw 53 rfl)) (Or.inr (ow hw 51 rfl)) (by decide) (t := (.object "java/lang/String")) (t' := (.object "com/example/iota_flow/iotaflow/definition/Merge$Kind")) (by decide) (by decide)))
  replace F_votes := F_votes.other W6 (Or.inr (slot_ne (Or.inr (ow hw 55 rfl)) (Or.inr (ow hw 51 rfl)) (by decide) (t := .int) (t' := (.object "com/example/iota_flow/iotaflow/definition/Merge$Kind")) (by decide) (by decide)))
  replace SW := SW.mono (Keep.of_wr W6).1
  replace F_kind := Fq6
  clear Fq6
  have N6 := Fr.snoc X6 N3 g_a1
  refine own_of (fun tgt kon => XS.aloadN X6.here hx rfl (hb hby d5_109) rfl rfl kon) ?_
  refine own_of (fun tgt kon => XS.aloadN X6.here hx rfl (hb hby d5_110) rfl rfl kon) ?_
  obtain ⟨T7, h7, X7, e7, W7, st7⟩ := putF X6 hx hZ hown (host := "") (Or.inl (ow hw 52 rfl)) Via.refl e6 F_flag E_a1 (Or.inr ⟨(ow hw 53 rfl), rfl, hnm⟩) (ow hw 27 rfl) (ty := (.object "java/lang/String")) (by decide) rfl rfl (g := (mkF m 111 #[rv a1, rv o0, .val .null, iv (1 : Int32)] [.null, (.ref a1)])) rfl rfl (hb hby d5_111)
  refine own_of st7 ?_
  clear st7
  have Fq7 := Fld.same W7 F_flag
  replace Zs := Nat.le_trans Zs (Keep.of_wr W7).1
  replace O := O.wr W7 g_a1
  replace K0 := K0.wr W7 (Or.inl (List.mem_of_getElem? (i := 0) rfl))
  replace E_a1 := E_a1.wr W7
  replace F_kind := F_kind.other W7 (Or.inr (slot_ne (Or.inr (ow hw 51 rfl)) (Or.inr (ow hw 53 rfl)) (by decide) (t := (.object "com/example/iota_flow/iotaflow/definition/Merge$Kind")) (t' := (.object "java/lang/String")) (by decide) (by decide)))
  replace F_votes := F_votes.other W7 (Or.inr (slot_ne (Or.inr (ow hw 55 rfl)) (Or.inr (ow hw 53 rfl)) (by decide) (t := .int) (t' := (.object "java/lang/String")) (by decide) (by decide)))
  replace SW := SW.mono (Keep.of_wr W7).1
  replace F_flag := Fq7
  clear Fq7
  have N7 := Fr.snoc X7 N6 g_a1
  refine own_of (fun tgt kon => XS.aloadN X7.here hx rfl (hb hby d5_114) rfl rfl kon) ?_
  show own_Wp _ _ _ _ (T7.setTop (mkF m 115 #[rv a1, rv o0, .val .null, iv (1 : Int32)] [(.ref a1)]))
  refine own_of (fun tgt kon => XS.iloadN X7.here hx rfl (hb hby d5_115) rfl kon) ?_
  obtain ⟨T8, h8, X8, e8, W8, st8⟩ := putF X7 hx hZ hown (host := "") (Or.inl (ow hw 54 rfl)) Via.refl e7 F_votes E_a1 (Or.inr ⟨(ow hw 55 rfl), rfl, hnm⟩) (ow hw 27 rfl) (ty := .int) (by decide) rfl rfl (g := (mkF m 116 #[rv a1, rv o0, .val .null, iv (1 : Int32)] [(.int (1 : Int32)), (.ref a1)])) rfl rfl (hb hby d5_116)
  refine own_of st8 ?_
  clear st8
  have Fq8 := Fld.same W8 F_votes
  replace Zs := Nat.le_trans Zs (Keep.of_wr W8).1
  replace O := O.wr W8 g_a1
  replace K0 := K0.wr W8 (Or.inl (List.mem_of_getElem? (i := 0) rfl))
  replace E_a1 := E_a1.wr W8
  replace F_kind := F_kind.other W8 (Or.inr (slot_ne (Or.inr (ow hw 51 rfl)) (Or.inr (ow hw 55 rfl)) (by decide) (t := (.object "com/example/iota_flow/iotaflow/definition/Merge$Kind")) (t' := .int) (by decide) (by decide)))
  replace F_flag := F_flag.other W8 (Or.inr (slot_ne (Or.inr (ow hw 53 rfl)) (Or.inr (ow hw 55 rfl)) (by decide) (t := (.object "java/lang/String")) (t' := .int) (by decide) (by decide)))
  replace SW := SW.mono (Keep.of_wr W8).1
  replace F_votes := Fq8
  clear Fq8
  have N8 := Fr.snoc X8 N7 g_a1
  show own_Wp _ _ _ _ (T8.setTop (mkF m 119 #[rv a1, rv o0, .val .null, iv (1 : Int32)] []))
  refine own_retW X8 (by rw [e8]; exact SW) hlk none (fun _ => rfl) (fun fs hr => X8.returnOut hx hrt (hb hby d5_119) hr) ?_ (by decide) (by decide)
  rw [e8]
  exact ⟨rfl, N8, K0, E_a1, F_kind, F_flag, F_votes⟩
def Q_rmmg1 (Z : State) (a1 : Addr) (o0 : Addr) (o1 : Addr) (o2 : Addr) (o3 : Addr) (h0 : Heap) (n0 : Nat) (v : Option Value) (h : Heap) (L : List Loc) : Prop := v = none ∧ Fr n0 L ∧ Keep h0 h [a1] ∧ Exa Z h a1 "com/example/iota_flow/iotaflow/definition/Merge" ∧ Fld Z h a1 "com/example/iota_flow/iotaflow/definition/Merge" "kind" "Lcom/example/iota_flow/iotaflow/definition/Merge$Kind;" (.ref o1) ∧ Fld Z h a1 "com/example/iota_flow/iotaflow/definition/Merge" "flag" "Ljava/lang/String;" .null ∧ Fld Z h a1 "com/example/iota_flow/iotaflow/definition/Merge" "votes" "I" (.int (1 : Int32))
set_option maxRecDepth 65536 in
set_option maxHeartbeats 40000000 in
theorem rmmg1 (l : Launch) (Z : State) (a0 : Array Value) (hw : ∀ d ∈ tables_1, d.before a0 Z = true) (ws : List Jvm.Cond) (a1 : Addr) (o0 : Addr) (o1 : Addr) (o2 : Addr) (o3 : Addr) (h0 : Heap) (n0 : Nat) (Z0 : n0 ≤ h0.size) (O : Old Z n0 h0) (E_a1 : Exa Z h0 a1 "com/example/iota_flow/iotaflow/definition/Merge") (u_kind : Value) (u_flag : Value) (u_votes : Value) (F_kind : Fld Z h0 a1 "com/example/iota_flow/iotaflow/definition/Merge" "kind" "Lcom/example/iota_flow/iotaflow/definition/Merge$Kind;" u_kind) (F_flag : Fld Z h0 a1 "com/example/iota_flow/iotaflow/definition/Merge" "flag" "Ljava/lang/String;" u_flag) (F_votes : Fld Z h0 a1 "com/example/iota_flow/iotaflow/definition/Merge" "votes" "I" u_votes) (g_a1 : n0 ≤ a1) (S0 : Sta Z Z.heap "com/example/iota_flow/iotaflow/definition/Merge$Kind" "EVERY" "Lcom/example/iota_flow/iotaflow/definition/Merge$Kind;" (.ref o0)) (S1 : Sta Z Z.heap "com/example/iota_flow/iotaflow/definition/Merge$Kind" "FIRST" "Lcom/example/iota_flow/iotaflow/definition/Merge$Kind;" (.ref o1)) (S2 : Sta Z Z.heap "com/example/iota_flow/iotaflow/definition/Merge$Kind" "FLAG" "Lcom/example/iota_flow/iotaflow/definition/Merge$Kind;" (.ref o2)) (S3 : Sta Z Z.heap "com/example/iota_flow/iotaflow/definition/Merge$Kind" "VOTES" "Lcom/example/iota_flow/iotaflow/definition/Merge$Kind;" (.ref o3)) (ne01 : o0 ≠ o1) (ne02 : o0 ≠ o2) (ne03 : o0 ≠ o3) (ne12 : o1 ≠ o2) (ne13 : o1 ≠ o3) (ne23 : o2 ≠ o3) :
    own_CtrW l Z (⟨"com/example/iota_flow/iotaflow/definition/Merge", "<init>", "(Lcom/example/iota_flow/iotaflow/definition/Merge$Kind;Ljava/lang/String;I)V"⟩ : MethodName) prog_17_method_1_code 4 none ws ({ frames := 2, cells := 2, slots := 20, locals := 24 } : Room) #[(.ref a1), (.ref o1), .null, (.int (1 : Int32))] h0 (Q_rmmg1 Z a1 o0 o1 o2 o3 h0 n0) := by
  refine own_enterW (plainFor_of_name own_pn6) ?_
  intro p e s m below meth c s₁ X0 SW hx hby hml hrt hlk hZ hown hnm e0
  have N0 := Fr.nil n0
  have Zs := Z0
  have K0 := Keep.refl h0 [a1]
  rw [show entryFrame m #[(.ref a1), (.ref o1), .null, (.int (1 : Int32))] 4 = mkF m 0 #[rv a1, rv o1, .val .null, iv (1 : Int32)] [] from by first | (simp [entryFrame, mkF, argsToLocals, Value.category]; done) | rfl]
  show own_Wp _ _ _ _ (s₁.setTop (mkF m 0 #[rv a1, rv o1, .val .null, iv (1 : Int32)] []))
  refine own_of (fun tgt kon => XS.aloadN X0.here hx rfl (hb hby d5_0) rfl rfl kon) ?_
  refine own_callI X0 hx hZ (y := (⟨"java/lang/Record", "<init>", "()V"⟩ : MethodName)) (a := a1) (argsL := []) (rest := []) (W := 0) rfl hown (ow hw 35 rfl) (ow hw 36 rfl) (ow hw 38 rfl) (ow hw 39 rfl) (by decide) e0 (rmri l Z a0 hw [] a1 h0 n0 Zs) (by decide) (by decide) (by decide) (by decide) rfl (by rw [hml]; rfl) (lenOf own_pd10 rfl) rfl (by show 2 * 0 + _ ≤ _; exact Nat.le_of_eq rfl) (hb hby d5_1) ?_
  rintro T1 L1 _ X1 ⟨rfl, N1q, e1⟩
  have N1 := Fr.app N0 N1q
  show own_Wp _ _ _ _ (T1.setTop (mkF m 4 #[rv a1, rv o1, .val .null, iv (1 : Int32)] []))
  refine own_of (fun tgt kon => XS.aloadN X1.here hx rfl (hb hby d5_4) rfl rfl kon) ?_
  obtain ⟨y2, T2, h2, sv2, X2, e2, E2, SWq2, hZq2, hownq2, st2⟩ := own_ldc X1 hx hZ hown (ow hw 41 rfl) (own_strA hw) e1 SW (g := (mkF m 5 #[rv a1, rv o1, .val .null, iv (1 : Int32)] [(.ref o1)])) rfl (hb hby d5_5) (n := 16) (by decide) (by decide) (by decide) (by decide)
  refine own_of st2 ?_
  clear st2 hZ hown
  have hZ := hZq2
  have hown := hownq2
  replace Zs := Nat.le_trans Zs E2.1
  replace O := O.ext E2
  replace K0 := K0.ext E2
  replace E_a1 := E_a1.ext E2
  replace F_kind := F_kind.ext E2
  replace F_flag := F_flag.ext E2
  replace F_votes := F_votes.ext E2
  replace SW := SWq2
  refine own_callS X2 hx hZ (y := (⟨"java/util/Objects", "requireNonNull", "(Ljava/lang/Object;Ljava/lang/String;)Ljava/lang/Object;"⟩ : MethodName)) (argsL := [(.ref o1), (.ref y2)]) (rest := []) (W := 0) hown (ow hw 42 rfl) (ow hw 43 rfl) (ow hw 44 rfl) (ow hw 45 rfl) (by decide) e2 (rmrn l Z a0 hw [] o1 y2 h2 n0 Zs) (by decide) (by decide) (by decide) (by decide) rfl (by rw [hml]; rfl) (lenOf own_pd11 rfl) rfl (by show 2 * 0 + _ ≤ _; exact Nat.le_of_eq rfl) (hb hby d5_7) ?_
  rintro T3 L3 _ X3 ⟨rfl, N3q, e3⟩
  have N3 := Fr.app N1 N3q
  show own_Wp _ _ _ _ (T3.setTop (mkF m 10 #[rv a1, rv o1, .val .null, iv (1 : Int32)] [(.ref o1)]))
  refine own_of (fun tgt kon => XS.pop X3.here hx rfl (hb hby d5_10) rfl rfl kon) ?_
  refine own_of (fun tgt kon => XS.aloadN X3.here hx rfl (hb hby d5_11) rfl rfl kon) ?_
  obtain ⟨T4, X4, e4, st4⟩ := getS2 X3 hx hZ hown (host := "") (Or.inl (ow hw 46 rfl)) Via.refl e3 (S2.ext O.2) (g := (mkF m 12 #[rv a1, rv o1, .val .null, iv (1 : Int32)] [(.ref o1)])) rfl (hb hby d5_12)
  refine own_of st4 ?_
  clear st4
  refine own_of (fun tgt kon => Jvm.RoadKit.acmp (g := (mkF m 15 #[rv a1, rv o1, .val .null, iv (1 : Int32)] [(.ref o2), (.ref o1)])) X4 hx rfl rfl rfl (pc0 := 15) (pc' := 22) (same := false) rfl (hb hby d5_15) rfl (decide_eq_false fun q => ne12 (Value.ref.inj q)) (by decide) (by decide) kon) ?_
  show own_Wp _ _ _ _ (T4.setTop (mkF m 22 #[rv a1, rv o1, .val .null, iv (1 : Int32)] []))
  refine own_of (fun tgt kon => XS.iconst X4.here hx rfl (hb hby d5_22) kon) ?_
  refine own_of (fun tgt kon => XS.aloadN X4.here hx rfl (hb hby d5_23) rfl rfl kon) ?_
  refine own_of (fun tgt kon => XS.ifnullYes X4.here hx rfl (pc0 := 24) (pc' := 31) rfl (hb hby d5_24) rfl (by decide) (by decide) kon) ?_
  refine own_of (fun tgt kon => XS.iconst X4.here hx rfl (hb hby d5_31) kon) ?_
  have hc32 : (0 : Int32) = (0 : Int32) := rfl
  refine own_of (fun tgt kon => XS.icmpYes X4.here hx rfl (pc0 := 32) (pc' := 66) rfl (hb hby d5_32) rfl (teq hc32).1 (by decide) (by decide) kon) ?_
  refine own_of (fun tgt kon => XS.aloadN X4.here hx rfl (hb hby d5_66) rfl rfl kon) ?_
  show own_Wp _ _ _ _ (T4.setTop (mkF m 67 #[rv a1, rv o1, .val .null, iv (1 : Int32)] [(.ref o1)]))
  obtain ⟨T5, X5, e5, st5⟩ := getS2 X4 hx hZ hown (host := "") (Or.inl (ow hw 48 rfl)) Via.refl e4 (S3.ext O.2) (g := (mkF m 67 #[rv a1, rv o1, .val .null, iv (1 : Int32)] [(.ref o1)])) rfl (hb hby d5_67)
  refine own_of st5 ?_
  clear st5
  refine own_of (fun tgt kon => Jvm.RoadKit.acmp (g := (mkF m 70 #[rv a1, rv o1, .val .null, iv (1 : Int32)] [(.ref o3), (.ref o1)])) X5 hx rfl rfl rfl (pc0 := 70) (pc' := 81) (same := false) rfl (hb hby d5_70) rfl (decide_eq_false fun q => ne13 (Value.ref.inj q)) (by decide) (by decide) kon) ?_
  show own_Wp _ _ _ _ (T5.setTop (mkF m 81 #[rv a1, rv o1, .val .null, iv (1 : Int32)] []))
  refine own_of (fun tgt kon => XS.iloadN X5.here hx rfl (hb hby d5_81) rfl kon) ?_
  refine own_of (fun tgt kon => XS.iconst X5.here hx rfl (hb hby d5_82) kon) ?_
  have hc83 : (1 : Int32) = (1 : Int32) := rfl
  refine own_of (fun tgt kon => XS.icmpYes X5.here hx rfl (pc0 := 83) (pc' := 104) rfl (hb hby d5_83) rfl (teq hc83).1 (by decide) (by decide) kon) ?_
  refine own_of (fun tgt kon => XS.aloadN X5.here hx rfl (hb hby d5_104) rfl rfl kon) ?_
  refine own_of (fun tgt kon => XS.aloadN X5.here hx rfl (hb hby d5_105) rfl rfl kon) ?_
  show own_Wp _ _ _ _ (T5.setTop (mkF m 106 #[rv a1, rv o1, .val .null, iv (1 : Int32)] [(.ref o1), (.ref a1)]))
  obtain ⟨T6, h6, X6, e6, W6, st6⟩ := putF X5 hx hZ hown (host := "") (Or.inl (ow hw 50 rfl)) Via.refl e5 F_kind E_a1 (Or.inr ⟨(ow hw 51 rfl), rfl, hnm⟩) (ow hw 27 rfl) (ty := (.object "com/example/iota_flow/iotaflow/definition/Merge$Kind")) (by decide) rfl rfl (g := (mkF m 106 #[rv a1, rv o1, .val .null, iv (1 : Int32)] [(.ref o1), (.ref a1)])) rfl rfl (hb hby d5_106)
  refine own_of st6 ?_
  clear st6
  have Fq6 := Fld.same W6 F_kind
  replace Zs := Nat.le_trans Zs (Keep.of_wr W6).1
  replace O := O.wr W6 g_a1
  replace K0 := K0.wr W6 (Or.inl (List.mem_of_getElem? (i := 0) rfl))
  replace E_a1 := E_a1.wr W6
  replace F_flag := F_flag.other W6 (Or.inr (slot_ne (Or.inr (ow hw 53 rfl)) (Or.inr (ow hw 51 rfl)) (by decide) (t := (.object "java/lang/String")) (t' := (.object "com/example/iota_flow/iotaflow/definition/Merge$Kind")) (by decide) (by decide)))
  replace F_votes := F_votes.other W6 (Or.inr (slot_ne (Or.inr (ow hw 55 rfl)) (Or.inr (ow hw 51 rfl)) (by decide) (t := .int) (t' := (.object "com/example/iota_flow/iotaflow/definition/Merge$Kind")) (by decide) (by decide)))
  replace SW := SW.mono (Keep.of_wr W6).1
  replace F_kind := Fq6
  clear Fq6
  have N6 := Fr.snoc X6 N3 g_a1
  refine own_of (fun tgt kon => XS.aloadN X6.here hx rfl (hb hby d5_109) rfl rfl kon) ?_
  refine own_of (fun tgt kon => XS.aloadN X6.here hx rfl (hb hby d5_110) rfl rfl kon) ?_
  obtain ⟨T7, h7, X7, e7, W7, st7⟩ := putF X6 hx hZ hown (host := "") (Or.inl (ow hw 52 rfl)) Via.refl e6 F_flag E_a1 (Or.inr ⟨(ow hw 53 rfl), rfl, hnm⟩) (ow hw 27 rfl) (ty := (.object "java/lang/String")) (by decide) rfl rfl (g := (mkF m 111 #[rv a1, rv o1, .val .null, iv (1 : Int32)] [.null, (.ref a1)])) rfl rfl (hb hby d5_111)
  refine own_of st7 ?_
  clear st7
  have Fq7 := Fld.same W7 F_flag
  replace Zs := Nat.le_trans Zs (Keep.of_wr W7).1
  replace O := O.wr W7 g_a1
  replace K0 := K0.wr W7 (Or.inl (List.mem_of_getElem? (i := 0) rfl))
  replace E_a1 := E_a1.wr W7
  replace F_kind := F_kind.other W7 (Or.inr (slot_ne (Or.inr (ow hw 51 rfl)) (Or.inr (ow hw 53 rfl)) (by decide) (t := (.object "com/example/iota_flow/iotaflow/definition/Merge$Kind")) (t' := (.object "java/lang/String")) (by decide) (by decide)))
  replace F_votes := F_votes.other W7 (Or.inr (slot_ne (Or.inr (ow hw 55 rfl)) (Or.inr (ow hw 53 rfl)) (by decide) (t := .int) (t' := (.object "java/lang/String")) (by decide) (by decide)))
  replace SW := SW.mono (Keep.of_wr W7).1
  replace F_flag := Fq7
  clear Fq7
  have N7 := Fr.snoc X7 N6 g_a1
  refine own_of (fun tgt kon => XS.aloadN X7.here hx rfl (hb hby d5_114) rfl rfl kon) ?_
  show own_Wp _ _ _ _ (T7.setTop (mkF m 115 #[rv a1, rv o1, .val .null, iv (1 : Int32)] [(.ref a1)]))
  refine own_of (fun tgt kon => XS.iloadN X7.here hx rfl (hb hby d5_115) rfl kon) ?_
  obtain ⟨T8, h8, X8, e8, W8, st8⟩ := putF X7 hx hZ hown (host := "") (Or.inl (ow hw 54 rfl)) Via.refl e7 F_votes E_a1 (Or.inr ⟨(ow hw 55 rfl), rfl, hnm⟩) (ow hw 27 rfl) (ty := .int) (by decide) rfl rfl (g := (mkF m 116 #[rv a1, rv o1, .val .null, iv (1 : Int32)] [(.int (1 : Int32)), (.ref a1)])) rfl rfl (hb hby d5_116)
  refine own_of st8 ?_
  clear st8
  have Fq8 := Fld.same W8 F_votes
  replace Zs := Nat.le_trans Zs (Keep.of_wr W8).1
  replace O := O.wr W8 g_a1
  replace K0 := K0.wr W8 (Or.inl (List.mem_of_getElem? (i := 0) rfl))
  replace E_a1 := E_a1.wr W8
  replace F_kind := F_kind.other W8 (Or.inr (slot_ne (Or.inr (ow hw 51 rfl)) (Or.inr (ow hw 55 rfl)) (by decide) (t := (.object "com/example/iota_flow/iotaflow/definition/Merge$Kind")) (t' := .int) (by decide) (by decide)))
  replace F_flag := F_flag.other W8 (Or.inr (slot_ne (Or.inr (ow hw 53 rfl)) (Or.inr (ow hw 55 rfl)) (by decide) (t := (.object "java/lang/String")) (t' := .int) (by decide) (by decide)))
  replace SW := SW.mono (Keep.of_wr W8).1
  replace F_votes := Fq8
  clear Fq8
  have N8 := Fr.snoc X8 N7 g_a1
  show own_Wp _ _ _ _ (T8.setTop (mkF m 119 #[rv a1, rv o1, .val .null, iv (1 : Int32)] []))
  refine own_retW X8 (by rw [e8]; exact SW) hlk none (fun _ => rfl) (fun fs hr => X8.returnOut hx hrt (hb hby d5_119) hr) ?_ (by decide) (by decide)
  rw [e8]
  exact ⟨rfl, N8, K0, E_a1, F_kind, F_flag, F_votes⟩
theorem d5_18 : decode prog_17_method_1_code 18 = .ok (.iconst 1, 1) := by decide +kernel
theorem d5_19 : decode prog_17_method_1_code 19 = .ok (.goto 4, 3) := by decide +kernel
theorem d5_27 : decode prog_17_method_1_code 27 = .ok (.iconst 1, 1) := by decide +kernel
theorem d5_28 : decode prog_17_method_1_code 28 = .ok (.goto 4, 3) := by decide +kernel
def Q_rmmg2 (Z : State) (a1 : Addr) (o0 : Addr) (o1 : Addr) (o2 : Addr) (o3 : Addr) (a3 : Addr) (h0 : Heap) (n0 : Nat) (v : Option Value) (h : Heap) (L : List Loc) : Prop := v = none ∧ Fr n0 L ∧ Keep h0 h [a1] ∧ Exa Z h a1 "com/example/iota_flow/iotaflow/definition/Merge" ∧ Fld Z h a1 "com/example/iota_flow/iotaflow/definition/Merge" "kind" "Lcom/example/iota_flow/iotaflow/definition/Merge$Kind;" (.ref o2) ∧ Fld Z h a1 "com/example/iota_flow/iotaflow/definition/Merge" "flag" "Ljava/lang/String;" (.ref a3) ∧ Fld Z h a1 "com/example/iota_flow/iotaflow/definition/Merge" "votes" "I" (.int (1 : Int32))
set_option maxRecDepth 65536 in
set_option maxHeartbeats 40000000 in
theorem rmmg2 (l : Launch) (Z : State) (a0 : Array Value) (hw : ∀ d ∈ tables_1, d.before a0 Z = true) (ws : List Jvm.Cond) (a1 : Addr) (o0 : Addr) (o1 : Addr) (o2 : Addr) (o3 : Addr) (a3 : Addr) (h0 : Heap) (n0 : Nat) (Z0 : n0 ≤ h0.size) (O : Old Z n0 h0) (E_a1 : Exa Z h0 a1 "com/example/iota_flow/iotaflow/definition/Merge") (u_kind : Value) (u_flag : Value) (u_votes : Value) (F_kind : Fld Z h0 a1 "com/example/iota_flow/iotaflow/definition/Merge" "kind" "Lcom/example/iota_flow/iotaflow/definition/Merge$Kind;" u_kind) (F_flag : Fld Z h0 a1 "com/example/iota_flow/iotaflow/definition/Merge" "flag" "Ljava/lang/String;" u_flag) (F_votes : Fld Z h0 a1 "com/example/iota_flow/iotaflow/definition/Merge" "votes" "I" u_votes) (g_a1 : n0 ≤ a1) (S0 : Sta Z Z.heap "com/example/iota_flow/iotaflow/definition/Merge$Kind" "EVERY" "Lcom/example/iota_flow/iotaflow/definition/Merge$Kind;" (.ref o0)) (S1 : Sta Z Z.heap "com/example/iota_flow/iotaflow/definition/Merge$Kind" "FIRST" "Lcom/example/iota_flow/iotaflow/definition/Merge$Kind;" (.ref o1)) (S2 : Sta Z Z.heap "com/example/iota_flow/iotaflow/definition/Merge$Kind" "FLAG" "Lcom/example/iota_flow/iotaflow/definition/Merge$Kind;" (.ref o2)) (S3 : Sta Z Z.heap "com/example/iota_flow/iotaflow/definition/Merge$Kind" "VOTES" "Lcom/example/iota_flow/iotaflow/definition/Merge$Kind;" (.ref o3)) (ne01 : o0 ≠ o1) (ne02 : o0 ≠ o2) (ne03 : o0 ≠ o3) (ne12 : o1 ≠ o2) (ne13 : o1 ≠ o3) (ne23 : o2 ≠ o3) :
    own_CtrW l Z (⟨"com/example/iota_flow/iotaflow/definition/Merge", "<init>", "(Lcom/example/iota_flow/iotaflow/definition/Merge$Kind;Ljava/lang/String;I)V"⟩ : MethodName) prog_17_method_1_code 4 none ws ({ frames := 2, cells := 2, slots := 20, locals := 24 } : Room) #[(.ref a1), (.ref o2), (.ref a3), (.int (1 : Int32))] h0 (Q_rmmg2 Z a1 o0 o1 o2 o3 a3 h0 n0) := by
  refine own_enterW (plainFor_of_name own_pn6) ?_
  intro p e s m below meth c s₁ X0 SW hx hby hml hrt hlk hZ hown hnm e0
  have N0 := Fr.nil n0
  have Zs := Z0
  have K0 := Keep.refl h0 [a1]
  rw [show entryFrame m #[(.ref a1), (.ref o2), (.ref a3), (.int (1 : Int32))] 4 = mkF m 0 #[rv a1, rv o2, rv a3, iv (1 : Int32)] [] from by first | (simp [entryFrame, mkF, argsToLocals, Value.category]; done) | rfl]
  show own_Wp _ _ _ _ (s₁.setTop (mkF m 0 #[rv a1, rv o2, rv a3, iv (1 : Int32)] []))
  refine own_of (fun tgt kon => XS.aloadN X0.here hx rfl (hb hby d5_0) rfl rfl kon) ?_
  refine own_callI X0 hx hZ (y := (⟨"java/lang/Record", "<init>", "()V"⟩ : MethodName)) (a := a1) (argsL := []) (rest := []) (W := 0) rfl hown (ow hw 35 rfl) (ow hw 36 rfl) (ow hw 38 rfl) (ow hw 39 rfl) (by decide) e0 (rmri l Z a0 hw [] a1 h0 n0 Zs) (by decide) (by decide) (by decide) (by decide) rfl (by rw [hml]; rfl) (lenOf own_pd10 rfl) rfl (by show 2 * 0 + _ ≤ _; exact Nat.le_of_eq rfl) (hb hby d5_1) ?_
  rintro T1 L1 _ X1 ⟨rfl, N1q, e1⟩
  have N1 := Fr.app N0 N1q
  show own_Wp _ _ _ _ (T1.setTop (mkF m 4 #[rv a1, rv o2, rv a3, iv (1 : Int32)] []))
  refine own_of (fun tgt kon => XS.aloadN X1.here hx rfl (hb hby d5_4) rfl rfl kon) ?_
  obtain ⟨y2, T2, h2, sv2, X2, e2, E2, SWq2, hZq2, hownq2, st2⟩ := own_ldc X1 hx hZ hown (ow hw 41 rfl) (own_strA hw) e1 SW (g := (mkF m 5 #[rv a1, rv o2, rv a3, iv (1 : Int32)] [(.ref o2)])) rfl (hb hby d5_5) (n := 16) (by decide) (by decide) (by decide) (by decide)
  refine own_of st2 ?_
  clear st2 hZ hown
  have hZ := hZq2
  have hown := hownq2
  replace Zs := Nat.le_trans Zs E2.1
  replace O := O.ext E2
  replace K0 := K0.ext E2
  replace E_a1 := E_a1.ext E2
  replace F_kind := F_kind.ext E2
  replace F_flag := F_flag.ext E2
  replace F_votes := F_votes.ext E2
  replace SW := SWq2
  refine own_callS X2 hx hZ (y := (⟨"java/util/Objects", "requireNonNull", "(Ljava/lang/Object;Ljava/lang/String;)Ljava/lang/Object;"⟩ : MethodName)) (argsL := [(.ref o2), (.ref y2)]) (rest := []) (W := 0) hown (ow hw 42 rfl) (ow hw 43 rfl) (ow hw 44 rfl) (ow hw 45 rfl) (by decide) e2 (rmrn l Z a0 hw [] o2 y2 h2 n0 Zs) (by decide) (by decide) (by decide) (by decide) rfl (by rw [hml]; rfl) (lenOf own_pd11 rfl) rfl (by show 2 * 0 + _ ≤ _; exact Nat.le_of_eq rfl) (hb hby d5_7) ?_
  rintro T3 L3 _ X3 ⟨rfl, N3q, e3⟩
  have N3 := Fr.app N1 N3q
  show own_Wp _ _ _ _ (T3.setTop (mkF m 10 #[rv a1, rv o2, rv a3, iv (1 : Int32)] [(.ref o2)]))
  refine own_of (fun tgt kon => XS.pop X3.here hx rfl (hb hby d5_10) rfl rfl kon) ?_
  refine own_of (fun tgt kon => XS.aloadN X3.here hx rfl (hb hby d5_11) rfl rfl kon) ?_
  obtain ⟨T4, X4, e4, st4⟩ := getS2 X3 hx hZ hown (host := "") (Or.inl (ow hw 46 rfl)) Via.refl e3 (S2.ext O.2) (g := (mkF m 12 #[rv a1, rv o2, rv a3, iv (1 : Int32)] [(.ref o2)])) rfl (hb hby d5_12)
  refine own_of st4 ?_
  clear st4
  refine own_of (fun tgt kon => Jvm.RoadKit.acmp (g := (mkF m 15 #[rv a1, rv o2, rv a3, iv (1 : Int32)] [(.ref o2), (.ref o2)])) X4 hx rfl rfl rfl (pc0 := 15) (pc' := 18) (same := true) rfl (hb hby d5_15) rfl (decide_eq_true rfl) (by decide) (by decide) kon) ?_
  show own_Wp _ _ _ _ (T4.setTop (mkF m 18 #[rv a1, rv o2, rv a3, iv (1 : Int32)] []))
  refine own_of (fun tgt kon => XS.iconst X4.here hx rfl (hb hby d5_18) kon) ?_
  refine own_of (fun tgt kon => XS.goto X4.here hx rfl (pc0 := 19) (pc' := 23) rfl (hb hby d5_19) (by decide) (by decide) kon) ?_
  refine own_of (fun tgt kon => XS.aloadN X4.here hx rfl (hb hby d5_23) rfl rfl kon) ?_
  refine own_of (fun tgt kon => XS.ifnullNo X4.here hx rfl (hb hby d5_24) rfl kon) ?_
  refine own_of (fun tgt kon => XS.iconst X4.here hx rfl (hb hby d5_27) kon) ?_
  show own_Wp _ _ _ _ (T4.setTop (mkF m 28 #[rv a1, rv o2, rv a3, iv (1 : Int32)] [(.int (1 : Int32)), (.int (1 : Int32))]))
  refine own_of (fun tgt kon => XS.goto X4.here hx rfl (pc0 := 28) (pc' := 32) rfl (hb hby d5_28) (by decide) (by decide) kon) ?_
  have hc32 : (1 : Int32) = (1 : Int32) := rfl
  refine own_of (fun tgt kon => XS.icmpYes X4.here hx rfl (pc0 := 32) (pc' := 66) rfl (hb hby d5_32) rfl (teq hc32).1 (by decide) (by decide) kon) ?_
  refine own_of (fun tgt kon => XS.aloadN X4.here hx rfl (hb hby d5_66) rfl rfl kon) ?_
  obtain ⟨T5, X5, e5, st5⟩ := getS2 X4 hx hZ hown (host := "") (Or.inl (ow hw 48 rfl)) Via.refl e4 (S3.ext O.2) (g := (mkF m 67 #[rv a1, rv o2, rv a3, iv (1 : Int32)] [(.ref o2)])) rfl (hb hby d5_67)
  refine own_of st5 ?_
  clear st5
  refine own_of (fun tgt kon => Jvm.RoadKit.acmp (g := (mkF m 70 #[rv a1, rv o2, rv a3, iv (1 : Int32)] [(.ref o3), (.ref o2)])) X5 hx rfl rfl rfl (pc0 := 70) (pc' := 81) (same := false) rfl (hb hby d5_70) rfl (decide_eq_false fun q => ne23 (Value.ref.inj q)) (by decide) (by decide) kon) ?_
  show own_Wp _ _ _ _ (T5.setTop (mkF m 81 #[rv a1, rv o2, rv a3, iv (1 : Int32)] []))
  refine own_of (fun tgt kon => XS.iloadN X5.here hx rfl (hb hby d5_81) rfl kon) ?_
  refine own_of (fun tgt kon => XS.iconst X5.here hx rfl (hb hby d5_82) kon) ?_
  have hc83 : (1 : Int32) = (1 : Int32) := rfl
  refine own_of (fun tgt kon => XS.icmpYes X5.here hx rfl (pc0 := 83) (pc' := 104) rfl (hb hby d5_83) rfl (teq hc83).1 (by decide) (by decide) kon) ?_
  refine own_of (fun tgt kon => XS.aloadN X5.here hx rfl (hb hby d5_104) rfl rfl kon) ?_
  refine own_of (fun tgt kon => XS.aloadN X5.here hx rfl (hb hby d5_105) rfl rfl kon) ?_
  show own_Wp _ _ _ _ (T5.setTop (mkF m 106 #[rv a1, rv o2, rv a3, iv (1 : Int32)] [(.ref o2), (.ref a1)]))
  obtain ⟨T6, h6, X6, e6, W6, st6⟩ := putF X5 hx hZ hown (host := "") (Or.inl (ow hw 50 rfl)) Via.refl e5 F_kind E_a1 (Or.inr ⟨(ow hw 51 rfl), rfl, hnm⟩) (ow hw 27 rfl) (ty := (.object "com/example/iota_flow/iotaflow/definition/Merge$Kind")) (by decide) rfl rfl (g := (mkF m 106 #[rv a1, rv o2, rv a3, iv (1 : Int32)] [(.ref o2), (.ref a1)])) rfl rfl (hb hby d5_106)
  refine own_of st6 ?_
  clear st6
  have Fq6 := Fld.same W6 F_kind
  replace Zs := Nat.le_trans Zs (Keep.of_wr W6).1
  replace O := O.wr W6 g_a1
  replace K0 := K0.wr W6 (Or.inl (List.mem_of_getElem? (i := 0) rfl))
  replace E_a1 := E_a1.wr W6
  replace F_flag := F_flag.other W6 (Or.inr (slot_ne (Or.inr (ow hw 53 rfl)) (Or.inr (ow hw 51 rfl)) (by decide) (t := (.object "java/lang/String")) (t' := (.object "com/example/iota_flow/iotaflow/definition/Merge$Kind")) (by decide) (by decide)))
  replace F_votes := F_votes.other W6 (Or.inr (slot_ne (Or.inr (ow hw 55 rfl)) (Or.inr (ow hw 51 rfl)) (by decide) (t := .int) (t' := (.object "com/example/iota_flow/iotaflow/definition/Merge$Kind")) (by decide) (by decide)))
  replace SW := SW.mono (Keep.of_wr W6).1
  replace F_kind := Fq6
  clear Fq6
  have N6 := Fr.snoc X6 N3 g_a1
  refine own_of (fun tgt kon => XS.aloadN X6.here hx rfl (hb hby d5_109) rfl rfl kon) ?_
  refine own_of (fun tgt kon => XS.aloadN X6.here hx rfl (hb hby d5_110) rfl rfl kon) ?_
  obtain ⟨T7, h7, X7, e7, W7, st7⟩ := putF X6 hx hZ hown (host := "") (Or.inl (ow hw 52 rfl)) Via.refl e6 F_flag E_a1 (Or.inr ⟨(ow hw 53 rfl), rfl, hnm⟩) (ow hw 27 rfl) (ty := (.object "java/lang/String")) (by decide) rfl rfl (g := (mkF m 111 #[rv a1, rv o2, rv a3, iv (1 : Int32)] [(.ref a3), (.ref a1)])) rfl rfl (hb hby d5_111)
  refine own_of st7 ?_
  clear st7
  have Fq7 := Fld.same W7 F_flag
  replace Zs := Nat.le_trans Zs (Keep.of_wr W7).1
  replace O := O.wr W7 g_a1
  replace K0 := K0.wr W7 (Or.inl (List.mem_of_getElem? (i := 0) rfl))
  replace E_a1 := E_a1.wr W7
  replace F_kind := F_kind.other W7 (Or.inr (slot_ne (Or.inr (ow hw 51 rfl)) (Or.inr (ow hw 53 rfl)) (by decide) (t := (.object "com/example/iota_flow/iotaflow/definition/Merge$Kind")) (t' := (.object "java/lang/String")) (by decide) (by decide)))
  replace F_votes := F_votes.other W7 (Or.inr (slot_ne (Or.inr (ow hw 55 rfl)) (Or.inr (ow hw 53 rfl)) (by decide) (t := .int) (t' := (.object "java/lang/String")) (by decide) (by decide)))
  replace SW := SW.mono (Keep.of_wr W7).1
  replace F_flag := Fq7
  clear Fq7
  have N7 := Fr.snoc X7 N6 g_a1
  refine own_of (fun tgt kon => XS.aloadN X7.here hx rfl (hb hby d5_114) rfl rfl kon) ?_
  show own_Wp _ _ _ _ (T7.setTop (mkF m 115 #[rv a1, rv o2, rv a3, iv (1 : Int32)] [(.ref a1)]))
  refine own_of (fun tgt kon => XS.iloadN X7.here hx rfl (hb hby d5_115) rfl kon) ?_
  obtain ⟨T8, h8, X8, e8, W8, st8⟩ := putF X7 hx hZ hown (host := "") (Or.inl (ow hw 54 rfl)) Via.refl e7 F_votes E_a1 (Or.inr ⟨(ow hw 55 rfl), rfl, hnm⟩) (ow hw 27 rfl) (ty := .int) (by decide) rfl rfl (g := (mkF m 116 #[rv a1, rv o2, rv a3, iv (1 : Int32)] [(.int (1 : Int32)), (.ref a1)])) rfl rfl (hb hby d5_116)
  refine own_of st8 ?_
  clear st8
  have Fq8 := Fld.same W8 F_votes
  replace Zs := Nat.le_trans Zs (Keep.of_wr W8).1
  replace O := O.wr W8 g_a1
  replace K0 := K0.wr W8 (Or.inl (List.mem_of_getElem? (i := 0) rfl))
  replace E_a1 := E_a1.wr W8
  replace F_kind := F_kind.other W8 (Or.inr (slot_ne (Or.inr (ow hw 51 rfl)) (Or.inr (ow hw 55 rfl)) (by decide) (t := (.object "com/example/iota_flow/iotaflow/definition/Merge$Kind")) (t' := .int) (by decide) (by decide)))
  replace F_flag := F_flag.other W8 (Or.inr (slot_ne (Or.inr (ow hw 53 rfl)) (Or.inr (ow hw 55 rfl)) (by decide) (t := (.object "java/lang/String")) (t' := .int) (by decide) (by decide)))
  replace SW := SW.mono (Keep.of_wr W8).1
  replace F_votes := Fq8
  clear Fq8
  have N8 := Fr.snoc X8 N7 g_a1
  show own_Wp _ _ _ _ (T8.setTop (mkF m 119 #[rv a1, rv o2, rv a3, iv (1 : Int32)] []))
  refine own_retW X8 (by rw [e8]; exact SW) hlk none (fun _ => rfl) (fun fs hr => X8.returnOut hx hrt (hb hby d5_119) hr) ?_ (by decide) (by decide)
  rw [e8]
  exact ⟨rfl, N8, K0, E_a1, F_kind, F_flag, F_votes⟩
theorem d5_73 : decode prog_17_method_1_code 73 = .ok (.iload_n 3, 1) := by decide +kernel
theorem d5_74 : decode prog_17_method_1_code 74 = .ok (.iconst 1, 1) := by decide +kernel
theorem d5_75 : decode prog_17_method_1_code 75 = .ok (.if_icmp .ge 29, 3) := by decide +kernel
def Q_rmmg3 (Z : State) (a1 : Addr) (o0 : Addr) (o1 : Addr) (o2 : Addr) (o3 : Addr) (p4 : Int32) (h0 : Heap) (n0 : Nat) (v : Option Value) (h : Heap) (L : List Loc) : Prop := v = none ∧ Fr n0 L ∧ Keep h0 h [a1] ∧ Exa Z h a1 "com/example/iota_flow/iotaflow/definition/Merge" ∧ Fld Z h a1 "com/example/iota_flow/iotaflow/definition/Merge" "kind" "Lcom/example/iota_flow/iotaflow/definition/Merge$Kind;" (.ref o3) ∧ Fld Z h a1 "com/example/iota_flow/iotaflow/definition/Merge" "flag" "Ljava/lang/String;" .null ∧ Fld Z h a1 "com/example/iota_flow/iotaflow/definition/Merge" "votes" "I" (.int p4)
set_option maxRecDepth 65536 in
set_option maxHeartbeats 40000000 in
theorem rmmg3 (l : Launch) (Z : State) (a0 : Array Value) (hw : ∀ d ∈ tables_1, d.before a0 Z = true) (ws : List Jvm.Cond) (a1 : Addr) (o0 : Addr) (o1 : Addr) (o2 : Addr) (o3 : Addr) (p4 : Int32) (h0 : Heap) (n0 : Nat) (Z0 : n0 ≤ h0.size) (O : Old Z n0 h0) (E_a1 : Exa Z h0 a1 "com/example/iota_flow/iotaflow/definition/Merge") (u_kind : Value) (u_flag : Value) (u_votes : Value) (F_kind : Fld Z h0 a1 "com/example/iota_flow/iotaflow/definition/Merge" "kind" "Lcom/example/iota_flow/iotaflow/definition/Merge$Kind;" u_kind) (F_flag : Fld Z h0 a1 "com/example/iota_flow/iotaflow/definition/Merge" "flag" "Ljava/lang/String;" u_flag) (F_votes : Fld Z h0 a1 "com/example/iota_flow/iotaflow/definition/Merge" "votes" "I" u_votes) (g_a1 : n0 ≤ a1) (S0 : Sta Z Z.heap "com/example/iota_flow/iotaflow/definition/Merge$Kind" "EVERY" "Lcom/example/iota_flow/iotaflow/definition/Merge$Kind;" (.ref o0)) (S1 : Sta Z Z.heap "com/example/iota_flow/iotaflow/definition/Merge$Kind" "FIRST" "Lcom/example/iota_flow/iotaflow/definition/Merge$Kind;" (.ref o1)) (S2 : Sta Z Z.heap "com/example/iota_flow/iotaflow/definition/Merge$Kind" "FLAG" "Lcom/example/iota_flow/iotaflow/definition/Merge$Kind;" (.ref o2)) (S3 : Sta Z Z.heap "com/example/iota_flow/iotaflow/definition/Merge$Kind" "VOTES" "Lcom/example/iota_flow/iotaflow/definition/Merge$Kind;" (.ref o3)) (ne01 : o0 ≠ o1) (ne02 : o0 ≠ o2) (ne03 : o0 ≠ o3) (ne12 : o1 ≠ o2) (ne13 : o1 ≠ o3) (ne23 : o2 ≠ o3) (hv : ¬ p4 < 1) :
    own_CtrW l Z (⟨"com/example/iota_flow/iotaflow/definition/Merge", "<init>", "(Lcom/example/iota_flow/iotaflow/definition/Merge$Kind;Ljava/lang/String;I)V"⟩ : MethodName) prog_17_method_1_code 4 none ws ({ frames := 2, cells := 2, slots := 20, locals := 24 } : Room) #[(.ref a1), (.ref o3), .null, (.int p4)] h0 (Q_rmmg3 Z a1 o0 o1 o2 o3 p4 h0 n0) := by
  refine own_enterW (plainFor_of_name own_pn6) ?_
  intro p e s m below meth c s₁ X0 SW hx hby hml hrt hlk hZ hown hnm e0
  have N0 := Fr.nil n0
  have Zs := Z0
  have K0 := Keep.refl h0 [a1]
  rw [show entryFrame m #[(.ref a1), (.ref o3), .null, (.int p4)] 4 = mkF m 0 #[rv a1, rv o3, .val .null, iv p4] [] from by first | (simp [entryFrame, mkF, argsToLocals, Value.category]; done) | rfl]
  show own_Wp _ _ _ _ (s₁.setTop (mkF m 0 #[rv a1, rv o3, .val .null, iv p4] []))
  refine own_of (fun tgt kon => XS.aloadN X0.here hx rfl (hb hby d5_0) rfl rfl kon) ?_
  refine own_callI X0 hx hZ (y := (⟨"java/lang/Record", "<init>", "()V"⟩ : MethodName)) (a := a1) (argsL := []) (rest := []) (W := 0) rfl hown (ow hw 35 rfl) (ow hw 36 rfl) (ow hw 38 rfl) (ow hw 39 rfl) (by decide) e0 (rmri l Z a0 hw [] a1 h0 n0 Zs) (by decide) (by decide) (by decide) (by decide) rfl (by rw [hml]; rfl) (lenOf own_pd10 rfl) rfl (by show 2 * 0 + _ ≤ _; exact Nat.le_of_eq rfl) (hb hby d5_1) ?_
  rintro T1 L1 _ X1 ⟨rfl, N1q, e1⟩
  have N1 := Fr.app N0 N1q
  show own_Wp _ _ _ _ (T1.setTop (mkF m 4 #[rv a1, rv o3, .val .null, iv p4] []))
  refine own_of (fun tgt kon => XS.aloadN X1.here hx rfl (hb hby d5_4) rfl rfl kon) ?_
  obtain ⟨y2, T2, h2, sv2, X2, e2, E2, SWq2, hZq2, hownq2, st2⟩ := own_ldc X1 hx hZ hown (ow hw 41 rfl) (own_strA hw) e1 SW (g := (mkF m 5 #[rv a1, rv o3, .val .null, iv p4] [(.ref o3)])) rfl (hb hby d5_5) (n := 16) (by decide) (by decide) (by decide) (by decide)
  refine own_of st2 ?_
  clear st2 hZ hown
  have hZ := hZq2
  have hown := hownq2
  replace Zs := Nat.le_trans Zs E2.1
  replace O := O.ext E2
  replace K0 := K0.ext E2
  replace E_a1 := E_a1.ext E2
  replace F_kind := F_kind.ext E2
  replace F_flag := F_flag.ext E2
  replace F_votes := F_votes.ext E2
  replace SW := SWq2
  refine own_callS X2 hx hZ (y := (⟨"java/util/Objects", "requireNonNull", "(Ljava/lang/Object;Ljava/lang/String;)Ljava/lang/Object;"⟩ : MethodName)) (argsL := [(.ref o3), (.ref y2)]) (rest := []) (W := 0) hown (ow hw 42 rfl) (ow hw 43 rfl) (ow hw 44 rfl) (ow hw 45 rfl) (by decide) e2 (rmrn l Z a0 hw [] o3 y2 h2 n0 Zs) (by decide) (by decide) (by decide) (by decide) rfl (by rw [hml]; rfl) (lenOf own_pd11 rfl) rfl (by show 2 * 0 + _ ≤ _; exact Nat.le_of_eq rfl) (hb hby d5_7) ?_
  rintro T3 L3 _ X3 ⟨rfl, N3q, e3⟩
  have N3 := Fr.app N1 N3q
  show own_Wp _ _ _ _ (T3.setTop (mkF m 10 #[rv a1, rv o3, .val .null, iv p4] [(.ref o3)]))
  refine own_of (fun tgt kon => XS.pop X3.here hx rfl (hb hby d5_10) rfl rfl kon) ?_
  refine own_of (fun tgt kon => XS.aloadN X3.here hx rfl (hb hby d5_11) rfl rfl kon) ?_
  obtain ⟨T4, X4, e4, st4⟩ := getS2 X3 hx hZ hown (host := "") (Or.inl (ow hw 46 rfl)) Via.refl e3 (S2.ext O.2) (g := (mkF m 12 #[rv a1, rv o3, .val .null, iv p4] [(.ref o3)])) rfl (hb hby d5_12)
  refine own_of st4 ?_
  clear st4
  refine own_of (fun tgt kon => Jvm.RoadKit.acmp (g := (mkF m 15 #[rv a1, rv o3, .val .null, iv p4] [(.ref o2), (.ref o3)])) X4 hx rfl rfl rfl (pc0 := 15) (pc' := 22) (same := false) rfl (hb hby d5_15) rfl (decide_eq_false fun q => (Ne.symm ne23) (Value.ref.inj q)) (by decide) (by decide) kon) ?_
  show own_Wp _ _ _ _ (T4.setTop (mkF m 22 #[rv a1, rv o3, .val .null, iv p4] []))
  refine own_of (fun tgt kon => XS.iconst X4.here hx rfl (hb hby d5_22) kon) ?_
  refine own_of (fun tgt kon => XS.aloadN X4.here hx rfl (hb hby d5_23) rfl rfl kon) ?_
  refine own_of (fun tgt kon => XS.ifnullYes X4.here hx rfl (pc0 := 24) (pc' := 31) rfl (hb hby d5_24) rfl (by decide) (by decide) kon) ?_
  refine own_of (fun tgt kon => XS.iconst X4.here hx rfl (hb hby d5_31) kon) ?_
  have hc32 : (0 : Int32) = (0 : Int32) := rfl
  refine own_of (fun tgt kon => XS.icmpYes X4.here hx rfl (pc0 := 32) (pc' := 66) rfl (hb hby d5_32) rfl (teq hc32).1 (by decide) (by decide) kon) ?_
  refine own_of (fun tgt kon => XS.aloadN X4.here hx rfl (hb hby d5_66) rfl rfl kon) ?_
  show own_Wp _ _ _ _ (T4.setTop (mkF m 67 #[rv a1, rv o3, .val .null, iv p4] [(.ref o3)]))
  obtain ⟨T5, X5, e5, st5⟩ := getS2 X4 hx hZ hown (host := "") (Or.inl (ow hw 48 rfl)) Via.refl e4 (S3.ext O.2) (g := (mkF m 67 #[rv a1, rv o3, .val .null, iv p4] [(.ref o3)])) rfl (hb hby d5_67)
  refine own_of st5 ?_
  clear st5
  refine own_of (fun tgt kon => Jvm.RoadKit.acmp (g := (mkF m 70 #[rv a1, rv o3, .val .null, iv p4] [(.ref o3), (.ref o3)])) X5 hx rfl rfl rfl (pc0 := 70) (pc' := 73) (same := true) rfl (hb hby d5_70) rfl (decide_eq_true rfl) (by decide) (by decide) kon) ?_
  show own_Wp _ _ _ _ (T5.setTop (mkF m 73 #[rv a1, rv o3, .val .null, iv p4] []))
  refine own_of (fun tgt kon => XS.iloadN X5.here hx rfl (hb hby d5_73) rfl kon) ?_
  refine own_of (fun tgt kon => XS.iconst X5.here hx rfl (hb hby d5_74) kon) ?_
  have hc75 : ¬ (p4 < (1 : Int32)) := hv
  refine own_of (fun tgt kon => XS.icmpYes X5.here hx rfl (pc0 := 75) (pc' := 104) rfl (hb hby d5_75) rfl (flt hc75).2.1 (by decide) (by decide) kon) ?_
  refine own_of (fun tgt kon => XS.aloadN X5.here hx rfl (hb hby d5_104) rfl rfl kon) ?_
  refine own_of (fun tgt kon => XS.aloadN X5.here hx rfl (hb hby d5_105) rfl rfl kon) ?_
  show own_Wp _ _ _ _ (T5.setTop (mkF m 106 #[rv a1, rv o3, .val .null, iv p4] [(.ref o3), (.ref a1)]))
  obtain ⟨T6, h6, X6, e6, W6, st6⟩ := putF X5 hx hZ hown (host := "") (Or.inl (ow hw 50 rfl)) Via.refl e5 F_kind E_a1 (Or.inr ⟨(ow hw 51 rfl), rfl, hnm⟩) (ow hw 27 rfl) (ty := (.object "com/example/iota_flow/iotaflow/definition/Merge$Kind")) (by decide) rfl rfl (g := (mkF m 106 #[rv a1, rv o3, .val .null, iv p4] [(.ref o3), (.ref a1)])) rfl rfl (hb hby d5_106)
  refine own_of st6 ?_
  clear st6
  have Fq6 := Fld.same W6 F_kind
  replace Zs := Nat.le_trans Zs (Keep.of_wr W6).1
  replace O := O.wr W6 g_a1
  replace K0 := K0.wr W6 (Or.inl (List.mem_of_getElem? (i := 0) rfl))
  replace E_a1 := E_a1.wr W6
  replace F_flag := F_flag.other W6 (Or.inr (slot_ne (Or.inr (ow hw 53 rfl)) (Or.inr (ow hw 51 rfl)) (by decide) (t := (.object "java/lang/String")) (t' := (.object "com/example/iota_flow/iotaflow/definition/Merge$Kind")) (by decide) (by decide)))
  replace F_votes := F_votes.other W6 (Or.inr (slot_ne (Or.inr (ow hw 55 rfl)) (Or.inr (ow hw 51 rfl)) (by decide) (t := .int) (t' := (.object "com/example/iota_flow/iotaflow/definition/Merge$Kind")) (by decide) (by decide)))
  replace SW := SW.mono (Keep.of_wr W6).1
  replace F_kind := Fq6
  clear Fq6
  have N6 := Fr.snoc X6 N3 g_a1
  refine own_of (fun tgt kon => XS.aloadN X6.here hx rfl (hb hby d5_109) rfl rfl kon) ?_
  refine own_of (fun tgt kon => XS.aloadN X6.here hx rfl (hb hby d5_110) rfl rfl kon) ?_
  obtain ⟨T7, h7, X7, e7, W7, st7⟩ := putF X6 hx hZ hown (host := "") (Or.inl (ow hw 52 rfl)) Via.refl e6 F_flag E_a1 (Or.inr ⟨(ow hw 53 rfl), rfl, hnm⟩) (ow hw 27 rfl) (ty := (.object "java/lang/String")) (by decide) rfl rfl (g := (mkF m 111 #[rv a1, rv o3, .val .null, iv p4] [.null, (.ref a1)])) rfl rfl (hb hby d5_111)
  refine own_of st7 ?_
  clear st7
  have Fq7 := Fld.same W7 F_flag
  replace Zs := Nat.le_trans Zs (Keep.of_wr W7).1
  replace O := O.wr W7 g_a1
  replace K0 := K0.wr W7 (Or.inl (List.mem_of_getElem? (i := 0) rfl))
  replace E_a1 := E_a1.wr W7
  replace F_kind := F_kind.other W7 (Or.inr (slot_ne (Or.inr (ow hw 51 rfl)) (Or.inr (ow hw 53 rfl)) (by decide) (t := (.object "com/example/iota_flow/iotaflow/definition/Merge$Kind")) (t' := (.object "java/lang/String")) (by decide) (by decide)))
  replace F_votes := F_votes.other W7 (Or.inr (slot_ne (Or.inr (ow hw 55 rfl)) (Or.inr (ow hw 53 rfl)) (by decide) (t := .int) (t' := (.object "java/lang/String")) (by decide) (by decide)))
  replace SW := SW.mono (Keep.of_wr W7).1
  replace F_flag := Fq7
  clear Fq7
  have N7 := Fr.snoc X7 N6 g_a1
  refine own_of (fun tgt kon => XS.aloadN X7.here hx rfl (hb hby d5_114) rfl rfl kon) ?_
  show own_Wp _ _ _ _ (T7.setTop (mkF m 115 #[rv a1, rv o3, .val .null, iv p4] [(.ref a1)]))
  refine own_of (fun tgt kon => XS.iloadN X7.here hx rfl (hb hby d5_115) rfl kon) ?_
  obtain ⟨T8, h8, X8, e8, W8, st8⟩ := putF X7 hx hZ hown (host := "") (Or.inl (ow hw 54 rfl)) Via.refl e7 F_votes E_a1 (Or.inr ⟨(ow hw 55 rfl), rfl, hnm⟩) (ow hw 27 rfl) (ty := .int) (by decide) rfl rfl (g := (mkF m 116 #[rv a1, rv o3, .val .null, iv p4] [(.int p4), (.ref a1)])) rfl rfl (hb hby d5_116)
  refine own_of st8 ?_
  clear st8
  have Fq8 := Fld.same W8 F_votes
  replace Zs := Nat.le_trans Zs (Keep.of_wr W8).1
  replace O := O.wr W8 g_a1
  replace K0 := K0.wr W8 (Or.inl (List.mem_of_getElem? (i := 0) rfl))
  replace E_a1 := E_a1.wr W8
  replace F_kind := F_kind.other W8 (Or.inr (slot_ne (Or.inr (ow hw 51 rfl)) (Or.inr (ow hw 55 rfl)) (by decide) (t := (.object "com/example/iota_flow/iotaflow/definition/Merge$Kind")) (t' := .int) (by decide) (by decide)))
  replace F_flag := F_flag.other W8 (Or.inr (slot_ne (Or.inr (ow hw 53 rfl)) (Or.inr (ow hw 55 rfl)) (by decide) (t := (.object "java/lang/String")) (t' := .int) (by decide) (by decide)))
  replace SW := SW.mono (Keep.of_wr W8).1
  replace F_votes := Fq8
  clear Fq8
  have N8 := Fr.snoc X8 N7 g_a1
  show own_Wp _ _ _ _ (T8.setTop (mkF m 119 #[rv a1, rv o3, .val .null, iv p4] []))
  refine own_retW X8 (by rw [e8]; exact SW) hlk none (fun _ => rfl) (fun fs hr => X8.returnOut hx hrt (hb hby d5_119) hr) ?_ (by decide) (by decide)
  rw [e8]
  exact ⟨rfl, N8, K0, E_a1, F_kind, F_flag, F_votes⟩
theorem own_pn7 : plainName "java/lang/Enum" = true := by first | (simp [plainName, overriddenIn]; done) | decide +kernel
theorem d9_0 : decode jdk_37_method_2_code 0 = .ok (.aload_n 0, 1) := by decide +kernel
theorem d9_1 : decode jdk_37_method_2_code 1 = .ok (.getfield 7, 3) := by decide +kernel
theorem d9_4 : decode jdk_37_method_2_code 4 = .ok (.ireturn, 1) := by decide +kernel
def Q_rmor (Z : State) (a1 : Addr) (po : Int32) (h0 : Heap) (n0 : Nat) (v : Option Value) (h : Heap) (L : List Loc) : Prop := v = some (.int po) ∧ Fr n0 L ∧ h = h0
set_option maxRecDepth 65536 in
set_option maxHeartbeats 40000000 in
theorem rmor (l : Launch) (Z : State) (a0 : Array Value) (hw : ∀ d ∈ tables_1, d.before a0 Z = true) (ws : List Jvm.Cond) (a1 : Addr) (po : Int32) (h0 : Heap) (n0 : Nat) (Z0 : n0 ≤ h0.size) (F_o : Fld Z h0 a1 "java/lang/Enum" "ordinal" "I" (.int po)) :
    own_Ctr l Z (⟨"java/lang/Enum", "ordinal", "()I"⟩ : MethodName) jdk_37_method_2_code 1 (some .int) ws ({ frames := 0, cells := 0, slots := 0, locals := 0 } : Room) #[(.ref a1)] h0 (Q_rmor Z a1 po h0 n0) := by
  refine own_enter (plainFor_of_name own_pn7) ?_
  intro p e s m below meth c s₁ X0 hx hby hml hrt hlk hZ hown hnm e0
  have N0 := Fr.nil n0
  have Zs := Z0
  rw [show entryFrame m #[(.ref a1)] 1 = mkF m 0 #[rv a1] [] from by first | (simp [entryFrame, mkF, argsToLocals, Value.category]; done) | rfl]
  show own_Wp _ _ _ _ (s₁.setTop (mkF m 0 #[rv a1] []))
  refine own_of (fun tgt kon => XS.aloadN X0.here hx rfl (hb hby d9_0) rfl rfl kon) ?_
  obtain ⟨T1, X1, e1, st1⟩ := getF X0 hx hZ hown (host := "") (Or.inl (ow hw 68 rfl)) Via.refl e0 F_o (g := (mkF m 1 #[rv a1] [(.ref a1)])) rfl rfl (hb hby d9_1)
  refine own_of st1 ?_
  clear st1
  show own_Wp _ _ _ _ (T1.setTop (mkF m 4 #[rv a1] [(.int po)]))
  refine own_ret X1 hlk (some (.int po)) (own_rtI hrt) (fun fs hr => own_retI X1 hx hrt (hb hby d9_4) hr) ?_ (by decide) (by decide)
  rw [e1]
  exact ⟨rfl, N0, rfl⟩
def own_mx (a b : Int32) : Int32 := if a < b then b else a
theorem own_mx1 (x : Int32) : ¬ own_mx 1 x < 1 := by
  unfold own_mx
  split
  · rename_i h; rw [Int32.lt_iff_toInt_lt] at h ⊢; omega
  · decide
theorem own_nb {r : Int32} (h : r = 0 ∨ r = 1) : nar .boolean r = r := by rcases h with rfl | rfl <;> decide
theorem d10_0 : decode jdk_29_method_65_code 0 = .ok (.iload_n 0, 1) := by decide +kernel
theorem d10_1 : decode jdk_29_method_65_code 1 = .ok (.iload_n 1, 1) := by decide +kernel
theorem d10_2 : decode jdk_29_method_65_code 2 = .ok (.if_icmp .lt 7, 3) := by decide +kernel
theorem d10_9 : decode jdk_29_method_65_code 9 = .ok (.iload_n 1, 1) := by decide +kernel
theorem d10_10 : decode jdk_29_method_65_code 10 = .ok (.ireturn, 1) := by decide +kernel
theorem d10_5 : decode jdk_29_method_65_code 5 = .ok (.iload_n 0, 1) := by decide +kernel
theorem d10_6 : decode jdk_29_method_65_code 6 = .ok (.goto 4, 3) := by decide +kernel
def Q_rmmx (Z : State) (p1 : Int32) (p2 : Int32) (h0 : Heap) (n0 : Nat) (v : Option Value) (h : Heap) (L : List Loc) : Prop := v = some (.int (own_mx p1 p2)) ∧ Fr n0 L ∧ h = h0
set_option maxRecDepth 65536 in
set_option maxHeartbeats 40000000 in
theorem rmmx (l : Launch) (Z : State) (a0 : Array Value) (hw : ∀ d ∈ tables_1, d.before a0 Z = true) (ws : List Jvm.Cond) (p1 : Int32) (p2 : Int32) (h0 : Heap) (n0 : Nat) (Z0 : n0 ≤ h0.size)  :
    own_Ctr l Z (⟨"java/lang/Math", "max", "(II)I"⟩ : MethodName) jdk_29_method_65_code 2 (some .int) ws ({ frames := 0, cells := 0, slots := 0, locals := 0 } : Room) #[(.int p1), (.int p2)] h0 (Q_rmmx Z p1 p2 h0 n0) := by
  refine own_enter (Jvm.Free.JP.mathPlain rfl (by decide +kernel)) ?_
  intro p e s m below meth c s₁ X0 hx hby hml hrt hlk hZ hown hnm e0
  have N0 := Fr.nil n0
  have Zs := Z0
  rw [show entryFrame m #[(.int p1), (.int p2)] 2 = mkF m 0 #[iv p1, iv p2] [] from by first | (simp [entryFrame, mkF, argsToLocals, Value.category]; done) | rfl]
  show own_Wp _ _ _ _ (s₁.setTop (mkF m 0 #[iv p1, iv p2] []))
  refine own_of (fun tgt kon => XS.iloadN X0.here hx rfl (hb hby d10_0) rfl kon) ?_
  refine own_of (fun tgt kon => XS.iloadN X0.here hx rfl (hb hby d10_1) rfl kon) ?_
  by_cases hc2 : p1 < p2
  · skip
    refine own_of (fun tgt kon => XS.icmpYes X0.here hx rfl (pc0 := 2) (pc' := 9) rfl (hb hby d10_2) rfl (tlt hc2).1 (by decide) (by decide) kon) ?_
    refine own_of (fun tgt kon => XS.iloadN X0.here hx rfl (hb hby d10_9) rfl kon) ?_
    show own_Wp _ _ _ _ (s₁.setTop (mkF m 10 #[iv p1, iv p2] [(.int p2)]))
    refine own_ret X0 hlk (some (.int p2)) (own_rtI hrt) (fun fs hr => own_retI X0 hx hrt (hb hby d10_10) hr) ?_ (by decide) (by decide)
    rw [e0]
    exact ⟨by unfold own_mx; rw [if_pos hc2], N0, rfl⟩
  · skip
    refine own_of (fun tgt kon => XS.icmpNo X0.here hx rfl (hb hby d10_2) rfl (flt hc2).1 kon) ?_
    refine own_of (fun tgt kon => XS.iloadN X0.here hx rfl (hb hby d10_5) rfl kon) ?_
    refine own_of (fun tgt kon => XS.goto X0.here hx rfl (pc0 := 6) (pc' := 10) rfl (hb hby d10_6) (by decide) (by decide) kon) ?_
    show own_Wp _ _ _ _ (s₁.setTop (mkF m 10 #[iv p1, iv p2] [(.int p1)]))
    refine own_ret X0 hlk (some (.int p1)) (own_rtI hrt) (fun fs hr => own_retI X0 hx hrt (hb hby d10_10) hr) ?_ (by decide) (by decide)
    rw [e0]
    exact ⟨by unfold own_mx; rw [if_neg hc2], N0, rfl⟩
theorem d8_0 : decode prog_17_method_5_code 0 = .ok (.aload_n 0, 1) := by decide +kernel
theorem d8_1 : decode prog_17_method_5_code 1 = .ok (.getfield 46, 3) := by decide +kernel
theorem d8_4 : decode prog_17_method_5_code 4 = .ok (.invokevirtual 65, 3) := by decide +kernel
theorem own_pd12 : parseMethodDescriptor "()I" = some ⟨[], some .int⟩ := by decide +kernel
theorem d8_7 : decode prog_17_method_5_code 7 = .ok (.tableswitch 29 0 3 #[39, 39, 43, 54], 29) := by decide +kernel
theorem d8_46 : decode prog_17_method_5_code 46 = .ok (.iconst 1, 1) := by decide +kernel
theorem d8_47 : decode prog_17_method_5_code 47 = .ok (.goto 27, 3) := by decide +kernel
theorem d8_74 : decode prog_17_method_5_code 74 = .ok (.ireturn, 1) := by decide +kernel
def Q_rmst0 (Z : State) (a1 : Addr) (ok : Addr) (xa : Addr) (p3 : Int32) (h0 : Heap) (n0 : Nat) (v : Option Value) (h : Heap) (L : List Loc) : Prop := v = some (.int (1 : Int32)) ∧ Fr n0 L ∧ h = h0
set_option maxRecDepth 65536 in
set_option maxHeartbeats 40000000 in
theorem rmst0 (l : Launch) (Z : State) (a0 : Array Value) (hw : ∀ d ∈ tables_1, d.before a0 Z = true) (ws : List Jvm.Cond) (a1 : Addr) (ok : Addr) (xa : Addr) (p3 : Int32) (h0 : Heap) (n0 : Nat) (Z0 : n0 ≤ h0.size) (E_ok : Exa Z h0 ok "com/example/iota_flow/iotaflow/definition/Merge$Kind") (F_ok : Fld Z h0 ok "java/lang/Enum" "ordinal" "I" (.int (0 : Int32))) (F_kind : Fld Z h0 a1 "com/example/iota_flow/iotaflow/definition/Merge" "kind" "Lcom/example/iota_flow/iotaflow/definition/Merge$Kind;" (.ref ok)) :
    own_Ctr l Z (⟨"com/example/iota_flow/iotaflow/definition/Merge", "starts", "(Ljava/lang/String;I)Z"⟩ : MethodName) prog_17_method_5_code 3 (some .boolean) ws ({ frames := 1, cells := 0, slots := 0, locals := 12 } : Room) #[(.ref a1), (.ref xa), (.int p3)] h0 (Q_rmst0 Z a1 ok xa p3 h0 n0) := by
  refine own_enter (plainFor_of_name own_pn6) ?_
  intro p e s m below meth c s₁ X0 hx hby hml hrt hlk hZ hown hnm e0
  have N0 := Fr.nil n0
  have Zs := Z0
  rw [show entryFrame m #[(.ref a1), (.ref xa), (.int p3)] 3 = mkF m 0 #[rv a1, rv xa, iv p3] [] from by first | (simp [entryFrame, mkF, argsToLocals, Value.category]; done) | rfl]
  show own_Wp _ _ _ _ (s₁.setTop (mkF m 0 #[rv a1, rv xa, iv p3] []))
  refine own_of (fun tgt kon => XS.aloadN X0.here hx rfl (hb hby d8_0) rfl rfl kon) ?_
  obtain ⟨T1, X1, e1, st1⟩ := getF X0 hx hZ hown (host := "") (Or.inl (ow hw 50 rfl)) Via.refl e0 F_kind (g := (mkF m 1 #[rv a1, rv xa, iv p3] [(.ref a1)])) rfl rfl (hb hby d8_1)
  refine own_of st1 ?_
  clear st1
  refine own_callU X1 hx hZ (C := "com/example/iota_flow/iotaflow/definition/Merge$Kind") (owner := "java/lang/Enum") (x := (⟨"com/example/iota_flow/iotaflow/definition/Merge$Kind", "ordinal", "()I"⟩ : MethodName)) (y := (⟨"java/lang/Enum", "ordinal", "()I"⟩ : MethodName)) (a := ok) (argsL := []) (rest := []) (W := 0) hown (ow hw 61 rfl) (ow hw 62 rfl) (ow hw 63 rfl) (by decide) (ow hw 65 rfl) (ow hw 64 rfl) (ow hw 66 rfl) (ow hw 67 rfl) e1 E_ok (rmor l Z a0 hw [] ok (0 : Int32) h0 n0 Zs F_ok) (by decide) (by decide) (by decide) (by decide) rfl (by rw [hml]; rfl) (lenOf own_pd12 rfl) rfl (by show 2 * 0 + _ ≤ _; exact Nat.le_of_eq rfl) (hb hby d8_4) ?_
  rintro T2 L2 _ X2 ⟨rfl, N2q, e2⟩
  have N2 := Fr.app N0 N2q
  show own_Wp _ _ _ _ (T2.setTop (mkF m 7 #[rv a1, rv xa, iv p3] [(.int (0 : Int32))]))
  refine own_of (fun tgt kon => XS.tswIn X2.here hx rfl (pc0 := 7) (pc' := 46) (o := 39) rfl (hb hby d8_7) rfl (by decide) (by decide) (by decide) (by decide) kon) ?_
  show own_Wp _ _ _ _ (T2.setTop (mkF m 46 #[rv a1, rv xa, iv p3] []))
  refine own_of (fun tgt kon => XS.iconst X2.here hx rfl (hb hby d8_46) kon) ?_
  refine own_of (fun tgt kon => XS.goto X2.here hx rfl (pc0 := 47) (pc' := 74) rfl (hb hby d8_47) (by decide) (by decide) kon) ?_
  show own_Wp _ _ _ _ (T2.setTop (mkF m 74 #[rv a1, rv xa, iv p3] [(.int (1 : Int32))]))
  refine own_ret X2 hlk (some (.int (1 : Int32))) (own_rtI hrt) (fun fs hr => retN X2 hx (t := .boolean) hrt (by simp) (hb hby d8_74) hr) ?_ (by decide) (by decide)
  rw [e2]
  exact ⟨rfl, N2, rfl⟩
def Q_rmst0n (Z : State) (a1 : Addr) (ok : Addr) (p3 : Int32) (h0 : Heap) (n0 : Nat) (v : Option Value) (h : Heap) (L : List Loc) : Prop := v = some (.int (1 : Int32)) ∧ Fr n0 L ∧ h = h0
set_option maxRecDepth 65536 in
set_option maxHeartbeats 40000000 in
theorem rmst0n (l : Launch) (Z : State) (a0 : Array Value) (hw : ∀ d ∈ tables_1, d.before a0 Z = true) (ws : List Jvm.Cond) (a1 : Addr) (ok : Addr) (p3 : Int32) (h0 : Heap) (n0 : Nat) (Z0 : n0 ≤ h0.size) (E_ok : Exa Z h0 ok "com/example/iota_flow/iotaflow/definition/Merge$Kind") (F_ok : Fld Z h0 ok "java/lang/Enum" "ordinal" "I" (.int (0 : Int32))) (F_kind : Fld Z h0 a1 "com/example/iota_flow/iotaflow/definition/Merge" "kind" "Lcom/example/iota_flow/iotaflow/definition/Merge$Kind;" (.ref ok)) :
    own_Ctr l Z (⟨"com/example/iota_flow/iotaflow/definition/Merge", "starts", "(Ljava/lang/String;I)Z"⟩ : MethodName) prog_17_method_5_code 3 (some .boolean) ws ({ frames := 1, cells := 0, slots := 0, locals := 12 } : Room) #[(.ref a1), .null, (.int p3)] h0 (Q_rmst0n Z a1 ok p3 h0 n0) := by
  refine own_enter (plainFor_of_name own_pn6) ?_
  intro p e s m below meth c s₁ X0 hx hby hml hrt hlk hZ hown hnm e0
  have N0 := Fr.nil n0
  have Zs := Z0
  rw [show entryFrame m #[(.ref a1), .null, (.int p3)] 3 = mkF m 0 #[rv a1, .val .null, iv p3] [] from by first | (simp [entryFrame, mkF, argsToLocals, Value.category]; done) | rfl]
  show own_Wp _ _ _ _ (s₁.setTop (mkF m 0 #[rv a1, .val .null, iv p3] []))
  refine own_of (fun tgt kon => XS.aloadN X0.here hx rfl (hb hby d8_0) rfl rfl kon) ?_
  obtain ⟨T1, X1, e1, st1⟩ := getF X0 hx hZ hown (host := "") (Or.inl (ow hw 50 rfl)) Via.refl e0 F_kind (g := (mkF m 1 #[rv a1, .val .null, iv p3] [(.ref a1)])) rfl rfl (hb hby d8_1)
  refine own_of st1 ?_
  clear st1
  refine own_callU X1 hx hZ (C := "com/example/iota_flow/iotaflow/definition/Merge$Kind") (owner := "java/lang/Enum") (x := (⟨"com/example/iota_flow/iotaflow/definition/Merge$Kind", "ordinal", "()I"⟩ : MethodName)) (y := (⟨"java/lang/Enum", "ordinal", "()I"⟩ : MethodName)) (a := ok) (argsL := []) (rest := []) (W := 0) hown (ow hw 61 rfl) (ow hw 62 rfl) (ow hw 63 rfl) (by decide) (ow hw 65 rfl) (ow hw 64 rfl) (ow hw 66 rfl) (ow hw 67 rfl) e1 E_ok (rmor l Z a0 hw [] ok (0 : Int32) h0 n0 Zs F_ok) (by decide) (by decide) (by decide) (by decide) rfl (by rw [hml]; rfl) (lenOf own_pd12 rfl) rfl (by show 2 * 0 + _ ≤ _; exact Nat.le_of_eq rfl) (hb hby d8_4) ?_
  rintro T2 L2 _ X2 ⟨rfl, N2q, e2⟩
  have N2 := Fr.app N0 N2q
  show own_Wp _ _ _ _ (T2.setTop (mkF m 7 #[rv a1, .val .null, iv p3] [(.int (0 : Int32))]))
  refine own_of (fun tgt kon => XS.tswIn X2.here hx rfl (pc0 := 7) (pc' := 46) (o := 39) rfl (hb hby d8_7) rfl (by decide) (by decide) (by decide) (by decide) kon) ?_
  show own_Wp _ _ _ _ (T2.setTop (mkF m 46 #[rv a1, .val .null, iv p3] []))
  refine own_of (fun tgt kon => XS.iconst X2.here hx rfl (hb hby d8_46) kon) ?_
  refine own_of (fun tgt kon => XS.goto X2.here hx rfl (pc0 := 47) (pc' := 74) rfl (hb hby d8_47) (by decide) (by decide) kon) ?_
  show own_Wp _ _ _ _ (T2.setTop (mkF m 74 #[rv a1, .val .null, iv p3] [(.int (1 : Int32))]))
  refine own_ret X2 hlk (some (.int (1 : Int32))) (own_rtI hrt) (fun fs hr => retN X2 hx (t := .boolean) hrt (by simp) (hb hby d8_74) hr) ?_ (by decide) (by decide)
  rw [e2]
  exact ⟨rfl, N2, rfl⟩
def Q_rmst1 (Z : State) (a1 : Addr) (ok : Addr) (xa : Addr) (p3 : Int32) (h0 : Heap) (n0 : Nat) (v : Option Value) (h : Heap) (L : List Loc) : Prop := v = some (.int (1 : Int32)) ∧ Fr n0 L ∧ h = h0
set_option maxRecDepth 65536 in
set_option maxHeartbeats 40000000 in
theorem rmst1 (l : Launch) (Z : State) (a0 : Array Value) (hw : ∀ d ∈ tables_1, d.before a0 Z = true) (ws : List Jvm.Cond) (a1 : Addr) (ok : Addr) (xa : Addr) (p3 : Int32) (h0 : Heap) (n0 : Nat) (Z0 : n0 ≤ h0.size) (E_ok : Exa Z h0 ok "com/example/iota_flow/iotaflow/definition/Merge$Kind") (F_ok : Fld Z h0 ok "java/lang/Enum" "ordinal" "I" (.int (1 : Int32))) (F_kind : Fld Z h0 a1 "com/example/iota_flow/iotaflow/definition/Merge" "kind" "Lcom/example/iota_flow/iotaflow/definition/Merge$Kind;" (.ref ok)) :
    own_Ctr l Z (⟨"com/example/iota_flow/iotaflow/definition/Merge", "starts", "(Ljava/lang/String;I)Z"⟩ : MethodName) prog_17_method_5_code 3 (some .boolean) ws ({ frames := 1, cells := 0, slots := 0, locals := 12 } : Room) #[(.ref a1), (.ref xa), (.int p3)] h0 (Q_rmst1 Z a1 ok xa p3 h0 n0) := by
  refine own_enter (plainFor_of_name own_pn6) ?_
  intro p e s m below meth c s₁ X0 hx hby hml hrt hlk hZ hown hnm e0
  have N0 := Fr.nil n0
  have Zs := Z0
  rw [show entryFrame m #[(.ref a1), (.ref xa), (.int p3)] 3 = mkF m 0 #[rv a1, rv xa, iv p3] [] from by first | (simp [entryFrame, mkF, argsToLocals, Value.category]; done) | rfl]
  show own_Wp _ _ _ _ (s₁.setTop (mkF m 0 #[rv a1, rv xa, iv p3] []))
  refine own_of (fun tgt kon => XS.aloadN X0.here hx rfl (hb hby d8_0) rfl rfl kon) ?_
  obtain ⟨T1, X1, e1, st1⟩ := getF X0 hx hZ hown (host := "") (Or.inl (ow hw 50 rfl)) Via.refl e0 F_kind (g := (mkF m 1 #[rv a1, rv xa, iv p3] [(.ref a1)])) rfl rfl (hb hby d8_1)
  refine own_of st1 ?_
  clear st1
  refine own_callU X1 hx hZ (C := "com/example/iota_flow/iotaflow/definition/Merge$Kind") (owner := "java/lang/Enum") (x := (⟨"com/example/iota_flow/iotaflow/definition/Merge$Kind", "ordinal", "()I"⟩ : MethodName)) (y := (⟨"java/lang/Enum", "ordinal", "()I"⟩ : MethodName)) (a := ok) (argsL := []) (rest := []) (W := 0) hown (ow hw 61 rfl) (ow hw 62 rfl) (ow hw 63 rfl) (by decide) (ow hw 65 rfl) (ow hw 64 rfl) (ow hw 66 rfl) (ow hw 67 rfl) e1 E_ok (rmor l Z a0 hw [] ok (1 : Int32) h0 n0 Zs F_ok) (by decide) (by decide) (by decide) (by decide) rfl (by rw [hml]; rfl) (lenOf own_pd12 rfl) rfl (by show 2 * 0 + _ ≤ _; exact Nat.le_of_eq rfl) (hb hby d8_4) ?_
  rintro T2 L2 _ X2 ⟨rfl, N2q, e2⟩
  have N2 := Fr.app N0 N2q
  show own_Wp _ _ _ _ (T2.setTop (mkF m 7 #[rv a1, rv xa, iv p3] [(.int (1 : Int32))]))
  refine own_of (fun tgt kon => XS.tswIn X2.here hx rfl (pc0 := 7) (pc' := 46) (o := 39) rfl (hb hby d8_7) rfl (by decide) (by decide) (by decide) (by decide) kon) ?_
  show own_Wp _ _ _ _ (T2.setTop (mkF m 46 #[rv a1, rv xa, iv p3] []))
  refine own_of (fun tgt kon => XS.iconst X2.here hx rfl (hb hby d8_46) kon) ?_
  refine own_of (fun tgt kon => XS.goto X2.here hx rfl (pc0 := 47) (pc' := 74) rfl (hb hby d8_47) (by decide) (by decide) kon) ?_
  show own_Wp _ _ _ _ (T2.setTop (mkF m 74 #[rv a1, rv xa, iv p3] [(.int (1 : Int32))]))
  refine own_ret X2 hlk (some (.int (1 : Int32))) (own_rtI hrt) (fun fs hr => retN X2 hx (t := .boolean) hrt (by simp) (hb hby d8_74) hr) ?_ (by decide) (by decide)
  rw [e2]
  exact ⟨rfl, N2, rfl⟩
def Q_rmst1n (Z : State) (a1 : Addr) (ok : Addr) (p3 : Int32) (h0 : Heap) (n0 : Nat) (v : Option Value) (h : Heap) (L : List Loc) : Prop := v = some (.int (1 : Int32)) ∧ Fr n0 L ∧ h = h0
set_option maxRecDepth 65536 in
set_option maxHeartbeats 40000000 in
theorem rmst1n (l : Launch) (Z : State) (a0 : Array Value) (hw : ∀ d ∈ tables_1, d.before a0 Z = true) (ws : List Jvm.Cond) (a1 : Addr) (ok : Addr) (p3 : Int32) (h0 : Heap) (n0 : Nat) (Z0 : n0 ≤ h0.size) (E_ok : Exa Z h0 ok "com/example/iota_flow/iotaflow/definition/Merge$Kind") (F_ok : Fld Z h0 ok "java/lang/Enum" "ordinal" "I" (.int (1 : Int32))) (F_kind : Fld Z h0 a1 "com/example/iota_flow/iotaflow/definition/Merge" "kind" "Lcom/example/iota_flow/iotaflow/definition/Merge$Kind;" (.ref ok)) :
    own_Ctr l Z (⟨"com/example/iota_flow/iotaflow/definition/Merge", "starts", "(Ljava/lang/String;I)Z"⟩ : MethodName) prog_17_method_5_code 3 (some .boolean) ws ({ frames := 1, cells := 0, slots := 0, locals := 12 } : Room) #[(.ref a1), .null, (.int p3)] h0 (Q_rmst1n Z a1 ok p3 h0 n0) := by
  refine own_enter (plainFor_of_name own_pn6) ?_
  intro p e s m below meth c s₁ X0 hx hby hml hrt hlk hZ hown hnm e0
  have N0 := Fr.nil n0
  have Zs := Z0
  rw [show entryFrame m #[(.ref a1), .null, (.int p3)] 3 = mkF m 0 #[rv a1, .val .null, iv p3] [] from by first | (simp [entryFrame, mkF, argsToLocals, Value.category]; done) | rfl]
  show own_Wp _ _ _ _ (s₁.setTop (mkF m 0 #[rv a1, .val .null, iv p3] []))
  refine own_of (fun tgt kon => XS.aloadN X0.here hx rfl (hb hby d8_0) rfl rfl kon) ?_
  obtain ⟨T1, X1, e1, st1⟩ := getF X0 hx hZ hown (host := "") (Or.inl (ow hw 50 rfl)) Via.refl e0 F_kind (g := (mkF m 1 #[rv a1, .val .null, iv p3] [(.ref a1)])) rfl rfl (hb hby d8_1)
  refine own_of st1 ?_
  clear st1
  refine own_callU X1 hx hZ (C := "com/example/iota_flow/iotaflow/definition/Merge$Kind") (owner := "java/lang/Enum") (x := (⟨"com/example/iota_flow/iotaflow/definition/Merge$Kind", "ordinal", "()I"⟩ : MethodName)) (y := (⟨"java/lang/Enum", "ordinal", "()I"⟩ : MethodName)) (a := ok) (argsL := []) (rest := []) (W := 0) hown (ow hw 61 rfl) (ow hw 62 rfl) (ow hw 63 rfl) (by decide) (ow hw 65 rfl) (ow hw 64 rfl) (ow hw 66 rfl) (ow hw 67 rfl) e1 E_ok (rmor l Z a0 hw [] ok (1 : Int32) h0 n0 Zs F_ok) (by decide) (by decide) (by decide) (by decide) rfl (by rw [hml]; rfl) (lenOf own_pd12 rfl) rfl (by show 2 * 0 + _ ≤ _; exact Nat.le_of_eq rfl) (hb hby d8_4) ?_
  rintro T2 L2 _ X2 ⟨rfl, N2q, e2⟩
  have N2 := Fr.app N0 N2q
  show own_Wp _ _ _ _ (T2.setTop (mkF m 7 #[rv a1, .val .null, iv p3] [(.int (1 : Int32))]))
  refine own_of (fun tgt kon => XS.tswIn X2.here hx rfl (pc0 := 7) (pc' := 46) (o := 39) rfl (hb hby d8_7) rfl (by decide) (by decide) (by decide) (by decide) kon) ?_
  show own_Wp _ _ _ _ (T2.setTop (mkF m 46 #[rv a1, .val .null, iv p3] []))
  refine own_of (fun tgt kon => XS.iconst X2.here hx rfl (hb hby d8_46) kon) ?_
  refine own_of (fun tgt kon => XS.goto X2.here hx rfl (pc0 := 47) (pc' := 74) rfl (hb hby d8_47) (by decide) (by decide) kon) ?_
  show own_Wp _ _ _ _ (T2.setTop (mkF m 74 #[rv a1, .val .null, iv p3] [(.int (1 : Int32))]))
  refine own_ret X2 hlk (some (.int (1 : Int32))) (own_rtI hrt) (fun fs hr => retN X2 hx (t := .boolean) hrt (by simp) (hb hby d8_74) hr) ?_ (by decide) (by decide)
  rw [e2]
  exact ⟨rfl, N2, rfl⟩
theorem d8_50 : decode prog_17_method_5_code 50 = .ok (.aload_n 0, 1) := by decide +kernel
theorem d8_51 : decode prog_17_method_5_code 51 = .ok (.getfield 50, 3) := by decide +kernel
theorem d8_54 : decode prog_17_method_5_code 54 = .ok (.aload_n 1, 1) := by decide +kernel
theorem d8_55 : decode prog_17_method_5_code 55 = .ok (.invokevirtual 74, 3) := by decide +kernel
theorem own_pd13 : parseMethodDescriptor "(Ljava/lang/Object;)Z" = some ⟨[(.object "java/lang/Object")], some .boolean⟩ := by decide +kernel
theorem d8_58 : decode prog_17_method_5_code 58 = .ok (.goto 16, 3) := by decide +kernel
def Q_rmst2 (Z : State) (a1 : Addr) (ok : Addr) (xf : Addr) (xa : Addr) (v1 : Addr) (v2 : Addr) (n1 : Nat) (n2 : Nat) (f1 : Nat → Int32) (f2 : Nat → Int32) (r : Int32) (cz : Int32) (p3 : Int32) (h0 : Heap) (n0 : Nat) (v : Option Value) (h : Heap) (L : List Loc) : Prop := v = some (.int r) ∧ Fr n0 L ∧ h = h0
set_option maxRecDepth 65536 in
set_option maxHeartbeats 40000000 in
theorem rmst2 (l : Launch) (Z : State) (a0 : Array Value) (hw : ∀ d ∈ tables_1, d.before a0 Z = true) (ws : List Jvm.Cond) (a1 : Addr) (ok : Addr) (xf : Addr) (xa : Addr) (v1 : Addr) (v2 : Addr) (n1 : Nat) (n2 : Nat) (f1 : Nat → Int32) (f2 : Nat → Int32) (r : Int32) (cz : Int32) (p3 : Int32) (h0 : Heap) (n0 : Nat) (Z0 : n0 ≤ h0.size) (E_ok : Exa Z h0 ok "com/example/iota_flow/iotaflow/definition/Merge$Kind") (F_ok : Fld Z h0 ok "java/lang/Enum" "ordinal" "I" (.int (2 : Int32))) (F_kind : Fld Z h0 a1 "com/example/iota_flow/iotaflow/definition/Merge" "kind" "Lcom/example/iota_flow/iotaflow/definition/Merge$Kind;" (.ref ok)) (F_flag : Fld Z h0 a1 "com/example/iota_flow/iotaflow/definition/Merge" "flag" "Ljava/lang/String;" (.ref xf)) (E_xf : Exa Z h0 xf "java/lang/String") (F_value_xf : Fld Z h0 xf "java/lang/String" "value" "[B" (.ref v1)) (F_coder_xf : Fld Z h0 xf "java/lang/String" "coder" "B" (.int (0 : Int32))) (V_v1 : own_Ar Z h0 v1 .byte n1 (fun k => .int (f1 k))) (E_xa : Exa Z h0 xa "java/lang/String") (F_value_xa : Fld Z h0 xa "java/lang/String" "value" "[B" (.ref v2)) (F_coder_xa : Fld Z h0 xa "java/lang/String" "coder" "B" (.int (0 : Int32))) (V_v2 : own_Ar Z h0 v2 .byte n2 (fun k => .int (f2 k))) (nefa : xf ≠ xa) (hr1 : (n1 = n2 ∧ ∀ j, j < n1 → f1 j = f2 j) → r = 1) (hr0 : ¬ (n1 = n2 ∧ ∀ j, j < n1 → f1 j = f2 j) → r = 0) (hn1 : n1 ≤ 2) (hn2 : n2 ≤ 2) (hr01 : r = 0 ∨ r = 1) (S_C : Sta Z h0 "java/lang/String" "COMPACT_STRINGS" "Z" (.int cz)) (hcz : ¬ cz = 0) :
    own_Ctr l Z (⟨"com/example/iota_flow/iotaflow/definition/Merge", "starts", "(Ljava/lang/String;I)Z"⟩ : MethodName) prog_17_method_5_code 3 (some .boolean) ws ({ frames := 2, cells := 0, slots := 0, locals := 28 } : Room) #[(.ref a1), (.ref xa), (.int p3)] h0 (Q_rmst2 Z a1 ok xf xa v1 v2 n1 n2 f1 f2 r cz p3 h0 n0) := by
  refine own_enter (plainFor_of_name own_pn6) ?_
  intro p e s m below meth c s₁ X0 hx hby hml hrt hlk hZ hown hnm e0
  have N0 := Fr.nil n0
  have Zs := Z0
  rw [show entryFrame m #[(.ref a1), (.ref xa), (.int p3)] 3 = mkF m 0 #[rv a1, rv xa, iv p3] [] from by first | (simp [entryFrame, mkF, argsToLocals, Value.category]; done) | rfl]
  show own_Wp _ _ _ _ (s₁.setTop (mkF m 0 #[rv a1, rv xa, iv p3] []))
  refine own_of (fun tgt kon => XS.aloadN X0.here hx rfl (hb hby d8_0) rfl rfl kon) ?_
  obtain ⟨T1, X1, e1, st1⟩ := getF X0 hx hZ hown (host := "") (Or.inl (ow hw 50 rfl)) Via.refl e0 F_kind (g := (mkF m 1 #[rv a1, rv xa, iv p3] [(.ref a1)])) rfl rfl (hb hby d8_1)
  refine own_of st1 ?_
  clear st1
  refine own_callU X1 hx hZ (C := "com/example/iota_flow/iotaflow/definition/Merge$Kind") (owner := "java/lang/Enum") (x := (⟨"com/example/iota_flow/iotaflow/definition/Merge$Kind", "ordinal", "()I"⟩ : MethodName)) (y := (⟨"java/lang/Enum", "ordinal", "()I"⟩ : MethodName)) (a := ok) (argsL := []) (rest := []) (W := 0) hown (ow hw 61 rfl) (ow hw 62 rfl) (ow hw 63 rfl) (by decide) (ow hw 65 rfl) (ow hw 64 rfl) (ow hw 66 rfl) (ow hw 67 rfl) e1 E_ok (rmor l Z a0 hw [] ok (2 : Int32) h0 n0 Zs F_ok) (by decide) (by decide) (by decide) (by decide) rfl (by rw [hml]; rfl) (lenOf own_pd12 rfl) rfl (by show 2 * 0 + _ ≤ _; exact Nat.le_of_eq rfl) (hb hby d8_4) ?_
  rintro T2 L2 _ X2 ⟨rfl, N2q, e2⟩
  have N2 := Fr.app N0 N2q
  show own_Wp _ _ _ _ (T2.setTop (mkF m 7 #[rv a1, rv xa, iv p3] [(.int (2 : Int32))]))
  refine own_of (fun tgt kon => XS.tswIn X2.here hx rfl (pc0 := 7) (pc' := 50) (o := 43) rfl (hb hby d8_7) rfl (by decide) (by decide) (by decide) (by decide) kon) ?_
  show own_Wp _ _ _ _ (T2.setTop (mkF m 50 #[rv a1, rv xa, iv p3] []))
  refine own_of (fun tgt kon => XS.aloadN X2.here hx rfl (hb hby d8_50) rfl rfl kon) ?_
  obtain ⟨T3, X3, e3, st3⟩ := getF X2 hx hZ hown (host := "") (Or.inl (ow hw 52 rfl)) Via.refl e2 F_flag (g := (mkF m 51 #[rv a1, rv xa, iv p3] [(.ref a1)])) rfl rfl (hb hby d8_51)
  refine own_of st3 ?_
  clear st3
  refine own_of (fun tgt kon => XS.aloadN X3.here hx rfl (hb hby d8_54) rfl rfl kon) ?_
  refine own_callV X3 hx hZ (C := "java/lang/String") (y := (⟨"java/lang/String", "equals", "(Ljava/lang/Object;)Z"⟩ : MethodName)) (a := xf) (argsL := [(.ref xa)]) (rest := []) (W := 0) hown (ow hw 102 rfl) (ow hw 103 rfl) (ow hw 105 rfl) (ow hw 104 rfl) (ow hw 6 rfl) (ow hw 106 rfl) (by decide) e3 E_xf (rmeq l Z a0 hw [] xf xa v1 v2 n1 n2 f1 f2 r cz h0 n0 Zs E_xf F_value_xf F_coder_xf V_v1 E_xa F_value_xa F_coder_xa V_v2 nefa hr1 hr0 hn1 hn2 S_C hcz) (by decide) (by decide) (by decide) (by decide) rfl (by rw [hml]; rfl) (lenOf own_pd13 rfl) rfl (by show 2 * 0 + _ ≤ _; exact Nat.le_of_eq rfl) (hb hby d8_55) ?_
  rintro T4 L4 _ X4 ⟨rfl, N4q, e4⟩
  have N4 := Fr.app N2 N4q
  show own_Wp _ _ _ _ (T4.setTop (mkF m 58 #[rv a1, rv xa, iv p3] [(.int r)]))
  refine own_of (fun tgt kon => XS.goto X4.here hx rfl (pc0 := 58) (pc' := 74) rfl (hb hby d8_58) (by decide) (by decide) kon) ?_
  show own_Wp _ _ _ _ (T4.setTop (mkF m 74 #[rv a1, rv xa, iv p3] [(.int r)]))
  refine own_ret X4 hlk (some (.int (nar .boolean r))) (own_rtI hrt) (fun fs hr => retN X4 hx (t := .boolean) hrt (by simp) (hb hby d8_74) hr) ?_ (by decide) (by decide)
  rw [e4]
  exact ⟨by rw [own_nb hr01], N4, rfl⟩
def Q_rmst2n (Z : State) (a1 : Addr) (ok : Addr) (xf : Addr) (p3 : Int32) (h0 : Heap) (n0 : Nat) (v : Option Value) (h : Heap) (L : List Loc) : Prop := v = some (.int (0 : Int32)) ∧ Fr n0 L ∧ h = h0
set_option maxRecDepth 65536 in
set_option maxHeartbeats 40000000 in
theorem rmst2n (l : Launch) (Z : State) (a0 : Array Value) (hw : ∀ d ∈ tables_1, d.before a0 Z = true) (ws : List Jvm.Cond) (a1 : Addr) (ok : Addr) (xf : Addr) (p3 : Int32) (h0 : Heap) (n0 : Nat) (Z0 : n0 ≤ h0.size) (E_ok : Exa Z h0 ok "com/example/iota_flow/iotaflow/definition/Merge$Kind") (F_ok : Fld Z h0 ok "java/lang/Enum" "ordinal" "I" (.int (2 : Int32))) (F_kind : Fld Z h0 a1 "com/example/iota_flow/iotaflow/definition/Merge" "kind" "Lcom/example/iota_flow/iotaflow/definition/Merge$Kind;" (.ref ok)) (F_flag : Fld Z h0 a1 "com/example/iota_flow/iotaflow/definition/Merge" "flag" "Ljava/lang/String;" (.ref xf)) (E_xf : Exa Z h0 xf "java/lang/String") :
    own_Ctr l Z (⟨"com/example/iota_flow/iotaflow/definition/Merge", "starts", "(Ljava/lang/String;I)Z"⟩ : MethodName) prog_17_method_5_code 3 (some .boolean) ws ({ frames := 1, cells := 0, slots := 0, locals := 14 } : Room) #[(.ref a1), .null, (.int p3)] h0 (Q_rmst2n Z a1 ok xf p3 h0 n0) := by
  refine own_enter (plainFor_of_name own_pn6) ?_
  intro p e s m below meth c s₁ X0 hx hby hml hrt hlk hZ hown hnm e0
  have N0 := Fr.nil n0
  have Zs := Z0
  rw [show entryFrame m #[(.ref a1), .null, (.int p3)] 3 = mkF m 0 #[rv a1, .val .null, iv p3] [] from by first | (simp [entryFrame, mkF, argsToLocals, Value.category]; done) | rfl]
  show own_Wp _ _ _ _ (s₁.setTop (mkF m 0 #[rv a1, .val .null, iv p3] []))
  refine own_of (fun tgt kon => XS.aloadN X0.here hx rfl (hb hby d8_0) rfl rfl kon) ?_
  obtain ⟨T1, X1, e1, st1⟩ := getF X0 hx hZ hown (host := "") (Or.inl (ow hw 50 rfl)) Via.refl e0 F_kind (g := (mkF m 1 #[rv a1, .val .null, iv p3] [(.ref a1)])) rfl rfl (hb hby d8_1)
  refine own_of st1 ?_
  clear st1
  refine own_callU X1 hx hZ (C := "com/example/iota_flow/iotaflow/definition/Merge$Kind") (owner := "java/lang/Enum") (x := (⟨"com/example/iota_flow/iotaflow/definition/Merge$Kind", "ordinal", "()I"⟩ : MethodName)) (y := (⟨"java/lang/Enum", "ordinal", "()I"⟩ : MethodName)) (a := ok) (argsL := []) (rest := []) (W := 0) hown (ow hw 61 rfl) (ow hw 62 rfl) (ow hw 63 rfl) (by decide) (ow hw 65 rfl) (ow hw 64 rfl) (ow hw 66 rfl) (ow hw 67 rfl) e1 E_ok (rmor l Z a0 hw [] ok (2 : Int32) h0 n0 Zs F_ok) (by decide) (by decide) (by decide) (by decide) rfl (by rw [hml]; rfl) (lenOf own_pd12 rfl) rfl (by show 2 * 0 + _ ≤ _; exact Nat.le_of_eq rfl) (hb hby d8_4) ?_
  rintro T2 L2 _ X2 ⟨rfl, N2q, e2⟩
  have N2 := Fr.app N0 N2q
  show own_Wp _ _ _ _ (T2.setTop (mkF m 7 #[rv a1, .val .null, iv p3] [(.int (2 : Int32))]))
  refine own_of (fun tgt kon => XS.tswIn X2.here hx rfl (pc0 := 7) (pc' := 50) (o := 43) rfl (hb hby d8_7) rfl (by decide) (by decide) (by decide) (by decide) kon) ?_
  show own_Wp _ _ _ _ (T2.setTop (mkF m 50 #[rv a1, .val .null, iv p3] []))
  refine own_of (fun tgt kon => XS.aloadN X2.here hx rfl (hb hby d8_50) rfl rfl kon) ?_
  obtain ⟨T3, X3, e3, st3⟩ := getF X2 hx hZ hown (host := "") (Or.inl (ow hw 52 rfl)) Via.refl e2 F_flag (g := (mkF m 51 #[rv a1, .val .null, iv p3] [(.ref a1)])) rfl rfl (hb hby d8_51)
  refine own_of st3 ?_
  clear st3
  refine own_of (fun tgt kon => XS.aloadN X3.here hx rfl (hb hby d8_54) rfl rfl kon) ?_
  refine own_callV X3 hx hZ (C := "java/lang/String") (y := (⟨"java/lang/String", "equals", "(Ljava/lang/Object;)Z"⟩ : MethodName)) (a := xf) (argsL := [.null]) (rest := []) (W := 0) hown (ow hw 102 rfl) (ow hw 103 rfl) (ow hw 105 rfl) (ow hw 104 rfl) (ow hw 6 rfl) (ow hw 106 rfl) (by decide) e3 E_xf (rmeqn l Z a0 hw [] xf h0 n0 Zs) (by decide) (by decide) (by decide) (by decide) rfl (by rw [hml]; rfl) (lenOf own_pd13 rfl) rfl (by show 2 * 0 + _ ≤ _; exact Nat.le_of_eq rfl) (hb hby d8_55) ?_
  rintro T4 L4 _ X4 ⟨rfl, N4q, e4⟩
  have N4 := Fr.app N2 N4q
  show own_Wp _ _ _ _ (T4.setTop (mkF m 58 #[rv a1, .val .null, iv p3] [(.int (0 : Int32))]))
  refine own_of (fun tgt kon => XS.goto X4.here hx rfl (pc0 := 58) (pc' := 74) rfl (hb hby d8_58) (by decide) (by decide) kon) ?_
  show own_Wp _ _ _ _ (T4.setTop (mkF m 74 #[rv a1, .val .null, iv p3] [(.int (0 : Int32))]))
  refine own_ret X4 hlk (some (.int (0 : Int32))) (own_rtI hrt) (fun fs hr => retN X4 hx (t := .boolean) hrt (by simp) (hb hby d8_74) hr) ?_ (by decide) (by decide)
  rw [e4]
  exact ⟨rfl, N4, rfl⟩
theorem d8_61 : decode prog_17_method_5_code 61 = .ok (.iload_n 2, 1) := by decide +kernel
theorem d8_62 : decode prog_17_method_5_code 62 = .ok (.aload_n 0, 1) := by decide +kernel
theorem d8_63 : decode prog_17_method_5_code 63 = .ok (.getfield 54, 3) := by decide +kernel
theorem d8_66 : decode prog_17_method_5_code 66 = .ok (.if_icmp .lt 7, 3) := by decide +kernel
theorem d8_73 : decode prog_17_method_5_code 73 = .ok (.iconst 0, 1) := by decide +kernel
theorem d8_69 : decode prog_17_method_5_code 69 = .ok (.iconst 1, 1) := by decide +kernel
theorem d8_70 : decode prog_17_method_5_code 70 = .ok (.goto 4, 3) := by decide +kernel
def Q_rmst3 (Z : State) (a1 : Addr) (ok : Addr) (xa : Addr) (vt : Int32) (p3 : Int32) (h0 : Heap) (n0 : Nat) (v : Option Value) (h : Heap) (L : List Loc) : Prop := v = some (.int (if p3 < vt then 0 else 1)) ∧ Fr n0 L ∧ h = h0
set_option maxRecDepth 65536 in
set_option maxHeartbeats 40000000 in
theorem rmst3 (l : Launch) (Z : State) (a0 : Array Value) (hw : ∀ d ∈ tables_1, d.before a0 Z = true) (ws : List Jvm.Cond) (a1 : Addr) (ok : Addr) (xa : Addr) (vt : Int32) (p3 : Int32) (h0 : Heap) (n0 : Nat) (Z0 : n0 ≤ h0.size) (E_ok : Exa Z h0 ok "com/example/iota_flow/iotaflow/definition/Merge$Kind") (F_ok : Fld Z h0 ok "java/lang/Enum" "ordinal" "I" (.int (3 : Int32))) (F_kind : Fld Z h0 a1 "com/example/iota_flow/iotaflow/definition/Merge" "kind" "Lcom/example/iota_flow/iotaflow/definition/Merge$Kind;" (.ref ok)) (F_votes : Fld Z h0 a1 "com/example/iota_flow/iotaflow/definition/Merge" "votes" "I" (.int vt)) :
    own_Ctr l Z (⟨"com/example/iota_flow/iotaflow/definition/Merge", "starts", "(Ljava/lang/String;I)Z"⟩ : MethodName) prog_17_method_5_code 3 (some .boolean) ws ({ frames := 1, cells := 0, slots := 0, locals := 12 } : Room) #[(.ref a1), (.ref xa), (.int p3)] h0 (Q_rmst3 Z a1 ok xa vt p3 h0 n0) := by
  refine own_enter (plainFor_of_name own_pn6) ?_
  intro p e s m below meth c s₁ X0 hx hby hml hrt hlk hZ hown hnm e0
  have N0 := Fr.nil n0
  have Zs := Z0
  rw [show entryFrame m #[(.ref a1), (.ref xa), (.int p3)] 3 = mkF m 0 #[rv a1, rv xa, iv p3] [] from by first | (simp [entryFrame, mkF, argsToLocals, Value.category]; done) | rfl]
  show own_Wp _ _ _ _ (s₁.setTop (mkF m 0 #[rv a1, rv xa, iv p3] []))
  refine own_of (fun tgt kon => XS.aloadN X0.here hx rfl (hb hby d8_0) rfl rfl kon) ?_
  obtain ⟨T1, X1, e1, st1⟩ := getF X0 hx hZ hown (host := "") (Or.inl (ow hw 50 rfl)) Via.refl e0 F_kind (g := (mkF m 1 #[rv a1, rv xa, iv p3] [(.ref a1)])) rfl rfl (hb hby d8_1)
  refine own_of st1 ?_
  clear st1
  refine own_callU X1 hx hZ (C := "com/example/iota_flow/iotaflow/definition/Merge$Kind") (owner := "java/lang/Enum") (x := (⟨"com/example/iota_flow/iotaflow/definition/Merge$Kind", "ordinal", "()I"⟩ : MethodName)) (y := (⟨"java/lang/Enum", "ordinal", "()I"⟩ : MethodName)) (a := ok) (argsL := []) (rest := []) (W := 0) hown (ow hw 61 rfl) (ow hw 62 rfl) (ow hw 63 rfl) (by decide) (ow hw 65 rfl) (ow hw 64 rfl) (ow hw 66 rfl) (ow hw 67 rfl) e1 E_ok (rmor l Z a0 hw [] ok (3 : Int32) h0 n0 Zs F_ok) (by decide) (by decide) (by decide) (by decide) rfl (by rw [hml]; rfl) (lenOf own_pd12 rfl) rfl (by show 2 * 0 + _ ≤ _; exact Nat.le_of_eq rfl) (hb hby d8_4) ?_
  rintro T2 L2 _ X2 ⟨rfl, N2q, e2⟩
  have N2 := Fr.app N0 N2q
  show own_Wp _ _ _ _ (T2.setTop (mkF m 7 #[rv a1, rv xa, iv p3] [(.int (3 : Int32))]))
  refine own_of (fun tgt kon => XS.tswIn X2.here hx rfl (pc0 := 7) (pc' := 61) (o := 54) rfl (hb hby d8_7) rfl (by decide) (by decide) (by decide) (by decide) kon) ?_
  show own_Wp _ _ _ _ (T2.setTop (mkF m 61 #[rv a1, rv xa, iv p3] []))
  refine own_of (fun tgt kon => XS.iloadN X2.here hx rfl (hb hby d8_61) rfl kon) ?_
  refine own_of (fun tgt kon => XS.aloadN X2.here hx rfl (hb hby d8_62) rfl rfl kon) ?_
  obtain ⟨T3, X3, e3, st3⟩ := getF X2 hx hZ hown (host := "") (Or.inl (ow hw 54 rfl)) Via.refl e2 F_votes (g := (mkF m 63 #[rv a1, rv xa, iv p3] [(.ref a1), (.int p3)])) rfl rfl (hb hby d8_63)
  refine own_of st3 ?_
  clear st3
  by_cases hc66 : p3 < vt
  · skip
    refine own_of (fun tgt kon => XS.icmpYes X3.here hx rfl (pc0 := 66) (pc' := 73) rfl (hb hby d8_66) rfl (tlt hc66).1 (by decide) (by decide) kon) ?_
    refine own_of (fun tgt kon => XS.iconst X3.here hx rfl (hb hby d8_73) kon) ?_
    show own_Wp _ _ _ _ (T3.setTop (mkF m 74 #[rv a1, rv xa, iv p3] [(.int (0 : Int32))]))
    refine own_ret X3 hlk (some (.int (0 : Int32))) (own_rtI hrt) (fun fs hr => retN X3 hx (t := .boolean) hrt (by simp) (hb hby d8_74) hr) ?_ (by decide) (by decide)
    rw [e3]
    exact ⟨by rw [if_pos hc66], N2, rfl⟩
  · skip
    refine own_of (fun tgt kon => XS.icmpNo X3.here hx rfl (hb hby d8_66) rfl (flt hc66).1 kon) ?_
    refine own_of (fun tgt kon => XS.iconst X3.here hx rfl (hb hby d8_69) kon) ?_
    show own_Wp _ _ _ _ (T3.setTop (mkF m 70 #[rv a1, rv xa, iv p3] [(.int (1 : Int32))]))
    refine own_of (fun tgt kon => XS.goto X3.here hx rfl (pc0 := 70) (pc' := 74) rfl (hb hby d8_70) (by decide) (by decide) kon) ?_
    show own_Wp _ _ _ _ (T3.setTop (mkF m 74 #[rv a1, rv xa, iv p3] [(.int (1 : Int32))]))
    refine own_ret X3 hlk (some (.int (1 : Int32))) (own_rtI hrt) (fun fs hr => retN X3 hx (t := .boolean) hrt (by simp) (hb hby d8_74) hr) ?_ (by decide) (by decide)
    rw [e3]
    exact ⟨by rw [if_neg hc66], N2, rfl⟩
def Q_rmst3n (Z : State) (a1 : Addr) (ok : Addr) (vt : Int32) (p3 : Int32) (h0 : Heap) (n0 : Nat) (v : Option Value) (h : Heap) (L : List Loc) : Prop := v = some (.int (if p3 < vt then 0 else 1)) ∧ Fr n0 L ∧ h = h0
set_option maxRecDepth 65536 in
set_option maxHeartbeats 40000000 in
theorem rmst3n (l : Launch) (Z : State) (a0 : Array Value) (hw : ∀ d ∈ tables_1, d.before a0 Z = true) (ws : List Jvm.Cond) (a1 : Addr) (ok : Addr) (vt : Int32) (p3 : Int32) (h0 : Heap) (n0 : Nat) (Z0 : n0 ≤ h0.size) (E_ok : Exa Z h0 ok "com/example/iota_flow/iotaflow/definition/Merge$Kind") (F_ok : Fld Z h0 ok "java/lang/Enum" "ordinal" "I" (.int (3 : Int32))) (F_kind : Fld Z h0 a1 "com/example/iota_flow/iotaflow/definition/Merge" "kind" "Lcom/example/iota_flow/iotaflow/definition/Merge$Kind;" (.ref ok)) (F_votes : Fld Z h0 a1 "com/example/iota_flow/iotaflow/definition/Merge" "votes" "I" (.int vt)) :
    own_Ctr l Z (⟨"com/example/iota_flow/iotaflow/definition/Merge", "starts", "(Ljava/lang/String;I)Z"⟩ : MethodName) prog_17_method_5_code 3 (some .boolean) ws ({ frames := 1, cells := 0, slots := 0, locals := 12 } : Room) #[(.ref a1), .null, (.int p3)] h0 (Q_rmst3n Z a1 ok vt p3 h0 n0) := by
  refine own_enter (plainFor_of_name own_pn6) ?_
  intro p e s m below meth c s₁ X0 hx hby hml hrt hlk hZ hown hnm e0
  have N0 := Fr.nil n0
  have Zs := Z0
  rw [show entryFrame m #[(.ref a1), .null, (.int p3)] 3 = mkF m 0 #[rv a1, .val .null, iv p3] [] from by first | (simp [entryFrame, mkF, argsToLocals, Value.category]; done) | rfl]
  show own_Wp _ _ _ _ (s₁.setTop (mkF m 0 #[rv a1, .val .null, iv p3] []))
  refine own_of (fun tgt kon => XS.aloadN X0.here hx rfl (hb hby d8_0) rfl rfl kon) ?_
  obtain ⟨T1, X1, e1, st1⟩ := getF X0 hx hZ hown (host := "") (Or.inl (ow hw 50 rfl)) Via.refl e0 F_kind (g := (mkF m 1 #[rv a1, .val .null, iv p3] [(.ref a1)])) rfl rfl (hb hby d8_1)
  refine own_of st1 ?_
  clear st1
  refine own_callU X1 hx hZ (C := "com/example/iota_flow/iotaflow/definition/Merge$Kind") (owner := "java/lang/Enum") (x := (⟨"com/example/iota_flow/iotaflow/definition/Merge$Kind", "ordinal", "()I"⟩ : MethodName)) (y := (⟨"java/lang/Enum", "ordinal", "()I"⟩ : MethodName)) (a := ok) (argsL := []) (rest := []) (W := 0) hown (ow hw 61 rfl) (ow hw 62 rfl) (ow hw 63 rfl) (by decide) (ow hw 65 rfl) (ow hw 64 rfl) (ow hw 66 rfl) (ow hw 67 rfl) e1 E_ok (rmor l Z a0 hw [] ok (3 : Int32) h0 n0 Zs F_ok) (by decide) (by decide) (by decide) (by decide) rfl (by rw [hml]; rfl) (lenOf own_pd12 rfl) rfl (by show 2 * 0 + _ ≤ _; exact Nat.le_of_eq rfl) (hb hby d8_4) ?_
  rintro T2 L2 _ X2 ⟨rfl, N2q, e2⟩
  have N2 := Fr.app N0 N2q
  show own_Wp _ _ _ _ (T2.setTop (mkF m 7 #[rv a1, .val .null, iv p3] [(.int (3 : Int32))]))
  refine own_of (fun tgt kon => XS.tswIn X2.here hx rfl (pc0 := 7) (pc' := 61) (o := 54) rfl (hb hby d8_7) rfl (by decide) (by decide) (by decide) (by decide) kon) ?_
  show own_Wp _ _ _ _ (T2.setTop (mkF m 61 #[rv a1, .val .null, iv p3] []))
  refine own_of (fun tgt kon => XS.iloadN X2.here hx rfl (hb hby d8_61) rfl kon) ?_
  refine own_of (fun tgt kon => XS.aloadN X2.here hx rfl (hb hby d8_62) rfl rfl kon) ?_
  obtain ⟨T3, X3, e3, st3⟩ := getF X2 hx hZ hown (host := "") (Or.inl (ow hw 54 rfl)) Via.refl e2 F_votes (g := (mkF m 63 #[rv a1, .val .null, iv p3] [(.ref a1), (.int p3)])) rfl rfl (hb hby d8_63)
  refine own_of st3 ?_
  clear st3
  by_cases hc66 : p3 < vt
  · skip
    refine own_of (fun tgt kon => XS.icmpYes X3.here hx rfl (pc0 := 66) (pc' := 73) rfl (hb hby d8_66) rfl (tlt hc66).1 (by decide) (by decide) kon) ?_
    refine own_of (fun tgt kon => XS.iconst X3.here hx rfl (hb hby d8_73) kon) ?_
    show own_Wp _ _ _ _ (T3.setTop (mkF m 74 #[rv a1, .val .null, iv p3] [(.int (0 : Int32))]))
    refine own_ret X3 hlk (some (.int (0 : Int32))) (own_rtI hrt) (fun fs hr => retN X3 hx (t := .boolean) hrt (by simp) (hb hby d8_74) hr) ?_ (by decide) (by decide)
    rw [e3]
    exact ⟨by rw [if_pos hc66], N2, rfl⟩
  · skip
    refine own_of (fun tgt kon => XS.icmpNo X3.here hx rfl (hb hby d8_66) rfl (flt hc66).1 kon) ?_
    refine own_of (fun tgt kon => XS.iconst X3.here hx rfl (hb hby d8_69) kon) ?_
    show own_Wp _ _ _ _ (T3.setTop (mkF m 70 #[rv a1, .val .null, iv p3] [(.int (1 : Int32))]))
    refine own_of (fun tgt kon => XS.goto X3.here hx rfl (pc0 := 70) (pc' := 74) rfl (hb hby d8_70) (by decide) (by decide) kon) ?_
    show own_Wp _ _ _ _ (T3.setTop (mkF m 74 #[rv a1, .val .null, iv p3] [(.int (1 : Int32))]))
    refine own_ret X3 hlk (some (.int (1 : Int32))) (own_rtI hrt) (fun fs hr => retN X3 hx (t := .boolean) hrt (by simp) (hb hby d8_74) hr) ?_ (by decide) (by decide)
    rw [e3]
    exact ⟨by rw [if_neg hc66], N2, rfl⟩
theorem own_pd14 : parseMethodDescriptor "(ICC)Ljava/lang/String;" = some ⟨[.int, .char, .char], some (.object "java/lang/String")⟩ := by decide +kernel
theorem own_pd15 : parseMethodDescriptor "(Lcom/example/iota_flow/iotaflow/definition/Merge$Kind;Ljava/lang/String;I)V" = some ⟨[(.object "com/example/iota_flow/iotaflow/definition/Merge$Kind"), (.object "java/lang/String"), .int], none⟩ := by decide +kernel
theorem own_pd16 : parseMethodDescriptor "(Ljava/lang/String;I)Z" = some ⟨[(.object "java/lang/String"), .int], some .boolean⟩ := by decide +kernel
theorem own_pd17 : parseMethodDescriptor "(II)I" = some ⟨[.int, .int], some .int⟩ := by decide +kernel
def Q_rm0 (Z : State) (p1 : Int32) (p2 : Int32) (p3 : Int32) (p4 : Int32) (p5 : Int32) (o0 : Addr) (o1 : Addr) (o2 : Addr) (o3 : Addr) (cz : Int32) (h0 : Heap) (n0 : Nat) (v : Option Value) (h : Heap) (L : List Loc) : Prop := v = some (.int 1) ∧ Fr n0 L
set_option maxRecDepth 65536 in
set_option maxHeartbeats 40000000 in
theorem rm0 (l : Launch) (Z : State) (a0 : Array Value) (hw : ∀ d ∈ tables_1, d.before a0 Z = true) (ws : List Jvm.Cond) (p1 : Int32) (p2 : Int32) (p3 : Int32) (p4 : Int32) (p5 : Int32) (o0 : Addr) (o1 : Addr) (o2 : Addr) (o3 : Addr) (cz : Int32) (h0 : Heap) (n0 : Nat) (Z0 : n0 ≤ h0.size) (S0 : Sta Z Z.heap "com/example/iota_flow/iotaflow/definition/Merge$Kind" "EVERY" "Lcom/example/iota_flow/iotaflow/definition/Merge$Kind;" (.ref o0)) (S1 : Sta Z Z.heap "com/example/iota_flow/iotaflow/definition/Merge$Kind" "FIRST" "Lcom/example/iota_flow/iotaflow/definition/Merge$Kind;" (.ref o1)) (S2 : Sta Z Z.heap "com/example/iota_flow/iotaflow/definition/Merge$Kind" "FLAG" "Lcom/example/iota_flow/iotaflow/definition/Merge$Kind;" (.ref o2)) (S3 : Sta Z Z.heap "com/example/iota_flow/iotaflow/definition/Merge$Kind" "VOTES" "Lcom/example/iota_flow/iotaflow/definition/Merge$Kind;" (.ref o3)) (ne01 : o0 ≠ o1) (ne02 : o0 ≠ o2) (ne03 : o0 ≠ o3) (ne12 : o1 ≠ o2) (ne13 : o1 ≠ o3) (ne23 : o2 ≠ o3) (E_o0 : Exa Z Z.heap o0 "com/example/iota_flow/iotaflow/definition/Merge$Kind") (E_o1 : Exa Z Z.heap o1 "com/example/iota_flow/iotaflow/definition/Merge$Kind") (E_o2 : Exa Z Z.heap o2 "com/example/iota_flow/iotaflow/definition/Merge$Kind") (E_o3 : Exa Z Z.heap o3 "com/example/iota_flow/iotaflow/definition/Merge$Kind") (Fo0 : Fld Z Z.heap o0 "java/lang/Enum" "ordinal" "I" (.int (0 : Int32))) (Fo1 : Fld Z Z.heap o1 "java/lang/Enum" "ordinal" "I" (.int (1 : Int32))) (Fo2 : Fld Z Z.heap o2 "java/lang/Enum" "ordinal" "I" (.int (2 : Int32))) (Fo3 : Fld Z Z.heap o3 "java/lang/Enum" "ordinal" "I" (.int (3 : Int32))) (S_C : Sta Z Z.heap "java/lang/String" "COMPACT_STRINGS" "Z" (.int cz)) (hcz : ¬ cz = 0) (O : Old Z n0 h0) :
    own_CtrG EL_1 l Z x code maxLocals ret ws room_1 #[(.int p1), (.int p2), (.int p3), (.int p4), (.int p5)] h0 (Q_rm0 Z p1 p2 p3 p4 p5 o0 o1 o2 o3 cz h0 n0) := by
  refine own_enterG (plainFor_of_name own_pn3) ?_
  intro p e s m below meth c s₁ X0 SH hx hby hml hrt hlk hZ hown hnm e0
  have N0 := Fr.nil n0
  have Zs := Z0
  rw [show entryFrame m #[(.int p1), (.int p2), (.int p3), (.int p4), (.int p5)] maxLocals = mkF m 0 #[iv p1, iv p2, iv p3, iv p4, iv p5, uu, uu, uu, uu, uu, uu, uu, uu, uu, uu, uu, uu, uu] [] from by first | (simp [entryFrame, mkF, argsToLocals, Value.category, maxLocals]; done) | rfl]
  show own_Wp _ _ _ _ (s₁.setTop (mkF m 0 #[iv p1, iv p2, iv p3, iv p4, iv p5, uu, uu, uu, uu, uu, uu, uu, uu, uu, uu, uu, uu, uu] []))
  refine own_of (fun tgt kon => XS.iloadN X0.here hx rfl (hb hby at_0) rfl kon) ?_
  refine own_of (fun tgt kon => XS.iconst X0.here hx rfl (hb hby at_1) kon) ?_
  refine own_of (fun tgt kon => XS.iand X0.here hx rfl (hb hby at_2) rfl kon) ?_
  show own_Wp _ _ _ _ (s₁.setTop (mkF m 3 #[iv p1, iv p2, iv p3, iv p4, iv p5, uu, uu, uu, uu, uu, uu, uu, uu, uu, uu, uu, uu, uu] [(.int (p1 &&& (3 : Int32)))]))
  obtain ⟨kk, h_kk⟩ : ∃ q : Int32, q = (p1 &&& (3 : Int32)) := ⟨_, rfl⟩
  rw [← h_kk]
  refine own_of (fun tgt kon => XS.istore X0.here hx rfl (hb hby at_3) rfl (l' := #[iv p1, iv p2, iv p3, iv p4, iv p5, iv kk, uu, uu, uu, uu, uu, uu, uu, uu, uu, uu, uu, uu]) rfl kon) ?_
  refine own_of (fun tgt kon => XS.iloadN X0.here hx rfl (hb hby at_5) rfl kon) ?_
  refine own_of (fun tgt kon => XS.sipush X0.here hx rfl (hb hby at_6) kon) ?_
  refine own_of (fun tgt kon => XS.iand X0.here hx rfl (hb hby at_9) rfl kon) ?_
  refine own_of (fun tgt kon => XS.i2c X0.here hx rfl (hb hby at_10) rfl kon) ?_
  show own_Wp _ _ _ _ (s₁.setTop (mkF m 11 #[iv p1, iv p2, iv p3, iv p4, iv p5, iv kk, uu, uu, uu, uu, uu, uu, uu, uu, uu, uu, uu, uu] [(.int ((p2 &&& (255 : Int32)).toUInt32.toUInt16.toUInt32.toInt32))]))
  obtain ⟨c0, h_c0⟩ : ∃ q : Int32, q = ((p2 &&& (255 : Int32)).toUInt32.toUInt16.toUInt32.toInt32) := ⟨_, rfl⟩
  rw [← h_c0]
  refine own_of (fun tgt kon => XS.istore X0.here hx rfl (hb hby at_11) rfl (l' := #[iv p1, iv p2, iv p3, iv p4, iv p5, iv kk, iv c0, uu, uu, uu, uu, uu, uu, uu, uu, uu, uu, uu]) rfl kon) ?_
  refine own_of (fun tgt kon => XS.iloadN X0.here hx rfl (hb hby at_13) rfl kon) ?_
  refine own_of (fun tgt kon => XS.bipush X0.here hx rfl (hb hby at_14) kon) ?_
  refine own_of (fun tgt kon => XS.iushr X0.here hx rfl (hb hby at_16) rfl kon) ?_
  refine own_of (fun tgt kon => XS.sipush X0.here hx rfl (hb hby at_17) kon) ?_
  show own_Wp _ _ _ _ (s₁.setTop (mkF m 20 #[iv p1, iv p2, iv p3, iv p4, iv p5, iv kk, iv c0, uu, uu, uu, uu, uu, uu, uu, uu, uu, uu, uu] [(.int (255 : Int32)), (.int ((p2.toUInt32 >>> ((8 : Int32) &&& 31).toUInt32).toInt32))]))
  refine own_of (fun tgt kon => XS.iand X0.here hx rfl (hb hby at_20) rfl kon) ?_
  refine own_of (fun tgt kon => XS.i2c X0.here hx rfl (hb hby at_21) rfl kon) ?_
  show own_Wp _ _ _ _ (s₁.setTop (mkF m 22 #[iv p1, iv p2, iv p3, iv p4, iv p5, iv kk, iv c0, uu, uu, uu, uu, uu, uu, uu, uu, uu, uu, uu] [(.int ((((p2.toUInt32 >>> ((8 : Int32) &&& 31).toUInt32).toInt32) &&& (255 : Int32)).toUInt32.toUInt16.toUInt32.toInt32))]))
  obtain ⟨c1, h_c1⟩ : ∃ q : Int32, q = ((((p2.toUInt32 >>> ((8 : Int32) &&& 31).toUInt32).toInt32) &&& (255 : Int32)).toUInt32.toUInt16.toUInt32.toInt32) := ⟨_, rfl⟩
  rw [← h_c1]
  refine own_of (fun tgt kon => XS.istore X0.here hx rfl (hb hby at_22) rfl (l' := #[iv p1, iv p2, iv p3, iv p4, iv p5, iv kk, iv c0, iv c1, uu, uu, uu, uu, uu, uu, uu, uu, uu, uu]) rfl kon) ?_
  refine own_of (fun tgt kon => XS.iloadN X0.here hx rfl (hb hby at_24) rfl kon) ?_
  refine own_of (fun tgt kon => XS.bipush X0.here hx rfl (hb hby at_25) kon) ?_
  refine own_of (fun tgt kon => XS.iushr X0.here hx rfl (hb hby at_27) rfl kon) ?_
  refine own_of (fun tgt kon => XS.iconst X0.here hx rfl (hb hby at_28) kon) ?_
  show own_Wp _ _ _ _ (s₁.setTop (mkF m 29 #[iv p1, iv p2, iv p3, iv p4, iv p5, iv kk, iv c0, iv c1, uu, uu, uu, uu, uu, uu, uu, uu, uu, uu] [(.int (3 : Int32)), (.int ((p2.toUInt32 >>> ((16 : Int32) &&& 31).toUInt32).toInt32))]))
  refine own_of (fun tgt kon => XS.iand X0.here hx rfl (hb hby at_29) rfl kon) ?_
  show own_Wp _ _ _ _ (s₁.setTop (mkF m 30 #[iv p1, iv p2, iv p3, iv p4, iv p5, iv kk, iv c0, iv c1, uu, uu, uu, uu, uu, uu, uu, uu, uu, uu] [(.int (((p2.toUInt32 >>> ((16 : Int32) &&& 31).toUInt32).toInt32) &&& (3 : Int32)))]))
  obtain ⟨fl, h_fl⟩ : ∃ q : Int32, q = (((p2.toUInt32 >>> ((16 : Int32) &&& 31).toUInt32).toInt32) &&& (3 : Int32)) := ⟨_, rfl⟩
  rw [← h_fl]
  refine own_of (fun tgt kon => XS.istore X0.here hx rfl (hb hby at_30) rfl (l' := #[iv p1, iv p2, iv p3, iv p4, iv p5, iv kk, iv c0, iv c1, iv fl, uu, uu, uu, uu, uu, uu, uu, uu, uu]) rfl kon) ?_
  show own_Wp _ _ _ _ (s₁.setTop (mkF m 32 #[iv p1, iv p2, iv p3, iv p4, iv p5, iv kk, iv c0, iv c1, iv fl, uu, uu, uu, uu, uu, uu, uu, uu, uu] []))
  clear h_kk
  have hc0 := own_C8.flag h_c0
  have hc1 := own_C8.flag h_c1
  clear h_c0 h_c1
  obtain ⟨nf, hnf, hfl⟩ := own_and3n h_fl
  clear h_fl
  subst hfl
  show own_Wp _ _ _ _ (s₁.setTop (mkF m 32 #[iv p1, iv p2, iv p3, iv p4, iv p5, iv kk, iv c0, iv c1, iv (Int32.ofNat nf), uu, uu, uu, uu, uu, uu, uu, uu, uu] []))
  have J41 : ∀ (n1 : Nat), (n1 ≤ 2) → own_Wp p.tables e below (own_KW room_1 s below (Q_rm0 Z p1 p2 p3 p4 p5 o0 o1 o2 o3 cz h0 n0)) (s₁.setTop (mkF m 41 #[iv p1, iv p2, iv p3, iv p4, iv p5, iv kk, iv c0, iv c1, iv (Int32.ofNat n1), uu, uu, uu, uu, uu, uu, uu, uu, uu] [])) := by
    intro n1 hn1
    refine own_of (fun tgt kon => XS.iloadN X0.here hx rfl (hb hby at_41) rfl kon) ?_
    refine own_of (fun tgt kon => XS.bipush X0.here hx rfl (hb hby at_42) kon) ?_
    refine own_of (fun tgt kon => XS.iushr X0.here hx rfl (hb hby at_44) rfl kon) ?_
    refine own_of (fun tgt kon => XS.iconst X0.here hx rfl (hb hby at_45) kon) ?_
    refine own_of (fun tgt kon => XS.iand X0.here hx rfl (hb hby at_46) rfl kon) ?_
    show own_Wp _ _ _ _ (s₁.setTop (mkF m 47 #[iv p1, iv p2, iv p3, iv p4, iv p5, iv kk, iv c0, iv c1, iv (Int32.ofNat n1), uu, uu, uu, uu, uu, uu, uu, uu, uu] [(.int (((p3.toUInt32 >>> ((24 : Int32) &&& 31).toUInt32).toInt32) &&& (1 : Int32)))]))
    have J57 : ∀ (sel : Int32), (sel = if (((p3.toUInt32 >>> ((24 : Int32) &&& 31).toUInt32).toInt32) &&& (1 : Int32)) = (0 : Int32) then (0 : Int32) else 255) → own_Wp p.tables e below (own_KW room_1 s below (Q_rm0 Z p1 p2 p3 p4 p5 o0 o1 o2 o3 cz h0 n0)) (s₁.setTop (mkF m 57 #[iv p1, iv p2, iv p3, iv p4, iv p5, iv kk, iv c0, iv c1, iv (Int32.ofNat n1), uu, uu, uu, uu, uu, uu, uu, uu, uu] [(.int sel)])) := by
      intro sel h_sel
      refine own_of (fun tgt kon => XS.istore X0.here hx rfl (hb hby at_57) rfl (l' := #[iv p1, iv p2, iv p3, iv p4, iv p5, iv kk, iv c0, iv c1, iv (Int32.ofNat n1), iv sel, uu, uu, uu, uu, uu, uu, uu, uu]) rfl kon) ?_
      refine own_of (fun tgt kon => XS.iload X0.here hx rfl (hb hby at_59) rfl kon) ?_
      refine own_of (fun tgt kon => XS.iloadN X0.here hx rfl (hb hby at_61) rfl kon) ?_
      refine own_of (fun tgt kon => XS.iload X0.here hx rfl (hb hby at_62) rfl kon) ?_
      refine own_of (fun tgt kon => XS.iand X0.here hx rfl (hb hby at_64) rfl kon) ?_
      show own_Wp _ _ _ _ (s₁.setTop (mkF m 65 #[iv p1, iv p2, iv p3, iv p4, iv p5, iv kk, iv c0, iv c1, iv (Int32.ofNat n1), iv sel, uu, uu, uu, uu, uu, uu, uu, uu] [(.int (p3 &&& sel)), (.int c0)]))
      refine own_of (fun tgt kon => XS.ixor X0.here hx rfl (hb hby at_65) rfl kon) ?_
      refine own_of (fun tgt kon => XS.i2c X0.here hx rfl (hb hby at_66) rfl kon) ?_
      show own_Wp _ _ _ _ (s₁.setTop (mkF m 67 #[iv p1, iv p2, iv p3, iv p4, iv p5, iv kk, iv c0, iv c1, iv (Int32.ofNat n1), iv sel, uu, uu, uu, uu, uu, uu, uu, uu] [(.int ((c0 ^^^ (p3 &&& sel)).toUInt32.toUInt16.toUInt32.toInt32))]))
      obtain ⟨d0, h_d0⟩ : ∃ q : Int32, q = ((c0 ^^^ (p3 &&& sel)).toUInt32.toUInt16.toUInt32.toInt32) := ⟨_, rfl⟩
      rw [← h_d0]
      refine own_of (fun tgt kon => XS.istore X0.here hx rfl (hb hby at_67) rfl (l' := #[iv p1, iv p2, iv p3, iv p4, iv p5, iv kk, iv c0, iv c1, iv (Int32.ofNat n1), iv sel, iv d0, uu, uu, uu, uu, uu, uu, uu]) rfl kon) ?_
      refine own_of (fun tgt kon => XS.iload X0.here hx rfl (hb hby at_69) rfl kon) ?_
      refine own_of (fun tgt kon => XS.iloadN X0.here hx rfl (hb hby at_71) rfl kon) ?_
      refine own_of (fun tgt kon => XS.bipush X0.here hx rfl (hb hby at_72) kon) ?_
      refine own_of (fun tgt kon => XS.iushr X0.here hx rfl (hb hby at_74) rfl kon) ?_
      show own_Wp _ _ _ _ (s₁.setTop (mkF m 75 #[iv p1, iv p2, iv p3, iv p4, iv p5, iv kk, iv c0, iv c1, iv (Int32.ofNat n1), iv sel, iv d0, uu, uu, uu, uu, uu, uu, uu] [(.int ((p3.toUInt32 >>> ((8 : Int32) &&& 31).toUInt32).toInt32)), (.int c1)]))
      refine own_of (fun tgt kon => XS.iload X0.here hx rfl (hb hby at_75) rfl kon) ?_
      refine own_of (fun tgt kon => XS.iand X0.here hx rfl (hb hby at_77) rfl kon) ?_
      refine own_of (fun tgt kon => XS.ixor X0.here hx rfl (hb hby at_78) rfl kon) ?_
      refine own_of (fun tgt kon => XS.i2c X0.here hx rfl (hb hby at_79) rfl kon) ?_
      show own_Wp _ _ _ _ (s₁.setTop (mkF m 80 #[iv p1, iv p2, iv p3, iv p4, iv p5, iv kk, iv c0, iv c1, iv (Int32.ofNat n1), iv sel, iv d0, uu, uu, uu, uu, uu, uu, uu] [(.int ((c1 ^^^ (((p3.toUInt32 >>> ((8 : Int32) &&& 31).toUInt32).toInt32) &&& sel)).toUInt32.toUInt16.toUInt32.toInt32))]))
      obtain ⟨d1, h_d1⟩ : ∃ q : Int32, q = ((c1 ^^^ (((p3.toUInt32 >>> ((8 : Int32) &&& 31).toUInt32).toInt32) &&& sel)).toUInt32.toUInt16.toUInt32.toInt32) := ⟨_, rfl⟩
      rw [← h_d1]
      refine own_of (fun tgt kon => XS.istore X0.here hx rfl (hb hby at_80) rfl (l' := #[iv p1, iv p2, iv p3, iv p4, iv p5, iv kk, iv c0, iv c1, iv (Int32.ofNat n1), iv sel, iv d0, iv d1, uu, uu, uu, uu, uu, uu]) rfl kon) ?_
      refine own_of (fun tgt kon => XS.iloadN X0.here hx rfl (hb hby at_82) rfl kon) ?_
      refine own_of (fun tgt kon => XS.bipush X0.here hx rfl (hb hby at_83) kon) ?_
      refine own_of (fun tgt kon => XS.iushr X0.here hx rfl (hb hby at_85) rfl kon) ?_
      refine own_of (fun tgt kon => XS.iconst X0.here hx rfl (hb hby at_86) kon) ?_
      show own_Wp _ _ _ _ (s₁.setTop (mkF m 87 #[iv p1, iv p2, iv p3, iv p4, iv p5, iv kk, iv c0, iv c1, iv (Int32.ofNat n1), iv sel, iv d0, iv d1, uu, uu, uu, uu, uu, uu] [(.int (3 : Int32)), (.int ((p3.toUInt32 >>> ((16 : Int32) &&& 31).toUInt32).toInt32))]))
      refine own_of (fun tgt kon => XS.iand X0.here hx rfl (hb hby at_87) rfl kon) ?_
      show own_Wp _ _ _ _ (s₁.setTop (mkF m 88 #[iv p1, iv p2, iv p3, iv p4, iv p5, iv kk, iv c0, iv c1, iv (Int32.ofNat n1), iv sel, iv d0, iv d1, uu, uu, uu, uu, uu, uu] [(.int (((p3.toUInt32 >>> ((16 : Int32) &&& 31).toUInt32).toInt32) &&& (3 : Int32)))]))
      obtain ⟨ac, h_ac⟩ : ∃ q : Int32, q = (((p3.toUInt32 >>> ((16 : Int32) &&& 31).toUInt32).toInt32) &&& (3 : Int32)) := ⟨_, rfl⟩
      rw [← h_ac]
      refine own_of (fun tgt kon => XS.istore X0.here hx rfl (hb hby at_88) rfl (l' := #[iv p1, iv p2, iv p3, iv p4, iv p5, iv kk, iv c0, iv c1, iv (Int32.ofNat n1), iv sel, iv d0, iv d1, iv ac, uu, uu, uu, uu, uu]) rfl kon) ?_
      show own_Wp _ _ _ _ (s₁.setTop (mkF m 90 #[iv p1, iv p2, iv p3, iv p4, iv p5, iv kk, iv c0, iv c1, iv (Int32.ofNat n1), iv sel, iv d0, iv d1, iv ac, uu, uu, uu, uu, uu] []))
      have hd0 := own_C8.arr hc0 h_sel h_d0
      have hd1 := own_C8.arr hc1 h_sel h_d1
      clear h_d0 h_d1 h_sel
      obtain ⟨n2, hn2', hac⟩ := own_and3n h_ac
      clear h_ac
      subst hac
      show own_Wp _ _ _ _ (s₁.setTop (mkF m 90 #[iv p1, iv p2, iv p3, iv p4, iv p5, iv kk, iv c0, iv c1, iv (Int32.ofNat n1), iv sel, iv d0, iv d1, iv (Int32.ofNat n2), uu, uu, uu, uu, uu] []))
      refine own_of (fun tgt kon => XS.iload X0.here hx rfl (hb hby at_90) rfl kon) ?_
      refine own_of (fun tgt kon => XS.iload X0.here hx rfl (hb hby at_92) rfl kon) ?_
      refine own_of (fun tgt kon => XS.iload X0.here hx rfl (hb hby at_94) rfl kon) ?_
      refine own_callSH X0 SH (own_EL hw) hx hZ (y := (⟨"com/example/iota_flow/iotaflow/definition/MergeStartsPinLaw", "make", "(ICC)Ljava/lang/String;"⟩ : MethodName)) (argsL := [(.int (Int32.ofNat n1)), (.int c0), (.int c1)]) (rest := []) (W := 0) hown (ow hw 0 rfl) (ow hw 1 rfl) (ow hw 2 rfl) (ow hw 3 rfl) (by decide) e0 (rmmk l Z a0 hw [] n1 c0 c1 cz h0 n0 Zs (by omega) hc0 hc1 S_C hcz O) all0 (by decide) (by decide) (by decide) (by decide) rfl (by rw [hml]; rfl) (lenOf own_pd14 rfl) rfl (by show 2 * 0 + _ ≤ _; exact Nat.le_of_eq rfl) (hb hby at_96) ?_
      clear hZ hown
      rintro sv1 T1 L1 _ X1 SHq hZ hown CH1 ⟨x1, v1, rfl, N1q, Kq1, g_x1, szq1, E_x1, F_value_x1, F_coder_x1, V_v1⟩
      have N1 := Fr.app N0 N1q
      show own_Wp _ _ _ _ (T1.setTop (mkF m 99 #[iv p1, iv p2, iv p3, iv p4, iv p5, iv kk, iv c0, iv c1, iv (Int32.ofNat n1), iv sel, iv d0, iv d1, iv (Int32.ofNat n2), uu, uu, uu, uu, uu] [(.ref x1)]))
      replace Zs := Nat.le_trans Zs Kq1.1
      replace O := O.keep Kq1 all0
      clear SH
      have SH := SHq
      clear SHq
      refine own_of (fun tgt kon => XS.astore X1.here hx rfl (hb hby at_99) rfl rfl (l' := #[iv p1, iv p2, iv p3, iv p4, iv p5, iv kk, iv c0, iv c1, iv (Int32.ofNat n1), iv sel, iv d0, iv d1, iv (Int32.ofNat n2), rv x1, uu, uu, uu, uu]) rfl kon) ?_
      refine own_of (fun tgt kon => XS.iload X1.here hx rfl (hb hby at_101) rfl kon) ?_
      refine own_of (fun tgt kon => XS.iconst X1.here hx rfl (hb hby at_103) kon) ?_
      by_cases hc104 : (Int32.ofNat n2) = (3 : Int32)
      · skip
        refine own_of (fun tgt kon => XS.icmpNo X1.here hx rfl (hb hby at_104) rfl (teq hc104).2 kon) ?_
        refine own_of (fun tgt kon => XS.aconstNull X1.here hx rfl (hb hby at_107) kon) ?_
        show own_Wp _ _ _ _ (T1.setTop (mkF m 108 #[iv p1, iv p2, iv p3, iv p4, iv p5, iv kk, iv c0, iv c1, iv (Int32.ofNat n1), iv sel, iv d0, iv d1, iv (Int32.ofNat n2), rv x1, uu, uu, uu, uu] [.null]))
        refine own_of (fun tgt kon => XS.goto X1.here hx rfl (pc0 := 108) (pc' := 120) rfl (hb hby at_108) (by decide) (by decide) kon) ?_
        refine own_of (fun tgt kon => XS.astore X1.here hx rfl (hb hby at_120) rfl rfl (l' := #[iv p1, iv p2, iv p3, iv p4, iv p5, iv kk, iv c0, iv c1, iv (Int32.ofNat n1), iv sel, iv d0, iv d1, iv (Int32.ofNat n2), rv x1, .val .null, uu, uu, uu]) rfl kon) ?_
        show own_Wp _ _ _ _ (T1.setTop (mkF m 122 #[iv p1, iv p2, iv p3, iv p4, iv p5, iv kk, iv c0, iv c1, iv (Int32.ofNat n1), iv sel, iv d0, iv d1, iv (Int32.ofNat n2), rv x1, .val .null, uu, uu, uu] []))
        have SW := SH.1
        clear SH
        refine own_of (fun tgt kon => XS.iload X1.here hx rfl (hb hby at_122) rfl kon) ?_
        by_cases hc124 : kk = (0 : Int32)
        · skip
          refine own_of (fun tgt kon => XS.ifNo X1.here hx rfl (hb hby at_124) rfl ((if0 _ _).trans (teq hc124).2) kon) ?_
          obtain ⟨T2, h2, X2, e2, E2, A2, D2, -, st2⟩ := newO X1 hx hZ hown (ow hw 26 rfl) (ow hw 27 rfl) (ow hw 28 rfl) rfl (g := (mkF m 127 #[iv p1, iv p2, iv p3, iv p4, iv p5, iv kk, iv c0, iv c1, iv (Int32.ofNat n1), iv sel, iv d0, iv d1, iv (Int32.ofNat n2), rv x1, .val .null, uu, uu, uu] [])) rfl (hb hby at_127) (by decide) (by decide)
          refine own_of st2 ?_
          clear st2
          obtain ⟨b2, gq2⟩ : ∃ z, z = T1.heap.size := ⟨_, rfl⟩
          rw [← gq2] at A2 D2 ⊢
          have ne_x1_b2 : x1 ≠ b2 := Nat.ne_of_lt (Nat.lt_of_lt_of_le E_x1.lt (Nat.le_of_eq gq2.symm))
          have ne_v1_b2 : v1 ≠ b2 := Nat.ne_of_lt (Nat.lt_of_lt_of_le V_v1.lt (Nat.le_of_eq gq2.symm))
          have g_b2 : n0 ≤ b2 := Nat.le_trans Zs (Nat.le_of_eq gq2.symm)
          replace Zs := Nat.le_trans Zs E2.1
          replace O := O.ext E2
          replace E_x1 := E_x1.ext E2
          replace F_value_x1 := F_value_x1.ext E2
          replace F_coder_x1 := F_coder_x1.ext E2
          replace V_v1 := V_v1.ext E2
          replace SW := SW.ext E2
          have E_b2 := A2
          have F_kind_b2 : Fld Z h2 b2 "com/example/iota_flow/iotaflow/definition/Merge" "kind" "Lcom/example/iota_flow/iotaflow/definition/Merge$Kind;" .null := D2 (Or.inr (ow hw 51 rfl)) (ty := (.object "com/example/iota_flow/iotaflow/definition/Merge$Kind")) (by decide)
          have F_flag_b2 : Fld Z h2 b2 "com/example/iota_flow/iotaflow/definition/Merge" "flag" "Ljava/lang/String;" .null := D2 (Or.inr (ow hw 53 rfl)) (ty := (.object "java/lang/String")) (by decide)
          have F_votes_b2 : Fld Z h2 b2 "com/example/iota_flow/iotaflow/definition/Merge" "votes" "I" (.int (0 : Int32)) := D2 (Or.inr (ow hw 55 rfl)) (ty := .int) (by decide)
          refine own_of (fun tgt kon => XS.dup X2.here hx rfl (hb hby at_130) rfl rfl kon) ?_
          obtain ⟨T3, X3, e3, st3⟩ := getS2 X2 hx hZ hown (host := "") (Or.inl (ow hw 29 rfl)) Via.refl e2 (S0.ext O.2) (g := (mkF m 131 #[iv p1, iv p2, iv p3, iv p4, iv p5, iv kk, iv c0, iv c1, iv (Int32.ofNat n1), iv sel, iv d0, iv d1, iv (Int32.ofNat n2), rv x1, .val .null, uu, uu, uu] [(.ref b2), (.ref b2)])) rfl (hb hby at_131)
          refine own_of st3 ?_
          clear st3
          show own_Wp _ _ _ _ (T3.setTop (mkF m 134 #[iv p1, iv p2, iv p3, iv p4, iv p5, iv kk, iv c0, iv c1, iv (Int32.ofNat n1), iv sel, iv d0, iv d1, iv (Int32.ofNat n2), rv x1, .val .null, uu, uu, uu] [(.ref o0), (.ref b2), (.ref b2)]))
          refine own_of (fun tgt kon => XS.aconstNull X3.here hx rfl (hb hby at_134) kon) ?_
          refine own_of (fun tgt kon => XS.iconst X3.here hx rfl (hb hby at_135) kon) ?_
          refine own_callIW X3 SW hx hZ (y := (⟨"com/example/iota_flow/iotaflow/definition/Merge", "<init>", "(Lcom/example/iota_flow/iotaflow/definition/Merge$Kind;Ljava/lang/String;I)V"⟩ : MethodName)) (a := b2) (argsL := [(.ref o0), .null, (.int (1 : Int32))]) (rest := [(.ref b2)]) (W := 1) rfl hown (ow hw 32 rfl) (ow hw 33 rfl) (ow hw 28 rfl) (ow hw 34 rfl) (by decide) e3 (rmmg0 l Z a0 hw [] b2 o0 o1 o2 o3  h2 n0 Zs O E_b2 _ _ _ F_kind_b2 F_flag_b2 F_votes_b2 g_b2 S0 S1 S2 S3 ne01 ne02 ne03 ne12 ne13 ne23) (by decide) (by decide) (by decide) (by decide) rfl (by rw [hml]; rfl) (lenOf own_pd15 rfl) rfl (by show 2 * 0 + _ ≤ _; exact Nat.le_of_eq rfl) (hb hby at_136) ?_
          clear hZ hown
          rintro sv4 T4 L4 _ X4 SWq4 hZ hown ⟨rfl, N4q, Kq4, Eq4, F4_kind, F4_flag, F4_votes⟩
          have N4 := Fr.app N1 N4q
          show own_Wp _ _ _ _ (T4.setTop (mkF m 139 #[iv p1, iv p2, iv p3, iv p4, iv p5, iv kk, iv c0, iv c1, iv (Int32.ofNat n1), iv sel, iv d0, iv d1, iv (Int32.ofNat n2), rv x1, .val .null, uu, uu, uu] [(.ref b2)]))
          replace Zs := Nat.le_trans Zs Kq4.1
          replace O := O.keep Kq4 (allS g_b2 all0)
          replace E_x1 := E_x1.keep Kq4
          replace F_value_x1 := F_value_x1.keep Kq4 (ninS ne_x1_b2 nin0)
          replace F_coder_x1 := F_coder_x1.keep Kq4 (ninS ne_x1_b2 nin0)
          replace V_v1 := V_v1.keep Kq4 (ninS ne_v1_b2 nin0)
          replace E_b2 := E_b2.keep Kq4
          replace E_b2 := Eq4
          have F_kind_b2 := F4_kind
          have F_flag_b2 := F4_flag
          have F_votes_b2 := F4_votes
          replace SW := SWq4
          refine own_of (fun tgt kon => XS.astore X4.here hx rfl (hb hby at_139) rfl rfl (l' := #[iv p1, iv p2, iv p3, iv p4, iv p5, iv kk, iv c0, iv c1, iv (Int32.ofNat n1), iv sel, iv d0, iv d1, iv (Int32.ofNat n2), rv x1, .val .null, rv b2, uu, uu]) rfl kon) ?_
          refine own_of (fun tgt kon => XS.iconst X4.here hx rfl (hb hby at_141) kon) ?_
          refine own_of (fun tgt kon => XS.istore X4.here hx rfl (hb hby at_142) rfl (l' := #[iv p1, iv p2, iv p3, iv p4, iv p5, iv kk, iv c0, iv c1, iv (Int32.ofNat n1), iv sel, iv d0, iv d1, iv (Int32.ofNat n2), rv x1, .val .null, rv b2, iv (1 : Int32), uu]) rfl kon) ?_
          refine own_of (fun tgt kon => XS.goto X4.here hx rfl (pc0 := 144) (pc' := 281) rfl (hb hby at_144) (by decide) (by decide) kon) ?_
          refine own_of (fun tgt kon => XS.aload X4.here hx rfl (hb hby at_281) rfl rfl kon) ?_
          show own_Wp _ _ _ _ (T4.setTop (mkF m 283 #[iv p1, iv p2, iv p3, iv p4, iv p5, iv kk, iv c0, iv c1, iv (Int32.ofNat n1), iv sel, iv d0, iv d1, iv (Int32.ofNat n2), rv x1, .val .null, rv b2, iv (1 : Int32), uu] [(.ref b2)]))
          refine own_of (fun tgt kon => XS.aload X4.here hx rfl (hb hby at_283) rfl rfl kon) ?_
          refine own_of (fun tgt kon => XS.iloadN X4.here hx rfl (hb hby at_285) rfl kon) ?_
          refine own_callV X4 hx hZ (C := "com/example/iota_flow/iotaflow/definition/Merge") (y := (⟨"com/example/iota_flow/iotaflow/definition/Merge", "starts", "(Ljava/lang/String;I)Z"⟩ : MethodName)) (a := b2) (argsL := [.null, (.int p4)]) (rest := []) (W := 0) hown (ow hw 56 rfl) (ow hw 57 rfl) (ow hw 59 rfl) (ow hw 58 rfl) (ow hw 28 rfl) (ow hw 60 rfl) (by decide) rfl E_b2 (rmst0n l Z a0 hw [] b2 o0  p4 T4.heap n0 Zs (E_o0.ext O.2) (Fo0.ext O.2) F_kind_b2) (by decide) (by decide) (by decide) (by decide) rfl (by rw [hml]; rfl) (lenOf own_pd16 rfl) rfl (by show 2 * 0 + _ ≤ _; exact Nat.le_of_eq rfl) (hb hby at_286) ?_
          rintro T5 L5 _ X5 ⟨rfl, N5q, e5⟩
          have N5 := Fr.app N4 N5q
          show own_Wp _ _ _ _ (T5.setTop (mkF m 289 #[iv p1, iv p2, iv p3, iv p4, iv p5, iv kk, iv c0, iv c1, iv (Int32.ofNat n1), iv sel, iv d0, iv d1, iv (Int32.ofNat n2), rv x1, .val .null, rv b2, iv (1 : Int32), uu] [(.int (1 : Int32))]))
          refine own_of (fun tgt kon => XS.iload X5.here hx rfl (hb hby at_289) rfl kon) ?_
          have hc291 : (1 : Int32) = (1 : Int32) := rfl
          refine own_of (fun tgt kon => XS.icmpNo X5.here hx rfl (hb hby at_291) rfl (teq hc291).2 kon) ?_
          refine own_of (fun tgt kon => XS.iconst X5.here hx rfl (hb hby at_294) kon) ?_
          refine own_of (fun tgt kon => XS.goto X5.here hx rfl (pc0 := 295) (pc' := 299) rfl (hb hby at_295) (by decide) (by decide) kon) ?_
          show own_Wp _ _ _ _ (T5.setTop (mkF m 299 #[iv p1, iv p2, iv p3, iv p4, iv p5, iv kk, iv c0, iv c1, iv (Int32.ofNat n1), iv sel, iv d0, iv d1, iv (Int32.ofNat n2), rv x1, .val .null, rv b2, iv (1 : Int32), uu] [(.int (1 : Int32))]))
          refine own_retW X5 (by rw [e5]; exact SW) hlk (some (.int (1 : Int32))) (own_rtI hrt) (fun fs hr => retN X5 hx (t := .boolean) hrt (by simp) (hb hby at_299) hr) ?_ (by decide) (by decide)
          rw [e5]
          exact ⟨rfl, N5⟩
        · skip
          refine own_of (fun tgt kon => XS.ifYes X1.here hx rfl (pc0 := 124) (pc' := 147) rfl (hb hby at_124) rfl ((if0 _ _).trans (feq hc124).2) (by decide) (by decide) kon) ?_
          refine own_of (fun tgt kon => XS.iload X1.here hx rfl (hb hby at_147) rfl kon) ?_
          refine own_of (fun tgt kon => XS.iconst X1.here hx rfl (hb hby at_149) kon) ?_
          by_cases hc150 : kk = (1 : Int32)
          · skip
            refine own_of (fun tgt kon => XS.icmpNo X1.here hx rfl (hb hby at_150) rfl (teq hc150).2 kon) ?_
            obtain ⟨T6, h6, X6, e6, E6, A6, D6, -, st6⟩ := newO X1 hx hZ hown (ow hw 26 rfl) (ow hw 27 rfl) (ow hw 28 rfl) rfl (g := (mkF m 153 #[iv p1, iv p2, iv p3, iv p4, iv p5, iv kk, iv c0, iv c1, iv (Int32.ofNat n1), iv sel, iv d0, iv d1, iv (Int32.ofNat n2), rv x1, .val .null, uu, uu, uu] [])) rfl (hb hby at_153) (by decide) (by decide)
            refine own_of st6 ?_
            clear st6
            obtain ⟨b6, gq6⟩ : ∃ z, z = T1.heap.size := ⟨_, rfl⟩
            rw [← gq6] at A6 D6 ⊢
            have ne_x1_b6 : x1 ≠ b6 := Nat.ne_of_lt (Nat.lt_of_lt_of_le E_x1.lt (Nat.le_of_eq gq6.symm))
            have ne_v1_b6 : v1 ≠ b6 := Nat.ne_of_lt (Nat.lt_of_lt_of_le V_v1.lt (Nat.le_of_eq gq6.symm))
            have g_b6 : n0 ≤ b6 := Nat.le_trans Zs (Nat.le_of_eq gq6.symm)
            replace Zs := Nat.le_trans Zs E6.1
            replace O := O.ext E6
            replace E_x1 := E_x1.ext E6
            replace F_value_x1 := F_value_x1.ext E6
            replace F_coder_x1 := F_coder_x1.ext E6
            replace V_v1 := V_v1.ext E6
            replace SW := SW.ext E6
            have E_b6 := A6
            have F_kind_b6 : Fld Z h6 b6 "com/example/iota_flow/iotaflow/definition/Merge" "kind" "Lcom/example/iota_flow/iotaflow/definition/Merge$Kind;" .null := D6 (Or.inr (ow hw 51 rfl)) (ty := (.object "com/example/iota_flow/iotaflow/definition/Merge$Kind")) (by decide)
            have F_flag_b6 : Fld Z h6 b6 "com/example/iota_flow/iotaflow/definition/Merge" "flag" "Ljava/lang/String;" .null := D6 (Or.inr (ow hw 53 rfl)) (ty := (.object "java/lang/String")) (by decide)
            have F_votes_b6 : Fld Z h6 b6 "com/example/iota_flow/iotaflow/definition/Merge" "votes" "I" (.int (0 : Int32)) := D6 (Or.inr (ow hw 55 rfl)) (ty := .int) (by decide)
            show own_Wp _ _ _ _ (T6.setTop (mkF m 156 #[iv p1, iv p2, iv p3, iv p4, iv p5, iv kk, iv c0, iv c1, iv (Int32.ofNat n1), iv sel, iv d0, iv d1, iv (Int32.ofNat n2), rv x1, .val .null, uu, uu, uu] [(.ref b6)]))
            refine own_of (fun tgt kon => XS.dup X6.here hx rfl (hb hby at_156) rfl rfl kon) ?_
            obtain ⟨T7, X7, e7, st7⟩ := getS2 X6 hx hZ hown (host := "") (Or.inl (ow hw 110 rfl)) Via.refl e6 (S1.ext O.2) (g := (mkF m 157 #[iv p1, iv p2, iv p3, iv p4, iv p5, iv kk, iv c0, iv c1, iv (Int32.ofNat n1), iv sel, iv d0, iv d1, iv (Int32.ofNat n2), rv x1, .val .null, uu, uu, uu] [(.ref b6), (.ref b6)])) rfl (hb hby at_157)
            refine own_of st7 ?_
            clear st7
            refine own_of (fun tgt kon => XS.aconstNull X7.here hx rfl (hb hby at_160) kon) ?_
            refine own_of (fun tgt kon => XS.iconst X7.here hx rfl (hb hby at_161) kon) ?_
            refine own_callIW X7 SW hx hZ (y := (⟨"com/example/iota_flow/iotaflow/definition/Merge", "<init>", "(Lcom/example/iota_flow/iotaflow/definition/Merge$Kind;Ljava/lang/String;I)V"⟩ : MethodName)) (a := b6) (argsL := [(.ref o1), .null, (.int (1 : Int32))]) (rest := [(.ref b6)]) (W := 1) rfl hown (ow hw 32 rfl) (ow hw 33 rfl) (ow hw 28 rfl) (ow hw 34 rfl) (by decide) e7 (rmmg1 l Z a0 hw [] b6 o0 o1 o2 o3  h6 n0 Zs O E_b6 _ _ _ F_kind_b6 F_flag_b6 F_votes_b6 g_b6 S0 S1 S2 S3 ne01 ne02 ne03 ne12 ne13 ne23) (by decide) (by decide) (by decide) (by decide) rfl (by rw [hml]; rfl) (lenOf own_pd15 rfl) rfl (by show 2 * 0 + _ ≤ _; exact Nat.le_of_eq rfl) (hb hby at_162) ?_
            clear hZ hown
            rintro sv8 T8 L8 _ X8 SWq8 hZ hown ⟨rfl, N8q, Kq8, Eq8, F8_kind, F8_flag, F8_votes⟩
            have N8 := Fr.app N1 N8q
            show own_Wp _ _ _ _ (T8.setTop (mkF m 165 #[iv p1, iv p2, iv p3, iv p4, iv p5, iv kk, iv c0, iv c1, iv (Int32.ofNat n1), iv sel, iv d0, iv d1, iv (Int32.ofNat n2), rv x1, .val .null, uu, uu, uu] [(.ref b6)]))
            replace Zs := Nat.le_trans Zs Kq8.1
            replace O := O.keep Kq8 (allS g_b6 all0)
            replace E_x1 := E_x1.keep Kq8
            replace F_value_x1 := F_value_x1.keep Kq8 (ninS ne_x1_b6 nin0)
            replace F_coder_x1 := F_coder_x1.keep Kq8 (ninS ne_x1_b6 nin0)
            replace V_v1 := V_v1.keep Kq8 (ninS ne_v1_b6 nin0)
            replace E_b6 := E_b6.keep Kq8
            replace E_b6 := Eq8
            have F_kind_b6 := F8_kind
            have F_flag_b6 := F8_flag
            have F_votes_b6 := F8_votes
            replace SW := SWq8
            refine own_of (fun tgt kon => XS.astore X8.here hx rfl (hb hby at_165) rfl rfl (l' := #[iv p1, iv p2, iv p3, iv p4, iv p5, iv kk, iv c0, iv c1, iv (Int32.ofNat n1), iv sel, iv d0, iv d1, iv (Int32.ofNat n2), rv x1, .val .null, rv b6, uu, uu]) rfl kon) ?_
            refine own_of (fun tgt kon => XS.iconst X8.here hx rfl (hb hby at_167) kon) ?_
            refine own_of (fun tgt kon => XS.istore X8.here hx rfl (hb hby at_168) rfl (l' := #[iv p1, iv p2, iv p3, iv p4, iv p5, iv kk, iv c0, iv c1, iv (Int32.ofNat n1), iv sel, iv d0, iv d1, iv (Int32.ofNat n2), rv x1, .val .null, rv b6, iv (1 : Int32), uu]) rfl kon) ?_
            refine own_of (fun tgt kon => XS.goto X8.here hx rfl (pc0 := 170) (pc' := 281) rfl (hb hby at_170) (by decide) (by decide) kon) ?_
            refine own_of (fun tgt kon => XS.aload X8.here hx rfl (hb hby at_281) rfl rfl kon) ?_
            show own_Wp _ _ _ _ (T8.setTop (mkF m 283 #[iv p1, iv p2, iv p3, iv p4, iv p5, iv kk, iv c0, iv c1, iv (Int32.ofNat n1), iv sel, iv d0, iv d1, iv (Int32.ofNat n2), rv x1, .val .null, rv b6, iv (1 : Int32), uu] [(.ref b6)]))
            refine own_of (fun tgt kon => XS.aload X8.here hx rfl (hb hby at_283) rfl rfl kon) ?_
            refine own_of (fun tgt kon => XS.iloadN X8.here hx rfl (hb hby at_285) rfl kon) ?_
            refine own_callV X8 hx hZ (C := "com/example/iota_flow/iotaflow/definition/Merge") (y := (⟨"com/example/iota_flow/iotaflow/definition/Merge", "starts", "(Ljava/lang/String;I)Z"⟩ : MethodName)) (a := b6) (argsL := [.null, (.int p4)]) (rest := []) (W := 0) hown (ow hw 56 rfl) (ow hw 57 rfl) (ow hw 59 rfl) (ow hw 58 rfl) (ow hw 28 rfl) (ow hw 60 rfl) (by decide) rfl E_b6 (rmst1n l Z a0 hw [] b6 o1  p4 T8.heap n0 Zs (E_o1.ext O.2) (Fo1.ext O.2) F_kind_b6) (by decide) (by decide) (by decide) (by decide) rfl (by rw [hml]; rfl) (lenOf own_pd16 rfl) rfl (by show 2 * 0 + _ ≤ _; exact Nat.le_of_eq rfl) (hb hby at_286) ?_
            rintro T9 L9 _ X9 ⟨rfl, N9q, e9⟩
            have N9 := Fr.app N8 N9q
            show own_Wp _ _ _ _ (T9.setTop (mkF m 289 #[iv p1, iv p2, iv p3, iv p4, iv p5, iv kk, iv c0, iv c1, iv (Int32.ofNat n1), iv sel, iv d0, iv d1, iv (Int32.ofNat n2), rv x1, .val .null, rv b6, iv (1 : Int32), uu] [(.int (1 : Int32))]))
            refine own_of (fun tgt kon => XS.iload X9.here hx rfl (hb hby at_289) rfl kon) ?_
            have hc291 : (1 : Int32) = (1 : Int32) := rfl
            refine own_of (fun tgt kon => XS.icmpNo X9.here hx rfl (hb hby at_291) rfl (teq hc291).2 kon) ?_
            refine own_of (fun tgt kon => XS.iconst X9.here hx rfl (hb hby at_294) kon) ?_
            refine own_of (fun tgt kon => XS.goto X9.here hx rfl (pc0 := 295) (pc' := 299) rfl (hb hby at_295) (by decide) (by decide) kon) ?_
            show own_Wp _ _ _ _ (T9.setTop (mkF m 299 #[iv p1, iv p2, iv p3, iv p4, iv p5, iv kk, iv c0, iv c1, iv (Int32.ofNat n1), iv sel, iv d0, iv d1, iv (Int32.ofNat n2), rv x1, .val .null, rv b6, iv (1 : Int32), uu] [(.int (1 : Int32))]))
            refine own_retW X9 (by rw [e9]; exact SW) hlk (some (.int (1 : Int32))) (own_rtI hrt) (fun fs hr => retN X9 hx (t := .boolean) hrt (by simp) (hb hby at_299) hr) ?_ (by decide) (by decide)
            rw [e9]
            exact ⟨rfl, N9⟩
          · skip
            refine own_of (fun tgt kon => XS.icmpYes X1.here hx rfl (pc0 := 150) (pc' := 173) rfl (hb hby at_150) rfl (feq hc150).2 (by decide) (by decide) kon) ?_
            refine own_of (fun tgt kon => XS.iload X1.here hx rfl (hb hby at_173) rfl kon) ?_
            show own_Wp _ _ _ _ (T1.setTop (mkF m 175 #[iv p1, iv p2, iv p3, iv p4, iv p5, iv kk, iv c0, iv c1, iv (Int32.ofNat n1), iv sel, iv d0, iv d1, iv (Int32.ofNat n2), rv x1, .val .null, uu, uu, uu] [(.int kk)]))
            refine own_of (fun tgt kon => XS.iconst X1.here hx rfl (hb hby at_175) kon) ?_
            by_cases hc176 : kk = (2 : Int32)
            · skip
              refine own_of (fun tgt kon => XS.icmpNo X1.here hx rfl (hb hby at_176) rfl (teq hc176).2 kon) ?_
              obtain ⟨T10, h10, X10, e10, E10, A10, D10, -, st10⟩ := newO X1 hx hZ hown (ow hw 26 rfl) (ow hw 27 rfl) (ow hw 28 rfl) rfl (g := (mkF m 179 #[iv p1, iv p2, iv p3, iv p4, iv p5, iv kk, iv c0, iv c1, iv (Int32.ofNat n1), iv sel, iv d0, iv d1, iv (Int32.ofNat n2), rv x1, .val .null, uu, uu, uu] [])) rfl (hb hby at_179) (by decide) (by decide)
              refine own_of st10 ?_
              clear st10
              obtain ⟨b10, gq10⟩ : ∃ z, z = T1.heap.size := ⟨_, rfl⟩
              rw [← gq10] at A10 D10 ⊢
              have ne_x1_b10 : x1 ≠ b10 := Nat.ne_of_lt (Nat.lt_of_lt_of_le E_x1.lt (Nat.le_of_eq gq10.symm))
              have ne_v1_b10 : v1 ≠ b10 := Nat.ne_of_lt (Nat.lt_of_lt_of_le V_v1.lt (Nat.le_of_eq gq10.symm))
              have g_b10 : n0 ≤ b10 := Nat.le_trans Zs (Nat.le_of_eq gq10.symm)
              replace Zs := Nat.le_trans Zs E10.1
              replace O := O.ext E10
              replace E_x1 := E_x1.ext E10
              replace F_value_x1 := F_value_x1.ext E10
              replace F_coder_x1 := F_coder_x1.ext E10
              replace V_v1 := V_v1.ext E10
              replace SW := SW.ext E10
              have E_b10 := A10
              have F_kind_b10 : Fld Z h10 b10 "com/example/iota_flow/iotaflow/definition/Merge" "kind" "Lcom/example/iota_flow/iotaflow/definition/Merge$Kind;" .null := D10 (Or.inr (ow hw 51 rfl)) (ty := (.object "com/example/iota_flow/iotaflow/definition/Merge$Kind")) (by decide)
              have F_flag_b10 : Fld Z h10 b10 "com/example/iota_flow/iotaflow/definition/Merge" "flag" "Ljava/lang/String;" .null := D10 (Or.inr (ow hw 53 rfl)) (ty := (.object "java/lang/String")) (by decide)
              have F_votes_b10 : Fld Z h10 b10 "com/example/iota_flow/iotaflow/definition/Merge" "votes" "I" (.int (0 : Int32)) := D10 (Or.inr (ow hw 55 rfl)) (ty := .int) (by decide)
              refine own_of (fun tgt kon => XS.dup X10.here hx rfl (hb hby at_182) rfl rfl kon) ?_
              obtain ⟨T11, X11, e11, st11⟩ := getS2 X10 hx hZ hown (host := "") (Or.inl (ow hw 101 rfl)) Via.refl e10 (S2.ext O.2) (g := (mkF m 183 #[iv p1, iv p2, iv p3, iv p4, iv p5, iv kk, iv c0, iv c1, iv (Int32.ofNat n1), iv sel, iv d0, iv d1, iv (Int32.ofNat n2), rv x1, .val .null, uu, uu, uu] [(.ref b10), (.ref b10)])) rfl (hb hby at_183)
              refine own_of st11 ?_
              clear st11
              show own_Wp _ _ _ _ (T11.setTop (mkF m 186 #[iv p1, iv p2, iv p3, iv p4, iv p5, iv kk, iv c0, iv c1, iv (Int32.ofNat n1), iv sel, iv d0, iv d1, iv (Int32.ofNat n2), rv x1, .val .null, uu, uu, uu] [(.ref o2), (.ref b10), (.ref b10)]))
              refine own_of (fun tgt kon => XS.aload X11.here hx rfl (hb hby at_186) rfl rfl kon) ?_
              refine own_of (fun tgt kon => XS.iconst X11.here hx rfl (hb hby at_188) kon) ?_
              refine own_callIW X11 SW hx hZ (y := (⟨"com/example/iota_flow/iotaflow/definition/Merge", "<init>", "(Lcom/example/iota_flow/iotaflow/definition/Merge$Kind;Ljava/lang/String;I)V"⟩ : MethodName)) (a := b10) (argsL := [(.ref o2), (.ref x1), (.int (1 : Int32))]) (rest := [(.ref b10)]) (W := 1) rfl hown (ow hw 32 rfl) (ow hw 33 rfl) (ow hw 28 rfl) (ow hw 34 rfl) (by decide) e11 (rmmg2 l Z a0 hw [] b10 o0 o1 o2 o3 x1 h10 n0 Zs O E_b10 _ _ _ F_kind_b10 F_flag_b10 F_votes_b10 g_b10 S0 S1 S2 S3 ne01 ne02 ne03 ne12 ne13 ne23) (by decide) (by decide) (by decide) (by decide) rfl (by rw [hml]; rfl) (lenOf own_pd15 rfl) rfl (by show 2 * 0 + _ ≤ _; exact Nat.le_of_eq rfl) (hb hby at_189) ?_
              clear hZ hown
              rintro sv12 T12 L12 _ X12 SWq12 hZ hown ⟨rfl, N12q, Kq12, Eq12, F12_kind, F12_flag, F12_votes⟩
              have N12 := Fr.app N1 N12q
              show own_Wp _ _ _ _ (T12.setTop (mkF m 192 #[iv p1, iv p2, iv p3, iv p4, iv p5, iv kk, iv c0, iv c1, iv (Int32.ofNat n1), iv sel, iv d0, iv d1, iv (Int32.ofNat n2), rv x1, .val .null, uu, uu, uu] [(.ref b10)]))
              replace Zs := Nat.le_trans Zs Kq12.1
              replace O := O.keep Kq12 (allS g_b10 all0)
              replace E_x1 := E_x1.keep Kq12
              replace F_value_x1 := F_value_x1.keep Kq12 (ninS ne_x1_b10 nin0)
              replace F_coder_x1 := F_coder_x1.keep Kq12 (ninS ne_x1_b10 nin0)
              replace V_v1 := V_v1.keep Kq12 (ninS ne_v1_b10 nin0)
              replace E_b10 := E_b10.keep Kq12
              replace E_b10 := Eq12
              have F_kind_b10 := F12_kind
              have F_flag_b10 := F12_flag
              have F_votes_b10 := F12_votes
              replace SW := SWq12
              refine own_of (fun tgt kon => XS.astore X12.here hx rfl (hb hby at_192) rfl rfl (l' := #[iv p1, iv p2, iv p3, iv p4, iv p5, iv kk, iv c0, iv c1, iv (Int32.ofNat n1), iv sel, iv d0, iv d1, iv (Int32.ofNat n2), rv x1, .val .null, rv b10, uu, uu]) rfl kon) ?_
              refine own_of (fun tgt kon => XS.aload X12.here hx rfl (hb hby at_194) rfl rfl kon) ?_
              refine own_of (fun tgt kon => XS.ifnullYes X12.here hx rfl (pc0 := 196) (pc' := 236) rfl (hb hby at_196) rfl (by decide) (by decide) kon) ?_
              refine own_of (fun tgt kon => XS.iconst X12.here hx rfl (hb hby at_236) kon) ?_
              refine own_of (fun tgt kon => XS.istore X12.here hx rfl (hb hby at_237) rfl (l' := #[iv p1, iv p2, iv p3, iv p4, iv p5, iv kk, iv c0, iv c1, iv (Int32.ofNat n1), iv sel, iv d0, iv d1, iv (Int32.ofNat n2), rv x1, .val .null, rv b10, iv (0 : Int32), uu]) rfl kon) ?_
              show own_Wp _ _ _ _ (T12.setTop (mkF m 239 #[iv p1, iv p2, iv p3, iv p4, iv p5, iv kk, iv c0, iv c1, iv (Int32.ofNat n1), iv sel, iv d0, iv d1, iv (Int32.ofNat n2), rv x1, .val .null, rv b10, iv (0 : Int32), uu] []))
              refine own_of (fun tgt kon => XS.goto X12.here hx rfl (pc0 := 239) (pc' := 281) rfl (hb hby at_239) (by decide) (by decide) kon) ?_
              refine own_of (fun tgt kon => XS.aload X12.here hx rfl (hb hby at_281) rfl rfl kon) ?_
              refine own_of (fun tgt kon => XS.aload X12.here hx rfl (hb hby at_283) rfl rfl kon) ?_
              refine own_of (fun tgt kon => XS.iloadN X12.here hx rfl (hb hby at_285) rfl kon) ?_
              refine own_callV X12 hx hZ (C := "com/example/iota_flow/iotaflow/definition/Merge") (y := (⟨"com/example/iota_flow/iotaflow/definition/Merge", "starts", "(Ljava/lang/String;I)Z"⟩ : MethodName)) (a := b10) (argsL := [.null, (.int p4)]) (rest := []) (W := 0) hown (ow hw 56 rfl) (ow hw 57 rfl) (ow hw 59 rfl) (ow hw 58 rfl) (ow hw 28 rfl) (ow hw 60 rfl) (by decide) rfl E_b10 (rmst2n l Z a0 hw [] b10 o2 x1 p4 T12.heap n0 Zs (E_o2.ext O.2) (Fo2.ext O.2) F_kind_b10 F_flag_b10 E_x1) (by decide) (by decide) (by decide) (by decide) rfl (by rw [hml]; rfl) (lenOf own_pd16 rfl) rfl (by show 2 * 0 + _ ≤ _; exact Nat.le_of_eq rfl) (hb hby at_286) ?_
              rintro T13 L13 _ X13 ⟨rfl, N13q, e13⟩
              have N13 := Fr.app N12 N13q
              show own_Wp _ _ _ _ (T13.setTop (mkF m 289 #[iv p1, iv p2, iv p3, iv p4, iv p5, iv kk, iv c0, iv c1, iv (Int32.ofNat n1), iv sel, iv d0, iv d1, iv (Int32.ofNat n2), rv x1, .val .null, rv b10, iv (0 : Int32), uu] [(.int (0 : Int32))]))
              refine own_of (fun tgt kon => XS.iload X13.here hx rfl (hb hby at_289) rfl kon) ?_
              have hc291 : (0 : Int32) = (0 : Int32) := rfl
              refine own_of (fun tgt kon => XS.icmpNo X13.here hx rfl (hb hby at_291) rfl (teq hc291).2 kon) ?_
              refine own_of (fun tgt kon => XS.iconst X13.here hx rfl (hb hby at_294) kon) ?_
              refine own_of (fun tgt kon => XS.goto X13.here hx rfl (pc0 := 295) (pc' := 299) rfl (hb hby at_295) (by decide) (by decide) kon) ?_
              show own_Wp _ _ _ _ (T13.setTop (mkF m 299 #[iv p1, iv p2, iv p3, iv p4, iv p5, iv kk, iv c0, iv c1, iv (Int32.ofNat n1), iv sel, iv d0, iv d1, iv (Int32.ofNat n2), rv x1, .val .null, rv b10, iv (0 : Int32), uu] [(.int (1 : Int32))]))
              refine own_retW X13 (by rw [e13]; exact SW) hlk (some (.int (1 : Int32))) (own_rtI hrt) (fun fs hr => retN X13 hx (t := .boolean) hrt (by simp) (hb hby at_299) hr) ?_ (by decide) (by decide)
              rw [e13]
              exact ⟨rfl, N13⟩
            · skip
              refine own_of (fun tgt kon => XS.icmpYes X1.here hx rfl (pc0 := 176) (pc' := 242) rfl (hb hby at_176) rfl (feq hc176).2 (by decide) (by decide) kon) ?_
              refine own_of (fun tgt kon => XS.iconst X1.here hx rfl (hb hby at_242) kon) ?_
              refine own_of (fun tgt kon => XS.iload X1.here hx rfl (hb hby at_243) rfl kon) ?_
              refine own_of (X1.ldcInt hx hown (mvT hZ (ow hw 70 rfl)) (g := (mkF m 245 #[iv p1, iv p2, iv p3, iv p4, iv p5, iv kk, iv c0, iv c1, iv (Int32.ofNat n1), iv sel, iv d0, iv d1, iv (Int32.ofNat n2), rv x1, .val .null, uu, uu, uu] [(.int p5), (.int (1 : Int32))])) rfl (hb hby at_245)) ?_
              show own_Wp _ _ _ _ (T1.setTop (mkF m 247 #[iv p1, iv p2, iv p3, iv p4, iv p5, iv kk, iv c0, iv c1, iv (Int32.ofNat n1), iv sel, iv d0, iv d1, iv (Int32.ofNat n2), rv x1, .val .null, uu, uu, uu] [(.int (2147483647 : Int32)), (.int p5), (.int (1 : Int32))]))
              refine own_of (fun tgt kon => XS.iand X1.here hx rfl (hb hby at_247) rfl kon) ?_
              refine own_callS X1 hx hZ (y := (⟨"java/lang/Math", "max", "(II)I"⟩ : MethodName)) (argsL := [(.int (1 : Int32)), (.int (p5 &&& (2147483647 : Int32)))]) (rest := []) (W := 0) hown (ow hw 71 rfl) (ow hw 72 rfl) (ow hw 73 rfl) (ow hw 74 rfl) (by decide) rfl (rmmx l Z a0 hw [] (1 : Int32) (p5 &&& (2147483647 : Int32)) T1.heap n0 Zs) (by decide) (by decide) (by decide) (by decide) rfl (by rw [hml]; rfl) (lenOf own_pd17 rfl) rfl (by show 2 * 0 + _ ≤ _; exact Nat.le_of_eq rfl) (hb hby at_248) ?_
              rintro T14 L14 _ X14 ⟨rfl, N14q, e14⟩
              have N14 := Fr.app N1 N14q
              show own_Wp _ _ _ _ (T14.setTop (mkF m 251 #[iv p1, iv p2, iv p3, iv p4, iv p5, iv kk, iv c0, iv c1, iv (Int32.ofNat n1), iv sel, iv d0, iv d1, iv (Int32.ofNat n2), rv x1, .val .null, uu, uu, uu] [(.int (own_mx (1 : Int32) (p5 &&& (2147483647 : Int32))))]))
              obtain ⟨vt, h_vt⟩ : ∃ q : Int32, q = (own_mx (1 : Int32) (p5 &&& (2147483647 : Int32))) := ⟨_, rfl⟩
              rw [← h_vt]
              refine own_of (fun tgt kon => XS.istore X14.here hx rfl (hb hby at_251) rfl (l' := #[iv p1, iv p2, iv p3, iv p4, iv p5, iv kk, iv c0, iv c1, iv (Int32.ofNat n1), iv sel, iv d0, iv d1, iv (Int32.ofNat n2), rv x1, .val .null, uu, uu, iv vt]) rfl kon) ?_
              show own_Wp _ _ _ _ (T14.setTop (mkF m 253 #[iv p1, iv p2, iv p3, iv p4, iv p5, iv kk, iv c0, iv c1, iv (Int32.ofNat n1), iv sel, iv d0, iv d1, iv (Int32.ofNat n2), rv x1, .val .null, uu, uu, iv vt] []))
              have hv : ¬ vt < 1 := by rw [h_vt]; exact own_mx1 _
              obtain ⟨T15, h15, X15, e15, E15, A15, D15, -, st15⟩ := newO X14 hx hZ hown (ow hw 26 rfl) (ow hw 27 rfl) (ow hw 28 rfl) e14 (g := (mkF m 253 #[iv p1, iv p2, iv p3, iv p4, iv p5, iv kk, iv c0, iv c1, iv (Int32.ofNat n1), iv sel, iv d0, iv d1, iv (Int32.ofNat n2), rv x1, .val .null, uu, uu, iv vt] [])) rfl (hb hby at_253) (by decide) (by decide)
              refine own_of st15 ?_
              clear st15
              obtain ⟨b15, gq15⟩ : ∃ z, z = T1.heap.size := ⟨_, rfl⟩
              rw [← gq15] at A15 D15 ⊢
              have ne_x1_b15 : x1 ≠ b15 := Nat.ne_of_lt (Nat.lt_of_lt_of_le E_x1.lt (Nat.le_of_eq gq15.symm))
              have ne_v1_b15 : v1 ≠ b15 := Nat.ne_of_lt (Nat.lt_of_lt_of_le V_v1.lt (Nat.le_of_eq gq15.symm))
              have g_b15 : n0 ≤ b15 := Nat.le_trans Zs (Nat.le_of_eq gq15.symm)
              replace Zs := Nat.le_trans Zs E15.1
              replace O := O.ext E15
              replace E_x1 := E_x1.ext E15
              replace F_value_x1 := F_value_x1.ext E15
              replace F_coder_x1 := F_coder_x1.ext E15
              replace V_v1 := V_v1.ext E15
              replace SW := SW.ext E15
              have E_b15 := A15
              have F_kind_b15 : Fld Z h15 b15 "com/example/iota_flow/iotaflow/definition/Merge" "kind" "Lcom/example/iota_flow/iotaflow/definition/Merge$Kind;" .null := D15 (Or.inr (ow hw 51 rfl)) (ty := (.object "com/example/iota_flow/iotaflow/definition/Merge$Kind")) (by decide)
              have F_flag_b15 : Fld Z h15 b15 "com/example/iota_flow/iotaflow/definition/Merge" "flag" "Ljava/lang/String;" .null := D15 (Or.inr (ow hw 53 rfl)) (ty := (.object "java/lang/String")) (by decide)
              have F_votes_b15 : Fld Z h15 b15 "com/example/iota_flow/iotaflow/definition/Merge" "votes" "I" (.int (0 : Int32)) := D15 (Or.inr (ow hw 55 rfl)) (ty := .int) (by decide)
              refine own_of (fun tgt kon => XS.dup X15.here hx rfl (hb hby at_256) rfl rfl kon) ?_
              obtain ⟨T16, X16, e16, st16⟩ := getS2 X15 hx hZ hown (host := "") (Or.inl (ow hw 75 rfl)) Via.refl e15 (S3.ext O.2) (g := (mkF m 257 #[iv p1, iv p2, iv p3, iv p4, iv p5, iv kk, iv c0, iv c1, iv (Int32.ofNat n1), iv sel, iv d0, iv d1, iv (Int32.ofNat n2), rv x1, .val .null, uu, uu, iv vt] [(.ref b15), (.ref b15)])) rfl (hb hby at_257)
              refine own_of st16 ?_
              clear st16
              refine own_of (fun tgt kon => XS.aconstNull X16.here hx rfl (hb hby at_260) kon) ?_
              refine own_of (fun tgt kon => XS.iload X16.here hx rfl (hb hby at_261) rfl kon) ?_
              show own_Wp _ _ _ _ (T16.setTop (mkF m 263 #[iv p1, iv p2, iv p3, iv p4, iv p5, iv kk, iv c0, iv c1, iv (Int32.ofNat n1), iv sel, iv d0, iv d1, iv (Int32.ofNat n2), rv x1, .val .null, uu, uu, iv vt] [(.int vt), .null, (.ref o3), (.ref b15), (.ref b15)]))
              refine own_callIW X16 SW hx hZ (y := (⟨"com/example/iota_flow/iotaflow/definition/Merge", "<init>", "(Lcom/example/iota_flow/iotaflow/definition/Merge$Kind;Ljava/lang/String;I)V"⟩ : MethodName)) (a := b15) (argsL := [(.ref o3), .null, (.int vt)]) (rest := [(.ref b15)]) (W := 1) rfl hown (ow hw 32 rfl) (ow hw 33 rfl) (ow hw 28 rfl) (ow hw 34 rfl) (by decide) e16 (rmmg3 l Z a0 hw [] b15 o0 o1 o2 o3 vt h15 n0 Zs O E_b15 _ _ _ F_kind_b15 F_flag_b15 F_votes_b15 g_b15 S0 S1 S2 S3 ne01 ne02 ne03 ne12 ne13 ne23 hv) (by decide) (by decide) (by decide) (by decide) rfl (by rw [hml]; rfl) (lenOf own_pd15 rfl) rfl (by show 2 * 0 + _ ≤ _; exact Nat.le_of_eq rfl) (hb hby at_263) ?_
              clear hZ hown
              rintro sv17 T17 L17 _ X17 SWq17 hZ hown ⟨rfl, N17q, Kq17, Eq17, F17_kind, F17_flag, F17_votes⟩
              have N17 := Fr.app N14 N17q
              show own_Wp _ _ _ _ (T17.setTop (mkF m 266 #[iv p1, iv p2, iv p3, iv p4, iv p5, iv kk, iv c0, iv c1, iv (Int32.ofNat n1), iv sel, iv d0, iv d1, iv (Int32.ofNat n2), rv x1, .val .null, uu, uu, iv vt] [(.ref b15)]))
              replace Zs := Nat.le_trans Zs Kq17.1
              replace O := O.keep Kq17 (allS g_b15 all0)
              replace E_x1 := E_x1.keep Kq17
              replace F_value_x1 := F_value_x1.keep Kq17 (ninS ne_x1_b15 nin0)
              replace F_coder_x1 := F_coder_x1.keep Kq17 (ninS ne_x1_b15 nin0)
              replace V_v1 := V_v1.keep Kq17 (ninS ne_v1_b15 nin0)
              replace E_b15 := E_b15.keep Kq17
              replace E_b15 := Eq17
              have F_kind_b15 := F17_kind
              have F_flag_b15 := F17_flag
              have F_votes_b15 := F17_votes
              replace SW := SWq17
              refine own_of (fun tgt kon => XS.astore X17.here hx rfl (hb hby at_266) rfl rfl (l' := #[iv p1, iv p2, iv p3, iv p4, iv p5, iv kk, iv c0, iv c1, iv (Int32.ofNat n1), iv sel, iv d0, iv d1, iv (Int32.ofNat n2), rv x1, .val .null, rv b15, uu, iv vt]) rfl kon) ?_
              refine own_of (fun tgt kon => XS.iloadN X17.here hx rfl (hb hby at_268) rfl kon) ?_
              refine own_of (fun tgt kon => XS.iload X17.here hx rfl (hb hby at_269) rfl kon) ?_
              by_cases hc271 : p4 < vt
              · skip
                refine own_of (fun tgt kon => XS.icmpYes X17.here hx rfl (pc0 := 271) (pc' := 278) rfl (hb hby at_271) rfl (tlt hc271).1 (by decide) (by decide) kon) ?_
                refine own_of (fun tgt kon => XS.iconst X17.here hx rfl (hb hby at_278) kon) ?_
                show own_Wp _ _ _ _ (T17.setTop (mkF m 279 #[iv p1, iv p2, iv p3, iv p4, iv p5, iv kk, iv c0, iv c1, iv (Int32.ofNat n1), iv sel, iv d0, iv d1, iv (Int32.ofNat n2), rv x1, .val .null, rv b15, uu, iv vt] [(.int (0 : Int32))]))
                refine own_of (fun tgt kon => XS.istore X17.here hx rfl (hb hby at_279) rfl (l' := #[iv p1, iv p2, iv p3, iv p4, iv p5, iv kk, iv c0, iv c1, iv (Int32.ofNat n1), iv sel, iv d0, iv d1, iv (Int32.ofNat n2), rv x1, .val .null, rv b15, iv (0 : Int32), iv vt]) rfl kon) ?_
                refine own_of (fun tgt kon => XS.aload X17.here hx rfl (hb hby at_281) rfl rfl kon) ?_
                refine own_of (fun tgt kon => XS.aload X17.here hx rfl (hb hby at_283) rfl rfl kon) ?_
                refine own_of (fun tgt kon => XS.iloadN X17.here hx rfl (hb hby at_285) rfl kon) ?_
                refine own_callV X17 hx hZ (C := "com/example/iota_flow/iotaflow/definition/Merge") (y := (⟨"com/example/iota_flow/iotaflow/definition/Merge", "starts", "(Ljava/lang/String;I)Z"⟩ : MethodName)) (a := b15) (argsL := [.null, (.int p4)]) (rest := []) (W := 0) hown (ow hw 56 rfl) (ow hw 57 rfl) (ow hw 59 rfl) (ow hw 58 rfl) (ow hw 28 rfl) (ow hw 60 rfl) (by decide) rfl E_b15 (rmst3n l Z a0 hw [] b15 o3  vt p4 T17.heap n0 Zs (E_o3.ext O.2) (Fo3.ext O.2) F_kind_b15 F_votes_b15) (by decide) (by decide) (by decide) (by decide) rfl (by rw [hml]; rfl) (lenOf own_pd16 rfl) rfl (by show 2 * 0 + _ ≤ _; exact Nat.le_of_eq rfl) (hb hby at_286) ?_
                rintro T18 L18 _ X18 ⟨rfl, N18q, e18⟩
                have N18 := Fr.app N17 N18q
                show own_Wp _ _ _ _ (T18.setTop (mkF m 289 #[iv p1, iv p2, iv p3, iv p4, iv p5, iv kk, iv c0, iv c1, iv (Int32.ofNat n1), iv sel, iv d0, iv d1, iv (Int32.ofNat n2), rv x1, .val .null, rv b15, iv (0 : Int32), iv vt] [(.int (if p4 < vt then 0 else 1))]))
                refine own_of (fun tgt kon => XS.iload X18.here hx rfl (hb hby at_289) rfl kon) ?_
                have hc291 : (if p4 < vt then 0 else 1) = (0 : Int32) := if_pos hc271
                refine own_of (fun tgt kon => XS.icmpNo X18.here hx rfl (hb hby at_291) rfl (teq hc291).2 kon) ?_
                refine own_of (fun tgt kon => XS.iconst X18.here hx rfl (hb hby at_294) kon) ?_
                refine own_of (fun tgt kon => XS.goto X18.here hx rfl (pc0 := 295) (pc' := 299) rfl (hb hby at_295) (by decide) (by decide) kon) ?_
                show own_Wp _ _ _ _ (T18.setTop (mkF m 299 #[iv p1, iv p2, iv p3, iv p4, iv p5, iv kk, iv c0, iv c1, iv (Int32.ofNat n1), iv sel, iv d0, iv d1, iv (Int32.ofNat n2), rv x1, .val .null, rv b15, iv (0 : Int32), iv vt] [(.int (1 : Int32))]))
                refine own_retW X18 (by rw [e18]; exact SW) hlk (some (.int (1 : Int32))) (own_rtI hrt) (fun fs hr => retN X18 hx (t := .boolean) hrt (by simp) (hb hby at_299) hr) ?_ (by decide) (by decide)
                rw [e18]
                exact ⟨rfl, N18⟩
              · skip
                refine own_of (fun tgt kon => XS.icmpNo X17.here hx rfl (hb hby at_271) rfl (flt hc271).1 kon) ?_
                refine own_of (fun tgt kon => XS.iconst X17.here hx rfl (hb hby at_274) kon) ?_
                show own_Wp _ _ _ _ (T17.setTop (mkF m 275 #[iv p1, iv p2, iv p3, iv p4, iv p5, iv kk, iv c0, iv c1, iv (Int32.ofNat n1), iv sel, iv d0, iv d1, iv (Int32.ofNat n2), rv x1, .val .null, rv b15, uu, iv vt] [(.int (1 : Int32))]))
                refine own_of (fun tgt kon => XS.goto X17.here hx rfl (pc0 := 275) (pc' := 279) rfl (hb hby at_275) (by decide) (by decide) kon) ?_
                refine own_of (fun tgt kon => XS.istore X17.here hx rfl (hb hby at_279) rfl (l' := #[iv p1, iv p2, iv p3, iv p4, iv p5, iv kk, iv c0, iv c1, iv (Int32.ofNat n1), iv sel, iv d0, iv d1, iv (Int32.ofNat n2), rv x1, .val .null, rv b15, iv (1 : Int32), iv vt]) rfl kon) ?_
                refine own_of (fun tgt kon => XS.aload X17.here hx rfl (hb hby at_281) rfl rfl kon) ?_
                refine own_of (fun tgt kon => XS.aload X17.here hx rfl (hb hby at_283) rfl rfl kon) ?_
                refine own_of (fun tgt kon => XS.iloadN X17.here hx rfl (hb hby at_285) rfl kon) ?_
                show own_Wp _ _ _ _ (T17.setTop (mkF m 286 #[iv p1, iv p2, iv p3, iv p4, iv p5, iv kk, iv c0, iv c1, iv (Int32.ofNat n1), iv sel, iv d0, iv d1, iv (Int32.ofNat n2), rv x1, .val .null, rv b15, iv (1 : Int32), iv vt] [(.int p4), .null, (.ref b15)]))
                refine own_callV X17 hx hZ (C := "com/example/iota_flow/iotaflow/definition/Merge") (y := (⟨"com/example/iota_flow/iotaflow/definition/Merge", "starts", "(Ljava/lang/String;I)Z"⟩ : MethodName)) (a := b15) (argsL := [.null, (.int p4)]) (rest := []) (W := 0) hown (ow hw 56 rfl) (ow hw 57 rfl) (ow hw 59 rfl) (ow hw 58 rfl) (ow hw 28 rfl) (ow hw 60 rfl) (by decide) rfl E_b15 (rmst3n l Z a0 hw [] b15 o3  vt p4 T17.heap n0 Zs (E_o3.ext O.2) (Fo3.ext O.2) F_kind_b15 F_votes_b15) (by decide) (by decide) (by decide) (by decide) rfl (by rw [hml]; rfl) (lenOf own_pd16 rfl) rfl (by show 2 * 0 + _ ≤ _; exact Nat.le_of_eq rfl) (hb hby at_286) ?_
                rintro T19 L19 _ X19 ⟨rfl, N19q, e19⟩
                have N19 := Fr.app N17 N19q
                show own_Wp _ _ _ _ (T19.setTop (mkF m 289 #[iv p1, iv p2, iv p3, iv p4, iv p5, iv kk, iv c0, iv c1, iv (Int32.ofNat n1), iv sel, iv d0, iv d1, iv (Int32.ofNat n2), rv x1, .val .null, rv b15, iv (1 : Int32), iv vt] [(.int (if p4 < vt then 0 else 1))]))
                refine own_of (fun tgt kon => XS.iload X19.here hx rfl (hb hby at_289) rfl kon) ?_
                have hc291 : (if p4 < vt then 0 else 1) = (1 : Int32) := if_neg hc271
                refine own_of (fun tgt kon => XS.icmpNo X19.here hx rfl (hb hby at_291) rfl (teq hc291).2 kon) ?_
                refine own_of (fun tgt kon => XS.iconst X19.here hx rfl (hb hby at_294) kon) ?_
                refine own_of (fun tgt kon => XS.goto X19.here hx rfl (pc0 := 295) (pc' := 299) rfl (hb hby at_295) (by decide) (by decide) kon) ?_
                show own_Wp _ _ _ _ (T19.setTop (mkF m 299 #[iv p1, iv p2, iv p3, iv p4, iv p5, iv kk, iv c0, iv c1, iv (Int32.ofNat n1), iv sel, iv d0, iv d1, iv (Int32.ofNat n2), rv x1, .val .null, rv b15, iv (1 : Int32), iv vt] [(.int (1 : Int32))]))
                refine own_retW X19 (by rw [e19]; exact SW) hlk (some (.int (1 : Int32))) (own_rtI hrt) (fun fs hr => retN X19 hx (t := .boolean) hrt (by simp) (hb hby at_299) hr) ?_ (by decide) (by decide)
                rw [e19]
                exact ⟨rfl, N19⟩
      · skip
        refine own_of (fun tgt kon => XS.icmpYes X1.here hx rfl (pc0 := 104) (pc' := 111) rfl (hb hby at_104) rfl (feq hc104).2 (by decide) (by decide) kon) ?_
        refine own_of (fun tgt kon => XS.iload X1.here hx rfl (hb hby at_111) rfl kon) ?_
        show own_Wp _ _ _ _ (T1.setTop (mkF m 113 #[iv p1, iv p2, iv p3, iv p4, iv p5, iv kk, iv c0, iv c1, iv (Int32.ofNat n1), iv sel, iv d0, iv d1, iv (Int32.ofNat n2), rv x1, uu, uu, uu, uu] [(.int (Int32.ofNat n2))]))
        refine own_of (fun tgt kon => XS.iload X1.here hx rfl (hb hby at_113) rfl kon) ?_
        refine own_of (fun tgt kon => XS.iload X1.here hx rfl (hb hby at_115) rfl kon) ?_
        have hn2 : n2 ≤ 2 := by have : n2 ≠ 3 := fun q => hc104 (by rw [q]; rfl); omega
        have lt20_x1 := E_x1.lt
        have lt20_v1 := V_v1.lt
        refine own_callSH X1 SH (own_EL hw) hx hZ (y := (⟨"com/example/iota_flow/iotaflow/definition/MergeStartsPinLaw", "make", "(ICC)Ljava/lang/String;"⟩ : MethodName)) (argsL := [(.int (Int32.ofNat n2)), (.int d0), (.int d1)]) (rest := []) (W := 0) hown (ow hw 0 rfl) (ow hw 1 rfl) (ow hw 2 rfl) (ow hw 3 rfl) (by decide) rfl (rmmk l Z a0 hw [] n2 d0 d1 cz T1.heap n0 Zs (by omega) hd0 hd1 S_C hcz O) all0 (by decide) (by decide) (by decide) (by decide) rfl (by rw [hml]; rfl) (lenOf own_pd14 rfl) rfl (by show 2 * 0 + _ ≤ _; exact Nat.le_of_eq rfl) (hb hby at_117) ?_
        clear hZ hown
        rintro sv20 T20 L20 _ X20 SHq hZ hown CH20 ⟨x2, v2, rfl, N20q, Kq20, g_x2, szq20, E_x2, F_value_x2, F_coder_x2, V_v2⟩
        have N20 := Fr.app N1 N20q
        show own_Wp _ _ _ _ (T20.setTop (mkF m 120 #[iv p1, iv p2, iv p3, iv p4, iv p5, iv kk, iv c0, iv c1, iv (Int32.ofNat n1), iv sel, iv d0, iv d1, iv (Int32.ofNat n2), rv x1, uu, uu, uu, uu] [(.ref x2)]))
        replace Zs := Nat.le_trans Zs Kq20.1
        replace O := O.keep Kq20 all0
        replace E_x1 := E_x1.keep Kq20
        replace F_value_x1 := F_value_x1.keep Kq20 nin0
        replace F_coder_x1 := F_coder_x1.keep Kq20 nin0
        replace V_v1 := V_v1.keep Kq20 nin0
        have ne_x1_x2 : x1 ≠ x2 := Nat.ne_of_lt (Nat.lt_of_lt_of_le lt20_x1 szq20)
        have ne_v1_x2 : v1 ≠ x2 := Nat.ne_of_lt (Nat.lt_of_lt_of_le lt20_v1 szq20)
        clear SH
        have SH := SHq
        clear SHq
        refine own_of (fun tgt kon => XS.astore X20.here hx rfl (hb hby at_120) rfl rfl (l' := #[iv p1, iv p2, iv p3, iv p4, iv p5, iv kk, iv c0, iv c1, iv (Int32.ofNat n1), iv sel, iv d0, iv d1, iv (Int32.ofNat n2), rv x1, rv x2, uu, uu, uu]) rfl kon) ?_
        show own_Wp _ _ _ _ (T20.setTop (mkF m 122 #[iv p1, iv p2, iv p3, iv p4, iv p5, iv kk, iv c0, iv c1, iv (Int32.ofNat n1), iv sel, iv d0, iv d1, iv (Int32.ofNat n2), rv x1, rv x2, uu, uu, uu] []))
        have SW := SH.1
        clear SH
        refine own_of (fun tgt kon => XS.iload X20.here hx rfl (hb hby at_122) rfl kon) ?_
        by_cases hc124 : kk = (0 : Int32)
        · skip
          refine own_of (fun tgt kon => XS.ifNo X20.here hx rfl (hb hby at_124) rfl ((if0 _ _).trans (teq hc124).2) kon) ?_
          obtain ⟨T21, h21, X21, e21, E21, A21, D21, -, st21⟩ := newO X20 hx hZ hown (ow hw 26 rfl) (ow hw 27 rfl) (ow hw 28 rfl) rfl (g := (mkF m 127 #[iv p1, iv p2, iv p3, iv p4, iv p5, iv kk, iv c0, iv c1, iv (Int32.ofNat n1), iv sel, iv d0, iv d1, iv (Int32.ofNat n2), rv x1, rv x2, uu, uu, uu] [])) rfl (hb hby at_127) (by decide) (by decide)
          refine own_of st21 ?_
          clear st21
          obtain ⟨b21, gq21⟩ : ∃ z, z = T20.heap.size := ⟨_, rfl⟩
          rw [← gq21] at A21 D21 ⊢
          have ne_x1_b21 : x1 ≠ b21 := Nat.ne_of_lt (Nat.lt_of_lt_of_le E_x1.lt (Nat.le_of_eq gq21.symm))
          have ne_v1_b21 : v1 ≠ b21 := Nat.ne_of_lt (Nat.lt_of_lt_of_le V_v1.lt (Nat.le_of_eq gq21.symm))
          have ne_x2_b21 : x2 ≠ b21 := Nat.ne_of_lt (Nat.lt_of_lt_of_le E_x2.lt (Nat.le_of_eq gq21.symm))
          have ne_v2_b21 : v2 ≠ b21 := Nat.ne_of_lt (Nat.lt_of_lt_of_le V_v2.lt (Nat.le_of_eq gq21.symm))
          have g_b21 : n0 ≤ b21 := Nat.le_trans Zs (Nat.le_of_eq gq21.symm)
          replace Zs := Nat.le_trans Zs E21.1
          replace O := O.ext E21
          replace E_x1 := E_x1.ext E21
          replace F_value_x1 := F_value_x1.ext E21
          replace F_coder_x1 := F_coder_x1.ext E21
          replace V_v1 := V_v1.ext E21
          replace E_x2 := E_x2.ext E21
          replace F_value_x2 := F_value_x2.ext E21
          replace F_coder_x2 := F_coder_x2.ext E21
          replace V_v2 := V_v2.ext E21
          replace SW := SW.ext E21
          have E_b21 := A21
          have F_kind_b21 : Fld Z h21 b21 "com/example/iota_flow/iotaflow/definition/Merge" "kind" "Lcom/example/iota_flow/iotaflow/definition/Merge$Kind;" .null := D21 (Or.inr (ow hw 51 rfl)) (ty := (.object "com/example/iota_flow/iotaflow/definition/Merge$Kind")) (by decide)
          have F_flag_b21 : Fld Z h21 b21 "com/example/iota_flow/iotaflow/definition/Merge" "flag" "Ljava/lang/String;" .null := D21 (Or.inr (ow hw 53 rfl)) (ty := (.object "java/lang/String")) (by decide)
          have F_votes_b21 : Fld Z h21 b21 "com/example/iota_flow/iotaflow/definition/Merge" "votes" "I" (.int (0 : Int32)) := D21 (Or.inr (ow hw 55 rfl)) (ty := .int) (by decide)
          refine own_of (fun tgt kon => XS.dup X21.here hx rfl (hb hby at_130) rfl rfl kon) ?_
          obtain ⟨T22, X22, e22, st22⟩ := getS2 X21 hx hZ hown (host := "") (Or.inl (ow hw 29 rfl)) Via.refl e21 (S0.ext O.2) (g := (mkF m 131 #[iv p1, iv p2, iv p3, iv p4, iv p5, iv kk, iv c0, iv c1, iv (Int32.ofNat n1), iv sel, iv d0, iv d1, iv (Int32.ofNat n2), rv x1, rv x2, uu, uu, uu] [(.ref b21), (.ref b21)])) rfl (hb hby at_131)
          refine own_of st22 ?_
          clear st22
          show own_Wp _ _ _ _ (T22.setTop (mkF m 134 #[iv p1, iv p2, iv p3, iv p4, iv p5, iv kk, iv c0, iv c1, iv (Int32.ofNat n1), iv sel, iv d0, iv d1, iv (Int32.ofNat n2), rv x1, rv x2, uu, uu, uu] [(.ref o0), (.ref b21), (.ref b21)]))
          refine own_of (fun tgt kon => XS.aconstNull X22.here hx rfl (hb hby at_134) kon) ?_
          refine own_of (fun tgt kon => XS.iconst X22.here hx rfl (hb hby at_135) kon) ?_
          refine own_callIW X22 SW hx hZ (y := (⟨"com/example/iota_flow/iotaflow/definition/Merge", "<init>", "(Lcom/example/iota_flow/iotaflow/definition/Merge$Kind;Ljava/lang/String;I)V"⟩ : MethodName)) (a := b21) (argsL := [(.ref o0), .null, (.int (1 : Int32))]) (rest := [(.ref b21)]) (W := 1) rfl hown (ow hw 32 rfl) (ow hw 33 rfl) (ow hw 28 rfl) (ow hw 34 rfl) (by decide) e22 (rmmg0 l Z a0 hw [] b21 o0 o1 o2 o3  h21 n0 Zs O E_b21 _ _ _ F_kind_b21 F_flag_b21 F_votes_b21 g_b21 S0 S1 S2 S3 ne01 ne02 ne03 ne12 ne13 ne23) (by decide) (by decide) (by decide) (by decide) rfl (by rw [hml]; rfl) (lenOf own_pd15 rfl) rfl (by show 2 * 0 + _ ≤ _; exact Nat.le_of_eq rfl) (hb hby at_136) ?_
          clear hZ hown
          rintro sv23 T23 L23 _ X23 SWq23 hZ hown ⟨rfl, N23q, Kq23, Eq23, F23_kind, F23_flag, F23_votes⟩
          have N23 := Fr.app N20 N23q
          show own_Wp _ _ _ _ (T23.setTop (mkF m 139 #[iv p1, iv p2, iv p3, iv p4, iv p5, iv kk, iv c0, iv c1, iv (Int32.ofNat n1), iv sel, iv d0, iv d1, iv (Int32.ofNat n2), rv x1, rv x2, uu, uu, uu] [(.ref b21)]))
          replace Zs := Nat.le_trans Zs Kq23.1
          replace O := O.keep Kq23 (allS g_b21 all0)
          replace E_x1 := E_x1.keep Kq23
          replace F_value_x1 := F_value_x1.keep Kq23 (ninS ne_x1_b21 nin0)
          replace F_coder_x1 := F_coder_x1.keep Kq23 (ninS ne_x1_b21 nin0)
          replace V_v1 := V_v1.keep Kq23 (ninS ne_v1_b21 nin0)
          replace E_x2 := E_x2.keep Kq23
          replace F_value_x2 := F_value_x2.keep Kq23 (ninS ne_x2_b21 nin0)
          replace F_coder_x2 := F_coder_x2.keep Kq23 (ninS ne_x2_b21 nin0)
          replace V_v2 := V_v2.keep Kq23 (ninS ne_v2_b21 nin0)
          replace E_b21 := E_b21.keep Kq23
          replace E_b21 := Eq23
          have F_kind_b21 := F23_kind
          have F_flag_b21 := F23_flag
          have F_votes_b21 := F23_votes
          replace SW := SWq23
          refine own_of (fun tgt kon => XS.astore X23.here hx rfl (hb hby at_139) rfl rfl (l' := #[iv p1, iv p2, iv p3, iv p4, iv p5, iv kk, iv c0, iv c1, iv (Int32.ofNat n1), iv sel, iv d0, iv d1, iv (Int32.ofNat n2), rv x1, rv x2, rv b21, uu, uu]) rfl kon) ?_
          refine own_of (fun tgt kon => XS.iconst X23.here hx rfl (hb hby at_141) kon) ?_
          refine own_of (fun tgt kon => XS.istore X23.here hx rfl (hb hby at_142) rfl (l' := #[iv p1, iv p2, iv p3, iv p4, iv p5, iv kk, iv c0, iv c1, iv (Int32.ofNat n1), iv sel, iv d0, iv d1, iv (Int32.ofNat n2), rv x1, rv x2, rv b21, iv (1 : Int32), uu]) rfl kon) ?_
          refine own_of (fun tgt kon => XS.goto X23.here hx rfl (pc0 := 144) (pc' := 281) rfl (hb hby at_144) (by decide) (by decide) kon) ?_
          refine own_of (fun tgt kon => XS.aload X23.here hx rfl (hb hby at_281) rfl rfl kon) ?_
          show own_Wp _ _ _ _ (T23.setTop (mkF m 283 #[iv p1, iv p2, iv p3, iv p4, iv p5, iv kk, iv c0, iv c1, iv (Int32.ofNat n1), iv sel, iv d0, iv d1, iv (Int32.ofNat n2), rv x1, rv x2, rv b21, iv (1 : Int32), uu] [(.ref b21)]))
          refine own_of (fun tgt kon => XS.aload X23.here hx rfl (hb hby at_283) rfl rfl kon) ?_
          refine own_of (fun tgt kon => XS.iloadN X23.here hx rfl (hb hby at_285) rfl kon) ?_
          refine own_callV X23 hx hZ (C := "com/example/iota_flow/iotaflow/definition/Merge") (y := (⟨"com/example/iota_flow/iotaflow/definition/Merge", "starts", "(Ljava/lang/String;I)Z"⟩ : MethodName)) (a := b21) (argsL := [(.ref x2), (.int p4)]) (rest := []) (W := 0) hown (ow hw 56 rfl) (ow hw 57 rfl) (ow hw 59 rfl) (ow hw 58 rfl) (ow hw 28 rfl) (ow hw 60 rfl) (by decide) rfl E_b21 (rmst0 l Z a0 hw [] b21 o0 x2 p4 T23.heap n0 Zs (E_o0.ext O.2) (Fo0.ext O.2) F_kind_b21) (by decide) (by decide) (by decide) (by decide) rfl (by rw [hml]; rfl) (lenOf own_pd16 rfl) rfl (by show 2 * 0 + _ ≤ _; exact Nat.le_of_eq rfl) (hb hby at_286) ?_
          rintro T24 L24 _ X24 ⟨rfl, N24q, e24⟩
          have N24 := Fr.app N23 N24q
          show own_Wp _ _ _ _ (T24.setTop (mkF m 289 #[iv p1, iv p2, iv p3, iv p4, iv p5, iv kk, iv c0, iv c1, iv (Int32.ofNat n1), iv sel, iv d0, iv d1, iv (Int32.ofNat n2), rv x1, rv x2, rv b21, iv (1 : Int32), uu] [(.int (1 : Int32))]))
          refine own_of (fun tgt kon => XS.iload X24.here hx rfl (hb hby at_289) rfl kon) ?_
          have hc291 : (1 : Int32) = (1 : Int32) := rfl
          refine own_of (fun tgt kon => XS.icmpNo X24.here hx rfl (hb hby at_291) rfl (teq hc291).2 kon) ?_
          refine own_of (fun tgt kon => XS.iconst X24.here hx rfl (hb hby at_294) kon) ?_
          refine own_of (fun tgt kon => XS.goto X24.here hx rfl (pc0 := 295) (pc' := 299) rfl (hb hby at_295) (by decide) (by decide) kon) ?_
          show own_Wp _ _ _ _ (T24.setTop (mkF m 299 #[iv p1, iv p2, iv p3, iv p4, iv p5, iv kk, iv c0, iv c1, iv (Int32.ofNat n1), iv sel, iv d0, iv d1, iv (Int32.ofNat n2), rv x1, rv x2, rv b21, iv (1 : Int32), uu] [(.int (1 : Int32))]))
          refine own_retW X24 (by rw [e24]; exact SW) hlk (some (.int (1 : Int32))) (own_rtI hrt) (fun fs hr => retN X24 hx (t := .boolean) hrt (by simp) (hb hby at_299) hr) ?_ (by decide) (by decide)
          rw [e24]
          exact ⟨rfl, N24⟩
        · skip
          refine own_of (fun tgt kon => XS.ifYes X20.here hx rfl (pc0 := 124) (pc' := 147) rfl (hb hby at_124) rfl ((if0 _ _).trans (feq hc124).2) (by decide) (by decide) kon) ?_
          refine own_of (fun tgt kon => XS.iload X20.here hx rfl (hb hby at_147) rfl kon) ?_
          refine own_of (fun tgt kon => XS.iconst X20.here hx rfl (hb hby at_149) kon) ?_
          by_cases hc150 : kk = (1 : Int32)
          · skip
            refine own_of (fun tgt kon => XS.icmpNo X20.here hx rfl (hb hby at_150) rfl (teq hc150).2 kon) ?_
            obtain ⟨T25, h25, X25, e25, E25, A25, D25, -, st25⟩ := newO X20 hx hZ hown (ow hw 26 rfl) (ow hw 27 rfl) (ow hw 28 rfl) rfl (g := (mkF m 153 #[iv p1, iv p2, iv p3, iv p4, iv p5, iv kk, iv c0, iv c1, iv (Int32.ofNat n1), iv sel, iv d0, iv d1, iv (Int32.ofNat n2), rv x1, rv x2, uu, uu, uu] [])) rfl (hb hby at_153) (by decide) (by decide)
            refine own_of st25 ?_
            clear st25
            obtain ⟨b25, gq25⟩ : ∃ z, z = T20.heap.size := ⟨_, rfl⟩
            rw [← gq25] at A25 D25 ⊢
            have ne_x1_b25 : x1 ≠ b25 := Nat.ne_of_lt (Nat.lt_of_lt_of_le E_x1.lt (Nat.le_of_eq gq25.symm))
            have ne_v1_b25 : v1 ≠ b25 := Nat.ne_of_lt (Nat.lt_of_lt_of_le V_v1.lt (Nat.le_of_eq gq25.symm))
            have ne_x2_b25 : x2 ≠ b25 := Nat.ne_of_lt (Nat.lt_of_lt_of_le E_x2.lt (Nat.le_of_eq gq25.symm))
            have ne_v2_b25 : v2 ≠ b25 := Nat.ne_of_lt (Nat.lt_of_lt_of_le V_v2.lt (Nat.le_of_eq gq25.symm))
            have g_b25 : n0 ≤ b25 := Nat.le_trans Zs (Nat.le_of_eq gq25.symm)
            replace Zs := Nat.le_trans Zs E25.1
            replace O := O.ext E25
            replace E_x1 := E_x1.ext E25
            replace F_value_x1 := F_value_x1.ext E25
            replace F_coder_x1 := F_coder_x1.ext E25
            replace V_v1 := V_v1.ext E25
            replace E_x2 := E_x2.ext E25
            replace F_value_x2 := F_value_x2.ext E25
            replace F_coder_x2 := F_coder_x2.ext E25
            replace V_v2 := V_v2.ext E25
            replace SW := SW.ext E25
            have E_b25 := A25
            have F_kind_b25 : Fld Z h25 b25 "com/example/iota_flow/iotaflow/definition/Merge" "kind" "Lcom/example/iota_flow/iotaflow/definition/Merge$Kind;" .null := D25 (Or.inr (ow hw 51 rfl)) (ty := (.object "com/example/iota_flow/iotaflow/definition/Merge$Kind")) (by decide)
            have F_flag_b25 : Fld Z h25 b25 "com/example/iota_flow/iotaflow/definition/Merge" "flag" "Ljava/lang/String;" .null := D25 (Or.inr (ow hw 53 rfl)) (ty := (.object "java/lang/String")) (by decide)
            have F_votes_b25 : Fld Z h25 b25 "com/example/iota_flow/iotaflow/definition/Merge" "votes" "I" (.int (0 : Int32)) := D25 (Or.inr (ow hw 55 rfl)) (ty := .int) (by decide)
            show own_Wp _ _ _ _ (T25.setTop (mkF m 156 #[iv p1, iv p2, iv p3, iv p4, iv p5, iv kk, iv c0, iv c1, iv (Int32.ofNat n1), iv sel, iv d0, iv d1, iv (Int32.ofNat n2), rv x1, rv x2, uu, uu, uu] [(.ref b25)]))
            refine own_of (fun tgt kon => XS.dup X25.here hx rfl (hb hby at_156) rfl rfl kon) ?_
            obtain ⟨T26, X26, e26, st26⟩ := getS2 X25 hx hZ hown (host := "") (Or.inl (ow hw 110 rfl)) Via.refl e25 (S1.ext O.2) (g := (mkF m 157 #[iv p1, iv p2, iv p3, iv p4, iv p5, iv kk, iv c0, iv c1, iv (Int32.ofNat n1), iv sel, iv d0, iv d1, iv (Int32.ofNat n2), rv x1, rv x2, uu, uu, uu] [(.ref b25), (.ref b25)])) rfl (hb hby at_157)
            refine own_of st26 ?_
            clear st26
            refine own_of (fun tgt kon => XS.aconstNull X26.here hx rfl (hb hby at_160) kon) ?_
            refine own_of (fun tgt kon => XS.iconst X26.here hx rfl (hb hby at_161) kon) ?_
            refine own_callIW X26 SW hx hZ (y := (⟨"com/example/iota_flow/iotaflow/definition/Merge", "<init>", "(Lcom/example/iota_flow/iotaflow/definition/Merge$Kind;Ljava/lang/String;I)V"⟩ : MethodName)) (a := b25) (argsL := [(.ref o1), .null, (.int (1 : Int32))]) (rest := [(.ref b25)]) (W := 1) rfl hown (ow hw 32 rfl) (ow hw 33 rfl) (ow hw 28 rfl) (ow hw 34 rfl) (by decide) e26 (rmmg1 l Z a0 hw [] b25 o0 o1 o2 o3  h25 n0 Zs O E_b25 _ _ _ F_kind_b25 F_flag_b25 F_votes_b25 g_b25 S0 S1 S2 S3 ne01 ne02 ne03 ne12 ne13 ne23) (by decide) (by decide) (by decide) (by decide) rfl (by rw [hml]; rfl) (lenOf own_pd15 rfl) rfl (by show 2 * 0 + _ ≤ _; exact Nat.le_of_eq rfl) (hb hby at_162) ?_
            clear hZ hown
            rintro sv27 T27 L27 _ X27 SWq27 hZ hown ⟨rfl, N27q, Kq27, Eq27, F27_kind, F27_flag, F27_votes⟩
            have N27 := Fr.app N20 N27q
            show own_Wp _ _ _ _ (T27.setTop (mkF m 165 #[iv p1, iv p2, iv p3, iv p4, iv p5, iv kk, iv c0, iv c1, iv (Int32.ofNat n1), iv sel, iv d0, iv d1, iv (Int32.ofNat n2), rv x1, rv x2, uu, uu, uu] [(.ref b25)]))
            replace Zs := Nat.le_trans Zs Kq27.1
            replace O := O.keep Kq27 (allS g_b25 all0)
            replace E_x1 := E_x1.keep Kq27
            replace F_value_x1 := F_value_x1.keep Kq27 (ninS ne_x1_b25 nin0)
            replace F_coder_x1 := F_coder_x1.keep Kq27 (ninS ne_x1_b25 nin0)
            replace V_v1 := V_v1.keep Kq27 (ninS ne_v1_b25 nin0)
            replace E_x2 := E_x2.keep Kq27
            replace F_value_x2 := F_value_x2.keep Kq27 (ninS ne_x2_b25 nin0)
            replace F_coder_x2 := F_coder_x2.keep Kq27 (ninS ne_x2_b25 nin0)
            replace V_v2 := V_v2.keep Kq27 (ninS ne_v2_b25 nin0)
            replace E_b25 := E_b25.keep Kq27
            replace E_b25 := Eq27
            have F_kind_b25 := F27_kind
            have F_flag_b25 := F27_flag
            have F_votes_b25 := F27_votes
            replace SW := SWq27
            refine own_of (fun tgt kon => XS.astore X27.here hx rfl (hb hby at_165) rfl rfl (l' := #[iv p1, iv p2, iv p3, iv p4, iv p5, iv kk, iv c0, iv c1, iv (Int32.ofNat n1), iv sel, iv d0, iv d1, iv (Int32.ofNat n2), rv x1, rv x2, rv b25, uu, uu]) rfl kon) ?_
            refine own_of (fun tgt kon => XS.iconst X27.here hx rfl (hb hby at_167) kon) ?_
            refine own_of (fun tgt kon => XS.istore X27.here hx rfl (hb hby at_168) rfl (l' := #[iv p1, iv p2, iv p3, iv p4, iv p5, iv kk, iv c0, iv c1, iv (Int32.ofNat n1), iv sel, iv d0, iv d1, iv (Int32.ofNat n2), rv x1, rv x2, rv b25, iv (1 : Int32), uu]) rfl kon) ?_
            refine own_of (fun tgt kon => XS.goto X27.here hx rfl (pc0 := 170) (pc' := 281) rfl (hb hby at_170) (by decide) (by decide) kon) ?_
            refine own_of (fun tgt kon => XS.aload X27.here hx rfl (hb hby at_281) rfl rfl kon) ?_
            show own_Wp _ _ _ _ (T27.setTop (mkF m 283 #[iv p1, iv p2, iv p3, iv p4, iv p5, iv kk, iv c0, iv c1, iv (Int32.ofNat n1), iv sel, iv d0, iv d1, iv (Int32.ofNat n2), rv x1, rv x2, rv b25, iv (1 : Int32), uu] [(.ref b25)]))
            refine own_of (fun tgt kon => XS.aload X27.here hx rfl (hb hby at_283) rfl rfl kon) ?_
            refine own_of (fun tgt kon => XS.iloadN X27.here hx rfl (hb hby at_285) rfl kon) ?_
            refine own_callV X27 hx hZ (C := "com/example/iota_flow/iotaflow/definition/Merge") (y := (⟨"com/example/iota_flow/iotaflow/definition/Merge", "starts", "(Ljava/lang/String;I)Z"⟩ : MethodName)) (a := b25) (argsL := [(.ref x2), (.int p4)]) (rest := []) (W := 0) hown (ow hw 56 rfl) (ow hw 57 rfl) (ow hw 59 rfl) (ow hw 58 rfl) (ow hw 28 rfl) (ow hw 60 rfl) (by decide) rfl E_b25 (rmst1 l Z a0 hw [] b25 o1 x2 p4 T27.heap n0 Zs (E_o1.ext O.2) (Fo1.ext O.2) F_kind_b25) (by decide) (by decide) (by decide) (by decide) rfl (by rw [hml]; rfl) (lenOf own_pd16 rfl) rfl (by show 2 * 0 + _ ≤ _; exact Nat.le_of_eq rfl) (hb hby at_286) ?_
            rintro T28 L28 _ X28 ⟨rfl, N28q, e28⟩
            have N28 := Fr.app N27 N28q
            show own_Wp _ _ _ _ (T28.setTop (mkF m 289 #[iv p1, iv p2, iv p3, iv p4, iv p5, iv kk, iv c0, iv c1, iv (Int32.ofNat n1), iv sel, iv d0, iv d1, iv (Int32.ofNat n2), rv x1, rv x2, rv b25, iv (1 : Int32), uu] [(.int (1 : Int32))]))
            refine own_of (fun tgt kon => XS.iload X28.here hx rfl (hb hby at_289) rfl kon) ?_
            have hc291 : (1 : Int32) = (1 : Int32) := rfl
            refine own_of (fun tgt kon => XS.icmpNo X28.here hx rfl (hb hby at_291) rfl (teq hc291).2 kon) ?_
            refine own_of (fun tgt kon => XS.iconst X28.here hx rfl (hb hby at_294) kon) ?_
            refine own_of (fun tgt kon => XS.goto X28.here hx rfl (pc0 := 295) (pc' := 299) rfl (hb hby at_295) (by decide) (by decide) kon) ?_
            show own_Wp _ _ _ _ (T28.setTop (mkF m 299 #[iv p1, iv p2, iv p3, iv p4, iv p5, iv kk, iv c0, iv c1, iv (Int32.ofNat n1), iv sel, iv d0, iv d1, iv (Int32.ofNat n2), rv x1, rv x2, rv b25, iv (1 : Int32), uu] [(.int (1 : Int32))]))
            refine own_retW X28 (by rw [e28]; exact SW) hlk (some (.int (1 : Int32))) (own_rtI hrt) (fun fs hr => retN X28 hx (t := .boolean) hrt (by simp) (hb hby at_299) hr) ?_ (by decide) (by decide)
            rw [e28]
            exact ⟨rfl, N28⟩
          · skip
            refine own_of (fun tgt kon => XS.icmpYes X20.here hx rfl (pc0 := 150) (pc' := 173) rfl (hb hby at_150) rfl (feq hc150).2 (by decide) (by decide) kon) ?_
            refine own_of (fun tgt kon => XS.iload X20.here hx rfl (hb hby at_173) rfl kon) ?_
            show own_Wp _ _ _ _ (T20.setTop (mkF m 175 #[iv p1, iv p2, iv p3, iv p4, iv p5, iv kk, iv c0, iv c1, iv (Int32.ofNat n1), iv sel, iv d0, iv d1, iv (Int32.ofNat n2), rv x1, rv x2, uu, uu, uu] [(.int kk)]))
            refine own_of (fun tgt kon => XS.iconst X20.here hx rfl (hb hby at_175) kon) ?_
            by_cases hc176 : kk = (2 : Int32)
            · skip
              refine own_of (fun tgt kon => XS.icmpNo X20.here hx rfl (hb hby at_176) rfl (teq hc176).2 kon) ?_
              obtain ⟨T29, h29, X29, e29, E29, A29, D29, -, st29⟩ := newO X20 hx hZ hown (ow hw 26 rfl) (ow hw 27 rfl) (ow hw 28 rfl) rfl (g := (mkF m 179 #[iv p1, iv p2, iv p3, iv p4, iv p5, iv kk, iv c0, iv c1, iv (Int32.ofNat n1), iv sel, iv d0, iv d1, iv (Int32.ofNat n2), rv x1, rv x2, uu, uu, uu] [])) rfl (hb hby at_179) (by decide) (by decide)
              refine own_of st29 ?_
              clear st29
              obtain ⟨b29, gq29⟩ : ∃ z, z = T20.heap.size := ⟨_, rfl⟩
              rw [← gq29] at A29 D29 ⊢
              have ne_x1_b29 : x1 ≠ b29 := Nat.ne_of_lt (Nat.lt_of_lt_of_le E_x1.lt (Nat.le_of_eq gq29.symm))
              have ne_v1_b29 : v1 ≠ b29 := Nat.ne_of_lt (Nat.lt_of_lt_of_le V_v1.lt (Nat.le_of_eq gq29.symm))
              have ne_x2_b29 : x2 ≠ b29 := Nat.ne_of_lt (Nat.lt_of_lt_of_le E_x2.lt (Nat.le_of_eq gq29.symm))
              have ne_v2_b29 : v2 ≠ b29 := Nat.ne_of_lt (Nat.lt_of_lt_of_le V_v2.lt (Nat.le_of_eq gq29.symm))
              have g_b29 : n0 ≤ b29 := Nat.le_trans Zs (Nat.le_of_eq gq29.symm)
              replace Zs := Nat.le_trans Zs E29.1
              replace O := O.ext E29
              replace E_x1 := E_x1.ext E29
              replace F_value_x1 := F_value_x1.ext E29
              replace F_coder_x1 := F_coder_x1.ext E29
              replace V_v1 := V_v1.ext E29
              replace E_x2 := E_x2.ext E29
              replace F_value_x2 := F_value_x2.ext E29
              replace F_coder_x2 := F_coder_x2.ext E29
              replace V_v2 := V_v2.ext E29
              replace SW := SW.ext E29
              have E_b29 := A29
              have F_kind_b29 : Fld Z h29 b29 "com/example/iota_flow/iotaflow/definition/Merge" "kind" "Lcom/example/iota_flow/iotaflow/definition/Merge$Kind;" .null := D29 (Or.inr (ow hw 51 rfl)) (ty := (.object "com/example/iota_flow/iotaflow/definition/Merge$Kind")) (by decide)
              have F_flag_b29 : Fld Z h29 b29 "com/example/iota_flow/iotaflow/definition/Merge" "flag" "Ljava/lang/String;" .null := D29 (Or.inr (ow hw 53 rfl)) (ty := (.object "java/lang/String")) (by decide)
              have F_votes_b29 : Fld Z h29 b29 "com/example/iota_flow/iotaflow/definition/Merge" "votes" "I" (.int (0 : Int32)) := D29 (Or.inr (ow hw 55 rfl)) (ty := .int) (by decide)
              refine own_of (fun tgt kon => XS.dup X29.here hx rfl (hb hby at_182) rfl rfl kon) ?_
              obtain ⟨T30, X30, e30, st30⟩ := getS2 X29 hx hZ hown (host := "") (Or.inl (ow hw 101 rfl)) Via.refl e29 (S2.ext O.2) (g := (mkF m 183 #[iv p1, iv p2, iv p3, iv p4, iv p5, iv kk, iv c0, iv c1, iv (Int32.ofNat n1), iv sel, iv d0, iv d1, iv (Int32.ofNat n2), rv x1, rv x2, uu, uu, uu] [(.ref b29), (.ref b29)])) rfl (hb hby at_183)
              refine own_of st30 ?_
              clear st30
              show own_Wp _ _ _ _ (T30.setTop (mkF m 186 #[iv p1, iv p2, iv p3, iv p4, iv p5, iv kk, iv c0, iv c1, iv (Int32.ofNat n1), iv sel, iv d0, iv d1, iv (Int32.ofNat n2), rv x1, rv x2, uu, uu, uu] [(.ref o2), (.ref b29), (.ref b29)]))
              refine own_of (fun tgt kon => XS.aload X30.here hx rfl (hb hby at_186) rfl rfl kon) ?_
              refine own_of (fun tgt kon => XS.iconst X30.here hx rfl (hb hby at_188) kon) ?_
              refine own_callIW X30 SW hx hZ (y := (⟨"com/example/iota_flow/iotaflow/definition/Merge", "<init>", "(Lcom/example/iota_flow/iotaflow/definition/Merge$Kind;Ljava/lang/String;I)V"⟩ : MethodName)) (a := b29) (argsL := [(.ref o2), (.ref x1), (.int (1 : Int32))]) (rest := [(.ref b29)]) (W := 1) rfl hown (ow hw 32 rfl) (ow hw 33 rfl) (ow hw 28 rfl) (ow hw 34 rfl) (by decide) e30 (rmmg2 l Z a0 hw [] b29 o0 o1 o2 o3 x1 h29 n0 Zs O E_b29 _ _ _ F_kind_b29 F_flag_b29 F_votes_b29 g_b29 S0 S1 S2 S3 ne01 ne02 ne03 ne12 ne13 ne23) (by decide) (by decide) (by decide) (by decide) rfl (by rw [hml]; rfl) (lenOf own_pd15 rfl) rfl (by show 2 * 0 + _ ≤ _; exact Nat.le_of_eq rfl) (hb hby at_189) ?_
              clear hZ hown
              rintro sv31 T31 L31 _ X31 SWq31 hZ hown ⟨rfl, N31q, Kq31, Eq31, F31_kind, F31_flag, F31_votes⟩
              have N31 := Fr.app N20 N31q
              show own_Wp _ _ _ _ (T31.setTop (mkF m 192 #[iv p1, iv p2, iv p3, iv p4, iv p5, iv kk, iv c0, iv c1, iv (Int32.ofNat n1), iv sel, iv d0, iv d1, iv (Int32.ofNat n2), rv x1, rv x2, uu, uu, uu] [(.ref b29)]))
              replace Zs := Nat.le_trans Zs Kq31.1
              replace O := O.keep Kq31 (allS g_b29 all0)
              replace E_x1 := E_x1.keep Kq31
              replace F_value_x1 := F_value_x1.keep Kq31 (ninS ne_x1_b29 nin0)
              replace F_coder_x1 := F_coder_x1.keep Kq31 (ninS ne_x1_b29 nin0)
              replace V_v1 := V_v1.keep Kq31 (ninS ne_v1_b29 nin0)
              replace E_x2 := E_x2.keep Kq31
              replace F_value_x2 := F_value_x2.keep Kq31 (ninS ne_x2_b29 nin0)
              replace F_coder_x2 := F_coder_x2.keep Kq31 (ninS ne_x2_b29 nin0)
              replace V_v2 := V_v2.keep Kq31 (ninS ne_v2_b29 nin0)
              replace E_b29 := E_b29.keep Kq31
              replace E_b29 := Eq31
              have F_kind_b29 := F31_kind
              have F_flag_b29 := F31_flag
              have F_votes_b29 := F31_votes
              replace SW := SWq31
              refine own_of (fun tgt kon => XS.astore X31.here hx rfl (hb hby at_192) rfl rfl (l' := #[iv p1, iv p2, iv p3, iv p4, iv p5, iv kk, iv c0, iv c1, iv (Int32.ofNat n1), iv sel, iv d0, iv d1, iv (Int32.ofNat n2), rv x1, rv x2, rv b29, uu, uu]) rfl kon) ?_
              refine own_of (fun tgt kon => XS.aload X31.here hx rfl (hb hby at_194) rfl rfl kon) ?_
              refine own_of (fun tgt kon => XS.ifnullNo X31.here hx rfl (hb hby at_196) rfl kon) ?_
              show own_Wp _ _ _ _ (T31.setTop (mkF m 199 #[iv p1, iv p2, iv p3, iv p4, iv p5, iv kk, iv c0, iv c1, iv (Int32.ofNat n1), iv sel, iv d0, iv d1, iv (Int32.ofNat n2), rv x1, rv x2, rv b29, uu, uu] []))
              have J237 : ∀ (ex : Int32), (own_P n1 n2 c0 c1 d0 d1 → ex = 1) → (¬ own_P n1 n2 c0 c1 d0 d1 → ex = 0) → (ex = 0 ∨ ex = 1) → own_Wp p.tables e below (own_KW room_1 s below (Q_rm0 Z p1 p2 p3 p4 p5 o0 o1 o2 o3 cz h0 n0)) (T31.setTop (mkF m 237 #[iv p1, iv p2, iv p3, iv p4, iv p5, iv kk, iv c0, iv c1, iv (Int32.ofNat n1), iv sel, iv d0, iv d1, iv (Int32.ofNat n2), rv x1, rv x2, rv b29, uu, uu] [(.int ex)])) := by
                intro ex hr1 hr0 hr01
                refine own_of (fun tgt kon => XS.istore X31.here hx rfl (hb hby at_237) rfl (l' := #[iv p1, iv p2, iv p3, iv p4, iv p5, iv kk, iv c0, iv c1, iv (Int32.ofNat n1), iv sel, iv d0, iv d1, iv (Int32.ofNat n2), rv x1, rv x2, rv b29, iv ex, uu]) rfl kon) ?_
                refine own_of (fun tgt kon => XS.goto X31.here hx rfl (pc0 := 239) (pc' := 281) rfl (hb hby at_239) (by decide) (by decide) kon) ?_
                refine own_of (fun tgt kon => XS.aload X31.here hx rfl (hb hby at_281) rfl rfl kon) ?_
                refine own_of (fun tgt kon => XS.aload X31.here hx rfl (hb hby at_283) rfl rfl kon) ?_
                refine own_of (fun tgt kon => XS.iloadN X31.here hx rfl (hb hby at_285) rfl kon) ?_
                show own_Wp _ _ _ _ (T31.setTop (mkF m 286 #[iv p1, iv p2, iv p3, iv p4, iv p5, iv kk, iv c0, iv c1, iv (Int32.ofNat n1), iv sel, iv d0, iv d1, iv (Int32.ofNat n2), rv x1, rv x2, rv b29, iv ex, uu] [(.int p4), (.ref x2), (.ref b29)]))
                refine own_callV X31 hx hZ (C := "com/example/iota_flow/iotaflow/definition/Merge") (y := (⟨"com/example/iota_flow/iotaflow/definition/Merge", "starts", "(Ljava/lang/String;I)Z"⟩ : MethodName)) (a := b29) (argsL := [(.ref x2), (.int p4)]) (rest := []) (W := 0) hown (ow hw 56 rfl) (ow hw 57 rfl) (ow hw 59 rfl) (ow hw 58 rfl) (ow hw 28 rfl) (ow hw 60 rfl) (by decide) rfl E_b29 (rmst2 l Z a0 hw [] b29 o2 x1 x2 v1 v2 n1 n2 (fun k => own_by ((own_tx2 c0 c1) k)) (fun k => own_by ((own_tx2 d0 d1) k)) ex cz p4 T31.heap n0 Zs (E_o2.ext O.2) (Fo2.ext O.2) F_kind_b29 F_flag_b29 E_x1 F_value_x1 F_coder_x1 V_v1 E_x2 F_value_x2 F_coder_x2 V_v2 ne_x1_x2 hr1 hr0 hn1 hn2 hr01 (S_C.ext O.2) hcz) (by decide) (by decide) (by decide) (by decide) rfl (by rw [hml]; rfl) (lenOf own_pd16 rfl) rfl (by show 2 * 0 + _ ≤ _; exact Nat.le_of_eq rfl) (hb hby at_286) ?_
                rintro T32 L32 _ X32 ⟨rfl, N32q, e32⟩
                have N32 := Fr.app N31 N32q
                show own_Wp _ _ _ _ (T32.setTop (mkF m 289 #[iv p1, iv p2, iv p3, iv p4, iv p5, iv kk, iv c0, iv c1, iv (Int32.ofNat n1), iv sel, iv d0, iv d1, iv (Int32.ofNat n2), rv x1, rv x2, rv b29, iv ex, uu] [(.int ex)]))
                refine own_of (fun tgt kon => XS.iload X32.here hx rfl (hb hby at_289) rfl kon) ?_
                have hc291 : ex = ex := rfl
                refine own_of (fun tgt kon => XS.icmpNo X32.here hx rfl (hb hby at_291) rfl (teq hc291).2 kon) ?_
                refine own_of (fun tgt kon => XS.iconst X32.here hx rfl (hb hby at_294) kon) ?_
                refine own_of (fun tgt kon => XS.goto X32.here hx rfl (pc0 := 295) (pc' := 299) rfl (hb hby at_295) (by decide) (by decide) kon) ?_
                show own_Wp _ _ _ _ (T32.setTop (mkF m 299 #[iv p1, iv p2, iv p3, iv p4, iv p5, iv kk, iv c0, iv c1, iv (Int32.ofNat n1), iv sel, iv d0, iv d1, iv (Int32.ofNat n2), rv x1, rv x2, rv b29, iv ex, uu] [(.int (1 : Int32))]))
                refine own_retW X32 (by rw [e32]; exact SW) hlk (some (.int (1 : Int32))) (own_rtI hrt) (fun fs hr => retN X32 hx (t := .boolean) hrt (by simp) (hb hby at_299) hr) ?_ (by decide) (by decide)
                rw [e32]
                exact ⟨rfl, N32⟩
              show own_Wp _ _ _ _ (T31.setTop (mkF m 199 #[iv p1, iv p2, iv p3, iv p4, iv p5, iv kk, iv c0, iv c1, iv (Int32.ofNat n1), iv sel, iv d0, iv d1, iv (Int32.ofNat n2), rv x1, rv x2, rv b29, uu, uu] []))
              refine own_of (fun tgt kon => XS.iload X31.here hx rfl (hb hby at_199) rfl kon) ?_
              refine own_of (fun tgt kon => XS.iload X31.here hx rfl (hb hby at_201) rfl kon) ?_
              by_cases hc203 : (Int32.ofNat n2) = (Int32.ofNat n1)
              · skip
                refine own_of (fun tgt kon => XS.icmpNo X31.here hx rfl (hb hby at_203) rfl (teq hc203).2 kon) ?_
                refine own_of (fun tgt kon => XS.iload X31.here hx rfl (hb hby at_206) rfl kon) ?_
                refine own_of (fun tgt kon => XS.iconst X31.here hx rfl (hb hby at_208) kon) ?_
                show own_Wp _ _ _ _ (T31.setTop (mkF m 209 #[iv p1, iv p2, iv p3, iv p4, iv p5, iv kk, iv c0, iv c1, iv (Int32.ofNat n1), iv sel, iv d0, iv d1, iv (Int32.ofNat n2), rv x1, rv x2, rv b29, uu, uu] [(.int (1 : Int32)), (.int (Int32.ofNat n1))]))
                by_cases hc209 : (Int32.ofNat n1) < (1 : Int32)
                · skip
                  refine own_of (fun tgt kon => XS.icmpYes X31.here hx rfl (pc0 := 209) (pc' := 219) rfl (hb hby at_209) rfl (tlt hc209).1 (by decide) (by decide) kon) ?_
                  refine own_of (fun tgt kon => XS.iload X31.here hx rfl (hb hby at_219) rfl kon) ?_
                  refine own_of (fun tgt kon => XS.iconst X31.here hx rfl (hb hby at_221) kon) ?_
                  by_cases hc222 : (Int32.ofNat n1) < (2 : Int32)
                  · skip
                    refine own_of (fun tgt kon => XS.icmpYes X31.here hx rfl (pc0 := 222) (pc' := 232) rfl (hb hby at_222) rfl (tlt hc222).1 (by decide) (by decide) kon) ?_
                    refine own_of (fun tgt kon => XS.iconst X31.here hx rfl (hb hby at_232) kon) ?_
                    show own_Wp _ _ _ _ (T31.setTop (mkF m 233 #[iv p1, iv p2, iv p3, iv p4, iv p5, iv kk, iv c0, iv c1, iv (Int32.ofNat n1), iv sel, iv d0, iv d1, iv (Int32.ofNat n2), rv x1, rv x2, rv b29, uu, uu] [(.int (1 : Int32))]))
                    refine own_of (fun tgt kon => XS.goto X31.here hx rfl (pc0 := 233) (pc' := 237) rfl (hb hby at_233) (by decide) (by decide) kon) ?_
                    show own_Wp _ _ _ _ (T31.setTop (mkF m 237 #[iv p1, iv p2, iv p3, iv p4, iv p5, iv kk, iv c0, iv c1, iv (Int32.ofNat n1), iv sel, iv d0, iv d1, iv (Int32.ofNat n2), rv x1, rv x2, rv b29, uu, uu] [(.int (1 : Int32))]))
                    exact J237 ((1 : Int32)) (by exact fun _ => rfl) (by exact fun q => absurd (own_Pyes hn1 (own_ofNI (by omega) (by omega) hc203) (fun q => absurd ((own_ltN (b := 1) (by omega) (by omega)).mp hc209) q) (fun q => absurd ((own_ltN (b := 2) (by omega) (by omega)).mp hc222) q)) q) (by exact Or.inr rfl)
                  · skip
                    refine own_of (fun tgt kon => XS.icmpNo X31.here hx rfl (hb hby at_222) rfl (flt hc222).1 kon) ?_
                    refine own_of (fun tgt kon => XS.iload X31.here hx rfl (hb hby at_225) rfl kon) ?_
                    show own_Wp _ _ _ _ (T31.setTop (mkF m 227 #[iv p1, iv p2, iv p3, iv p4, iv p5, iv kk, iv c0, iv c1, iv (Int32.ofNat n1), iv sel, iv d0, iv d1, iv (Int32.ofNat n2), rv x1, rv x2, rv b29, uu, uu] [(.int d1)]))
                    refine own_of (fun tgt kon => XS.iload X31.here hx rfl (hb hby at_227) rfl kon) ?_
                    by_cases hc229 : d1 = c1
                    · skip
                      refine own_of (fun tgt kon => XS.icmpNo X31.here hx rfl (hb hby at_229) rfl (teq hc229).2 kon) ?_
                      refine own_of (fun tgt kon => XS.iconst X31.here hx rfl (hb hby at_232) kon) ?_
                      refine own_of (fun tgt kon => XS.goto X31.here hx rfl (pc0 := 233) (pc' := 237) rfl (hb hby at_233) (by decide) (by decide) kon) ?_
                      show own_Wp _ _ _ _ (T31.setTop (mkF m 237 #[iv p1, iv p2, iv p3, iv p4, iv p5, iv kk, iv c0, iv c1, iv (Int32.ofNat n1), iv sel, iv d0, iv d1, iv (Int32.ofNat n2), rv x1, rv x2, rv b29, uu, uu] [(.int (1 : Int32))]))
                      exact J237 ((1 : Int32)) (by exact fun _ => rfl) (by exact fun q => absurd (own_Pyes hn1 (own_ofNI (by omega) (by omega) hc203) (fun q => absurd ((own_ltN (b := 1) (by omega) (by omega)).mp hc209) q) (fun _ => hc229)) q) (by exact Or.inr rfl)
                    · skip
                      refine own_of (fun tgt kon => XS.icmpYes X31.here hx rfl (pc0 := 229) (pc' := 236) rfl (hb hby at_229) rfl (feq hc229).2 (by decide) (by decide) kon) ?_
                      refine own_of (fun tgt kon => XS.iconst X31.here hx rfl (hb hby at_236) kon) ?_
                      show own_Wp _ _ _ _ (T31.setTop (mkF m 237 #[iv p1, iv p2, iv p3, iv p4, iv p5, iv kk, iv c0, iv c1, iv (Int32.ofNat n1), iv sel, iv d0, iv d1, iv (Int32.ofNat n2), rv x1, rv x2, rv b29, uu, uu] [(.int (0 : Int32))]))
                      exact J237 ((0 : Int32)) (by exact fun q => absurd q (fun q => hc229 (own_P1 hc1 hd1 (fun z => hc222 ((own_ltN (b := 2) (by omega) (by omega)).mpr z)) q))) (by exact fun _ => rfl) (by exact Or.inl rfl)
                · skip
                  refine own_of (fun tgt kon => XS.icmpNo X31.here hx rfl (hb hby at_209) rfl (flt hc209).1 kon) ?_
                  refine own_of (fun tgt kon => XS.iload X31.here hx rfl (hb hby at_212) rfl kon) ?_
                  refine own_of (fun tgt kon => XS.iload X31.here hx rfl (hb hby at_214) rfl kon) ?_
                  by_cases hc216 : d0 = c0
                  · skip
                    refine own_of (fun tgt kon => XS.icmpNo X31.here hx rfl (hb hby at_216) rfl (teq hc216).2 kon) ?_
                    refine own_of (fun tgt kon => XS.iload X31.here hx rfl (hb hby at_219) rfl kon) ?_
                    show own_Wp _ _ _ _ (T31.setTop (mkF m 221 #[iv p1, iv p2, iv p3, iv p4, iv p5, iv kk, iv c0, iv c1, iv (Int32.ofNat n1), iv sel, iv d0, iv d1, iv (Int32.ofNat n2), rv x1, rv x2, rv b29, uu, uu] [(.int (Int32.ofNat n1))]))
                    refine own_of (fun tgt kon => XS.iconst X31.here hx rfl (hb hby at_221) kon) ?_
                    by_cases hc222 : (Int32.ofNat n1) < (2 : Int32)
                    · skip
                      refine own_of (fun tgt kon => XS.icmpYes X31.here hx rfl (pc0 := 222) (pc' := 232) rfl (hb hby at_222) rfl (tlt hc222).1 (by decide) (by decide) kon) ?_
                      refine own_of (fun tgt kon => XS.iconst X31.here hx rfl (hb hby at_232) kon) ?_
                      refine own_of (fun tgt kon => XS.goto X31.here hx rfl (pc0 := 233) (pc' := 237) rfl (hb hby at_233) (by decide) (by decide) kon) ?_
                      show own_Wp _ _ _ _ (T31.setTop (mkF m 237 #[iv p1, iv p2, iv p3, iv p4, iv p5, iv kk, iv c0, iv c1, iv (Int32.ofNat n1), iv sel, iv d0, iv d1, iv (Int32.ofNat n2), rv x1, rv x2, rv b29, uu, uu] [(.int (1 : Int32))]))
                      exact J237 ((1 : Int32)) (by exact fun _ => rfl) (by exact fun q => absurd (own_Pyes hn1 (own_ofNI (by omega) (by omega) hc203) (fun _ => hc216) (fun q => absurd ((own_ltN (b := 2) (by omega) (by omega)).mp hc222) q)) q) (by exact Or.inr rfl)
                    · skip
                      refine own_of (fun tgt kon => XS.icmpNo X31.here hx rfl (hb hby at_222) rfl (flt hc222).1 kon) ?_
                      refine own_of (fun tgt kon => XS.iload X31.here hx rfl (hb hby at_225) rfl kon) ?_
                      refine own_of (fun tgt kon => XS.iload X31.here hx rfl (hb hby at_227) rfl kon) ?_
                      by_cases hc229 : d1 = c1
                      · skip
                        refine own_of (fun tgt kon => XS.icmpNo X31.here hx rfl (hb hby at_229) rfl (teq hc229).2 kon) ?_
                        refine own_of (fun tgt kon => XS.iconst X31.here hx rfl (hb hby at_232) kon) ?_
                        show own_Wp _ _ _ _ (T31.setTop (mkF m 233 #[iv p1, iv p2, iv p3, iv p4, iv p5, iv kk, iv c0, iv c1, iv (Int32.ofNat n1), iv sel, iv d0, iv d1, iv (Int32.ofNat n2), rv x1, rv x2, rv b29, uu, uu] [(.int (1 : Int32))]))
                        refine own_of (fun tgt kon => XS.goto X31.here hx rfl (pc0 := 233) (pc' := 237) rfl (hb hby at_233) (by decide) (by decide) kon) ?_
                        show own_Wp _ _ _ _ (T31.setTop (mkF m 237 #[iv p1, iv p2, iv p3, iv p4, iv p5, iv kk, iv c0, iv c1, iv (Int32.ofNat n1), iv sel, iv d0, iv d1, iv (Int32.ofNat n2), rv x1, rv x2, rv b29, uu, uu] [(.int (1 : Int32))]))
                        exact J237 ((1 : Int32)) (by exact fun _ => rfl) (by exact fun q => absurd (own_Pyes hn1 (own_ofNI (by omega) (by omega) hc203) (fun _ => hc216) (fun _ => hc229)) q) (by exact Or.inr rfl)
                      · skip
                        refine own_of (fun tgt kon => XS.icmpYes X31.here hx rfl (pc0 := 229) (pc' := 236) rfl (hb hby at_229) rfl (feq hc229).2 (by decide) (by decide) kon) ?_
                        refine own_of (fun tgt kon => XS.iconst X31.here hx rfl (hb hby at_236) kon) ?_
                        show own_Wp _ _ _ _ (T31.setTop (mkF m 237 #[iv p1, iv p2, iv p3, iv p4, iv p5, iv kk, iv c0, iv c1, iv (Int32.ofNat n1), iv sel, iv d0, iv d1, iv (Int32.ofNat n2), rv x1, rv x2, rv b29, uu, uu] [(.int (0 : Int32))]))
                        exact J237 ((0 : Int32)) (by exact fun q => absurd q (fun q => hc229 (own_P1 hc1 hd1 (fun z => hc222 ((own_ltN (b := 2) (by omega) (by omega)).mpr z)) q))) (by exact fun _ => rfl) (by exact Or.inl rfl)
                  · skip
                    refine own_of (fun tgt kon => XS.icmpYes X31.here hx rfl (pc0 := 216) (pc' := 236) rfl (hb hby at_216) rfl (feq hc216).2 (by decide) (by decide) kon) ?_
                    refine own_of (fun tgt kon => XS.iconst X31.here hx rfl (hb hby at_236) kon) ?_
                    show own_Wp _ _ _ _ (T31.setTop (mkF m 237 #[iv p1, iv p2, iv p3, iv p4, iv p5, iv kk, iv c0, iv c1, iv (Int32.ofNat n1), iv sel, iv d0, iv d1, iv (Int32.ofNat n2), rv x1, rv x2, rv b29, uu, uu] [(.int (0 : Int32))]))
                    exact J237 ((0 : Int32)) (by exact fun q => absurd q (fun q => hc216 (own_P0 hc0 hd0 (fun z => hc209 ((own_ltN (b := 1) (by omega) (by omega)).mpr z)) q))) (by exact fun _ => rfl) (by exact Or.inl rfl)
              · skip
                refine own_of (fun tgt kon => XS.icmpYes X31.here hx rfl (pc0 := 203) (pc' := 236) rfl (hb hby at_203) rfl (feq hc203).2 (by decide) (by decide) kon) ?_
                refine own_of (fun tgt kon => XS.iconst X31.here hx rfl (hb hby at_236) kon) ?_
                show own_Wp _ _ _ _ (T31.setTop (mkF m 237 #[iv p1, iv p2, iv p3, iv p4, iv p5, iv kk, iv c0, iv c1, iv (Int32.ofNat n1), iv sel, iv d0, iv d1, iv (Int32.ofNat n2), rv x1, rv x2, rv b29, uu, uu] [(.int (0 : Int32))]))
                exact J237 ((0 : Int32)) (by exact fun q => absurd q (fun q => hc203 (by rw [q.1]))) (by exact fun _ => rfl) (by exact Or.inl rfl)
            · skip
              refine own_of (fun tgt kon => XS.icmpYes X20.here hx rfl (pc0 := 176) (pc' := 242) rfl (hb hby at_176) rfl (feq hc176).2 (by decide) (by decide) kon) ?_
              refine own_of (fun tgt kon => XS.iconst X20.here hx rfl (hb hby at_242) kon) ?_
              refine own_of (fun tgt kon => XS.iload X20.here hx rfl (hb hby at_243) rfl kon) ?_
              refine own_of (X20.ldcInt hx hown (mvT hZ (ow hw 70 rfl)) (g := (mkF m 245 #[iv p1, iv p2, iv p3, iv p4, iv p5, iv kk, iv c0, iv c1, iv (Int32.ofNat n1), iv sel, iv d0, iv d1, iv (Int32.ofNat n2), rv x1, rv x2, uu, uu, uu] [(.int p5), (.int (1 : Int32))])) rfl (hb hby at_245)) ?_
              show own_Wp _ _ _ _ (T20.setTop (mkF m 247 #[iv p1, iv p2, iv p3, iv p4, iv p5, iv kk, iv c0, iv c1, iv (Int32.ofNat n1), iv sel, iv d0, iv d1, iv (Int32.ofNat n2), rv x1, rv x2, uu, uu, uu] [(.int (2147483647 : Int32)), (.int p5), (.int (1 : Int32))]))
              refine own_of (fun tgt kon => XS.iand X20.here hx rfl (hb hby at_247) rfl kon) ?_
              refine own_callS X20 hx hZ (y := (⟨"java/lang/Math", "max", "(II)I"⟩ : MethodName)) (argsL := [(.int (1 : Int32)), (.int (p5 &&& (2147483647 : Int32)))]) (rest := []) (W := 0) hown (ow hw 71 rfl) (ow hw 72 rfl) (ow hw 73 rfl) (ow hw 74 rfl) (by decide) rfl (rmmx l Z a0 hw [] (1 : Int32) (p5 &&& (2147483647 : Int32)) T20.heap n0 Zs) (by decide) (by decide) (by decide) (by decide) rfl (by rw [hml]; rfl) (lenOf own_pd17 rfl) rfl (by show 2 * 0 + _ ≤ _; exact Nat.le_of_eq rfl) (hb hby at_248) ?_
              rintro T33 L33 _ X33 ⟨rfl, N33q, e33⟩
              have N33 := Fr.app N20 N33q
              show own_Wp _ _ _ _ (T33.setTop (mkF m 251 #[iv p1, iv p2, iv p3, iv p4, iv p5, iv kk, iv c0, iv c1, iv (Int32.ofNat n1), iv sel, iv d0, iv d1, iv (Int32.ofNat n2), rv x1, rv x2, uu, uu, uu] [(.int (own_mx (1 : Int32) (p5 &&& (2147483647 : Int32))))]))
              obtain ⟨vt, h_vt⟩ : ∃ q : Int32, q = (own_mx (1 : Int32) (p5 &&& (2147483647 : Int32))) := ⟨_, rfl⟩
              rw [← h_vt]
              refine own_of (fun tgt kon => XS.istore X33.here hx rfl (hb hby at_251) rfl (l' := #[iv p1, iv p2, iv p3, iv p4, iv p5, iv kk, iv c0, iv c1, iv (Int32.ofNat n1), iv sel, iv d0, iv d1, iv (Int32.ofNat n2), rv x1, rv x2, uu, uu, iv vt]) rfl kon) ?_
              show own_Wp _ _ _ _ (T33.setTop (mkF m 253 #[iv p1, iv p2, iv p3, iv p4, iv p5, iv kk, iv c0, iv c1, iv (Int32.ofNat n1), iv sel, iv d0, iv d1, iv (Int32.ofNat n2), rv x1, rv x2, uu, uu, iv vt] []))
              have hv : ¬ vt < 1 := by rw [h_vt]; exact own_mx1 _
              obtain ⟨T34, h34, X34, e34, E34, A34, D34, -, st34⟩ := newO X33 hx hZ hown (ow hw 26 rfl) (ow hw 27 rfl) (ow hw 28 rfl) e33 (g := (mkF m 253 #[iv p1, iv p2, iv p3, iv p4, iv p5, iv kk, iv c0, iv c1, iv (Int32.ofNat n1), iv sel, iv d0, iv d1, iv (Int32.ofNat n2), rv x1, rv x2, uu, uu, iv vt] [])) rfl (hb hby at_253) (by decide) (by decide)
              refine own_of st34 ?_
              clear st34
              obtain ⟨b34, gq34⟩ : ∃ z, z = T20.heap.size := ⟨_, rfl⟩
              rw [← gq34] at A34 D34 ⊢
              have ne_x1_b34 : x1 ≠ b34 := Nat.ne_of_lt (Nat.lt_of_lt_of_le E_x1.lt (Nat.le_of_eq gq34.symm))
              have ne_v1_b34 : v1 ≠ b34 := Nat.ne_of_lt (Nat.lt_of_lt_of_le V_v1.lt (Nat.le_of_eq gq34.symm))
              have ne_x2_b34 : x2 ≠ b34 := Nat.ne_of_lt (Nat.lt_of_lt_of_le E_x2.lt (Nat.le_of_eq gq34.symm))
              have ne_v2_b34 : v2 ≠ b34 := Nat.ne_of_lt (Nat.lt_of_lt_of_le V_v2.lt (Nat.le_of_eq gq34.symm))
              have g_b34 : n0 ≤ b34 := Nat.le_trans Zs (Nat.le_of_eq gq34.symm)
              replace Zs := Nat.le_trans Zs E34.1
              replace O := O.ext E34
              replace E_x1 := E_x1.ext E34
              replace F_value_x1 := F_value_x1.ext E34
              replace F_coder_x1 := F_coder_x1.ext E34
              replace V_v1 := V_v1.ext E34
              replace E_x2 := E_x2.ext E34
              replace F_value_x2 := F_value_x2.ext E34
              replace F_coder_x2 := F_coder_x2.ext E34
              replace V_v2 := V_v2.ext E34
              replace SW := SW.ext E34
              have E_b34 := A34
              have F_kind_b34 : Fld Z h34 b34 "com/example/iota_flow/iotaflow/definition/Merge" "kind" "Lcom/example/iota_flow/iotaflow/definition/Merge$Kind;" .null := D34 (Or.inr (ow hw 51 rfl)) (ty := (.object "com/example/iota_flow/iotaflow/definition/Merge$Kind")) (by decide)
              have F_flag_b34 : Fld Z h34 b34 "com/example/iota_flow/iotaflow/definition/Merge" "flag" "Ljava/lang/String;" .null := D34 (Or.inr (ow hw 53 rfl)) (ty := (.object "java/lang/String")) (by decide)
              have F_votes_b34 : Fld Z h34 b34 "com/example/iota_flow/iotaflow/definition/Merge" "votes" "I" (.int (0 : Int32)) := D34 (Or.inr (ow hw 55 rfl)) (ty := .int) (by decide)
              refine own_of (fun tgt kon => XS.dup X34.here hx rfl (hb hby at_256) rfl rfl kon) ?_
              obtain ⟨T35, X35, e35, st35⟩ := getS2 X34 hx hZ hown (host := "") (Or.inl (ow hw 75 rfl)) Via.refl e34 (S3.ext O.2) (g := (mkF m 257 #[iv p1, iv p2, iv p3, iv p4, iv p5, iv kk, iv c0, iv c1, iv (Int32.ofNat n1), iv sel, iv d0, iv d1, iv (Int32.ofNat n2), rv x1, rv x2, uu, uu, iv vt] [(.ref b34), (.ref b34)])) rfl (hb hby at_257)
              refine own_of st35 ?_
              clear st35
              refine own_of (fun tgt kon => XS.aconstNull X35.here hx rfl (hb hby at_260) kon) ?_
              refine own_of (fun tgt kon => XS.iload X35.here hx rfl (hb hby at_261) rfl kon) ?_
              show own_Wp _ _ _ _ (T35.setTop (mkF m 263 #[iv p1, iv p2, iv p3, iv p4, iv p5, iv kk, iv c0, iv c1, iv (Int32.ofNat n1), iv sel, iv d0, iv d1, iv (Int32.ofNat n2), rv x1, rv x2, uu, uu, iv vt] [(.int vt), .null, (.ref o3), (.ref b34), (.ref b34)]))
              refine own_callIW X35 SW hx hZ (y := (⟨"com/example/iota_flow/iotaflow/definition/Merge", "<init>", "(Lcom/example/iota_flow/iotaflow/definition/Merge$Kind;Ljava/lang/String;I)V"⟩ : MethodName)) (a := b34) (argsL := [(.ref o3), .null, (.int vt)]) (rest := [(.ref b34)]) (W := 1) rfl hown (ow hw 32 rfl) (ow hw 33 rfl) (ow hw 28 rfl) (ow hw 34 rfl) (by decide) e35 (rmmg3 l Z a0 hw [] b34 o0 o1 o2 o3 vt h34 n0 Zs O E_b34 _ _ _ F_kind_b34 F_flag_b34 F_votes_b34 g_b34 S0 S1 S2 S3 ne01 ne02 ne03 ne12 ne13 ne23 hv) (by decide) (by decide) (by decide) (by decide) rfl (by rw [hml]; rfl) (lenOf own_pd15 rfl) rfl (by show 2 * 0 + _ ≤ _; exact Nat.le_of_eq rfl) (hb hby at_263) ?_
              clear hZ hown
              rintro sv36 T36 L36 _ X36 SWq36 hZ hown ⟨rfl, N36q, Kq36, Eq36, F36_kind, F36_flag, F36_votes⟩
              have N36 := Fr.app N33 N36q
              show own_Wp _ _ _ _ (T36.setTop (mkF m 266 #[iv p1, iv p2, iv p3, iv p4, iv p5, iv kk, iv c0, iv c1, iv (Int32.ofNat n1), iv sel, iv d0, iv d1, iv (Int32.ofNat n2), rv x1, rv x2, uu, uu, iv vt] [(.ref b34)]))
              replace Zs := Nat.le_trans Zs Kq36.1
              replace O := O.keep Kq36 (allS g_b34 all0)
              replace E_x1 := E_x1.keep Kq36
              replace F_value_x1 := F_value_x1.keep Kq36 (ninS ne_x1_b34 nin0)
              replace F_coder_x1 := F_coder_x1.keep Kq36 (ninS ne_x1_b34 nin0)
              replace V_v1 := V_v1.keep Kq36 (ninS ne_v1_b34 nin0)
              replace E_x2 := E_x2.keep Kq36
              replace F_value_x2 := F_value_x2.keep Kq36 (ninS ne_x2_b34 nin0)
              replace F_coder_x2 := F_coder_x2.keep Kq36 (ninS ne_x2_b34 nin0)
              replace V_v2 := V_v2.keep Kq36 (ninS ne_v2_b34 nin0)
              replace E_b34 := E_b34.keep Kq36
              replace E_b34 := Eq36
              have F_kind_b34 := F36_kind
              have F_flag_b34 := F36_flag
              have F_votes_b34 := F36_votes
              replace SW := SWq36
              refine own_of (fun tgt kon => XS.astore X36.here hx rfl (hb hby at_266) rfl rfl (l' := #[iv p1, iv p2, iv p3, iv p4, iv p5, iv kk, iv c0, iv c1, iv (Int32.ofNat n1), iv sel, iv d0, iv d1, iv (Int32.ofNat n2), rv x1, rv x2, rv b34, uu, iv vt]) rfl kon) ?_
              refine own_of (fun tgt kon => XS.iloadN X36.here hx rfl (hb hby at_268) rfl kon) ?_
              refine own_of (fun tgt kon => XS.iload X36.here hx rfl (hb hby at_269) rfl kon) ?_
              by_cases hc271 : p4 < vt
              · skip
                refine own_of (fun tgt kon => XS.icmpYes X36.here hx rfl (pc0 := 271) (pc' := 278) rfl (hb hby at_271) rfl (tlt hc271).1 (by decide) (by decide) kon) ?_
                refine own_of (fun tgt kon => XS.iconst X36.here hx rfl (hb hby at_278) kon) ?_
                show own_Wp _ _ _ _ (T36.setTop (mkF m 279 #[iv p1, iv p2, iv p3, iv p4, iv p5, iv kk, iv c0, iv c1, iv (Int32.ofNat n1), iv sel, iv d0, iv d1, iv (Int32.ofNat n2), rv x1, rv x2, rv b34, uu, iv vt] [(.int (0 : Int32))]))
                refine own_of (fun tgt kon => XS.istore X36.here hx rfl (hb hby at_279) rfl (l' := #[iv p1, iv p2, iv p3, iv p4, iv p5, iv kk, iv c0, iv c1, iv (Int32.ofNat n1), iv sel, iv d0, iv d1, iv (Int32.ofNat n2), rv x1, rv x2, rv b34, iv (0 : Int32), iv vt]) rfl kon) ?_
                refine own_of (fun tgt kon => XS.aload X36.here hx rfl (hb hby at_281) rfl rfl kon) ?_
                refine own_of (fun tgt kon => XS.aload X36.here hx rfl (hb hby at_283) rfl rfl kon) ?_
                refine own_of (fun tgt kon => XS.iloadN X36.here hx rfl (hb hby at_285) rfl kon) ?_
                refine own_callV X36 hx hZ (C := "com/example/iota_flow/iotaflow/definition/Merge") (y := (⟨"com/example/iota_flow/iotaflow/definition/Merge", "starts", "(Ljava/lang/String;I)Z"⟩ : MethodName)) (a := b34) (argsL := [(.ref x2), (.int p4)]) (rest := []) (W := 0) hown (ow hw 56 rfl) (ow hw 57 rfl) (ow hw 59 rfl) (ow hw 58 rfl) (ow hw 28 rfl) (ow hw 60 rfl) (by decide) rfl E_b34 (rmst3 l Z a0 hw [] b34 o3 x2 vt p4 T36.heap n0 Zs (E_o3.ext O.2) (Fo3.ext O.2) F_kind_b34 F_votes_b34) (by decide) (by decide) (by decide) (by decide) rfl (by rw [hml]; rfl) (lenOf own_pd16 rfl) rfl (by show 2 * 0 + _ ≤ _; exact Nat.le_of_eq rfl) (hb hby at_286) ?_
                rintro T37 L37 _ X37 ⟨rfl, N37q, e37⟩
                have N37 := Fr.app N36 N37q
                show own_Wp _ _ _ _ (T37.setTop (mkF m 289 #[iv p1, iv p2, iv p3, iv p4, iv p5, iv kk, iv c0, iv c1, iv (Int32.ofNat n1), iv sel, iv d0, iv d1, iv (Int32.ofNat n2), rv x1, rv x2, rv b34, iv (0 : Int32), iv vt] [(.int (if p4 < vt then 0 else 1))]))
                refine own_of (fun tgt kon => XS.iload X37.here hx rfl (hb hby at_289) rfl kon) ?_
                have hc291 : (if p4 < vt then 0 else 1) = (0 : Int32) := if_pos hc271
                refine own_of (fun tgt kon => XS.icmpNo X37.here hx rfl (hb hby at_291) rfl (teq hc291).2 kon) ?_
                refine own_of (fun tgt kon => XS.iconst X37.here hx rfl (hb hby at_294) kon) ?_
                refine own_of (fun tgt kon => XS.goto X37.here hx rfl (pc0 := 295) (pc' := 299) rfl (hb hby at_295) (by decide) (by decide) kon) ?_
                show own_Wp _ _ _ _ (T37.setTop (mkF m 299 #[iv p1, iv p2, iv p3, iv p4, iv p5, iv kk, iv c0, iv c1, iv (Int32.ofNat n1), iv sel, iv d0, iv d1, iv (Int32.ofNat n2), rv x1, rv x2, rv b34, iv (0 : Int32), iv vt] [(.int (1 : Int32))]))
                refine own_retW X37 (by rw [e37]; exact SW) hlk (some (.int (1 : Int32))) (own_rtI hrt) (fun fs hr => retN X37 hx (t := .boolean) hrt (by simp) (hb hby at_299) hr) ?_ (by decide) (by decide)
                rw [e37]
                exact ⟨rfl, N37⟩
              · skip
                refine own_of (fun tgt kon => XS.icmpNo X36.here hx rfl (hb hby at_271) rfl (flt hc271).1 kon) ?_
                refine own_of (fun tgt kon => XS.iconst X36.here hx rfl (hb hby at_274) kon) ?_
                show own_Wp _ _ _ _ (T36.setTop (mkF m 275 #[iv p1, iv p2, iv p3, iv p4, iv p5, iv kk, iv c0, iv c1, iv (Int32.ofNat n1), iv sel, iv d0, iv d1, iv (Int32.ofNat n2), rv x1, rv x2, rv b34, uu, iv vt] [(.int (1 : Int32))]))
                refine own_of (fun tgt kon => XS.goto X36.here hx rfl (pc0 := 275) (pc' := 279) rfl (hb hby at_275) (by decide) (by decide) kon) ?_
                refine own_of (fun tgt kon => XS.istore X36.here hx rfl (hb hby at_279) rfl (l' := #[iv p1, iv p2, iv p3, iv p4, iv p5, iv kk, iv c0, iv c1, iv (Int32.ofNat n1), iv sel, iv d0, iv d1, iv (Int32.ofNat n2), rv x1, rv x2, rv b34, iv (1 : Int32), iv vt]) rfl kon) ?_
                refine own_of (fun tgt kon => XS.aload X36.here hx rfl (hb hby at_281) rfl rfl kon) ?_
                refine own_of (fun tgt kon => XS.aload X36.here hx rfl (hb hby at_283) rfl rfl kon) ?_
                refine own_of (fun tgt kon => XS.iloadN X36.here hx rfl (hb hby at_285) rfl kon) ?_
                show own_Wp _ _ _ _ (T36.setTop (mkF m 286 #[iv p1, iv p2, iv p3, iv p4, iv p5, iv kk, iv c0, iv c1, iv (Int32.ofNat n1), iv sel, iv d0, iv d1, iv (Int32.ofNat n2), rv x1, rv x2, rv b34, iv (1 : Int32), iv vt] [(.int p4), (.ref x2), (.ref b34)]))
                refine own_callV X36 hx hZ (C := "com/example/iota_flow/iotaflow/definition/Merge") (y := (⟨"com/example/iota_flow/iotaflow/definition/Merge", "starts", "(Ljava/lang/String;I)Z"⟩ : MethodName)) (a := b34) (argsL := [(.ref x2), (.int p4)]) (rest := []) (W := 0) hown (ow hw 56 rfl) (ow hw 57 rfl) (ow hw 59 rfl) (ow hw 58 rfl) (ow hw 28 rfl) (ow hw 60 rfl) (by decide) rfl E_b34 (rmst3 l Z a0 hw [] b34 o3 x2 vt p4 T36.heap n0 Zs (E_o3.ext O.2) (Fo3.ext O.2) F_kind_b34 F_votes_b34) (by decide) (by decide) (by decide) (by decide) rfl (by rw [hml]; rfl) (lenOf own_pd16 rfl) rfl (by show 2 * 0 + _ ≤ _; exact Nat.le_of_eq rfl) (hb hby at_286) ?_
                rintro T38 L38 _ X38 ⟨rfl, N38q, e38⟩
                have N38 := Fr.app N36 N38q
                show own_Wp _ _ _ _ (T38.setTop (mkF m 289 #[iv p1, iv p2, iv p3, iv p4, iv p5, iv kk, iv c0, iv c1, iv (Int32.ofNat n1), iv sel, iv d0, iv d1, iv (Int32.ofNat n2), rv x1, rv x2, rv b34, iv (1 : Int32), iv vt] [(.int (if p4 < vt then 0 else 1))]))
                refine own_of (fun tgt kon => XS.iload X38.here hx rfl (hb hby at_289) rfl kon) ?_
                have hc291 : (if p4 < vt then 0 else 1) = (1 : Int32) := if_neg hc271
                refine own_of (fun tgt kon => XS.icmpNo X38.here hx rfl (hb hby at_291) rfl (teq hc291).2 kon) ?_
                refine own_of (fun tgt kon => XS.iconst X38.here hx rfl (hb hby at_294) kon) ?_
                refine own_of (fun tgt kon => XS.goto X38.here hx rfl (pc0 := 295) (pc' := 299) rfl (hb hby at_295) (by decide) (by decide) kon) ?_
                show own_Wp _ _ _ _ (T38.setTop (mkF m 299 #[iv p1, iv p2, iv p3, iv p4, iv p5, iv kk, iv c0, iv c1, iv (Int32.ofNat n1), iv sel, iv d0, iv d1, iv (Int32.ofNat n2), rv x1, rv x2, rv b34, iv (1 : Int32), iv vt] [(.int (1 : Int32))]))
                refine own_retW X38 (by rw [e38]; exact SW) hlk (some (.int (1 : Int32))) (own_rtI hrt) (fun fs hr => retN X38 hx (t := .boolean) hrt (by simp) (hb hby at_299) hr) ?_ (by decide) (by decide)
                rw [e38]
                exact ⟨rfl, N38⟩
    show own_Wp _ _ _ _ (s₁.setTop (mkF m 47 #[iv p1, iv p2, iv p3, iv p4, iv p5, iv kk, iv c0, iv c1, iv (Int32.ofNat n1), uu, uu, uu, uu, uu, uu, uu, uu, uu] [(.int (((p3.toUInt32 >>> ((24 : Int32) &&& 31).toUInt32).toInt32) &&& (1 : Int32)))]))
    by_cases hc47 : (((p3.toUInt32 >>> ((24 : Int32) &&& 31).toUInt32).toInt32) &&& (1 : Int32)) = (0 : Int32)
    · skip
      refine own_of (fun tgt kon => XS.ifYes X0.here hx rfl (pc0 := 47) (pc' := 56) rfl (hb hby at_47) rfl ((if0 _ _).trans (teq hc47).1) (by decide) (by decide) kon) ?_
      refine own_of (fun tgt kon => XS.iconst X0.here hx rfl (hb hby at_56) kon) ?_
      show own_Wp _ _ _ _ (s₁.setTop (mkF m 57 #[iv p1, iv p2, iv p3, iv p4, iv p5, iv kk, iv c0, iv c1, iv (Int32.ofNat n1), uu, uu, uu, uu, uu, uu, uu, uu, uu] [(.int (0 : Int32))]))
      exact J57 ((0 : Int32)) (by exact (if_pos hc47).symm)
    · skip
      refine own_of (fun tgt kon => XS.ifNo X0.here hx rfl (hb hby at_47) rfl ((if0 _ _).trans (feq hc47).1) kon) ?_
      refine own_of (fun tgt kon => XS.sipush X0.here hx rfl (hb hby at_50) kon) ?_
      refine own_of (fun tgt kon => XS.goto X0.here hx rfl (pc0 := 53) (pc' := 57) rfl (hb hby at_53) (by decide) (by decide) kon) ?_
      show own_Wp _ _ _ _ (s₁.setTop (mkF m 57 #[iv p1, iv p2, iv p3, iv p4, iv p5, iv kk, iv c0, iv c1, iv (Int32.ofNat n1), uu, uu, uu, uu, uu, uu, uu, uu, uu] [(.int (255 : Int32))]))
      exact J57 ((255 : Int32)) (by exact (if_neg hc47).symm)
  show own_Wp _ _ _ _ (s₁.setTop (mkF m 32 #[iv p1, iv p2, iv p3, iv p4, iv p5, iv kk, iv c0, iv c1, iv (Int32.ofNat nf), uu, uu, uu, uu, uu, uu, uu, uu, uu] []))
  refine own_of (fun tgt kon => XS.iload X0.here hx rfl (hb hby at_32) rfl kon) ?_
  refine own_of (fun tgt kon => XS.iconst X0.here hx rfl (hb hby at_34) kon) ?_
  by_cases hc35 : (Int32.ofNat nf) = (3 : Int32)
  · skip
    refine own_of (fun tgt kon => XS.icmpNo X0.here hx rfl (hb hby at_35) rfl (teq hc35).2 kon) ?_
    refine own_of (fun tgt kon => XS.iconst X0.here hx rfl (hb hby at_38) kon) ?_
    refine own_of (fun tgt kon => XS.istore X0.here hx rfl (hb hby at_39) rfl (l' := #[iv p1, iv p2, iv p3, iv p4, iv p5, iv kk, iv c0, iv c1, iv (2 : Int32), uu, uu, uu, uu, uu, uu, uu, uu, uu]) rfl kon) ?_
    show own_Wp _ _ _ _ (s₁.setTop (mkF m 41 #[iv p1, iv p2, iv p3, iv p4, iv p5, iv kk, iv c0, iv c1, iv (2 : Int32), uu, uu, uu, uu, uu, uu, uu, uu, uu] []))
    exact J41 (2) (by decide)
  · skip
    refine own_of (fun tgt kon => XS.icmpYes X0.here hx rfl (pc0 := 35) (pc' := 41) rfl (hb hby at_35) rfl (feq hc35).2 (by decide) (by decide) kon) ?_
    show own_Wp _ _ _ _ (s₁.setTop (mkF m 41 #[iv p1, iv p2, iv p3, iv p4, iv p5, iv kk, iv c0, iv c1, iv (Int32.ofNat nf), uu, uu, uu, uu, uu, uu, uu, uu, uu] []))
    exact J41 (nf) (by have : nf ≠ 3 := fun q => hc35 (by rw [q]; rfl); omega)
set_option maxRecDepth 65536 in
set_option maxHeartbeats 40000000 in
theorem comes_1 {Post : Tables → Env → Array Value → State → Outcome → State → Prop} (hpost : ∀ tb e args s v u, (limb_1_1.after args s (.returned v) u = true ∧ limb_1_2.after args s (.returned v) u = true ∧ True) → ReturnedEndW s (.returned v) u (Jvm.fieldLocs frame_1_writes args s ++ Jvm.arrayLocs frame_1_arrays args s ++ Jvm.staticLocs frame_1_statics s) 32 2176 → Post tb e args s (.returned v) u) :
    ArmFor flags0 classFile x code maxLocals ret World_1 tables_1 room_1 Calls_1 rest_1 Pre_1 Post := by
  intro l hfl _ _ p e ha hc hk s m args below hf hA hF happ hP
  obtain ⟨hcalls, hrest, hpre⟩ := hP
  obtain ⟨-, -, -, hnamed, -, -, -, hat⟩ := (Spec.applies_iff hf).mp happ
  obtain ⟨hg, hn⟩ := and_e (Cond.before_iff.mp (show (Jvm.Cond.and given_1 narrow_1).before args s = true from hpre))
  obtain ⟨g1, g2⟩ := and_e hg
  obtain ⟨g3, g4⟩ := and_e g2
  obtain ⟨g5, g6⟩ := and_e g4
  obtain ⟨g7, g8⟩ := and_e g6
  obtain ⟨g9, g10⟩ := and_e g8
  obtain ⟨w0, w1, w2, w3, w4, rfl⟩ : ∃ w0 w1 w2 w3 w4 : Value, args = #[w0, w1, w2, w3, w4] := by
    have hs : args.size = 5 := by simpa [Cond.value, given_1] using g1
    obtain ⟨L⟩ := args
    match L, hs with
    | [w0, w1, w2, w3, w4], _ => exact ⟨w0, w1, w2, w3, w4, rfl⟩
  have hw := fun d (hd : d ∈ tables_1) => atoms_spec (ws := Jvm.Cond.code x code maxLocals ret :: tables_1) hat d (List.mem_cons_of_mem _ hd)
  have hfit : Fit s := fun {y c} hc i hi => by
    obtain ⟨ha, rfl⟩ := Array.getElem?_eq_some_iff.mp hc
    have q := List.all_eq_true.mp ((Array.all_eq_true_iff_forall_mem.mp hF) _ (Array.getElem_mem ha)) i (List.mem_range.mpr hi)
    simpa [Array.getElem?_eq_getElem hi] using q
  obtain ⟨hsets, hown0⟩ := atoms_of _ (rest_1_c_eq ▸ (show rest_1_c.before _ s = true from hrest))
  have hr0 := Cond.before_iff.mp hown0
  obtain ⟨i0, ei0⟩ := is_v g3
  obtain rfl : w0 = (.int i0) := Option.some.inj ei0
  obtain ⟨i1, ei1⟩ := is_v g5
  obtain rfl : w1 = (.int i1) := Option.some.inj ei1
  obtain ⟨i2, ei2⟩ := is_v g7
  obtain rfl : w2 = (.int i2) := Option.some.inj ei2
  obtain ⟨i3, ei3⟩ := is_v g9
  obtain rfl : w3 = (.int i3) := Option.some.inj ei3
  obtain ⟨i4, ei4⟩ := is_v g10
  obtain rfl : w4 = (.int i4) := Option.some.inj ei4
  obtain ⟨u1, u2⟩ := and_e hn
  obtain ⟨u3, u4⟩ := and_e u2
  obtain ⟨u5, u6⟩ := and_e u4
  obtain ⟨u7, u8⟩ := and_e u6
  obtain ⟨u9, u10⟩ := and_e u8
  obtain ⟨u11, u12⟩ := and_e u10
  obtain ⟨u13, u14⟩ := and_e u12
  obtain ⟨o0, E_o0, ev0⟩ := own_exaRef u1
  have S0 := Sta.start ev0 (Or.inr ⟨(ow hw 30 rfl), (ow hw 31 rfl)⟩)
  have Fo0 := own_fldI ev0 u5
  obtain ⟨o1, E_o1, ev1⟩ := own_exaRef u13
  have S1 := Sta.start ev1 (Or.inr ⟨(ow hw 30 rfl), (ow hw 111 rfl)⟩)
  have Fo1 := own_fldI ev1 u14
  obtain ⟨o2, E_o2, ev2⟩ := own_exaRef u3
  have S2 := Sta.start ev2 (Or.inr ⟨(ow hw 30 rfl), (ow hw 47 rfl)⟩)
  have Fo2 := own_fldI ev2 u7
  obtain ⟨o3, E_o3, ev3⟩ := own_exaRef u9
  have S3 := Sta.start ev3 (Or.inr ⟨(ow hw 30 rfl), (ow hw 49 rfl)⟩)
  have Fo3 := own_fldI ev3 u11
  obtain ⟨cz, evc⟩ := is_v (Cond.before_iff.mp (hsets _ (List.mem_of_getElem? (i := 1) rfl)))
  have S_C := Sta.start evc (Or.inl (hsets _ (List.mem_of_getElem? (i := 0) rfl)))
  have hcw := hsets _ (List.mem_of_getElem? (i := 2) rfl)
  have hcz := own_notZero evc (Cond.before_iff.mp hcw)
  have hCH : CHv s EL_1 s.vm s.heap := CHv.start (own_EL hw) (fun p hp => by
      obtain rfl : p = ("java/lang/String", 7) := by simpa [EL_1] using hp
      exact hcalls.1 _ (by simp [consts_1])) hcw (ow hw 19 rfl) (ow hw 5 rfl)
  obtain ⟨n, o, h1, h2, h3, _, L, rfl, ⟨rfl, N⟩, hq⟩ := rm0 l s _ hw tables_1 i0 i1 i2 i3 i4 o0 o1 o2 o3 cz s.heap s.heap.size (Nat.le_refl _) S0 S1 S2 S3 (Fo0.ne Fo1 (by decide)) (Fo0.ne Fo2 (by decide)) (Fo0.ne Fo3 (by decide)) (Fo1.ne Fo2 (by decide)) (Fo1.ne Fo3 (by decide)) (Fo2.ne Fo3 (by decide)) E_o0 E_o1 E_o2 E_o3 Fo0 Fo1 Fo2 Fo3 S_C hcz (Old.start s) p e ha hc hk s m _ below hf ((Spec.applies_iff_loose hf).mp happ).1 ⟨rfl, State.Warmed39.refl s, rfl, hCH⟩ trivial
  refine ⟨n, _, h1, h2, h3, hpost _ _ _ _ _ _ ⟨Cond.after_iff.mpr rfl, Cond.after_iff.mpr (eq_i res_at (Term.int_eval (1)) rfl), trivial⟩ ⟨hq.1, hq.2.1, hq.2.2.1, (hq.2.2.2.sift fun y hy => Or.inr (N y hy)).mono (by decide) (by decide)⟩⟩
theorem main_1_1 : Claimed_1_1 := comes_1 fun _ _ _ _ _ _ h hF => ⟨h.1, hF⟩
theorem main_1_2 : Claimed_1_2 := comes_1 fun _ _ _ _ _ _ h hF => ⟨h.2.1, hF⟩
end Jvm.Pilot.@@N@@
namespace Jvm.Pilot.@@N@@
open Jvm Jvm.ClassFile Sem Op Lib Jvm.Free Jvm.Stand Jvm.Pilot.@@N@@.Jvm.D
/-! MADE BY PROGRAM (witnessworld.py) out of the Statement's table words and the real class files: 23 classes; the members and pool entries that the words name. The judged class is class 1, her method 2. -/
namespace start1
open Jvm.ClassFile
def u (s : String) : CpInfo := .utf8 (stringToUtf16 s)
/-- a pool by its gaps: so many unusable entries, then the entry; so many at the end -/
def gap : Nat → List CpInfo → List CpInfo
  | 0, r => r
  | n + 1, r => .unusable :: gap n r
def poolList (es : List (Nat × CpInfo)) (last : Nat) : List CpInfo := es.foldr (fun e r => gap e.1 (e.2 :: r)) (gap last [])
def pool (es : List (Nat × CpInfo)) (last : Nat) : Array CpInfo := ⟨poolList es last⟩
def fileOf (pool : Array CpInfo) (this : Nat) (attrs : Array Attribute := #[]) (ms : Array MethodInfo := #[]) (fl : Nat := 33) (sup : Nat := 0) (ifs : Array Nat := #[]) (fds : Array FieldInfo := #[]) : ClassFile where
  minorVersion := 0
  majorVersion := 65
  constantPool := pool
  accessFlags := fl
  thisClass := this
  superClass := sup
  interfaces := ifs
  fields := fds
  methods := ms
  attributes := attrs
def plain (name : String) (sup : Option ClassId) : Class where
  name := name
  kind := .ordinary
  loader := none
  accessFlags := 33
  super := sup
  interfaces := #[]
  cf := none
  fields := #[]
  methods := #[]
  instanceTypes := #[]
  staticTypes := #[]
  resolved := #[]
  callSites := []
  init := .initialized
  statics := none
  mirror := none

def pool0 : Array CpInfo := pool [(5, u "<init>"), (0, u "()V"), (1, .class_ 10), (1, u "java/lang/Object")] 113

def k0c0 : Code := { maxStack := 0, maxLocals := 1, code := object_method_1_code, exceptionTable := #[], attributes := #[] }
def k0m0 : Method := { name := "<init>", desc := "()V", sig := { parameters := [], returnType := none }, accessFlags := 1, code := some k0c0 }
/-- java/lang/Object -/
def k0 : Class := { plain "java/lang/Object" none with
  accessFlags := 33
  interfaces := #[]
  cf := some (fileOf pool0 8 #[] #[{ accessFlags := 1, nameIndex := 5, descriptorIndex := 6, attributes := #[] }] 33 0 #[] #[])
  fields := #[]
  methods := #[k0m0]
  instanceTypes := #[]
  staticTypes := #[]
  resolved := Array.replicate 124 none
  statics := none }

def pool1 : Array CpInfo := pool [(2, .class_ 4), (1, u "java/lang/Object"), (0, u "<init>"), (0, u "()V"), (0, .class_ 8), (0, u "java/lang/String"), (0, .methodref 7 10), (0, .nameAndType 5 11), (0, u "([C)V"), (0, .methodref 7 13), (0, .nameAndType 14 15), (0, u "valueOf"), (0, u "(C)Ljava/lang/String;"), (0, .methodref 17 18), (0, .class_ 19), (0, .nameAndType 20 21), (0, u "com/example/iota_flow/iotaflow/definition/MergeStartsPinLaw"), (0, u "make"), (0, u "(ICC)Ljava/lang/String;"), (0, .class_ 23), (0, u "com/example/iota_flow/iotaflow/definition/Merge"), (0, .fieldref 25 26), (0, .class_ 27), (0, .nameAndType 28 29), (0, u "com/example/iota_flow/iotaflow/definition/Merge$Kind"), (0, u "EVERY"), (0, u "Lcom/example/iota_flow/iotaflow/definition/Merge$Kind;"), (0, .methodref 22 31), (0, .nameAndType 5 32), (0, u "(Lcom/example/iota_flow/iotaflow/definition/Merge$Kind;Ljava/lang/String;I)V"), (0, .fieldref 25 34), (0, .nameAndType 35 29), (0, u "FIRST"), (0, .fieldref 25 37), (0, .nameAndType 38 29), (0, u "FLAG"), (0, .integer 2147483647), (0, .methodref 41 42), (0, .class_ 43), (0, .nameAndType 44 45), (0, u "java/lang/Math"), (0, u "max"), (0, u "(II)I"), (0, .fieldref 25 47), (0, .nameAndType 48 29), (0, u "VOTES"), (0, .methodref 22 50), (0, .nameAndType 51 52), (0, u "starts"), (0, u "(Ljava/lang/String;I)Z"), (3, u "law"), (0, u "(IIIII)Z")] 4

def k1m0 : Method := { name := "<init>", desc := "()V", sig := { parameters := [], returnType := none }, accessFlags := 1, code := none }
def k1c1 : Code := { maxStack := 6, maxLocals := 3, code := method_2_code, exceptionTable := #[], attributes := #[] }
def k1m1 : Method := { name := "make", desc := "(ICC)Ljava/lang/String;", sig := { parameters := [.int, .char, .char], returnType := some (.object "java/lang/String") }, accessFlags := 10, code := some k1c1 }
def k1c2 : Code := { maxStack := 5, maxLocals := 18, code := code, exceptionTable := #[], attributes := #[] }
def k1m2 : Method := { name := "law", desc := "(IIIII)Z", sig := { parameters := [.int, .int, .int, .int, .int], returnType := some .boolean }, accessFlags := 9, code := some k1c2 }
/-- com/example/iota_flow/iotaflow/definition/MergeStartsPinLaw -/
def k1 : Class := { plain "com/example/iota_flow/iotaflow/definition/MergeStartsPinLaw" (some 0) with
  accessFlags := 49
  interfaces := #[]
  cf := some (fileOf pool1 17 #[] #[{ accessFlags := 1, nameIndex := 5, descriptorIndex := 6, attributes := #[] }, { accessFlags := 10, nameIndex := 20, descriptorIndex := 21, attributes := #[] }, { accessFlags := 9, nameIndex := 56, descriptorIndex := 57, attributes := #[] }] 49 2 #[] #[])
  fields := #[]
  methods := #[k1m0, k1m1, k1m2]
  instanceTypes := #[]
  staticTypes := #[]
  resolved := Array.replicate 62 none
  statics := none }

def pool2 : Array CpInfo := pool [(1, .class_ 2), (0, u "java/io/Serializable"), (0, .class_ 4), (0, u "java/lang/Object")] 2

/-- java/io/Serializable -/
def k2 : Class := { plain "java/io/Serializable" (some 0) with
  accessFlags := 1537
  interfaces := #[]
  cf := some (fileOf pool2 1 #[] #[] 1537 3 #[] #[])
  fields := #[]
  methods := #[]
  instanceTypes := #[]
  staticTypes := #[]
  resolved := Array.replicate 7 none
  statics := none }

def pool3 : Array CpInfo := pool [(1, .class_ 2), (0, u "java/lang/Comparable"), (0, .class_ 4), (0, u "java/lang/Object")] 7

/-- java/lang/Comparable -/
def k3 : Class := { plain "java/lang/Comparable" (some 0) with
  accessFlags := 1537
  interfaces := #[]
  cf := some (fileOf pool3 1 #[] #[] 1537 3 #[] #[])
  fields := #[]
  methods := #[]
  instanceTypes := #[]
  staticTypes := #[]
  resolved := Array.replicate 12 none
  statics := none }

def pool4 : Array CpInfo := pool [(2, .class_ 4), (1, u "java/lang/CharSequence"), (42, .class_ 48), (0, u "java/lang/CharSequence$1CodePointIterator"), (10, .class_ 60), (0, u "java/lang/CharSequence$1CharIterator"), (5, .class_ 67), (0, u "java/lang/Object")] 63

/-- java/lang/CharSequence -/
def k4 : Class := { plain "java/lang/CharSequence" (some 0) with
  accessFlags := 1537
  interfaces := #[]
  cf := some (fileOf pool4 2 #[.nestMembers #[47, 59]] #[] 1537 66 #[] #[])
  fields := #[]
  methods := #[]
  instanceTypes := #[]
  staticTypes := #[]
  resolved := Array.replicate 131 none
  statics := none }

def pool5 : Array CpInfo := pool [(1, .class_ 2), (0, u "java/lang/constant/Constable"), (0, .class_ 4), (0, u "java/lang/Object")] 6

/-- java/lang/constant/Constable -/
def k5 : Class := { plain "java/lang/constant/Constable" (some 0) with
  accessFlags := 1537
  interfaces := #[]
  cf := some (fileOf pool5 1 #[] #[] 1537 3 #[] #[])
  fields := #[]
  methods := #[]
  instanceTypes := #[]
  staticTypes := #[]
  resolved := Array.replicate 11 none
  statics := none }

def pool6 : Array CpInfo := pool [(1, .class_ 2), (0, u "java/lang/constant/ConstantDesc"), (0, .class_ 4), (0, u "java/lang/Object")] 32

/-- java/lang/constant/ConstantDesc -/
def k6 : Class := { plain "java/lang/constant/ConstantDesc" (some 0) with
  accessFlags := 1537
  interfaces := #[]
  cf := some (fileOf pool6 1 #[] #[] 1537 3 #[] #[])
  fields := #[]
  methods := #[]
  instanceTypes := #[]
  staticTypes := #[]
  resolved := Array.replicate 37 none
  statics := none }

def pool7 : Array CpInfo := pool [(1, .methodref 2 3), (0, .class_ 4), (0, .nameAndType 5 6), (0, u "java/lang/Object"), (0, u "<init>"), (0, u "()V"), (0, .string 8), (0, u ""), (0, .fieldref 10 11), (0, .class_ 12), (0, .nameAndType 13 14), (0, u "java/lang/String"), (0, u "value"), (0, u "[B"), (0, .fieldref 10 16), (0, .nameAndType 17 18), (0, u "coder"), (0, u "B"), (2, u "hash"), (0, u "I"), (2, u "hashIsZero"), (0, u "Z"), (0, .methodref 10 28), (0, .nameAndType 5 29), (0, u "([CIILjava/lang/Void;)V"), (8, .fieldref 10 39), (0, .nameAndType 40 26), (0, u "COMPACT_STRINGS"), (1, .class_ 44), (1, u "java/lang/StringUTF16"), (0, u "compress"), (1, .methodref 42 48), (0, .nameAndType 49 50), (0, u "coderFromArrayLen"), (0, u "([BI)B"), (2, u "toBytes"), (53, .class_ 109), (1, u "java/lang/StringLatin1"), (67, .methodref 42 178), (0, .nameAndType 45 179), (0, u "([CII)[B"), (29, .methodref 10 210), (0, .nameAndType 5 211), (0, u "([BB)V"), (157, u "(C)Z"), (171, .methodref 107 542), (0, .nameAndType 543 544), (0, u "equals"), (0, u "([B[B)Z"), (28, u "(Ljava/lang/Object;)Z"), (1, .class_ 576), (0, u "java/lang/CharSequence"), (22, u "CASE_INSENSITIVE_ORDER"), (0, u "Ljava/util/Comparator;"), (181, u "valueOf"), (0, u "(C)Ljava/lang/String;"), (226, u "([C)V"), (4, .methodref 107 1016), (0, .nameAndType 1017 369), (0, u "canEncode"), (0, .methodref 107 1019), (0, .nameAndType 53 1020), (0, u "(C)[B"), (80, u "serialPersistentFields"), (0, u "[Ljava/io/ObjectStreamField;"), (0, .class_ 1104), (0, u "java/lang/String$CaseInsensitiveComparator"), (1, .class_ 1107), (0, u "java/io/Serializable"), (0, .class_ 1109), (0, u "java/lang/Comparable"), (0, .class_ 1111), (0, u "java/lang/constant/Constable"), (0, .class_ 1113), (0, u "java/lang/constant/ConstantDesc"), (2, u "serialVersionUID"), (0, u "J"), (3, u "REPL"), (0, u "C"), (2, u "LATIN1"), (1, u "UTF16")] 323

def k7m0 : Method := { name := "<init>", desc := "()V", sig := { parameters := [], returnType := none }, accessFlags := 1, code := none }
def k7c1 : Code := { maxStack := 5, maxLocals := 2, code := jdk_42_method_3_code, exceptionTable := #[], attributes := #[] }
def k7m1 : Method := { name := "<init>", desc := "([C)V", sig := { parameters := [(.array .char)], returnType := none }, accessFlags := 1, code := some k7c1 }
def k7c2 : Code := { maxStack := 2, maxLocals := 3, code := jdk_42_method_66_code, exceptionTable := #[], attributes := #[] }
def k7m2 : Method := { name := "equals", desc := "(Ljava/lang/Object;)Z", sig := { parameters := [(.object "java/lang/Object")], returnType := some .boolean }, accessFlags := 1, code := some k7c2 }
def k7c3 : Code := { maxStack := 4, maxLocals := 1, code := jdk_42_method_139_code, exceptionTable := #[], attributes := #[] }
def k7m3 : Method := { name := "valueOf", desc := "(C)Ljava/lang/String;", sig := { parameters := [.char], returnType := some (.object "java/lang/String") }, accessFlags := 9, code := some k7c3 }
def k7c4 : Code := { maxStack := 4, maxLocals := 6, code := jdk_42_method_149_code, exceptionTable := #[], attributes := #[] }
def k7m4 : Method := { name := "<init>", desc := "([CIILjava/lang/Void;)V", sig := { parameters := [(.array .char), .int, .int, (.object "java/lang/Void")], returnType := none }, accessFlags := 2, code := some k7c4 }
def k7c5 : Code := { maxStack := 2, maxLocals := 3, code := jdk_42_method_151_code, exceptionTable := #[], attributes := #[] }
def k7m5 : Method := { name := "<init>", desc := "([BB)V", sig := { parameters := [(.array .byte), .byte], returnType := none }, accessFlags := 0, code := some k7c5 }
/-- java/lang/String -/
def k7 : Class := { plain "java/lang/String" (some 0) with
  accessFlags := 49
  interfaces := #[2, 3, 4, 5, 6]
  cf := some (fileOf pool7 10 #[.nestMembers #[1103]] #[{ accessFlags := 1, nameIndex := 5, descriptorIndex := 6, attributes := #[] }, { accessFlags := 1, nameIndex := 5, descriptorIndex := 1010, attributes := #[] }, { accessFlags := 1, nameIndex := 543, descriptorIndex := 573, attributes := #[] }, { accessFlags := 9, nameIndex := 782, descriptorIndex := 783, attributes := #[] }, { accessFlags := 2, nameIndex := 5, descriptorIndex := 29, attributes := #[] }, { accessFlags := 0, nameIndex := 5, descriptorIndex := 211, attributes := #[] }] 49 2 #[1106, 1108, 575, 1110, 1112] #[{ accessFlags := 18, nameIndex := 13, descriptorIndex := 14, attributes := #[] }, { accessFlags := 18, nameIndex := 17, descriptorIndex := 18, attributes := #[] }, { accessFlags := 2, nameIndex := 21, descriptorIndex := 22, attributes := #[] }, { accessFlags := 2, nameIndex := 25, descriptorIndex := 26, attributes := #[] }, { accessFlags := 26, nameIndex := 1116, descriptorIndex := 1117, attributes := #[] }, { accessFlags := 24, nameIndex := 40, descriptorIndex := 26, attributes := #[] }, { accessFlags := 26, nameIndex := 1101, descriptorIndex := 1102, attributes := #[] }, { accessFlags := 26, nameIndex := 1121, descriptorIndex := 1122, attributes := #[] }, { accessFlags := 25, nameIndex := 599, descriptorIndex := 600, attributes := #[] }, { accessFlags := 24, nameIndex := 1125, descriptorIndex := 18, attributes := #[] }, { accessFlags := 24, nameIndex := 1127, descriptorIndex := 18, attributes := #[] }])
  fields := #[{ name := "value", type := (.array .byte), accessFlags := 18, slot := 0, constantValue := 0 }, { name := "coder", type := .byte, accessFlags := 18, slot := 1, constantValue := 0 }, { name := "hash", type := .int, accessFlags := 2, slot := 2, constantValue := 0 }, { name := "hashIsZero", type := .boolean, accessFlags := 2, slot := 3, constantValue := 0 }, { name := "serialVersionUID", type := .long, accessFlags := 26, slot := 0, constantValue := 0 }, { name := "COMPACT_STRINGS", type := .boolean, accessFlags := 24, slot := 1, constantValue := 0 }, { name := "serialPersistentFields", type := (.array (.object "java/io/ObjectStreamField")), accessFlags := 26, slot := 2, constantValue := 0 }, { name := "REPL", type := .char, accessFlags := 26, slot := 3, constantValue := 0 }, { name := "CASE_INSENSITIVE_ORDER", type := (.object "java/util/Comparator"), accessFlags := 25, slot := 4, constantValue := 0 }, { name := "LATIN1", type := .byte, accessFlags := 24, slot := 5, constantValue := 0 }, { name := "UTF16", type := .byte, accessFlags := 24, slot := 6, constantValue := 0 }]
  methods := #[k7m0, k7m1, k7m2, k7m3, k7m4, k7m5]
  instanceTypes := #[(.array .byte), .byte, .int, .boolean]
  staticTypes := #[.long, .boolean, (.array (.object "java/io/ObjectStreamField")), .char, (.object "java/util/Comparator"), .byte, .byte]
  resolved := Array.replicate 1451 none
  statics := some 0 }

def pool8 : Array CpInfo := pool [(1, .methodref 2 3), (0, .class_ 4), (0, .nameAndType 5 6), (0, u "java/lang/Object"), (0, u "<init>"), (0, u "()V"), (0, .class_ 8), (0, u "java/lang/Record")] 13

def k8c0 : Code := { maxStack := 1, maxLocals := 1, code := jdk_30_method_1_code, exceptionTable := #[], attributes := #[] }
def k8m0 : Method := { name := "<init>", desc := "()V", sig := { parameters := [], returnType := none }, accessFlags := 4, code := some k8c0 }
/-- java/lang/Record -/
def k8 : Class := { plain "java/lang/Record" (some 0) with
  accessFlags := 1057
  interfaces := #[]
  cf := some (fileOf pool8 7 #[] #[{ accessFlags := 4, nameIndex := 5, descriptorIndex := 6, attributes := #[] }] 1057 2 #[] #[])
  fields := #[]
  methods := #[k8m0]
  instanceTypes := #[]
  staticTypes := #[]
  resolved := Array.replicate 22 none
  statics := none }

def pool9 : Array CpInfo := pool [(1, .methodref 2 3), (0, .class_ 4), (0, .nameAndType 5 6), (0, u "java/lang/Record"), (0, u "<init>"), (0, u "()V"), (0, .string 8), (0, u "kind"), (0, .methodref 10 11), (0, .class_ 12), (0, .nameAndType 13 14), (0, u "java/util/Objects"), (0, u "requireNonNull"), (0, u "(Ljava/lang/Object;Ljava/lang/String;)Ljava/lang/Object;"), (0, .fieldref 16 17), (0, .class_ 18), (0, .nameAndType 19 20), (0, u "com/example/iota_flow/iotaflow/definition/Merge$Kind"), (0, u "FLAG"), (0, u "Lcom/example/iota_flow/iotaflow/definition/Merge$Kind;"), (3, .class_ 26), (1, u "java/lang/String"), (13, .fieldref 16 41), (0, .nameAndType 42 20), (0, u "VOTES"), (3, .fieldref 47 48), (0, .class_ 49), (0, .nameAndType 8 20), (0, u "com/example/iota_flow/iotaflow/definition/Merge"), (0, .fieldref 47 51), (0, .nameAndType 52 53), (0, u "flag"), (0, u "Ljava/lang/String;"), (0, .fieldref 47 55), (0, .nameAndType 56 57), (0, u "votes"), (0, u "I"), (3, u "(Lcom/example/iota_flow/iotaflow/definition/Merge$Kind;Ljava/lang/String;I)V"), (3, .methodref 16 66), (0, .nameAndType 67 68), (0, u "ordinal"), (0, u "()I"), (5, .methodref 24 75), (0, .nameAndType 76 77), (0, u "equals"), (0, u "(Ljava/lang/Object;)Z"), (13, u "EVERY_ARRIVAL"), (0, u "Lcom/example/iota_flow/iotaflow/definition/Merge;"), (5, u "FIRST_ARRIVAL"), (10, u "starts"), (0, u "(Ljava/lang/String;I)Z")] 37

def k9c0 : Code := { maxStack := 5, maxLocals := 4, code := prog_17_method_1_code, exceptionTable := #[], attributes := #[] }
def k9m0 : Method := { name := "<init>", desc := "(Lcom/example/iota_flow/iotaflow/definition/Merge$Kind;Ljava/lang/String;I)V", sig := { parameters := [(.object "com/example/iota_flow/iotaflow/definition/Merge$Kind"), (.object "java/lang/String"), .int], returnType := none }, accessFlags := 1, code := some k9c0 }
def k9c1 : Code := { maxStack := 4, maxLocals := 3, code := prog_17_method_5_code, exceptionTable := #[], attributes := #[] }
def k9m1 : Method := { name := "starts", desc := "(Ljava/lang/String;I)Z", sig := { parameters := [(.object "java/lang/String"), .int], returnType := some .boolean }, accessFlags := 1, code := some k9c1 }
/-- com/example/iota_flow/iotaflow/definition/Merge -/
def k9 : Class := { plain "com/example/iota_flow/iotaflow/definition/Merge" (some 8) with
  accessFlags := 49
  interfaces := #[]
  cf := some (fileOf pool9 47 #[.nestMembers #[16]] #[{ accessFlags := 1, nameIndex := 5, descriptorIndex := 61, attributes := #[] }, { accessFlags := 1, nameIndex := 109, descriptorIndex := 110, attributes := #[] }] 49 2 #[] #[{ accessFlags := 18, nameIndex := 8, descriptorIndex := 20, attributes := #[] }, { accessFlags := 18, nameIndex := 52, descriptorIndex := 53, attributes := #[] }, { accessFlags := 18, nameIndex := 56, descriptorIndex := 57, attributes := #[] }, { accessFlags := 25, nameIndex := 91, descriptorIndex := 92, attributes := #[] }, { accessFlags := 25, nameIndex := 98, descriptorIndex := 92, attributes := #[] }])
  fields := #[{ name := "kind", type := (.object "com/example/iota_flow/iotaflow/definition/Merge$Kind"), accessFlags := 18, slot := 0, constantValue := 0 }, { name := "flag", type := (.object "java/lang/String"), accessFlags := 18, slot := 1, constantValue := 0 }, { name := "votes", type := .int, accessFlags := 18, slot := 2, constantValue := 0 }, { name := "EVERY_ARRIVAL", type := (.object "com/example/iota_flow/iotaflow/definition/Merge"), accessFlags := 25, slot := 0, constantValue := 0 }, { name := "FIRST_ARRIVAL", type := (.object "com/example/iota_flow/iotaflow/definition/Merge"), accessFlags := 25, slot := 1, constantValue := 0 }]
  methods := #[k9m0, k9m1]
  instanceTypes := #[(.object "com/example/iota_flow/iotaflow/definition/Merge$Kind"), (.object "java/lang/String"), .int]
  staticTypes := #[(.object "com/example/iota_flow/iotaflow/definition/Merge"), (.object "com/example/iota_flow/iotaflow/definition/Merge")]
  resolved := Array.replicate 148 none
  statics := none }

def pool10 : Array CpInfo := pool [(2, .class_ 4), (1, u "java/lang/Enum"), (0, u "name"), (0, u "Ljava/lang/String;"), (0, .fieldref 2 8), (0, .nameAndType 9 10), (0, u "ordinal"), (0, u "I"), (1, .class_ 14), (1, u "java/lang/Object"), (4, u "hash"), (86, .class_ 108), (1, u "java/lang/Enum$EnumDesc"), (2, .class_ 112), (0, u "java/lang/constant/Constable"), (0, .class_ 114), (0, u "java/lang/Comparable"), (0, .class_ 116), (0, u "java/io/Serializable"), (9, u "()I")] 77

def k10c0 : Code := { maxStack := 1, maxLocals := 1, code := jdk_37_method_2_code, exceptionTable := #[], attributes := #[] }
def k10m0 : Method := { name := "ordinal", desc := "()I", sig := { parameters := [], returnType := some .int }, accessFlags := 17, code := some k10c0 }
/-- java/lang/Enum -/
def k10 : Class := { plain "java/lang/Enum" (some 0) with
  accessFlags := 1057
  interfaces := #[5, 3, 2]
  cf := some (fileOf pool10 2 #[.nestMembers #[106]] #[{ accessFlags := 17, nameIndex := 9, descriptorIndex := 126, attributes := #[] }] 1057 12 #[111, 113, 115] #[{ accessFlags := 18, nameIndex := 5, descriptorIndex := 6, attributes := #[] }, { accessFlags := 18, nameIndex := 9, descriptorIndex := 10, attributes := #[] }, { accessFlags := 2, nameIndex := 19, descriptorIndex := 10, attributes := #[] }])
  fields := #[{ name := "name", type := (.object "java/lang/String"), accessFlags := 18, slot := 0, constantValue := 0 }, { name := "ordinal", type := .int, accessFlags := 18, slot := 1, constantValue := 0 }, { name := "hash", type := .int, accessFlags := 2, slot := 2, constantValue := 0 }]
  methods := #[k10m0]
  instanceTypes := #[(.object "java/lang/String"), .int, .int]
  staticTypes := #[]
  resolved := Array.replicate 204 none
  statics := none }

def pool11 : Array CpInfo := pool [(1, .class_ 2), (0, u "com/example/iota_flow/iotaflow/definition/Merge$Kind"), (2, u "EVERY"), (0, u "Lcom/example/iota_flow/iotaflow/definition/Merge$Kind;"), (2, u "FIRST"), (2, u "FLAG"), (2, u "VOTES"), (2, u "$VALUES"), (0, u "[Lcom/example/iota_flow/iotaflow/definition/Merge$Kind;"), (6, .class_ 28), (1, u "java/lang/Enum"), (27, .class_ 57), (0, u "com/example/iota_flow/iotaflow/definition/Merge")] 2

/-- com/example/iota_flow/iotaflow/definition/Merge$Kind -/
def k11 : Class := { plain "com/example/iota_flow/iotaflow/definition/Merge$Kind" (some 10) with
  accessFlags := 16433
  interfaces := #[]
  cf := some (fileOf pool11 1 #[.nestHost 56] #[] 16433 26 #[] #[{ accessFlags := 16409, nameIndex := 5, descriptorIndex := 6, attributes := #[] }, { accessFlags := 16409, nameIndex := 9, descriptorIndex := 6, attributes := #[] }, { accessFlags := 16409, nameIndex := 12, descriptorIndex := 6, attributes := #[] }, { accessFlags := 16409, nameIndex := 15, descriptorIndex := 6, attributes := #[] }, { accessFlags := 4122, nameIndex := 18, descriptorIndex := 19, attributes := #[] }])
  fields := #[{ name := "EVERY", type := (.object "com/example/iota_flow/iotaflow/definition/Merge$Kind"), accessFlags := 16409, slot := 0, constantValue := 0 }, { name := "FIRST", type := (.object "com/example/iota_flow/iotaflow/definition/Merge$Kind"), accessFlags := 16409, slot := 1, constantValue := 0 }, { name := "FLAG", type := (.object "com/example/iota_flow/iotaflow/definition/Merge$Kind"), accessFlags := 16409, slot := 2, constantValue := 0 }, { name := "VOTES", type := (.object "com/example/iota_flow/iotaflow/definition/Merge$Kind"), accessFlags := 16409, slot := 3, constantValue := 0 }, { name := "$VALUES", type := (.array (.object "com/example/iota_flow/iotaflow/definition/Merge$Kind")), accessFlags := 4122, slot := 4, constantValue := 0 }]
  methods := #[]
  instanceTypes := #[(.object "java/lang/String"), .int, .int]
  staticTypes := #[(.object "com/example/iota_flow/iotaflow/definition/Merge$Kind"), (.object "com/example/iota_flow/iotaflow/definition/Merge$Kind"), (.object "com/example/iota_flow/iotaflow/definition/Merge$Kind"), (.object "com/example/iota_flow/iotaflow/definition/Merge$Kind"), (.array (.object "com/example/iota_flow/iotaflow/definition/Merge$Kind"))]
  resolved := Array.replicate 60 none
  statics := some 1 }

def pool12 : Array CpInfo := pool [(2, .class_ 4), (1, u "java/lang/Object"), (0, u "<init>"), (0, u "()V"), (35, .class_ 44), (1, u "java/util/Objects"), (0, u "requireNonNull"), (48, u "(Ljava/lang/Object;Ljava/lang/String;)Ljava/lang/Object;")] 89

def k12m0 : Method := { name := "<init>", desc := "()V", sig := { parameters := [], returnType := none }, accessFlags := 2, code := none }
def k12c1 : Code := { maxStack := 3, maxLocals := 2, code := jdk_31_method_11_code, exceptionTable := #[], attributes := #[] }
def k12m1 : Method := { name := "requireNonNull", desc := "(Ljava/lang/Object;Ljava/lang/String;)Ljava/lang/Object;", sig := { parameters := [(.object "java/lang/Object"), (.object "java/lang/String")], returnType := some (.object "java/lang/Object") }, accessFlags := 9, code := some k12c1 }
/-- java/util/Objects -/
def k12 : Class := { plain "java/util/Objects" (some 0) with
  accessFlags := 49
  interfaces := #[]
  cf := some (fileOf pool12 42 #[] #[{ accessFlags := 2, nameIndex := 5, descriptorIndex := 6, attributes := #[] }, { accessFlags := 9, nameIndex := 45, descriptorIndex := 94, attributes := #[] }] 49 2 #[] #[])
  fields := #[]
  methods := #[k12m0, k12m1]
  instanceTypes := #[]
  staticTypes := #[]
  resolved := Array.replicate 184 none
  statics := none }

def pool13 : Array CpInfo := pool [(1, .class_ 2), (0, u "java/lang/Math"), (1, .class_ 6), (1, u "java/lang/Object"), (0, u "<init>"), (0, u "()V"), (89, .class_ 100), (1, u "java/lang/Math$RandomNumberGeneratorHolder"), (71, u "negativeZeroFloatBits"), (0, u "J"), (2, u "negativeZeroDoubleBits"), (21, u "max"), (46, u "$assertionsDisabled"), (0, u "Z"), (88, u "(II)I"), (2, u "twoToTheDoubleScaleDown"), (0, u "D"), (4, u "twoToTheDoubleScaleUp"), (9, u "E"), (3, u "PI"), (2, u "TAU"), (2, u "DEGREES_TO_RADIANS"), (0, u "RADIANS_TO_DEGREES")] 94

def k13m0 : Method := { name := "<init>", desc := "()V", sig := { parameters := [], returnType := none }, accessFlags := 2, code := none }
def k13c1 : Code := { maxStack := 2, maxLocals := 2, code := jdk_29_method_65_code, exceptionTable := #[], attributes := #[] }
def k13m1 : Method := { name := "max", desc := "(II)I", sig := { parameters := [.int, .int], returnType := some .int }, accessFlags := 9, code := some k13c1 }
/-- java/lang/Math -/
def k13 : Class := { plain "java/lang/Math" (some 0) with
  accessFlags := 49
  interfaces := #[]
  cf := some (fileOf pool13 1 #[.nestMembers #[98]] #[{ accessFlags := 2, nameIndex := 7, descriptorIndex := 8, attributes := #[] }, { accessFlags := 9, nameIndex := 198, descriptorIndex := 335, attributes := #[] }] 49 4 #[] #[{ accessFlags := 25, nameIndex := 354, descriptorIndex := 339, attributes := #[] }, { accessFlags := 25, nameIndex := 358, descriptorIndex := 339, attributes := #[] }, { accessFlags := 25, nameIndex := 361, descriptorIndex := 339, attributes := #[] }, { accessFlags := 26, nameIndex := 364, descriptorIndex := 339, attributes := #[] }, { accessFlags := 26, nameIndex := 365, descriptorIndex := 339, attributes := #[] }, { accessFlags := 26, nameIndex := 172, descriptorIndex := 173, attributes := #[] }, { accessFlags := 26, nameIndex := 176, descriptorIndex := 173, attributes := #[] }, { accessFlags := 8, nameIndex := 344, descriptorIndex := 339, attributes := #[] }, { accessFlags := 8, nameIndex := 338, descriptorIndex := 339, attributes := #[] }, { accessFlags := 4120, nameIndex := 245, descriptorIndex := 246, attributes := #[] }])
  fields := #[{ name := "E", type := .double, accessFlags := 25, slot := 0, constantValue := 0 }, { name := "PI", type := .double, accessFlags := 25, slot := 1, constantValue := 0 }, { name := "TAU", type := .double, accessFlags := 25, slot := 2, constantValue := 0 }, { name := "DEGREES_TO_RADIANS", type := .double, accessFlags := 26, slot := 3, constantValue := 0 }, { name := "RADIANS_TO_DEGREES", type := .double, accessFlags := 26, slot := 4, constantValue := 0 }, { name := "negativeZeroFloatBits", type := .long, accessFlags := 26, slot := 5, constantValue := 0 }, { name := "negativeZeroDoubleBits", type := .long, accessFlags := 26, slot := 6, constantValue := 0 }, { name := "twoToTheDoubleScaleUp", type := .double, accessFlags := 8, slot := 7, constantValue := 0 }, { name := "twoToTheDoubleScaleDown", type := .double, accessFlags := 8, slot := 8, constantValue := 0 }, { name := "$assertionsDisabled", type := .boolean, accessFlags := 4120, slot := 9, constantValue := 0 }]
  methods := #[k13m0, k13m1]
  instanceTypes := #[]
  staticTypes := #[.double, .double, .double, .double, .double, .long, .long, .double, .double, .boolean]
  resolved := Array.replicate 460 none
  statics := none }

def pool14 : Array CpInfo := pool [(6, .class_ 8), (1, u "java/lang/Object"), (0, u "<init>"), (0, u "()V"), (1, .class_ 14), (1, u "java/lang/StringUTF16"), (31, u "$assertionsDisabled"), (0, u "Z"), (13, u "HI_BYTE_SHIFT"), (0, u "I"), (2, u "LO_BYTE_SHIFT"), (49, .methodref 12 116), (0, .nameAndType 117 118), (0, u "compress"), (0, u "([CI[BII)I"), (3, u "([CII)[B"), (138, u "coderFromArrayLen"), (0, u "([BI)B"), (106, .class_ 371), (1, u "java/lang/StringUTF16$LinesSpliterator"), (58, u "MAX_LENGTH"), (196, .class_ 628), (0, u "java/lang/StringUTF16$CodePointsSpliterator"), (0, .class_ 630), (0, u "java/lang/StringUTF16$CharsSpliterator")] 4

def k14m0 : Method := { name := "<init>", desc := "()V", sig := { parameters := [], returnType := none }, accessFlags := 0, code := none }
def k14c1 : Code := { maxStack := 2, maxLocals := 2, code := jdk_52_method_15_code, exceptionTable := #[], attributes := #[] }
def k14m1 : Method := { name := "coderFromArrayLen", desc := "([BI)B", sig := { parameters := [(.array .byte), .int], returnType := some .byte }, accessFlags := 8, code := some k14c1 }
def k14c2 : Code := { maxStack := 5, maxLocals := 6, code := jdk_52_method_16_code, exceptionTable := #[], attributes := #[] }
def k14m2 : Method := { name := "compress", desc := "([CII)[B", sig := { parameters := [(.array .char), .int, .int], returnType := some (.array .byte) }, accessFlags := 9, code := some k14c2 }
def k14c3 : Code := { maxStack := 3, maxLocals := 7, code := jdk_52_method_21_code, exceptionTable := #[], attributes := #[] }
def k14m3 : Method := { name := "compress", desc := "([CI[BII)I", sig := { parameters := [(.array .char), .int, (.array .byte), .int, .int], returnType := some .int }, accessFlags := 9, code := some k14c3 }
/-- java/lang/StringUTF16 -/
def k14 : Class := { plain "java/lang/StringUTF16" (some 0) with
  accessFlags := 48
  interfaces := #[]
  cf := some (fileOf pool14 12 #[.nestMembers #[627, 629, 369]] #[{ accessFlags := 0, nameIndex := 9, descriptorIndex := 10, attributes := #[] }, { accessFlags := 8, nameIndex := 261, descriptorIndex := 262, attributes := #[] }, { accessFlags := 9, nameIndex := 117, descriptorIndex := 122, attributes := #[] }, { accessFlags := 9, nameIndex := 117, descriptorIndex := 118, attributes := #[] }] 48 6 #[] #[{ accessFlags := 26, nameIndex := 61, descriptorIndex := 62, attributes := #[] }, { accessFlags := 26, nameIndex := 65, descriptorIndex := 62, attributes := #[] }, { accessFlags := 24, nameIndex := 430, descriptorIndex := 62, attributes := #[] }, { accessFlags := 4120, nameIndex := 46, descriptorIndex := 47, attributes := #[] }])
  fields := #[{ name := "HI_BYTE_SHIFT", type := .int, accessFlags := 26, slot := 0, constantValue := 0 }, { name := "LO_BYTE_SHIFT", type := .int, accessFlags := 26, slot := 1, constantValue := 0 }, { name := "MAX_LENGTH", type := .int, accessFlags := 24, slot := 2, constantValue := 0 }, { name := "$assertionsDisabled", type := .boolean, accessFlags := 4120, slot := 3, constantValue := 0 }]
  methods := #[k14m0, k14m1, k14m2, k14m3]
  instanceTypes := #[]
  staticTypes := #[.int, .int, .int, .boolean]
  resolved := Array.replicate 635 none
  statics := none }

def pool15 : Array CpInfo := pool [(4, .class_ 6), (1, u "java/lang/Object"), (0, u "<init>"), (0, u "()V"), (5, .class_ 16), (1, u "java/lang/StringLatin1"), (73, u "canEncode"), (14, u "(C)Z"), (15, u "$assertionsDisabled"), (0, u "Z"), (98, .class_ 223), (1, u "java/lang/StringLatin1$LinesSpliterator"), (57, u "equals"), (0, u "([B[B)Z"), (97, u "toBytes"), (1, u "(C)[B"), (7, .class_ 391), (0, u "java/lang/StringLatin1$CharsSpliterator")] 3

def k15m0 : Method := { name := "<init>", desc := "()V", sig := { parameters := [], returnType := none }, accessFlags := 0, code := none }
def k15c1 : Code := { maxStack := 2, maxLocals := 1, code := jdk_43_method_3_code, exceptionTable := #[], attributes := #[] }
def k15m1 : Method := { name := "canEncode", desc := "(C)Z", sig := { parameters := [.char], returnType := some .boolean }, accessFlags := 9, code := some k15c1 }
def k15c2 : Code := { maxStack := 3, maxLocals := 3, code := jdk_43_method_13_code, exceptionTable := #[], attributes := #[] }
def k15m2 : Method := { name := "equals", desc := "([B[B)Z", sig := { parameters := [(.array .byte), (.array .byte)], returnType := some .boolean }, accessFlags := 9, code := some k15c2 }
def k15c3 : Code := { maxStack := 4, maxLocals := 1, code := jdk_43_method_46_code, exceptionTable := #[], attributes := #[] }
def k15m3 : Method := { name := "toBytes", desc := "(C)[B", sig := { parameters := [.char], returnType := some (.array .byte) }, accessFlags := 9, code := some k15c3 }
/-- java/lang/StringLatin1 -/
def k15 : Class := { plain "java/lang/StringLatin1" (some 0) with
  accessFlags := 48
  interfaces := #[]
  cf := some (fileOf pool15 14 #[.nestMembers #[390, 221]] #[{ accessFlags := 0, nameIndex := 7, descriptorIndex := 8, attributes := #[] }, { accessFlags := 9, nameIndex := 90, descriptorIndex := 105, attributes := #[] }, { accessFlags := 9, nameIndex := 281, descriptorIndex := 282, attributes := #[] }, { accessFlags := 9, nameIndex := 380, descriptorIndex := 382, attributes := #[] }] 48 4 #[] #[{ accessFlags := 4120, nameIndex := 121, descriptorIndex := 122, attributes := #[] }])
  fields := #[{ name := "$assertionsDisabled", type := .boolean, accessFlags := 4120, slot := 0, constantValue := 0 }]
  methods := #[k15m0, k15m1, k15m2, k15m3]
  instanceTypes := #[]
  staticTypes := #[.boolean]
  resolved := Array.replicate 395 none
  statics := none }

def pool16 : Array CpInfo := pool [(2, .class_ 4), (1, u "java/lang/Object"), (0, u "<init>"), (0, u "()V"), (17, .class_ 26), (1, u "jdk/internal/util/Preconditions"), (28, .class_ 56), (0, u "jdk/internal/util/Preconditions$4"), (57, .class_ 115), (0, u "jdk/internal/util/Preconditions$1"), (7, u "SIOOBE_FORMATTER"), (0, u "Ljava/util/function/BiFunction;"), (0, .class_ 126), (0, u "jdk/internal/util/Preconditions$2"), (3, u "AIOOBE_FORMATTER"), (0, .class_ 132), (0, u "jdk/internal/util/Preconditions$3"), (3, u "IOOBE_FORMATTER")] 57

def k16m0 : Method := { name := "<init>", desc := "()V", sig := { parameters := [], returnType := none }, accessFlags := 1, code := none }
/-- jdk/internal/util/Preconditions -/
def k16 : Class := { plain "jdk/internal/util/Preconditions" (some 0) with
  accessFlags := 33
  interfaces := #[]
  cf := some (fileOf pool16 24 #[.nestMembers #[55, 131, 125, 114]] #[{ accessFlags := 1, nameIndex := 5, descriptorIndex := 6, attributes := #[] }] 33 2 #[] #[{ accessFlags := 25, nameIndex := 123, descriptorIndex := 124, attributes := #[] }, { accessFlags := 25, nameIndex := 130, descriptorIndex := 124, attributes := #[] }, { accessFlags := 25, nameIndex := 136, descriptorIndex := 124, attributes := #[] }])
  fields := #[{ name := "SIOOBE_FORMATTER", type := (.object "java/util/function/BiFunction"), accessFlags := 25, slot := 0, constantValue := 0 }, { name := "AIOOBE_FORMATTER", type := (.object "java/util/function/BiFunction"), accessFlags := 25, slot := 1, constantValue := 0 }, { name := "IOOBE_FORMATTER", type := (.object "java/util/function/BiFunction"), accessFlags := 25, slot := 2, constantValue := 0 }]
  methods := #[k16m0]
  instanceTypes := #[]
  staticTypes := #[(.object "java/util/function/BiFunction"), (.object "java/util/function/BiFunction"), (.object "java/util/function/BiFunction")]
  resolved := Array.replicate 194 none
  statics := some 2 }

def pool17 : Array CpInfo := pool [(9, u "<init>"), (6, .class_ 18), (1, u "java/lang/Object"), (0, u "()V"), (1, .class_ 23), (1, u "jdk/internal/util/ArraysSupport"), (0, u "LOG2_ARRAY_LONG_INDEX_SCALE"), (0, u "I"), (2, u "U"), (0, u "Ljdk/internal/misc/Unsafe;"), (8, u "BIG_ENDIAN"), (0, u "Z"), (8, u "LOG2_BYTE_BIT_SIZE"), (4, u "LOG2_ARRAY_INT_INDEX_SCALE"), (54, u "JLA"), (0, u "Ljdk/internal/access/JavaLangAccess;"), (11, u "LOG2_ARRAY_BOOLEAN_INDEX_SCALE"), (9, u "LOG2_ARRAY_BYTE_INDEX_SCALE"), (5, u "LOG2_ARRAY_CHAR_INDEX_SCALE"), (5, u "LOG2_ARRAY_SHORT_INDEX_SCALE"), (18, u "LOG2_ARRAY_FLOAT_INDEX_SCALE"), (24, u "LOG2_ARRAY_DOUBLE_INDEX_SCALE"), (89, u "T_BOOLEAN"), (2, u "T_CHAR"), (1, u "T_FLOAT"), (1, u "T_DOUBLE"), (1, u "T_BYTE"), (1, u "T_SHORT"), (1, u "T_INT"), (1, u "T_LONG"), (1, u "SOFT_MAX_ARRAY_LENGTH")] 83

def k17m0 : Method := { name := "<init>", desc := "()V", sig := { parameters := [], returnType := none }, accessFlags := 2, code := none }
/-- jdk/internal/util/ArraysSupport -/
def k17 : Class := { plain "jdk/internal/util/ArraysSupport" (some 0) with
  accessFlags := 33
  interfaces := #[]
  cf := some (fileOf pool17 21 #[] #[{ accessFlags := 2, nameIndex := 9, descriptorIndex := 19, attributes := #[] }] 33 16 #[] #[{ accessFlags := 24, nameIndex := 28, descriptorIndex := 29, attributes := #[] }, { accessFlags := 26, nameIndex := 38, descriptorIndex := 39, attributes := #[] }, { accessFlags := 25, nameIndex := 121, descriptorIndex := 25, attributes := #[] }, { accessFlags := 25, nameIndex := 131, descriptorIndex := 25, attributes := #[] }, { accessFlags := 25, nameIndex := 137, descriptorIndex := 25, attributes := #[] }, { accessFlags := 25, nameIndex := 143, descriptorIndex := 25, attributes := #[] }, { accessFlags := 25, nameIndex := 53, descriptorIndex := 25, attributes := #[] }, { accessFlags := 25, nameIndex := 24, descriptorIndex := 25, attributes := #[] }, { accessFlags := 25, nameIndex := 162, descriptorIndex := 25, attributes := #[] }, { accessFlags := 25, nameIndex := 187, descriptorIndex := 25, attributes := #[] }, { accessFlags := 26, nameIndex := 48, descriptorIndex := 25, attributes := #[] }, { accessFlags := 25, nameIndex := 277, descriptorIndex := 25, attributes := #[] }, { accessFlags := 25, nameIndex := 280, descriptorIndex := 25, attributes := #[] }, { accessFlags := 25, nameIndex := 282, descriptorIndex := 25, attributes := #[] }, { accessFlags := 25, nameIndex := 284, descriptorIndex := 25, attributes := #[] }, { accessFlags := 25, nameIndex := 286, descriptorIndex := 25, attributes := #[] }, { accessFlags := 25, nameIndex := 288, descriptorIndex := 25, attributes := #[] }, { accessFlags := 25, nameIndex := 290, descriptorIndex := 25, attributes := #[] }, { accessFlags := 25, nameIndex := 292, descriptorIndex := 25, attributes := #[] }, { accessFlags := 26, nameIndex := 108, descriptorIndex := 109, attributes := #[] }, { accessFlags := 25, nameIndex := 294, descriptorIndex := 25, attributes := #[] }])
  fields := #[{ name := "U", type := (.object "jdk/internal/misc/Unsafe"), accessFlags := 24, slot := 0, constantValue := 0 }, { name := "BIG_ENDIAN", type := .boolean, accessFlags := 26, slot := 1, constantValue := 0 }, { name := "LOG2_ARRAY_BOOLEAN_INDEX_SCALE", type := .int, accessFlags := 25, slot := 2, constantValue := 0 }, { name := "LOG2_ARRAY_BYTE_INDEX_SCALE", type := .int, accessFlags := 25, slot := 3, constantValue := 0 }, { name := "LOG2_ARRAY_CHAR_INDEX_SCALE", type := .int, accessFlags := 25, slot := 4, constantValue := 0 }, { name := "LOG2_ARRAY_SHORT_INDEX_SCALE", type := .int, accessFlags := 25, slot := 5, constantValue := 0 }, { name := "LOG2_ARRAY_INT_INDEX_SCALE", type := .int, accessFlags := 25, slot := 6, constantValue := 0 }, { name := "LOG2_ARRAY_LONG_INDEX_SCALE", type := .int, accessFlags := 25, slot := 7, constantValue := 0 }, { name := "LOG2_ARRAY_FLOAT_INDEX_SCALE", type := .int, accessFlags := 25, slot := 8, constantValue := 0 }, { name := "LOG2_ARRAY_DOUBLE_INDEX_SCALE", type := .int, accessFlags := 25, slot := 9, constantValue := 0 }, { name := "LOG2_BYTE_BIT_SIZE", type := .int, accessFlags := 26, slot := 10, constantValue := 0 }, { name := "T_BOOLEAN", type := .int, accessFlags := 25, slot := 11, constantValue := 0 }, { name := "T_CHAR", type := .int, accessFlags := 25, slot := 12, constantValue := 0 }, { name := "T_FLOAT", type := .int, accessFlags := 25, slot := 13, constantValue := 0 }, { name := "T_DOUBLE", type := .int, accessFlags := 25, slot := 14, constantValue := 0 }, { name := "T_BYTE", type := .int, accessFlags := 25, slot := 15, constantValue := 0 }, { name := "T_SHORT", type := .int, accessFlags := 25, slot := 16, constantValue := 0 }, { name := "T_INT", type := .int, accessFlags := 25, slot := 17, constantValue := 0 }, { name := "T_LONG", type := .int, accessFlags := 25, slot := 18, constantValue := 0 }, { name := "JLA", type := (.object "jdk/internal/access/JavaLangAccess"), accessFlags := 26, slot := 19, constantValue := 0 }, { name := "SOFT_MAX_ARRAY_LENGTH", type := .int, accessFlags := 25, slot := 20, constantValue := 0 }]
  methods := #[k17m0]
  instanceTypes := #[]
  staticTypes := #[(.object "jdk/internal/misc/Unsafe"), .boolean, .int, .int, .int, .int, .int, .int, .int, .int, .int, .int, .int, .int, .int, .int, .int, .int, .int, (.object "jdk/internal/access/JavaLangAccess"), .int]
  resolved := Array.replicate 378 none
  statics := none }

def pool18 : Array CpInfo := pool [(1, u "java/lang/Cloneable"), (0, .class_ 1), (0, u "java/lang/Object"), (0, .class_ 3)] 3

/-- java/lang/Cloneable -/
def k18 : Class := { plain "java/lang/Cloneable" (some 0) with
  accessFlags := 1537
  interfaces := #[]
  cf := some (fileOf pool18 2 #[] #[] 1537 4 #[] #[])
  fields := #[]
  methods := #[]
  instanceTypes := #[]
  staticTypes := #[]
  resolved := Array.replicate 8 none
  statics := none }

/-- the primitive byte -/
def k19 : Class := { plain "byte" none with kind := .primitive 'B', accessFlags := 0x411 }
/-- [B -/
def k20 : Class := { plain "[B" (some 0) with kind := .array 19 .byte, interfaces := #[18, 2], accessFlags := 1041 }

/-- the primitive char -/
def k21 : Class := { plain "char" none with kind := .primitive 'C', accessFlags := 0x411 }
/-- [C -/
def k22 : Class := { plain "[C" (some 0) with kind := .array 21 .char, interfaces := #[18, 2], accessFlags := 1041 }

def heap : Heap := #[{ cls := 7, slots := #[.long 0, .int 1, .null, .int 0, .null, .int 0, .int 0], vm := .statics 7 },
  { cls := 11, slots := #[.ref 3, .ref 4, .ref 5, .ref 6, .null], vm := .statics 11 },
  { cls := 16, slots := #[.null, .null, .null], vm := .statics 16 },
  { cls := 11, slots := #[.null, .int 0, .int 0], vm := .none },
  { cls := 11, slots := #[.null, .int 1, .int 0], vm := .none },
  { cls := 11, slots := #[.null, .int 2, .int 0], vm := .none },
  { cls := 11, slots := #[.null, .int 3, .int 0], vm := .none }]
def classes : Array Class := #[k0, k1, k2, k3, k4, k5, k6, k7, k8, k9, k10, k11, k12, k13, k14, k15, k16, k17, k18, k19, k20, k21, k22]
def interned : List (Array UInt16 × Addr) := []
def slotsUsed : Nat := 27
def theMethod : MethodId := ⟨1, 2⟩
def args0 : Array Value := #[.int 2, .int 147778, .int 147778, .int 3, .int 2]
def aboutOver (below : List Frame) : State where
  vm := { classes := classes, interned := interned.toArray }
  heap := heap
  slotsUsed := slotsUsed
  threads := #[{ frames := .invoking theMethod args0 :: below }]
def below0 : List Frame := [.native { method := ⟨0, 0⟩, args := #[] }]
def about1 : State := aboutOver below0
def p0 : Program := .bare "" "" ""
def e0 : Env := launch0.env 0 0 0
theorem w_frames : about1.frames = Frame.invoking theMethod args0 :: below0 := rfl
set_option maxRecDepth 65536 in
theorem w_args : argsFit about1.vm theMethod args0 = true := by decide +kernel
set_option maxRecDepth 65536 in
theorem w_heap : heapFits about1 = true := by decide +kernel
set_option maxRecDepth 65536 in
theorem w_runnable : about1.curStatus? = some .runnable := by decide +kernel
set_option maxRecDepth 65536 in
theorem w_alone : about1.alone = true := by decide +kernel
set_option maxRecDepth 65536 in
theorem w_named : about1.methodNamed? x = some theMethod := by decide +kernel
set_option maxRecDepth 65536 in
theorem w_hears : about1.hears theMethod below0 = true := by decide +kernel
set_option maxRecDepth 65536 in
theorem w_ripe : about1.ripe theMethod args0 below0 = true := by decide +kernel
theorem w_running : about1.status = .running := rfl
set_option maxRecDepth 65536 in
theorem w_room : about1.hasRoom e0.platform room_1 = true :=
  launch0.hasRoom_least _ room_1 (by decide +kernel) (by decide +kernel) (by decide +kernel) (by decide +kernel) (by decide +kernel) (by decide +kernel)
theorem allAtoms_all (ts : List Jvm.Cond) (a : Array Jvm.Value) (st : Jvm.State) : (allAtoms ts).before a st = ts.all (fun c => c.before a st) := by
  induction ts with
  | nil => rfl
  | cons c t ih =>
    show (Jvm.Cond.and c (allAtoms t)).before a st = _
    rw [Jvm.Cond.before_and, ih, List.all_cons]
def words1 : List Jvm.Cond := Jvm.Cond.code x code maxLocals ret :: tables_1
/-- a 'code' word, met by the world's own term for the bytes: nothing is compared byte by byte -/
theorem code_word {y : MethodName} {bytes : ByteArray} {mx : Nat} {rt : Option FieldType} {a : Array Value} {s : State} {m : MethodId} {meth : Method} {c : Code} (h1 : s.methodNamed? y = some m) (h2 : s.vm.method? m = some meth) (h3 : meth.code = some c) (h4 : c.code = bytes)
    (h5 : (c.maxLocals == mx && c.exceptionTable.isEmpty && decide (c.maxStack ≤ mostOperands) && decide (meth.sig.returnType = rt) && !meth.locks && decide (parseMethodDescriptor y.desc = some meth.sig)) = true) : (Jvm.Cond.code y bytes mx rt).before a s = true := by
  simp only [Bool.and_eq_true, beq_iff_eq, Bool.not_eq_true', decide_eq_true_eq] at h5
  obtain ⟨⟨⟨⟨⟨g1, g2⟩, g3⟩, g4⟩, g5⟩, g6⟩ := h5
  simp [Cond.before, Cond.holds, Cond.value, h1, h2, h3, h4, g1, g2, g3, g4, g5, g6]
def isCode : Jvm.Cond → Bool
  | .code _ _ _ _ => true
  | _ => false
theorem all_split {L : List Jvm.Cond} {P : Jvm.Cond → Bool} (h1 : L.all (fun c => isCode c || P c) = true) (h2 : ∀ c ∈ L.filter isCode, P c = true) : L.all P = true := by
  refine List.all_eq_true.mpr fun c hc => ?_
  have h := List.all_eq_true.mp h1 c hc
  rcases Bool.eq_false_or_eq_true (isCode c) with hi | hi
  · exact h2 c (List.mem_filter.mpr ⟨hc, hi⟩)
  · simpa [hi] using h
set_option maxRecDepth 65536 in
theorem w_c0 : (Jvm.Cond.code x code maxLocals ret).before args0 about1 = true := code_word (m := ⟨1, 2⟩) (meth := k1m2) (c := k1c2) (by decide +kernel) rfl rfl rfl (by decide +kernel)
set_option maxRecDepth 65536 in
theorem w_c1 : (Jvm.Cond.code ({ cls := "com/example/iota_flow/iotaflow/definition/MergeStartsPinLaw", name := "make", desc := "(ICC)Ljava/lang/String;" } : Jvm.MethodName) method_2_code (3 : Nat) (Option.some (Jvm.ClassFile.FieldType.object "java/lang/String"))).before args0 about1 = true := code_word (m := ⟨1, 1⟩) (meth := k1m1) (c := k1c1) (by decide +kernel) rfl rfl rfl (by decide +kernel)
set_option maxRecDepth 65536 in
theorem w_c2 : (Jvm.Cond.code ({ cls := "java/lang/String", name := "<init>", desc := "([C)V" } : Jvm.MethodName) jdk_42_method_3_code (2 : Nat) (Option.none : Option Jvm.ClassFile.FieldType)).before args0 about1 = true := code_word (m := ⟨7, 1⟩) (meth := k7m1) (c := k7c1) (by decide +kernel) rfl rfl rfl (by decide +kernel)
set_option maxRecDepth 65536 in
theorem w_c3 : (Jvm.Cond.code ({ cls := "java/lang/String", name := "<init>", desc := "([CIILjava/lang/Void;)V" } : Jvm.MethodName) jdk_42_method_149_code (6 : Nat) (Option.none : Option Jvm.ClassFile.FieldType)).before args0 about1 = true := code_word (m := ⟨7, 4⟩) (meth := k7m4) (c := k7c4) (by decide +kernel) rfl rfl rfl (by decide +kernel)
set_option maxRecDepth 65536 in
theorem w_c4 : (Jvm.Cond.code ({ cls := "java/lang/Object", name := "<init>", desc := "()V" } : Jvm.MethodName) object_method_1_code (1 : Nat) (Option.none : Option Jvm.ClassFile.FieldType)).before args0 about1 = true := code_word (m := ⟨0, 0⟩) (meth := k0m0) (c := k0c0) (by decide +kernel) rfl rfl rfl (by decide +kernel)
set_option maxRecDepth 65536 in
theorem w_c5 : (Jvm.Cond.code ({ cls := "com/example/iota_flow/iotaflow/definition/Merge", name := "<init>", desc := "(Lcom/example/iota_flow/iotaflow/definition/Merge$Kind;Ljava/lang/String;I)V" } : Jvm.MethodName) prog_17_method_1_code (4 : Nat) (Option.none : Option Jvm.ClassFile.FieldType)).before args0 about1 = true := code_word (m := ⟨9, 0⟩) (meth := k9m0) (c := k9c0) (by decide +kernel) rfl rfl rfl (by decide +kernel)
set_option maxRecDepth 65536 in
theorem w_c6 : (Jvm.Cond.code ({ cls := "java/lang/Record", name := "<init>", desc := "()V" } : Jvm.MethodName) jdk_30_method_1_code (1 : Nat) (Option.none : Option Jvm.ClassFile.FieldType)).before args0 about1 = true := code_word (m := ⟨8, 0⟩) (meth := k8m0) (c := k8c0) (by decide +kernel) rfl rfl rfl (by decide +kernel)
set_option maxRecDepth 65536 in
theorem w_c7 : (Jvm.Cond.code ({ cls := "java/util/Objects", name := "requireNonNull", desc := "(Ljava/lang/Object;Ljava/lang/String;)Ljava/lang/Object;" } : Jvm.MethodName) jdk_31_method_11_code (2 : Nat) (Option.some (Jvm.ClassFile.FieldType.object "java/lang/Object"))).before args0 about1 = true := code_word (m := ⟨12, 1⟩) (meth := k12m1) (c := k12c1) (by decide +kernel) rfl rfl rfl (by decide +kernel)
set_option maxRecDepth 65536 in
theorem w_c8 : (Jvm.Cond.code ({ cls := "com/example/iota_flow/iotaflow/definition/Merge", name := "starts", desc := "(Ljava/lang/String;I)Z" } : Jvm.MethodName) prog_17_method_5_code (3 : Nat) (Option.some Jvm.ClassFile.FieldType.boolean)).before args0 about1 = true := code_word (m := ⟨9, 1⟩) (meth := k9m1) (c := k9c1) (by decide +kernel) rfl rfl rfl (by decide +kernel)
set_option maxRecDepth 65536 in
theorem w_c9 : (Jvm.Cond.code ({ cls := "java/lang/Enum", name := "ordinal", desc := "()I" } : Jvm.MethodName) jdk_37_method_2_code (1 : Nat) (Option.some Jvm.ClassFile.FieldType.int)).before args0 about1 = true := code_word (m := ⟨10, 0⟩) (meth := k10m0) (c := k10c0) (by decide +kernel) rfl rfl rfl (by decide +kernel)
set_option maxRecDepth 65536 in
theorem w_c10 : (Jvm.Cond.code ({ cls := "java/lang/Math", name := "max", desc := "(II)I" } : Jvm.MethodName) jdk_29_method_65_code (2 : Nat) (Option.some Jvm.ClassFile.FieldType.int)).before args0 about1 = true := code_word (m := ⟨13, 1⟩) (meth := k13m1) (c := k13c1) (by decide +kernel) rfl rfl rfl (by decide +kernel)
set_option maxRecDepth 65536 in
theorem w_c11 : (Jvm.Cond.code ({ cls := "java/lang/StringUTF16", name := "compress", desc := "([CII)[B" } : Jvm.MethodName) jdk_52_method_16_code (6 : Nat) (Option.some (Jvm.ClassFile.FieldType.array Jvm.ClassFile.FieldType.byte))).before args0 about1 = true := code_word (m := ⟨14, 2⟩) (meth := k14m2) (c := k14c2) (by decide +kernel) rfl rfl rfl (by decide +kernel)
set_option maxRecDepth 65536 in
theorem w_c12 : (Jvm.Cond.code ({ cls := "java/lang/StringUTF16", name := "compress", desc := "([CI[BII)I" } : Jvm.MethodName) jdk_52_method_21_code (7 : Nat) (Option.some Jvm.ClassFile.FieldType.int)).before args0 about1 = true := code_word (m := ⟨14, 3⟩) (meth := k14m3) (c := k14c3) (by decide +kernel) rfl rfl rfl (by decide +kernel)
set_option maxRecDepth 65536 in
theorem w_c13 : (Jvm.Cond.code ({ cls := "java/lang/StringUTF16", name := "coderFromArrayLen", desc := "([BI)B" } : Jvm.MethodName) jdk_52_method_15_code (2 : Nat) (Option.some Jvm.ClassFile.FieldType.byte)).before args0 about1 = true := code_word (m := ⟨14, 1⟩) (meth := k14m1) (c := k14c1) (by decide +kernel) rfl rfl rfl (by decide +kernel)
set_option maxRecDepth 65536 in
theorem w_c14 : (Jvm.Cond.code ({ cls := "java/lang/String", name := "valueOf", desc := "(C)Ljava/lang/String;" } : Jvm.MethodName) jdk_42_method_139_code (1 : Nat) (Option.some (Jvm.ClassFile.FieldType.object "java/lang/String"))).before args0 about1 = true := code_word (m := ⟨7, 3⟩) (meth := k7m3) (c := k7c3) (by decide +kernel) rfl rfl rfl (by decide +kernel)
set_option maxRecDepth 65536 in
theorem w_c15 : (Jvm.Cond.code ({ cls := "java/lang/StringLatin1", name := "canEncode", desc := "(C)Z" } : Jvm.MethodName) jdk_43_method_3_code (1 : Nat) (Option.some Jvm.ClassFile.FieldType.boolean)).before args0 about1 = true := code_word (m := ⟨15, 1⟩) (meth := k15m1) (c := k15c1) (by decide +kernel) rfl rfl rfl (by decide +kernel)
set_option maxRecDepth 65536 in
theorem w_c16 : (Jvm.Cond.code ({ cls := "java/lang/StringLatin1", name := "toBytes", desc := "(C)[B" } : Jvm.MethodName) jdk_43_method_46_code (1 : Nat) (Option.some (Jvm.ClassFile.FieldType.array Jvm.ClassFile.FieldType.byte))).before args0 about1 = true := code_word (m := ⟨15, 3⟩) (meth := k15m3) (c := k15c3) (by decide +kernel) rfl rfl rfl (by decide +kernel)
set_option maxRecDepth 65536 in
theorem w_c17 : (Jvm.Cond.code ({ cls := "java/lang/String", name := "<init>", desc := "([BB)V" } : Jvm.MethodName) jdk_42_method_151_code (3 : Nat) (Option.none : Option Jvm.ClassFile.FieldType)).before args0 about1 = true := code_word (m := ⟨7, 5⟩) (meth := k7m5) (c := k7c5) (by decide +kernel) rfl rfl rfl (by decide +kernel)
set_option maxRecDepth 65536 in
theorem w_c18 : (Jvm.Cond.code ({ cls := "java/lang/String", name := "equals", desc := "(Ljava/lang/Object;)Z" } : Jvm.MethodName) jdk_42_method_66_code (3 : Nat) (Option.some Jvm.ClassFile.FieldType.boolean)).before args0 about1 = true := code_word (m := ⟨7, 2⟩) (meth := k7m2) (c := k7c2) (by decide +kernel) rfl rfl rfl (by decide +kernel)
set_option maxRecDepth 65536 in
theorem w_c19 : (Jvm.Cond.code ({ cls := "java/lang/StringLatin1", name := "equals", desc := "([B[B)Z" } : Jvm.MethodName) jdk_43_method_13_code (3 : Nat) (Option.some Jvm.ClassFile.FieldType.boolean)).before args0 about1 = true := code_word (m := ⟨15, 2⟩) (meth := k15m2) (c := k15c2) (by decide +kernel) rfl rfl rfl (by decide +kernel)
def codes1 : List Jvm.Cond := [Jvm.Cond.code x code maxLocals ret, Jvm.Cond.code ({ cls := "com/example/iota_flow/iotaflow/definition/MergeStartsPinLaw", name := "make", desc := "(ICC)Ljava/lang/String;" } : Jvm.MethodName) method_2_code (3 : Nat) (Option.some (Jvm.ClassFile.FieldType.object "java/lang/String")), Jvm.Cond.code ({ cls := "java/lang/String", name := "<init>", desc := "([C)V" } : Jvm.MethodName) jdk_42_method_3_code (2 : Nat) (Option.none : Option Jvm.ClassFile.FieldType), Jvm.Cond.code ({ cls := "java/lang/String", name := "<init>", desc := "([CIILjava/lang/Void;)V" } : Jvm.MethodName) jdk_42_method_149_code (6 : Nat) (Option.none : Option Jvm.ClassFile.FieldType), Jvm.Cond.code ({ cls := "java/lang/Object", name := "<init>", desc := "()V" } : Jvm.MethodName) object_method_1_code (1 : Nat) (Option.none : Option Jvm.ClassFile.FieldType), Jvm.Cond.code ({ cls := "com/example/iota_flow/iotaflow/definition/Merge", name := "<init>", desc := "(Lcom/example/iota_flow/iotaflow/definition/Merge$Kind;Ljava/lang/String;I)V" } : Jvm.MethodName) prog_17_method_1_code (4 : Nat) (Option.none : Option Jvm.ClassFile.FieldType), Jvm.Cond.code ({ cls := "java/lang/Record", name := "<init>", desc := "()V" } : Jvm.MethodName) jdk_30_method_1_code (1 : Nat) (Option.none : Option Jvm.ClassFile.FieldType), Jvm.Cond.code ({ cls := "java/util/Objects", name := "requireNonNull", desc := "(Ljava/lang/Object;Ljava/lang/String;)Ljava/lang/Object;" } : Jvm.MethodName) jdk_31_method_11_code (2 : Nat) (Option.some (Jvm.ClassFile.FieldType.object "java/lang/Object")), Jvm.Cond.code ({ cls := "com/example/iota_flow/iotaflow/definition/Merge", name := "starts", desc := "(Ljava/lang/String;I)Z" } : Jvm.MethodName) prog_17_method_5_code (3 : Nat) (Option.some Jvm.ClassFile.FieldType.boolean), Jvm.Cond.code ({ cls := "java/lang/Enum", name := "ordinal", desc := "()I" } : Jvm.MethodName) jdk_37_method_2_code (1 : Nat) (Option.some Jvm.ClassFile.FieldType.int), Jvm.Cond.code ({ cls := "java/lang/Math", name := "max", desc := "(II)I" } : Jvm.MethodName) jdk_29_method_65_code (2 : Nat) (Option.some Jvm.ClassFile.FieldType.int), Jvm.Cond.code ({ cls := "java/lang/StringUTF16", name := "compress", desc := "([CII)[B" } : Jvm.MethodName) jdk_52_method_16_code (6 : Nat) (Option.some (Jvm.ClassFile.FieldType.array Jvm.ClassFile.FieldType.byte)), Jvm.Cond.code ({ cls := "java/lang/StringUTF16", name := "compress", desc := "([CI[BII)I" } : Jvm.MethodName) jdk_52_method_21_code (7 : Nat) (Option.some Jvm.ClassFile.FieldType.int), Jvm.Cond.code ({ cls := "java/lang/StringUTF16", name := "coderFromArrayLen", desc := "([BI)B" } : Jvm.MethodName) jdk_52_method_15_code (2 : Nat) (Option.some Jvm.ClassFile.FieldType.byte), Jvm.Cond.code ({ cls := "java/lang/String", name := "valueOf", desc := "(C)Ljava/lang/String;" } : Jvm.MethodName) jdk_42_method_139_code (1 : Nat) (Option.some (Jvm.ClassFile.FieldType.object "java/lang/String")), Jvm.Cond.code ({ cls := "java/lang/StringLatin1", name := "canEncode", desc := "(C)Z" } : Jvm.MethodName) jdk_43_method_3_code (1 : Nat) (Option.some Jvm.ClassFile.FieldType.boolean), Jvm.Cond.code ({ cls := "java/lang/StringLatin1", name := "toBytes", desc := "(C)[B" } : Jvm.MethodName) jdk_43_method_46_code (1 : Nat) (Option.some (Jvm.ClassFile.FieldType.array Jvm.ClassFile.FieldType.byte)), Jvm.Cond.code ({ cls := "java/lang/String", name := "<init>", desc := "([BB)V" } : Jvm.MethodName) jdk_42_method_151_code (3 : Nat) (Option.none : Option Jvm.ClassFile.FieldType), Jvm.Cond.code ({ cls := "java/lang/String", name := "equals", desc := "(Ljava/lang/Object;)Z" } : Jvm.MethodName) jdk_42_method_66_code (3 : Nat) (Option.some Jvm.ClassFile.FieldType.boolean), Jvm.Cond.code ({ cls := "java/lang/StringLatin1", name := "equals", desc := "([B[B)Z" } : Jvm.MethodName) jdk_43_method_13_code (3 : Nat) (Option.some Jvm.ClassFile.FieldType.boolean)]
set_option maxRecDepth 65536 in
theorem codes_eq : words1.filter isCode = codes1 := rfl
theorem w_codes : ∀ c ∈ words1.filter isCode, c.before args0 about1 = true := by
  rw [codes_eq]
  intro c hc
  simp only [codes1, List.mem_cons, List.not_mem_nil, or_false] at hc
  rcases hc with rfl | rfl | rfl | rfl | rfl | rfl | rfl | rfl | rfl | rfl | rfl | rfl | rfl | rfl | rfl | rfl | rfl | rfl | rfl | rfl
  · exact w_c0
  · exact w_c1
  · exact w_c2
  · exact w_c3
  · exact w_c4
  · exact w_c5
  · exact w_c6
  · exact w_c7
  · exact w_c8
  · exact w_c9
  · exact w_c10
  · exact w_c11
  · exact w_c12
  · exact w_c13
  · exact w_c14
  · exact w_c15
  · exact w_c16
  · exact w_c17
  · exact w_c18
  · exact w_c19
set_option maxRecDepth 65536 in
theorem w_t1 : (words1.take 24).all (fun c => isCode c || c.before args0 about1) = true := by decide +kernel
set_option maxRecDepth 65536 in
theorem w_t2 : ((words1.drop 24).take 24).all (fun c => isCode c || c.before args0 about1) = true := by decide +kernel
set_option maxRecDepth 65536 in
theorem w_t3 : (((words1.drop 24).drop 24).take 24).all (fun c => isCode c || c.before args0 about1) = true := by decide +kernel
set_option maxRecDepth 65536 in
theorem w_t4 : ((((words1.drop 24).drop 24).drop 24).take 24).all (fun c => isCode c || c.before args0 about1) = true := by decide +kernel
set_option maxRecDepth 65536 in
theorem w_t5 : ((((words1.drop 24).drop 24).drop 24).drop 24).all (fun c => isCode c || c.before args0 about1) = true := by decide +kernel
theorem w_tables : (allAtoms (Jvm.Cond.code x code maxLocals ret :: tables_1)).before args0 about1 = true := by
  rw [allAtoms_all]
  show words1.all (fun c => c.before args0 about1) = true
  refine all_split ?_ w_codes
  rw [← List.take_append_drop 24 words1, List.all_append, w_t1, ← List.take_append_drop 24 (words1.drop 24), List.all_append, w_t2, ← List.take_append_drop 24 ((words1.drop 24).drop 24), List.all_append, w_t3, ← List.take_append_drop 24 (((words1.drop 24).drop 24).drop 24), List.all_append, w_t4, w_t5]
  rfl
set_option maxRecDepth 65536 in
theorem w_rest : rest_1_c.before args0 about1 = true := by decide +kernel
set_option maxRecDepth 65536 in
theorem w_case : (Jvm.Cond.and given_1 narrow_1).before args0 about1 = true := by decide +kernel
set_option maxRecDepth 65536 in
theorem w_consts : constsHeld consts_1 about1 := Jvm.Lit.constsHeldB_iff.mp (by decide +kernel)
theorem w_applies : (headSpec (Jvm.Cond.code x code maxLocals ret :: tables_1) room_1).applies x e0.platform about1 = true :=
  (Spec.applies_iff w_frames).mpr ⟨w_running, w_runnable, w_alone, w_named, w_hears, w_ripe, w_room, w_tables⟩
theorem atStart : AtStart classFile x code maxLocals ret World_1 tables_1 room_1 Calls_1 rest_1 Pre_1 launch0 p0 e0 about1 theMethod args0 below0 :=
  ⟨lists_1, trivial, launch0.admits_env _ _ _, launch0.least_env, fairChoices_fair.cas, fairChoices_fair.clock, w_frames, w_args, w_heap, w_applies, ⟨w_consts, trivial⟩, w_rest, w_case⟩
end start1
theorem witness_1 : WitnessClaimed_1 := ⟨start1.p0, start1.e0, start1.about1, start1.theMethod, start1.args0, start1.below0, start1.atStart⟩
end Jvm.Pilot.@@N@@
