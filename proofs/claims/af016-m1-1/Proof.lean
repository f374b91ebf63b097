import JvmDerived
import JvmDerived.Pilot.@@N@@Statement
import JvmDerived.Pilot.@@N@@Code
set_option linter.unusedVariables false
set_option linter.unusedSimpArgs false
@@BLOCK:NumsL.lean.txt@@
namespace Jvm.Pilot.@@N@@
open Jvm Jvm.ClassFile Sem Op Lib Jvm.Free Jvm.Stand Jvm.LawKit Jvm.RoadKit Bundle Jvm.Pilot.@@N@@.Jvm.D
section OwnKit
variable {p : Program} {l : Launch} {e : Env} {R : Room} {s : State} {m : MethodId} {args : Array Value} {below : List Frame} {meth : Method} {c : Code} {T : State} {locs : List Loc} {cells slots : Nat} {Z : State} {a0 : Array Value} {h h' : Heap} {K : State → Outcome → Prop}
/-- from here the run comes to an end that K takes -/
def own_Wp (tb : Tables) (e : Env) (below : List Frame) (K : State → Outcome → Prop) (st : State) : Prop := ∃ s₂ o, Steps tb e below st s₂ ∧ K s₂ o
theorem own_of {tb : Tables} {A B : State} (h : ∀ t, Steps tb e below B t → Steps tb e below A t) (w : own_Wp tb e below K B) : own_Wp tb e below K A := by
  obtain ⟨s₂, o, h1, h2⟩ := w
  exact ⟨s₂, o, h _ h1, h2⟩
def own_K (R : Room) (s : State) (below : List Frame) (Q : Option Value → Heap → List Loc → Prop) (s₂ : State) (o : Outcome) : Prop :=
  s₂.status = .running ∧ Ended s₂ below o ∧ ∃ v L, o = .returned v ∧ Q v s₂.heap L ∧ FrameEnd s o s₂ L R.cells R.slots
theorem own_ret {Q : Option Value → Heap → List Loc → Prop} (X : Stand p l e R s m args below meth c T locs cells slots) (hlk : meth.locks = false) (v : Option Value) (hv : meth.sig.returnType = none → v = none) {f : JFrame}
    (hs : ∀ fs, (∀ (f : JFrame) (acts : List Action), f.method = m → f.locked = none → f.entered = [] → (doReturn e (T.setTop f) acts v).1 = T.setFrames fs) → Steps p.tables e below (T.setTop f) (T.setFrames fs))
    (hQ : Q v T.heap locs) (hc : cells ≤ R.cells) (hsl : slots ≤ R.slots) : own_Wp p.tables e below (own_K R s below Q) (T.setTop f) := by
  obtain ⟨fs, hr, hrun, hended, hW, hsame⟩ := X.leave (v := v) hv hlk
  exact ⟨_, _, hs fs hr, hrun, hended, _, _, rfl, hQ, ⟨_, rfl⟩, hW, hsame.mono hc hsl⟩
theorem own_rtI {i : FieldType} {v : Option Value} {r : Option FieldType} (h1 : r = some i) : r = none → v = none := fun h => by rw [h1] at h; cases h
theorem own_retI (X : Stand p l e R s m args below meth c T locs cells slots) (hx : p.tables.exec = Jvm.exec) {pc : Nat} {Ls : Array Slot} {z : Int32} {rest : List Value} (hret : meth.sig.returnType = some .int) (hd : decode c.code pc = .ok (.ireturn, 1)) {fs : List Frame}
    (hl : ∀ (f : JFrame) (acts : List Action), f.method = m → f.locked = none → f.entered = [] → (doReturn e (T.setTop f) acts (some (.int z))).1 = T.setFrames fs) : Steps p.tables e below (T.setTop (mkF m pc Ls (.int z :: rest))) (T.setFrames fs) :=
  retOut X hx hret rfl (Or.inl ⟨rfl, Or.inl rfl, z, rfl⟩) hd hl
theorem own_retJ (X : Stand p l e R s m args below meth c T locs cells slots) (hx : p.tables.exec = Jvm.exec) {pc : Nat} {Ls : Array Slot} {z : Int64} {rest : List Value} (hret : meth.sig.returnType = some .long) (hd : decode c.code pc = .ok (.lreturn, 1)) {fs : List Frame}
    (hl : ∀ (f : JFrame) (acts : List Action), f.method = m → f.locked = none → f.entered = [] → (doReturn e (T.setTop f) acts (some (.long z))).1 = T.setFrames fs) : Steps p.tables e below (T.setTop (mkF m pc Ls (.long z :: rest))) (T.setFrames fs) :=
  retOut X hx hret rfl (Or.inr (Or.inl ⟨rfl, rfl, z, rfl⟩)) hd hl
theorem own_retR (X : Stand p l e R s m args below meth c T locs cells slots) (hx : p.tables.exec = Jvm.exec) {pc : Nat} {Ls : Array Slot} {w : Value} {t : FieldType} {rest : List Value} (hret : meth.sig.returnType = some t) (hw : w.isRef = true) (ht : t.isReference = true) (hn : narrow t w = w) (hd : decode c.code pc = .ok (.areturn, 1)) {fs : List Frame}
    (hl : ∀ (f : JFrame) (acts : List Action), f.method = m → f.locked = none → f.entered = [] → (doReturn e (T.setTop f) acts (some w)).1 = T.setFrames fs) : Steps p.tables e below (T.setTop (mkF m pc Ls (w :: rest))) (T.setFrames fs) :=
  retOut X hx hret hn (Or.inr (Or.inr (Or.inr (Or.inr ⟨rfl, ht, hw⟩)))) hd hl
/-- a method's contract: called so, at the heap h0, it returns as Q says -/
abbrev own_Ctr (l : Launch) (Z : State) (y : MethodName) (bytes : ByteArray) (maxL : Nat) (ret : Option FieldType) (ws : List Jvm.Cond) (rm : Room) (as' : Array Value) (h0 : Heap) (Q : Option Value → Heap → List Loc → Prop) : Prop :=
  MetFree l y (head1 (Jvm.Cond.code y bytes maxL ret :: ws) rm) (fun a U => a = as' ∧ Z.Warmed39 U.vm ∧ U.heap = h0) (fun _ _ _ _ _ => True) (fun _ U o U' => ∃ v L, o = .returned v ∧ Q v U'.heap L ∧ FrameEnd U o U' L rm.cells rm.slots)
theorem own_enter {y : MethodName} {bytes : ByteArray} {maxL : Nat} {ret : Option FieldType} {ws : List Jvm.Cond} {rm : Room} {as' : Array Value} {h0 : Heap} {Q : Option Value → Heap → List Loc → Prop} (hpl : plainFor y = true)
    (body : ∀ (p : Program) (e : Env) (s : State) (m : MethodId) (below : List Frame) (meth : Method) (c : Code) (s₁ : State), Stand p l e rm s m as' below meth c s₁ [] 0 0 → p.tables.exec = Jvm.exec → c.code = bytes → c.maxLocals = maxL → meth.sig.returnType = ret → meth.locks = false → Z.Warmed39 s.vm → s.vm.findClass y.cls = some m.cls → meth.name = y.name → s₁.heap = h0 → own_Wp p.tables e below (own_K rm s below Q) (s₁.setTop (entryFrame m as' maxL))) :
    own_Ctr l Z y bytes maxL ret ws rm as' h0 Q := by
  refine MetFree.of_bodySF hpl hisR ?_
  intro p e s m args below meth c s₁ Bd hml0 hP hK
  obtain ⟨rfl, hZ, hh⟩ := hP
  obtain ⟨s₂, o, h1, h2, h3, h4⟩ := body p e s m below meth c s₁ (Stand.of_body Bd) Bd.exec Bd.bytes hml0 Bd.returns Bd.notSynchronized hZ (findClass_of_methodNamed Bd.named) (name_of_methodNamed Bd.named Bd.method).1 (by rw [← hh, Bd.state]; rfl)
  exact ⟨s₂, o, h1, h2, h3, h4⟩
section Calls
variable {own C : String} {index maxL W : Nat} {y z : MethodName} {bytes : ByteArray} {ret : Option FieldType} {rm : Room} {Q : Option Value → Heap → List Loc → Prop} {argsL rest : List Value} {g : JFrame} {a : Addr}
theorem own_callS (X : Stand p l e R s m args below meth c T locs cells slots) (hx : p.tables.exec = Jvm.exec) (hZ : Z.Warmed39 s.vm) (hown : s.vm.findClass own = some m.cls)
    (w1 : (Jvm.Cond.methodLink own index y).before a0 Z = true) (w2 : (Jvm.Cond.static y).before a0 Z = true) (w3 : (Jvm.Cond.initialized y.cls).before a0 Z = true) (w4 : (Jvm.Cond.code y bytes maxL ret).before a0 Z = true)
    (hy : y.cls ≠ "java/lang/invoke/MethodHandle" ∧ y.cls ≠ "java/lang/invoke/VarHandle") (eT : T.heap = h) (hM : own_Ctr l Z y bytes maxL ret [] rm argsL.toArray h Q)
    (hf : rm.frames + 1 ≤ R.frames) (hl : W + (maxL + 11) + rm.locals ≤ R.locals) (hc : cells + rm.cells ≤ R.cells) (hs : slots + rm.slots ≤ R.slots)
    (hg : g.method = m) (hsize : g.locals.size = c.maxLocals) (hlen : ∀ sig, parseMethodDescriptor y.desc = some sig → argsL.length = sig.parameters.length) (hstack : g.stack = argsL.reverse ++ rest) (hW : 2 * g.monitorRoom + (rest.map fun v => v.category).sum ≤ W) (hdg : decode c.code g.pc = .ok (.invokestatic index, 3))
    (k : ∀ (T' : State) (L : List Loc) (v : Option Value), Stand p l e R s m args below meth c T' (locs ++ L) (cells + rm.cells) (slots + rm.slots) → Q v T'.heap L → own_Wp p.tables e below K (T'.setTop { g with pc := g.pc + 3, stack := v.toList ++ rest })) :
    own_Wp p.tables e below K (T.setTop g) := by
  obtain ⟨v, _, ⟨T', L', k', n'⟩, -, X', ⟨Lc, hQ, l1, y1, z1⟩, st⟩ := Jvm.LawKit.callS X hx hown (mvT hZ w1) (mvT hZ w2) (mvT hZ w3) (mvT hZ w4) hy (backOf (W := W) hM hZ w4 w3 hf hl) hg hsize hlen hstack hW hdg (fun _ _ => ⟨rfl, eT, hc, hs⟩)
  dsimp only [Pt.U, Pt.locs, Pt.cells, Pt.slots] at X' l1 y1 z1 st hQ
  subst l1 y1 z1
  exact own_of st (k _ _ _ X' hQ)
theorem own_callI (X : Stand p l e R s m args below meth c T locs cells slots) (hx : p.tables.exec = Jvm.exec) (hZ : Z.Warmed39 s.vm) (hy1 : y.name = "<init>") (hown : s.vm.findClass own = some m.cls)
    (w1 : (Jvm.Cond.methodLink own index y).before a0 Z = true) (w2 : (Jvm.Cond.instanceMethod y).before a0 Z = true) (w3 : (Jvm.Cond.initialized y.cls).before a0 Z = true) (w4 : (Jvm.Cond.code y bytes maxL none).before a0 Z = true)
    (hy : y.cls ≠ "java/lang/invoke/MethodHandle" ∧ y.cls ≠ "java/lang/invoke/VarHandle") (eT : T.heap = h) (hM : own_Ctr l Z y bytes maxL none [] rm (.ref a :: argsL).toArray h Q)
    (hf : rm.frames + 1 ≤ R.frames) (hl : W + (maxL + 11) + rm.locals ≤ R.locals) (hc : cells + rm.cells ≤ R.cells) (hs : slots + rm.slots ≤ R.slots)
    (hg : g.method = m) (hsize : g.locals.size = c.maxLocals) (hlen : ∀ sig, parseMethodDescriptor y.desc = some sig → argsL.length = sig.parameters.length) (hstack : g.stack = argsL.reverse ++ .ref a :: rest) (hW : 2 * g.monitorRoom + (rest.map fun v => v.category).sum ≤ W) (hdg : decode c.code g.pc = .ok (.invokespecial index, 3))
    (k : ∀ (T' : State) (L : List Loc) (v : Option Value), Stand p l e R s m args below meth c T' (locs ++ L) (cells + rm.cells) (slots + rm.slots) → Q v T'.heap L → own_Wp p.tables e below K (T'.setTop { g with pc := g.pc + 3, stack := v.toList ++ rest })) :
    own_Wp p.tables e below K (T.setTop g) := by
  obtain ⟨v, _, ⟨T', L', k', n'⟩, -, X', ⟨Lc, hQ, l1, y1, z1⟩, st⟩ := X.specialBack hx hy1 hown (mvT hZ w1) (mvT hZ w2) (mvT hZ w4) hy (backOf (W := W) hM hZ w4 w3 hf hl) hg hsize (Steps.refl _) hlen hstack hW hdg (fun _ _ => ⟨rfl, eT, hc, hs⟩)
  dsimp only [Pt.U, Pt.locs, Pt.cells, Pt.slots] at X' l1 y1 z1 st hQ
  subst l1 y1 z1
  exact own_of (fun t q => st.trans q) (k _ _ _ X' hQ)
theorem own_callV (X : Stand p l e R s m args below meth c T locs cells slots) (hx : p.tables.exec = Jvm.exec) (hZ : Z.Warmed39 s.vm) (hown : s.vm.findClass own = some m.cls)
    (w1 : (Jvm.Cond.methodLink own index y).before a0 Z = true) (w2 : (Jvm.Cond.declares y).before a0 Z = true) (w5 : (Jvm.Cond.selects C y y).before a0 Z = true) (w6 : (Jvm.Cond.instanceMethod y).before a0 Z = true) (w3 : (Jvm.Cond.initialized y.cls).before a0 Z = true) (w4 : (Jvm.Cond.code y bytes maxL ret).before a0 Z = true)
    (hy : y.cls ≠ "java/lang/invoke/MethodHandle" ∧ y.cls ≠ "java/lang/invoke/VarHandle") (eT : T.heap = h) (E : Exa Z h a C) (hM : own_Ctr l Z y bytes maxL ret [] rm (.ref a :: argsL).toArray h Q)
    (hf : rm.frames + 1 ≤ R.frames) (hl : W + (maxL + 11) + rm.locals ≤ R.locals) (hc : cells + rm.cells ≤ R.cells) (hs : slots + rm.slots ≤ R.slots)
    (hg : g.method = m) (hsize : g.locals.size = c.maxLocals) (hlen : ∀ sig, parseMethodDescriptor y.desc = some sig → argsL.length = sig.parameters.length) (hstack : g.stack = argsL.reverse ++ .ref a :: rest) (hW : 2 * g.monitorRoom + (rest.map fun v => v.category).sum ≤ W) (hdg : decode c.code g.pc = .ok (.invokevirtual index, 3))
    (k : ∀ (T' : State) (L : List Loc) (v : Option Value), Stand p l e R s m args below meth c T' (locs ++ L) (cells + rm.cells) (slots + rm.slots) → Q v T'.heap L → own_Wp p.tables e below K (T'.setTop { g with pc := g.pc + 3, stack := v.toList ++ rest })) :
    own_Wp p.tables e below K (T.setTop g) := by
  obtain ⟨cq, kq, qa, qb, qc⟩ := isOf hZ eT E
  obtain ⟨v, _, ⟨T', L', k', n'⟩, -, X', ⟨Lc, hQ, l1, y1, z1⟩, st⟩ := X.virtualBack hx hown (mvT hZ w1) (mvT hZ w2) (notFace_of_selects (args := #[]) (mvT hZ w5)) (mvT hZ w5) (mvT hZ w6) hy (backOf (W := W) hM hZ w4 w3 hf hl) qa qc hg hsize (Steps.refl _) hlen hstack hW hdg (fun _ _ => ⟨rfl, eT, hc, hs⟩)
  dsimp only [Pt.U, Pt.locs, Pt.cells, Pt.slots] at X' l1 y1 z1 st hQ
  subst l1 y1 z1
  exact own_of (fun t q => st.trans q) (k _ _ _ X' hQ)
theorem own_callP {nI : Nat} {C0 : String} (X : Stand p l e R s m args below meth c T locs cells slots) (hx : p.tables.exec = Jvm.exec) (hZ : Z.Warmed39 s.vm) (hown : s.vm.findClass own = some m.cls)
    (w1 : (Jvm.Cond.methodLink own index y).before a0 Z = true) (w2 : (Jvm.Cond.instanceMethod y).before a0 Z = true) (wi : (Jvm.Cond.instantiable y.cls nI).before a0 Z = true) (wp : (Jvm.Cond.privateMethod y).before a0 Z = true) (w3 : (Jvm.Cond.initialized y.cls).before a0 Z = true) (w4 : (Jvm.Cond.code y bytes maxL ret).before a0 Z = true)
    (hy : y.cls ≠ "java/lang/invoke/MethodHandle" ∧ y.cls ≠ "java/lang/invoke/VarHandle") (eT : T.heap = h) (E : Exa Z h a C0) (hM : own_Ctr l Z y bytes maxL ret [] rm (.ref a :: argsL).toArray h Q)
    (hf : rm.frames + 1 ≤ R.frames) (hl : W + (maxL + 11) + rm.locals ≤ R.locals) (hc : cells + rm.cells ≤ R.cells) (hs : slots + rm.slots ≤ R.slots)
    (hg : g.method = m) (hsize : g.locals.size = c.maxLocals) (hlen : ∀ sig, parseMethodDescriptor y.desc = some sig → argsL.length = sig.parameters.length) (hstack : g.stack = argsL.reverse ++ .ref a :: rest) (hW : 2 * g.monitorRoom + (rest.map fun v => v.category).sum ≤ W) (hdg : decode c.code g.pc = .ok (.invokevirtual index, 3))
    (k : ∀ (T' : State) (L : List Loc) (v : Option Value), Stand p l e R s m args below meth c T' (locs ++ L) (cells + rm.cells) (slots + rm.slots) → Q v T'.heap L → own_Wp p.tables e below K (T'.setTop { g with pc := g.pc + 3, stack := v.toList ++ rest })) :
    own_Wp p.tables e below K (T.setTop g) := by
  obtain ⟨cq, q1, q2⟩ := E.cell
  obtain ⟨ci, ki, i1, i2, -, i4, -⟩ := Cond.instantiable_spec (mvT (args := args) hZ wi)
  simp only [Bool.or_eq_false_iff] at i4
  have hpr : s.PrivateAt y := Cond.privateMethod_at (mvP hZ wp (args := #[]))
  have hsel : (Jvm.Cond.selects y.cls y y).before args s = true := selects_self_of_private i1 i2 i4.1 hpr (mvT hZ w2) hy
  obtain ⟨v, _, ⟨T', L', k', n'⟩, -, X', ⟨Lc, hQ, l1, y1, z1⟩, st⟩ := X.privateBack hx hown (mvT hZ w1) (mvT hZ w2) hsel hpr (mvT hZ w4) hy (backOf (W := W) hM hZ w4 w3 hf hl) hg hsize (Steps.refl _) (by rw [eT]; exact q1) q2 hlen hstack hW hdg (fun _ _ => ⟨rfl, eT, hc, hs⟩)
  dsimp only [Pt.U, Pt.locs, Pt.cells, Pt.slots] at X' l1 y1 z1 st hQ
  subst l1 y1 z1
  exact own_of (fun t q => st.trans q) (k _ _ _ X' hQ)
end Calls
end OwnKit
section OwnArr
variable {p : Program} {l : Launch} {e : Env} {R : Room} {s : State} {m : MethodId} {args : Array Value} {below : List Frame} {meth : Method} {c : Code} {T : State} {locs : List Loc} {cells slots : Nat} {Z : State} {a0 : Array Value} {h h' : Heap} {K : State → Outcome → Prop}
variable {a b : Addr} {ty : FieldType} {n sl : Nat} {f : Nat → Value} {v : Value} {ws : List Addr}
theorem own_nat {j : Int32} {i : Nat} (hj : j.toInt = (i : Int)) : j.toNatClampNeg = i := by
  show j.toInt.toNat = i
  rw [hj]; exact Int.toNat_natCast i
theorem own_nneg {j : Int32} {i : Nat} (hj : j.toInt = (i : Int)) : ¬ j < 0 := by
  rw [Int32.lt_iff_toInt_lt, hj]
  show ¬ ((i : Int) < 0)
  omega
/-- the array at a: its kind, its length, its elements -/
def own_Ar (Z : State) (h : Heap) (a : Addr) (ty : FieldType) (n : Nat) (f : Nat → Value) : Prop := n < 2147483648 ∧ ∃ c : Cell, Arr Z h a c ty ∧ c.slots.size = n ∧ ∀ i, i < n → c.slots[i]? = some (f i)
def own_set (f : Nat → Value) (i : Nat) (v : Value) : Nat → Value := fun k => if k = i then v else f k
theorem own_set_eq (f : Nat → Value) (i : Nat) (v : Value) : own_set f i v i = v := if_pos rfl
theorem own_set_ne {f : Nat → Value} {i k : Nat} {v : Value} (q : k ≠ i) : own_set f i v k = f k := if_neg q
theorem own_Ar.lt (F : own_Ar Z h a ty n f) : a < h.size := by obtain ⟨_, c, A, -⟩ := F; exact A.lt
theorem own_Ar.ext (F : own_Ar Z h a ty n f) (E : Ext h h') : own_Ar Z h' a ty n f := by obtain ⟨q, c, A, r⟩ := F; exact ⟨q, c, A.ext E, r⟩
theorem own_Ar.other (F : own_Ar Z h a ty n f) (W : Wr h h' b sl v) (q : a ≠ b) : own_Ar Z h' a ty n f := by obtain ⟨q0, c, A, r⟩ := F; exact ⟨q0, c, A.other W q, r⟩
theorem own_Ar.keep (F : own_Ar Z h a ty n f) (K : Keep h h' ws) (q : a ∉ ws) : own_Ar Z h' a ty n f := by obtain ⟨q0, c, A, r⟩ := F; exact ⟨q0, c, ⟨K.2.1 a c A.1 q, A.2⟩, r⟩
theorem own_Ar.fn {f' : Nat → Value} (F : own_Ar Z h a ty n f) (q : ∀ i, i < n → f i = f' i) : own_Ar Z h a ty n f' := by obtain ⟨q0, c, A, r1, r2⟩ := F; exact ⟨q0, c, A, r1, fun i hi => by rw [← q i hi]; exact r2 i hi⟩
theorem own_Ar.new {k : ClassId} {z : Int32} (A : Arr Z h a (newA k ty z) ty) (q : ¬ z < 0) (e : z.toNatClampNeg = n) : own_Ar Z h a ty n (fun _ => defaultValue ty) := by
  refine ⟨by rw [← e]; exact (back32 q).2, _, A, by rw [sz_new, e], fun i hi => ?_⟩
  simp [newA, e, hi]
theorem own_Ar.start (A : Arr Z h a c' ty) (hs : c'.slots.size < 2147483648) (H : ∀ i, i < c'.slots.size → c'.slots[i]? = some (f i)) : own_Ar Z h a ty c'.slots.size f := ⟨hs, _, A, rfl, H⟩
section Steps
variable {j : Int32} {i : Nat} {g : JFrame} {rest : List Value}
theorem own_in {cl : Cell} (hj : j.toInt = (i : Int)) (hi : i < n) (hsz : cl.slots.size = n) : ¬ (j < 0 ∨ cl.slots.size ≤ j.toNatClampNeg) := by
  rw [own_nat hj, hsz]
  rintro (q | q)
  · exact own_nneg hj q
  · omega
theorem own_iaload {v : Int32} (X : Stand p l e R s m args below meth c T locs cells slots) (hx : p.tables.exec = Jvm.exec) (hZ : Z.Warmed39 s.vm) (eT : T.heap = h) (A : own_Ar Z h a .int n f) (hj : j.toInt = (i : Int)) (hi : i < n) (hv : f i = .int v)
    (hg : g.method = m) (hs : g.stack = .int j :: .ref a :: rest) (hd : decode c.code g.pc = .ok (.iaload, 1)) (k : own_Wp p.tables e below K (T.setTop { g with pc := g.pc + 1, stack := .int v :: rest })) : own_Wp p.tables e below K (T.setTop g) := by
  obtain ⟨-, cl, A, hsz, H⟩ := A
  exact own_of (X.iaload hx (by rw [eT]; exact A.1) (State.isArrayOf_alike hZ.alike A.2.1) A.2.2 (own_in hj hi hsz) (by rw [own_nat hj, H i hi, hv]) hg hs hd) k
theorem own_laload {v : Int64} (X : Stand p l e R s m args below meth c T locs cells slots) (hx : p.tables.exec = Jvm.exec) (hZ : Z.Warmed39 s.vm) (eT : T.heap = h) (A : own_Ar Z h a .long n f) (hj : j.toInt = (i : Int)) (hi : i < n) (hv : f i = .long v)
    (hg : g.method = m) (hs : g.stack = .int j :: .ref a :: rest) (hd : decode c.code g.pc = .ok (.laload, 1)) (k : own_Wp p.tables e below K (T.setTop { g with pc := g.pc + 1, stack := .long v :: rest })) : own_Wp p.tables e below K (T.setTop g) := by
  obtain ⟨-, cl, A, hsz, H⟩ := A
  exact own_of (X.laload hx (by rw [eT]; exact A.1) (State.isArrayOf_alike hZ.alike A.2.1) A.2.2 (own_in hj hi hsz) (by rw [own_nat hj, H i hi, hv]) hg hs hd) k
theorem own_baload {v : Int32} (X : Stand p l e R s m args below meth c T locs cells slots) (hx : p.tables.exec = Jvm.exec) (hZ : Z.Warmed39 s.vm) (eT : T.heap = h) (A : own_Ar Z h a .byte n f) (hj : j.toInt = (i : Int)) (hi : i < n) (hv : f i = .int v)
    (hg : g.method = m) (hs : g.stack = .int j :: .ref a :: rest) (hd : decode c.code g.pc = .ok (.baload, 1)) (k : own_Wp p.tables e below K (T.setTop { g with pc := g.pc + 1, stack := .int v :: rest })) : own_Wp p.tables e below K (T.setTop g) := by
  obtain ⟨-, cl, A, hsz, H⟩ := A
  exact own_of (X.baloadBytes hx (by rw [eT]; exact A.1) (State.isArrayOf_alike hZ.alike A.2.1) A.2.2 (own_in hj hi hsz) (by rw [own_nat hj, H i hi, hv]) hg hs hd) k
theorem own_zaload {v : Int32} (X : Stand p l e R s m args below meth c T locs cells slots) (hx : p.tables.exec = Jvm.exec) (hZ : Z.Warmed39 s.vm) (eT : T.heap = h) (A : own_Ar Z h a .boolean n f) (hj : j.toInt = (i : Int)) (hi : i < n) (hv : f i = .int v)
    (hg : g.method = m) (hs : g.stack = .int j :: .ref a :: rest) (hd : decode c.code g.pc = .ok (.baload, 1)) (k : own_Wp p.tables e below K (T.setTop { g with pc := g.pc + 1, stack := .int v :: rest })) : own_Wp p.tables e below K (T.setTop g) := by
  obtain ⟨-, cl, A, hsz, H⟩ := A
  exact own_of (X.baloadBooleans hx (by rw [eT]; exact A.1) (State.isArrayOf_alike hZ.alike A.2.1) A.2.2 (own_in hj hi hsz) (by rw [own_nat hj, H i hi, hv]) hg hs hd) k
theorem own_aaload {C : String} {v : Value} (X : Stand p l e R s m args below meth c T locs cells slots) (hx : p.tables.exec = Jvm.exec) (hZ : Z.Warmed39 s.vm) (eT : T.heap = h) (A : own_Ar Z h a (.object C) n f) (hj : j.toInt = (i : Int)) (hi : i < n) (hv : f i = v)
    (hg : g.method = m) (hs : g.stack = .int j :: .ref a :: rest) (hd : decode c.code g.pc = .ok (.aaload, 1)) (k : own_Wp p.tables e below K (T.setTop { g with pc := g.pc + 1, stack := v :: rest })) : own_Wp p.tables e below K (T.setTop g) := by
  obtain ⟨-, cl, A, hsz, H⟩ := A
  exact own_of (X.aaload hx (by rw [eT]; exact A.1) (State.isArrayOf_alike hZ.alike A.2.1) rfl A.2.2 (own_in hj hi hsz) (by rw [own_nat hj, H i hi, hv]) hg hs hd) k
theorem own_len {z : Int32} (X : Stand p l e R s m args below meth c T locs cells slots) (hx : p.tables.exec = Jvm.exec) (hZ : Z.Warmed39 s.vm) (eT : T.heap = h) (A : own_Ar Z h a ty n f) (hz : z.toInt = (n : Int))
    (hg : g.method = m) (hs : g.stack = .ref a :: rest) (hd : decode c.code g.pc = .ok (.arraylength, 1)) (k : own_Wp p.tables e below K (T.setTop { g with pc := g.pc + 1, stack := .int z :: rest })) : own_Wp p.tables e below K (T.setTop g) := by
  obtain ⟨-, cl, A, hsz, H⟩ := A
  have q : cl.slots.size.toInt32 = z := by rw [hsz, ← own_nat hz]; exact (back32 (own_nneg hz)).1
  rw [← q] at k
  exact own_of (X.arraylength hx (by rw [eT]; exact A.1) (State.isArrayOf_alike hZ.alike A.2.1) hg hs hd) k
theorem own_Ar.set {cl : Cell} {hn : n < 2147483648} (A : Arr Z h a cl ty) (hsz : cl.slots.size = n) (H : ∀ i, i < n → cl.slots[i]? = some (f i)) (hi : i < n) (W : Wr h h' a i v) : own_Ar Z h' a ty n (own_set f i v) := by
  refine ⟨hn, _, A.same W, by rw [sz_set]; exact hsz, fun q hq => ?_⟩
  by_cases e : q = i
  · subst e; rw [own_set_eq]; simp [Cell.setSlot, hsz, hq]
  · rw [own_set_ne e, ← H q hq]; exact Array.getElem?_setIfInBounds_ne (Ne.symm e)
theorem own_stI {x : Int32} (X : Stand p l e R s m args below meth c T locs cells slots) (hx : p.tables.exec = Jvm.exec) (hZ : Z.Warmed39 s.vm) (eT : T.heap = h) (A : own_Ar Z h a .int n f) (hj : j.toInt = (i : Int)) (hi : i < n)
    (hg : g.method = m) (hs : g.stack = .int x :: .int j :: .ref a :: rest) (hd : decode c.code g.pc = .ok (.iastore, 1)) :
    ∃ T' h', Stand p l e R s m args below meth c T' (locs ++ [⟨a, i⟩]) cells slots ∧ T'.heap = h' ∧ Wr h h' a i (.int x) ∧ own_Ar Z h' a .int n (own_set f i (.int x)) ∧ ∀ target, Steps p.tables e below (T'.setTop { g with pc := g.pc + 1, stack := rest }) target → Steps p.tables e below (T.setTop g) target := by
  obtain ⟨hn, cl, A, hsz, H⟩ := A
  obtain ⟨T', h', X', e', W, st⟩ := stI X hx hZ eT A (own_in hj hi hsz) hg hs hd
  rw [own_nat hj] at X' W
  exact ⟨T', h', X', e', W, own_Ar.set (hn := hn) A hsz H hi W, st⟩
theorem own_stJ {x : Int64} (X : Stand p l e R s m args below meth c T locs cells slots) (hx : p.tables.exec = Jvm.exec) (hZ : Z.Warmed39 s.vm) (eT : T.heap = h) (A : own_Ar Z h a .long n f) (hj : j.toInt = (i : Int)) (hi : i < n)
    (hg : g.method = m) (hs : g.stack = .long x :: .int j :: .ref a :: rest) (hd : decode c.code g.pc = .ok (.lastore, 1)) :
    ∃ T' h', Stand p l e R s m args below meth c T' (locs ++ [⟨a, i⟩]) cells slots ∧ T'.heap = h' ∧ Wr h h' a i (.long x) ∧ own_Ar Z h' a .long n (own_set f i (.long x)) ∧ ∀ target, Steps p.tables e below (T'.setTop { g with pc := g.pc + 1, stack := rest }) target → Steps p.tables e below (T.setTop g) target := by
  obtain ⟨hn, cl, A, hsz, H⟩ := A
  obtain ⟨T', h', X', e', W, st⟩ := stJ X hx hZ eT A (own_in hj hi hsz) hg hs hd
  rw [own_nat hj] at X' W
  exact ⟨T', h', X', e', W, own_Ar.set (hn := hn) A hsz H hi W, st⟩
theorem own_stB {x : Int32} (X : Stand p l e R s m args below meth c T locs cells slots) (hx : p.tables.exec = Jvm.exec) (hZ : Z.Warmed39 s.vm) (eT : T.heap = h) (A : own_Ar Z h a .byte n f) (hj : j.toInt = (i : Int)) (hi : i < n)
    (hg : g.method = m) (hs : g.stack = .int x :: .int j :: .ref a :: rest) (hd : decode c.code g.pc = .ok (.bastore, 1)) :
    ∃ T' h', Stand p l e R s m args below meth c T' (locs ++ [⟨a, i⟩]) cells slots ∧ T'.heap = h' ∧ Wr h h' a i (.int x.toInt8.toInt32) ∧ own_Ar Z h' a .byte n (own_set f i (.int x.toInt8.toInt32)) ∧ ∀ target, Steps p.tables e below (T'.setTop { g with pc := g.pc + 1, stack := rest }) target → Steps p.tables e below (T.setTop g) target := by
  obtain ⟨hn, cl, A, hsz, H⟩ := A
  obtain ⟨T', h', X', e', W, st⟩ := stB X hx hZ eT A (own_in hj hi hsz) hg hs hd
  rw [own_nat hj] at X' W
  exact ⟨T', h', X', e', W, own_Ar.set (hn := hn) A hsz H hi W, st⟩
end Steps
theorem own_more {cells' slots' : Nat} (X : Stand p l e R s m args below meth c T locs cells slots) (h1 : cells ≤ cells') (h2 : slots ≤ slots') : Stand p l e R s m args below meth c T locs cells' slots' := { X with same := X.same.mono h1 h2 }
section Start
variable {C nm d : String}
theorem own_refArr {t : Term} (ha : (Jvm.Cond.arrayOf t ty).value args s none s [] = some true) : ∃ (a : Addr) (cl : Cell), Arr s s.heap a cl ty ∧ s.arrayAt? a = some cl ∧ t.eval args s none [] s = some (.ref a) := by
  obtain ⟨a, ev⟩ : ∃ a, t.eval args s none [] s = some (.ref a) := by
    simp only [Cond.value] at ha
    split at ha
    · cases ha
    · split at ha
      · exact ⟨_, by assumption⟩
      · cases ha
      · cases ha
  obtain ⟨cl, A⟩ := Arr.start ev ha
  exact ⟨a, cl, A, IntBox.arrayAt_of A.1 A.2.1 A.2.2, ev⟩
theorem own_exaRef {t : Term} {K : String} (h : (Jvm.Cond.exactly t K).value args s none s [] = some true) : ∃ a, Exa s s.heap a K ∧ t.eval args s none [] s = some (.ref a) := by
  obtain ⟨a', c', cell, k, e1, -⟩ := Cond.exactly_spec (Cond.before_iff.mpr h)
  exact ⟨a', Exa.start e1 h, e1⟩
theorem own_fldOf {t : Term} {v : Value} {O : String} (ev : t.eval args s none [] s = some (.ref a)) (e : (Term.field t O nm d).eval args s none [] s = some v) : Fld s s.heap a O nm d v := by
  simp only [Term.eval, ev, Option.bind_eq_bind, Option.bind_some] at e
  exact Fld.start e
theorem own_fldI {t : Term} {x : Int32} {O : String} (ev : t.eval args s none [] s = some (.ref a)) (h : (Jvm.Cond.eq (.field t O nm d) (.int x)).value args s none s [] = some true) : Fld s s.heap a O nm d (.int x) := by
  cases he : (Term.field t O nm d).eval args s none [] s with
  | none => simp [Cond.value, he] at h
  | some w =>
    have : w = .int x := by
      simp only [Cond.value, he] at h
      rw [show (Term.int x).eval args s none [] s = some (.int x) from rfl] at h
      cases w <;> simp at h
      subst h; rfl
    subst this
    exact own_fldOf ev he
theorem own_isRef {t : Term} (h : (Jvm.Cond.isRef t).value args s none s [] = some true) : ∃ v, t.eval args s none [] s = some v ∧ (v = .null ∨ ∃ b, v = .ref b) := by
  simp only [Cond.value] at h
  cases he : t.eval args s none [] s with
  | none => simp [he] at h
  | some w => rw [he] at h; cases w <;> simp at h <;> simp
theorem own_notZero {t : Term} {x : Int32} (ev : t.eval args s none [] s = some (.int x)) (h : (Jvm.Cond.not (Jvm.Cond.eq t (.int 0))).value args s none s [] = some true) : ¬ x = 0 := by
  intro q
  subst q
  simp [Cond.value, ev, Term.eval] at h
theorem own_ltOf {x y : Int32} {i k : Nat} (h1 : x.toInt = (i : Int)) (h2 : y.toInt = (k : Int)) (h : i < k) : x < y := by
  rw [Int32.lt_iff_toInt_lt, h1, h2]; omega
theorem own_Ar.some {cl : Cell} (A : Arr Z h a cl ty) (hs : cl.slots.size < 2147483648) : own_Ar Z h a ty cl.slots.size (fun k => (cl.slots[k]?).getD .null) :=
  ⟨hs, _, A, rfl, fun i hi => by simp [Array.getElem?_eq_getElem hi]⟩
/-- a static that holds an array, at the start -/
theorem own_staArr (hi : (Jvm.Cond.initialized C).before args s = true) (hl : (Jvm.Cond.laysStatic C nm d).before args s = true) (ha : (Jvm.Cond.arrayOf (.static C nm d) ty).value args s none s [] = some true) :
    ∃ (a : Addr) (cl : Cell), Sta s s.heap C nm d (.ref a) ∧ Arr s s.heap a cl ty ∧ s.arrayAt? a = some cl ∧ (Term.static C nm d).eval args s none [] s = some (.ref a) := by
  obtain ⟨a, ev⟩ : ∃ a, (Term.static C nm d).eval args s none [] s = some (.ref a) := by
    simp only [Cond.value] at ha
    split at ha
    · cases ha
    · split at ha
      · exact ⟨_, by assumption⟩
      · cases ha
      · cases ha
  obtain ⟨cl, A⟩ := Arr.start ev ha
  exact ⟨a, cl, Sta.start ev (Or.inr ⟨hi, hl⟩), A, IntBox.arrayAt_of A.1 A.2.1 A.2.2, ev⟩
/-- an element that the case names -/
theorem own_elemEq {t i b : Term} {x : Int32} {cl : Cell} {jj : Int32} {idx : List Nat} (ev : t.eval args s none idx s = some (.ref a)) (hat : s.arrayAt? a = some cl) (hi : i.eval args s none idx s = some (.int jj)) (hb : b.eval args s none idx s = some (.int x)) (h : (Jvm.Cond.eq (.elem t i) b).value args s none s idx = some true) : ¬ jj < 0 ∧ cl.slots[jj.toNatClampNeg]? = some (.int x) := by
  simp only [Cond.value, hb] at h
  cases he : (Term.elem t i).eval args s none idx s with
  | none => simp [he] at h
  | some w =>
    obtain ⟨a', j', cl', q1, q2, q3, q4, q5⟩ := Term.elem_spec he
    cases ev.symm.trans q1
    cases hi.symm.trans q2
    cases hat.symm.trans q3
    rw [he] at h
    cases w <;> simp at h
    subst h
    exact ⟨fun z => q4 (Or.inl z), q5⟩
theorem own_lenEq {t : Term} {x : Int32} {cl : Cell} (ev : t.eval args s none [] s = some (.ref a)) (hat : s.arrayAt? a = some cl) (h : (Jvm.Cond.eq (.length t) (.int x)).value args s none s [] = some true) : (cl.slots.size : Int) = x.toInt := by
  simp only [Cond.value, Term.eval, ev, hat, Option.bind_eq_bind, Option.bind_some] at h
  by_cases q : cl.slots.size < 2147483648
  · simp [q] at h
    rw [← h]
    exact (Int32.toInt_ofNat_of_lt q).symm
  · simp [q] at h
theorem own_or {A B : Jvm.Cond} {idx : List Nat} (h : (Jvm.Cond.or A B).value args s none s idx = some true) : A.value args s none s idx = some true ∨ B.value args s none s idx = some true := by
  simp only [Cond.value] at h
  split at h
  · exact Or.inr h
  · exact Or.inl h
theorem own_leV {A B : Term} {x y : Int32} {idx : List Nat} (ha : A.eval args s none idx s = some (.int x)) (hb : B.eval args s none idx s = some (.int y)) (h : (Jvm.Cond.le A B).value args s none s idx = some true) : x.toInt ≤ y.toInt := by
  rw [Cond.le_ints ha hb] at h
  exact Int32.le_iff_toInt_le.mp (by simpa using h)
theorem own_ltV {A B : Term} {x y : Int32} {idx : List Nat} (ha : A.eval args s none idx s = some (.int x)) (hb : B.eval args s none idx s = some (.int y)) (h : (Jvm.Cond.lt A B).value args s none s idx = some true) : x.toInt < y.toInt := by
  simp only [Cond.value, ha, hb] at h
  exact Int32.lt_iff_toInt_lt.mp (by simpa using h)
theorem own_idx {k : Nat} (hk : k < 2147483648) : (k.toInt32).toInt = (k : Int) := Int32.toInt_ofNat_of_lt hk
section Elems
variable {t b : Term} {cl : Cell} {x lo hi : Int32} {k : Nat}
theorem own_elemK (ev : ∀ idx, t.eval args s none idx s = some (.ref a)) (hat : s.arrayAt? a = some cl) (hk : k < 2147483648) (hb : b.eval args s none [k] s = some (.int x)) (h : (Jvm.Cond.eq (.elem t (.index 0)) b).value args s none s [k] = some true) : cl.slots[k]? = some (.int x) := by
  have q := (own_elemEq (ev _) hat (Term.index_eval k) hb h).2
  rwa [own_nat (own_idx hk)] at q
theorem own_all1 (ev : ∀ idx, t.eval args s none idx s = some (.ref a)) (hat : s.arrayAt? a = some cl) (hn : cl.slots.size < 2147483648) (h : (Jvm.Cond.all t (.or (.le (.int lo) (.index 0)) (.eq (.elem t (.index 0)) b))).value args s none s [] = some true) (hk : k < cl.slots.size) (h1 : (k : Int) < lo.toInt) (hb : b.eval args s none [k] s = some (.int x)) : cl.slots[k]? = some (.int x) := by
  rcases own_or (Cond.all_elim (ev _) hat h k hk) with q | q
  · have := own_leV rfl (Term.index_eval k) q; rw [own_idx (by omega)] at this; omega
  · exact own_elemK ev hat (by omega) hb q
theorem own_all2 (ev : ∀ idx, t.eval args s none idx s = some (.ref a)) (hat : s.arrayAt? a = some cl) (hn : cl.slots.size < 2147483648) (h : (Jvm.Cond.all t (.or (.lt (.index 0) (.int lo)) (.or (.le (.int hi) (.index 0)) (.eq (.elem t (.index 0)) b)))).value args s none s [] = some true) (hk : k < cl.slots.size) (h1 : lo.toInt ≤ (k : Int)) (h2 : (k : Int) < hi.toInt) (hb : b.eval args s none [k] s = some (.int x)) : cl.slots[k]? = some (.int x) := by
  rcases own_or (Cond.all_elim (ev _) hat h k hk) with q | q
  · have := own_ltV (Term.index_eval k) rfl q; rw [own_idx (by omega)] at this; omega
  · rcases own_or q with q | q
    · have := own_leV rfl (Term.index_eval k) q; rw [own_idx (by omega)] at this; omega
    · exact own_elemK ev hat (by omega) hb q
theorem own_all3 (ev : ∀ idx, t.eval args s none idx s = some (.ref a)) (hat : s.arrayAt? a = some cl) (hn : cl.slots.size < 2147483648) (h : (Jvm.Cond.all t (.or (.lt (.index 0) (.int lo)) (.eq (.elem t (.index 0)) b))).value args s none s [] = some true) (hk : k < cl.slots.size) (h1 : lo.toInt ≤ (k : Int)) (hb : b.eval args s none [k] s = some (.int x)) : cl.slots[k]? = some (.int x) := by
  rcases own_or (Cond.all_elim (ev _) hat h k hk) with q | q
  · have := own_ltV (Term.index_eval k) rfl q; rw [own_idx (by omega)] at this; omega
  · exact own_elemK ev hat (by omega) hb q
theorem own_one (ev : ∀ idx, t.eval args s none idx s = some (.ref a)) (hat : s.arrayAt? a = some cl) (h : (Jvm.Cond.eq (.elem t (.int lo)) (.int x)).value args s none s [] = some true) (hk : lo.toInt = (k : Int)) : cl.slots[k]? = some (.int x) := by
  have q := (own_elemEq (ev _) hat rfl rfl h).2
  rwa [own_nat hk] at q
end Elems
end Start
end OwnArr
section OwnObj
variable {p : Program} {l : Launch} {e : Env} {R : Room} {s : State} {m : MethodId} {args : Array Value} {below : List Frame} {meth : Method} {c : Code} {T : State} {locs : List Loc} {cells slots : Nat} {Z : State} {a0 : Array Value} {h h' : Heap} {K : State → Outcome → Prop}
variable {a b y : Addr} {C : String} {n sl : Nat} {f : Nat → Value} {v : Value} {ws : List Addr}
/-- an array of objects of the class C -/
def own_ArO (Z : State) (h : Heap) (a : Addr) (C : String) (n : Nat) (f : Nat → Value) : Prop := own_Ar Z h a (.object C) n f ∧ ∃ c : Cell, h[a]? = some c ∧ Ovr Z c.cls C
theorem own_ArO.lt (F : own_ArO Z h a C n f) : a < h.size := F.1.lt
theorem own_ArO.ext (F : own_ArO Z h a C n f) (E : Ext h h') : own_ArO Z h' a C n f := ⟨F.1.ext E, by obtain ⟨c, h1, h2⟩ := F.2; exact ⟨c, E.2 _ _ h1, h2⟩⟩
theorem own_ArO.other (F : own_ArO Z h a C n f) (W : Wr h h' b sl v) (q : a ≠ b) : own_ArO Z h' a C n f := ⟨F.1.other W q, by
  obtain ⟨c, h1, h2⟩ := F.2
  obtain ⟨c', e1, -, -, -, e5, -⟩ := wr_at W h1
  exact ⟨c, by rw [← e5 q]; exact e1, h2⟩⟩
theorem own_ArO.keep (F : own_ArO Z h a C n f) (K : Keep h h' ws) (q : a ∉ ws) : own_ArO Z h' a C n f := ⟨F.1.keep K q, by obtain ⟨c, h1, h2⟩ := F.2; exact ⟨c, K.2.1 a c h1 q, h2⟩⟩
theorem own_ArO.fn {f' : Nat → Value} (F : own_ArO Z h a C n f) (q : ∀ i, i < n → f i = f' i) : own_ArO Z h a C n f' := ⟨F.1.fn q, F.2⟩
theorem own_ArO.new {k : ClassId} {z : Int32} (A : Arr Z h a (newA k (.object C) z) (.object C)) (O : Ovr Z k C) (q : ¬ z < 0) (e : z.toNatClampNeg = n) : own_ArO Z h a C n (fun _ => .null) := ⟨own_Ar.new A q e, _, A.1, O⟩
theorem own_stR {j : Int32} {i : Nat} {g : JFrame} {rest : List Value} (X : Stand p l e R s m args below meth c T locs cells slots) (hx : p.tables.exec = Jvm.exec) (hZ : Z.Warmed39 s.vm) (eT : T.heap = h) (A : own_ArO Z h a C n f) (hj : j.toInt = (i : Int)) (hi : i < n) (I : Ins Z h y C true)
    (hg : g.method = m) (hs : g.stack = .ref y :: .int j :: .ref a :: rest) (hd : decode c.code g.pc = .ok (.aastore, 1)) :
    ∃ T' h', Stand p l e R s m args below meth c T' (locs ++ [⟨a, i⟩]) cells slots ∧ T'.heap = h' ∧ Wr h h' a i (.ref y) ∧ own_ArO Z h' a C n (own_set f i (.ref y)) ∧ ∀ target, Steps p.tables e below (T'.setTop { g with pc := g.pc + 1, stack := rest }) target → Steps p.tables e below (T.setTop g) target := by
  obtain ⟨⟨hn, cl, A, hsz, H⟩, c1, o1, o2⟩ := A
  cases A.1.symm.trans o1
  obtain ⟨T', h', X', e', W, st⟩ := stR X hx hZ eT A (own_in hj hi hsz) rfl (Sto.of A o2 I) hg hs hd
  rw [own_nat hj] at X' W
  exact ⟨T', h', X', e', W, ⟨own_Ar.set (hn := hn) A hsz H hi W, _, (A.same W).1, o2⟩, st⟩
end OwnObj
section OwnStart
variable {s : State} {args : Array Value} {Z : State} {a0 : Array Value} {a : Addr}
theorem own_eqI {t : Term} {x : Int32} (h : (Jvm.Cond.eq t (.int x)).value args s none s [] = some true) : t.eval args s none [] s = some (.int x) := by
  simp only [Cond.value] at h
  rw [show (Term.int x).eval args s none [] s = some (.int x) from rfl] at h
  cases he : t.eval args s none [] s with
  | none => simp [he] at h
  | some w =>
    rw [he] at h
    cases w <;> simp at h
    subst h; rfl
theorem own_exaElem {t : Term} {cl : Cell} {K : String} {k : Nat} (ev : ∀ idx, t.eval args s none idx s = some (.ref a)) (hat : s.arrayAt? a = some cl) (hk : k < 2147483648) (h : (Jvm.Cond.exactly (.elem t (.index 0)) K).value args s none s [k] = some true) : ∃ b, cl.slots[k]? = some (.ref b) ∧ Exa s s.heap b K := by
  obtain ⟨b, c', cell, kk, e1, -⟩ := Cond.exactly_spec (show (Jvm.Cond.exactly (.elem t (.index 0)) K).holds args s none s [k] = true by simp [Cond.holds, h])
  obtain ⟨a', j', cl', q1, q2, q3, q4, q5⟩ := Term.elem_spec e1
  cases (ev _).symm.trans q1
  cases (Term.index_eval k).symm.trans q2
  cases hat.symm.trans q3
  rw [own_nat (own_idx hk)] at q5
  exact ⟨b, q5, exa_at e1 h⟩
theorem own_nsRoot {O K : String} {n : Nat} (w : (Jvm.Cond.noSuperclass O).before a0 Z = true) (wi : (Jvm.Cond.instantiable K n).before a0 Z = true) (hn : O ≠ K) : NS Z O K := by
  obtain ⟨c, k, h1, h2, h3, -, -⟩ := Cond.noSuperclass_spec w
  obtain ⟨t, kt, g1, -⟩ := Cond.instantiable_spec wi
  have ne := ids_ne h1 g1 hn
  refine ⟨c, t, h1, g1, fun fuel => ?_⟩
  cases fuel with
  | zero => rfl
  | succ f => simp [Vm.isSubclassAux, ne, h2, h3]
theorem own_nsNo {C S K : String} {n : Nat} (w : (Jvm.Cond.superclass C S).before a0 Z = true) (wi : (Jvm.Cond.instantiable K n).before a0 Z = true) (q : NS Z C K) (hn : C ≠ K) : ∃ c t, Z.vm.findClass C = some c ∧ Z.vm.findClass K = some t ∧ Z.vm.assignable c t = false := by
  obtain ⟨c, t, h0, g0, n3⟩ := q
  obtain ⟨p, k, kp, h1, h2, h3, h4, h5, -, h7⟩ := Cond.superclass_spec h0 w
  obtain ⟨t', kt, g1, g2, g3, g4, -⟩ := Cond.instantiable_spec wi
  cases g0.symm.trans g1
  have ne := ids_ne h0 g0 hn
  simp only [Bool.or_eq_false_iff] at g4
  refine ⟨c, t, h0, g0, ?_⟩
  show Z.vm.assignableAux (255 + 1) c t = false
  simp [Vm.assignableAux, ne, h2, g2, h5, g3, g4.1, Vm.isSubclass, n3]
end OwnStart
def own_imp (k : Nat) : Int32 := match k with | 0 => 1 | 1 => 16383 | 2 => 132 | 3 => 136 | 4 => 16 | 5 => 160 | 6 => 192 | 7 => 128 | 8 => 256 | 9 => 512 | 10 => 1536 | 11 => 2048 | 12 => 4096 | _ => 8192
def own_im (i j : Nat) : Int32 := (if i = 1 ∨ i = j then 1 else 0) ||| (if j = 7 then (if i = 2 ∨ i = 3 ∨ i = 5 ∨ i = 6 then 1 else 0) else if j = 9 then (if i = 10 then 1 else 0) else 0)
theorem own_imeq : ∀ i j : Fin 14, nar .boolean (own_im i.1 j.1) = if (own_imp i.1 >>> ((Int32.ofNat j.1) &&& 31)) &&& 1 = 0 then 0 else 1 := by decide +kernel
theorem own_rem14 {x k : Int32} (h : k = (x &&& (2147483647 : Int32)) % (14 : Int32)) : ∃ n : Nat, n < 14 ∧ k.toInt = (n : Int) ∧ Int32.ofNat n = k := by
  have h1 := Jvm.Kit.i32_mask x 2147483647 (k := 31) (by decide) (by decide)
  have h2 : k.toInt = (x.toInt % 2 ^ 31) % 14 := by
    rw [h, Jvm.Kit.i32_rem_nonneg (by rw [h1]; omega), h1]; rfl
  refine ⟨((x.toInt % 2 ^ 31) % 14).toNat, by omega, by omega, ?_⟩
  apply Int32.toInt_inj.mp
  rw [Int32.toInt_ofNat_of_lt (by omega)]; omega
theorem own_pn0 : plainName "com/example/ply2/ply2/metadata/AclOperation" = true := by first | (simp [plainName, overriddenIn]; done) | decide +kernel
theorem d1_0 : decode prog_163_method_6_code 0 = .ok (.aload_n 0, 1) := by decide +kernel
theorem d1_1 : decode prog_163_method_6_code 1 = .ok (.getstatic 7, 3) := by decide +kernel
theorem d1_17 : decode prog_163_method_6_code 17 = .ok (.istore_n 2, 1) := by decide +kernel
theorem d1_18 : decode prog_163_method_6_code 18 = .ok (.aload_n 1, 1) := by decide +kernel
theorem d1_19 : decode prog_163_method_6_code 19 = .ok (.getstatic 25, 3) := by decide +kernel
theorem d1_22 : decode prog_163_method_6_code 22 = .ok (.if_acmp .ne 42, 3) := by decide +kernel
theorem d1_25 : decode prog_163_method_6_code 25 = .ok (.iload_n 2, 1) := by decide +kernel
theorem d1_26 : decode prog_163_method_6_code 26 = .ok (.aload_n 0, 1) := by decide +kernel
theorem d1_27 : decode prog_163_method_6_code 27 = .ok (.getstatic 10, 3) := by decide +kernel
theorem d1_59 : decode prog_163_method_6_code 59 = .ok (.ior, 1) := by decide +kernel
theorem d1_60 : decode prog_163_method_6_code 60 = .ok (.istore_n 2, 1) := by decide +kernel
theorem d1_61 : decode prog_163_method_6_code 61 = .ok (.goto 25, 3) := by decide +kernel
theorem d1_86 : decode prog_163_method_6_code 86 = .ok (.iload_n 2, 1) := by decide +kernel
theorem d1_87 : decode prog_163_method_6_code 87 = .ok (.ireturn, 1) := by decide +kernel
theorem d1_30 : decode prog_163_method_6_code 30 = .ok (.if_acmp .eq 24, 3) := by decide +kernel
theorem d1_54 : decode prog_163_method_6_code 54 = .ok (.iconst 1, 1) := by decide +kernel
theorem d1_55 : decode prog_163_method_6_code 55 = .ok (.goto 4, 3) := by decide +kernel
theorem d1_33 : decode prog_163_method_6_code 33 = .ok (.aload_n 0, 1) := by decide +kernel
theorem d1_34 : decode prog_163_method_6_code 34 = .ok (.getstatic 13, 3) := by decide +kernel
theorem d1_37 : decode prog_163_method_6_code 37 = .ok (.if_acmp .eq 17, 3) := by decide +kernel
theorem d1_40 : decode prog_163_method_6_code 40 = .ok (.aload_n 0, 1) := by decide +kernel
theorem d1_41 : decode prog_163_method_6_code 41 = .ok (.getstatic 19, 3) := by decide +kernel
theorem d1_44 : decode prog_163_method_6_code 44 = .ok (.if_acmp .eq 10, 3) := by decide +kernel
theorem d1_47 : decode prog_163_method_6_code 47 = .ok (.aload_n 0, 1) := by decide +kernel
theorem d1_48 : decode prog_163_method_6_code 48 = .ok (.getstatic 22, 3) := by decide +kernel
theorem d1_51 : decode prog_163_method_6_code 51 = .ok (.if_acmp .ne 7, 3) := by decide +kernel
theorem d1_58 : decode prog_163_method_6_code 58 = .ok (.iconst 0, 1) := by decide +kernel
theorem d1_64 : decode prog_163_method_6_code 64 = .ok (.aload_n 1, 1) := by decide +kernel
theorem d1_65 : decode prog_163_method_6_code 65 = .ok (.getstatic 31, 3) := by decide +kernel
theorem d1_68 : decode prog_163_method_6_code 68 = .ok (.if_acmp .ne 18, 3) := by decide +kernel
theorem d1_71 : decode prog_163_method_6_code 71 = .ok (.iload_n 2, 1) := by decide +kernel
theorem d1_72 : decode prog_163_method_6_code 72 = .ok (.aload_n 0, 1) := by decide +kernel
theorem d1_73 : decode prog_163_method_6_code 73 = .ok (.getstatic 34, 3) := by decide +kernel
theorem d1_84 : decode prog_163_method_6_code 84 = .ok (.ior, 1) := by decide +kernel
theorem d1_85 : decode prog_163_method_6_code 85 = .ok (.istore_n 2, 1) := by decide +kernel
theorem d1_76 : decode prog_163_method_6_code 76 = .ok (.if_acmp .ne 7, 3) := by decide +kernel
theorem d1_79 : decode prog_163_method_6_code 79 = .ok (.iconst 1, 1) := by decide +kernel
theorem d1_80 : decode prog_163_method_6_code 80 = .ok (.goto 4, 3) := by decide +kernel
theorem d1_83 : decode prog_163_method_6_code 83 = .ok (.iconst 0, 1) := by decide +kernel
theorem d1_4 : decode prog_163_method_6_code 4 = .ok (.if_acmp .eq 8, 3) := by decide +kernel
theorem d1_12 : decode prog_163_method_6_code 12 = .ok (.iconst 1, 1) := by decide +kernel
theorem d1_13 : decode prog_163_method_6_code 13 = .ok (.goto 4, 3) := by decide +kernel
theorem d1_7 : decode prog_163_method_6_code 7 = .ok (.aload_n 0, 1) := by decide +kernel
theorem d1_8 : decode prog_163_method_6_code 8 = .ok (.aload_n 1, 1) := by decide +kernel
theorem d1_9 : decode prog_163_method_6_code 9 = .ok (.if_acmp .ne 7, 3) := by decide +kernel
theorem d1_16 : decode prog_163_method_6_code 16 = .ok (.iconst 0, 1) := by decide +kernel
def own_nm (k : Nat) : String := match k with | 0 => "ANY" | 1 => "ALL" | 2 => "READ" | 3 => "WRITE" | 4 => "CREATE" | 5 => "DELETE" | 6 => "ALTER" | 7 => "DESCRIBE" | 8 => "CLUSTER_ACTION" | 9 => "DESCRIBE_CONFIGS" | 10 => "ALTER_CONFIGS" | 11 => "IDEMPOTENT_WRITE" | 12 => "CREATE_TOKENS" | _ => "DESCRIBE_TOKENS"
def Q_rm1 (Z : State) (i : Nat) (j : Nat) (oo : Nat → Addr) (nm : Nat → String) (h0 : Heap) (n0 : Nat) (v : Option Value) (h : Heap) (L : List Loc) : Prop := v = some (.int (nar .boolean (own_im i j))) ∧ Fr n0 L ∧ h = h0
set_option maxRecDepth 65536 in
set_option maxHeartbeats 40000000 in
theorem rm1 (l : Launch) (Z : State) (a0 : Array Value) (hw : ∀ d ∈ tables_1, d.before a0 Z = true) (ws : List Jvm.Cond) (i : Nat) (j : Nat) (oo : Nat → Addr) (nm : Nat → String) (h0 : Heap) (n0 : Nat) (Z0 : n0 ≤ h0.size) (S : ∀ k, k < 14 → Sta Z h0 "com/example/ply2/ply2/metadata/AclOperation" (own_nm k) "Lcom/example/ply2/ply2/metadata/AclOperation;" (.ref (oo k))) (hinj : ∀ x y, x < 14 → y < 14 → (oo x = oo y ↔ x = y)) (hi : i < 14) (hj : j < 14) :
    own_Ctr l Z (⟨"com/example/ply2/ply2/metadata/AclOperation", "implies", "(Lcom/example/ply2/ply2/metadata/AclOperation;)Z"⟩ : MethodName) prog_163_method_6_code 3 (some .boolean) ws ({ frames := 0, cells := 0, slots := 0, locals := 0 } : Room) #[(.ref (oo i)), (.ref (oo j))] h0 (Q_rm1 Z i j oo nm h0 n0) := by
  refine own_enter (plainFor_of_name own_pn0) ?_
  intro p e s m below meth c s₁ X0 hx hby hml hrt hlk hZ hown hnm e0
  have N0 := Fr.nil n0
  have Zs := Z0
  rw [show entryFrame m #[(.ref (oo i)), (.ref (oo j))] 3 = mkF m 0 #[.val (.ref (oo i)), .val (.ref (oo j)), .unset] [] from by first | (simp [entryFrame, mkF, argsToLocals, Value.category]; done) | rfl]
  show own_Wp _ _ _ _ (s₁.setTop (mkF m 0 #[.val (.ref (oo i)), .val (.ref (oo j)), .unset] []))
  refine own_of (fun tgt kon => XS.aloadN X0.here hx rfl (hb hby d1_0) rfl rfl kon) ?_
  show own_Wp _ _ _ _ (s₁.setTop (mkF m 1 #[.val (.ref (oo i)), .val (.ref (oo j)), .unset] [(.ref (oo i))]))
  obtain ⟨T1, X1, e1, st1⟩ := getS2 X0 hx hZ hown (host := "") (Or.inl (hw _ (List.mem_of_getElem? (i := 39) rfl))) Via.refl e0 (S 1 (by decide)) (g := (mkF m 1 #[.val (.ref (oo i)), .val (.ref (oo j)), .unset] [(.ref (oo i))])) rfl (hb hby d1_1)
  refine own_of st1 ?_
  show own_Wp _ _ _ _ (T1.setTop (mkF m 4 #[.val (.ref (oo i)), .val (.ref (oo j)), .unset] [(.ref (oo 1)), (.ref (oo i))]))
  have J17 : ∀ (t : Int32), (t = if i = 1 ∨ i = j then (1 : Int32) else 0) → own_Wp p.tables e below (own_K ({ frames := 0, cells := 0, slots := 0, locals := 0 } : Room) s below (Q_rm1 Z i j oo nm h0 n0)) (T1.setTop (mkF m 17 #[.val (.ref (oo i)), .val (.ref (oo j)), .unset] [(.int t)])) := by
    intro t h_t
    refine own_of (fun tgt kon => XS.istoreN X1.here hx rfl (hb hby d1_17) rfl (l' := #[.val (.ref (oo i)), .val (.ref (oo j)), .val (.int t)]) rfl kon) ?_
    show own_Wp _ _ _ _ (T1.setTop (mkF m 18 #[.val (.ref (oo i)), .val (.ref (oo j)), .val (.int t)] []))
    refine own_of (fun tgt kon => XS.aloadN X1.here hx rfl (hb hby d1_18) rfl rfl kon) ?_
    show own_Wp _ _ _ _ (T1.setTop (mkF m 19 #[.val (.ref (oo i)), .val (.ref (oo j)), .val (.int t)] [(.ref (oo j))]))
    obtain ⟨T2, X2, e2, st2⟩ := getS2 X1 hx hZ hown (host := "") (Or.inl (hw _ (List.mem_of_getElem? (i := 40) rfl))) Via.refl e1 (S 7 (by decide)) (g := (mkF m 19 #[.val (.ref (oo i)), .val (.ref (oo j)), .val (.int t)] [(.ref (oo j))])) rfl (hb hby d1_19)
    refine own_of st2 ?_
    show own_Wp _ _ _ _ (T2.setTop (mkF m 22 #[.val (.ref (oo i)), .val (.ref (oo j)), .val (.int t)] [(.ref (oo 7)), (.ref (oo j))]))
    by_cases hc22 : (oo j) = (oo 7)
    · skip
      refine own_of (fun tgt kon => Jvm.RoadKit.acmp (g := (mkF m 22 #[.val (.ref (oo i)), .val (.ref (oo j)), .val (.int t)] [(.ref (oo 7)), (.ref (oo j))])) X2 hx rfl rfl rfl (pc0 := 22) (pc' := 25) (same := true) rfl (hb hby d1_22) rfl (decide_eq_true (congrArg Value.ref hc22)) (by decide) (by decide) kon) ?_
      show own_Wp _ _ _ _ (T2.setTop (mkF m 25 #[.val (.ref (oo i)), .val (.ref (oo j)), .val (.int t)] []))
      refine own_of (fun tgt kon => XS.iloadN X2.here hx rfl (hb hby d1_25) rfl kon) ?_
      show own_Wp _ _ _ _ (T2.setTop (mkF m 26 #[.val (.ref (oo i)), .val (.ref (oo j)), .val (.int t)] [(.int t)]))
      refine own_of (fun tgt kon => XS.aloadN X2.here hx rfl (hb hby d1_26) rfl rfl kon) ?_
      show own_Wp _ _ _ _ (T2.setTop (mkF m 27 #[.val (.ref (oo i)), .val (.ref (oo j)), .val (.int t)] [(.ref (oo i)), (.int t)]))
      obtain ⟨T3, X3, e3, st3⟩ := getS2 X2 hx hZ hown (host := "") (Or.inl (hw _ (List.mem_of_getElem? (i := 42) rfl))) Via.refl e2 (S 2 (by decide)) (g := (mkF m 27 #[.val (.ref (oo i)), .val (.ref (oo j)), .val (.int t)] [(.ref (oo i)), (.int t)])) rfl (hb hby d1_27)
      refine own_of st3 ?_
      show own_Wp _ _ _ _ (T3.setTop (mkF m 30 #[.val (.ref (oo i)), .val (.ref (oo j)), .val (.int t)] [(.ref (oo 2)), (.ref (oo i)), (.int t)]))
      have J59 : ∀ (T4 : State) (lc4 : List Loc) (w : Int32), (Stand p l e ({ frames := 0, cells := 0, slots := 0, locals := 0 } : Room) s m #[(.ref (oo i)), (.ref (oo j))] below meth c T4 lc4 0 0) → (T4.heap = h0) → (Fr n0 lc4) → (w = if i = 2 ∨ i = 3 ∨ i = 5 ∨ i = 6 then (1 : Int32) else 0) → own_Wp p.tables e below (own_K ({ frames := 0, cells := 0, slots := 0, locals := 0 } : Room) s below (Q_rm1 Z i j oo nm h0 n0)) (T4.setTop (mkF m 59 #[.val (.ref (oo i)), .val (.ref (oo j)), .val (.int t)] [(.int w), (.int t)])) := by
        intro T4 lc4 w X4 e4 N4 h_w
        refine own_of (fun tgt kon => XS.ior X4.here hx rfl (hb hby d1_59) rfl kon) ?_
        show own_Wp _ _ _ _ (T4.setTop (mkF m 60 #[.val (.ref (oo i)), .val (.ref (oo j)), .val (.int t)] [(.int (t ||| w))]))
        refine own_of (fun tgt kon => XS.istoreN X4.here hx rfl (hb hby d1_60) rfl (l' := #[.val (.ref (oo i)), .val (.ref (oo j)), .val (.int (t ||| w))]) rfl kon) ?_
        show own_Wp _ _ _ _ (T4.setTop (mkF m 61 #[.val (.ref (oo i)), .val (.ref (oo j)), .val (.int (t ||| w))] []))
        refine own_of (fun tgt kon => XS.goto X4.here hx rfl (pc0 := 61) (pc' := 86) rfl (hb hby d1_61) (by decide) (by decide) kon) ?_
        show own_Wp _ _ _ _ (T4.setTop (mkF m 86 #[.val (.ref (oo i)), .val (.ref (oo j)), .val (.int (t ||| w))] []))
        refine own_of (fun tgt kon => XS.iloadN X4.here hx rfl (hb hby d1_86) rfl kon) ?_
        show own_Wp _ _ _ _ (T4.setTop (mkF m 87 #[.val (.ref (oo i)), .val (.ref (oo j)), .val (.int (t ||| w))] [(.int (t ||| w))]))
        refine own_ret X4 hlk (some (.int (nar .boolean (t ||| w)))) (own_rtI hrt) (fun fs hr => retN X4 hx (t := .boolean) hrt (by simp) (hb hby d1_87) hr) ?_ (by decide) (by decide)
        rw [e4]
        refine ⟨?_, N4, rfl⟩
        unfold own_im
        rw [if_pos ((hinj j 7 hj (by decide)).mp hc22), ← h_t, ← h_w]
      show own_Wp _ _ _ _ (T3.setTop (mkF m 30 #[.val (.ref (oo i)), .val (.ref (oo j)), .val (.int t)] [(.ref (oo 2)), (.ref (oo i)), (.int t)]))
      by_cases hc30 : (oo i) = (oo 2)
      · skip
        refine own_of (fun tgt kon => Jvm.RoadKit.acmp (g := (mkF m 30 #[.val (.ref (oo i)), .val (.ref (oo j)), .val (.int t)] [(.ref (oo 2)), (.ref (oo i)), (.int t)])) X3 hx rfl rfl rfl (pc0 := 30) (pc' := 54) (same := true) rfl (hb hby d1_30) rfl (decide_eq_true (congrArg Value.ref hc30)) (by decide) (by decide) kon) ?_
        show own_Wp _ _ _ _ (T3.setTop (mkF m 54 #[.val (.ref (oo i)), .val (.ref (oo j)), .val (.int t)] [(.int t)]))
        refine own_of (fun tgt kon => XS.iconst X3.here hx rfl (hb hby d1_54) kon) ?_
        show own_Wp _ _ _ _ (T3.setTop (mkF m 55 #[.val (.ref (oo i)), .val (.ref (oo j)), .val (.int t)] [(.int (1 : Int32)), (.int t)]))
        refine own_of (fun tgt kon => XS.goto X3.here hx rfl (pc0 := 55) (pc' := 59) rfl (hb hby d1_55) (by decide) (by decide) kon) ?_
        show own_Wp _ _ _ _ (T3.setTop (mkF m 59 #[.val (.ref (oo i)), .val (.ref (oo j)), .val (.int t)] [(.int (1 : Int32)), (.int t)]))
        exact J59 T3 _ ((1 : Int32)) X3 e3 N0 (by first | exact (if_pos (Or.inl ((hinj i 2 hi (by decide)).mp hc30))).symm | exact (if_pos (Or.inr (Or.inl ((hinj i 3 hi (by decide)).mp hc37)))).symm | exact (if_pos (Or.inr (Or.inr (Or.inl ((hinj i 5 hi (by decide)).mp hc44))))).symm | exact (if_pos (Or.inr (Or.inr (Or.inr ((hinj i 6 hi (by decide)).mp hc51))))).symm | exact (if_neg (fun q => q.elim (fun q => hc30 ((hinj i 2 hi (by decide)).mpr q)) (fun q => q.elim (fun q => hc37 ((hinj i 3 hi (by decide)).mpr q)) (fun q => q.elim (fun q => hc44 ((hinj i 5 hi (by decide)).mpr q)) (fun q => hc51 ((hinj i 6 hi (by decide)).mpr q)))))).symm)
      · skip
        refine own_of (fun tgt kon => Jvm.RoadKit.acmp (g := (mkF m 30 #[.val (.ref (oo i)), .val (.ref (oo j)), .val (.int t)] [(.ref (oo 2)), (.ref (oo i)), (.int t)])) X3 hx rfl rfl rfl (pc0 := 30) (pc' := 33) (same := false) rfl (hb hby d1_30) rfl (decide_eq_false fun q => hc30 (Value.ref.inj q)) (by decide) (by decide) kon) ?_
        show own_Wp _ _ _ _ (T3.setTop (mkF m 33 #[.val (.ref (oo i)), .val (.ref (oo j)), .val (.int t)] [(.int t)]))
        refine own_of (fun tgt kon => XS.aloadN X3.here hx rfl (hb hby d1_33) rfl rfl kon) ?_
        show own_Wp _ _ _ _ (T3.setTop (mkF m 34 #[.val (.ref (oo i)), .val (.ref (oo j)), .val (.int t)] [(.ref (oo i)), (.int t)]))
        obtain ⟨T5, X5, e5, st5⟩ := getS2 X3 hx hZ hown (host := "") (Or.inl (hw _ (List.mem_of_getElem? (i := 43) rfl))) Via.refl e3 (S 3 (by decide)) (g := (mkF m 34 #[.val (.ref (oo i)), .val (.ref (oo j)), .val (.int t)] [(.ref (oo i)), (.int t)])) rfl (hb hby d1_34)
        refine own_of st5 ?_
        show own_Wp _ _ _ _ (T5.setTop (mkF m 37 #[.val (.ref (oo i)), .val (.ref (oo j)), .val (.int t)] [(.ref (oo 3)), (.ref (oo i)), (.int t)]))
        by_cases hc37 : (oo i) = (oo 3)
        · skip
          refine own_of (fun tgt kon => Jvm.RoadKit.acmp (g := (mkF m 37 #[.val (.ref (oo i)), .val (.ref (oo j)), .val (.int t)] [(.ref (oo 3)), (.ref (oo i)), (.int t)])) X5 hx rfl rfl rfl (pc0 := 37) (pc' := 54) (same := true) rfl (hb hby d1_37) rfl (decide_eq_true (congrArg Value.ref hc37)) (by decide) (by decide) kon) ?_
          show own_Wp _ _ _ _ (T5.setTop (mkF m 54 #[.val (.ref (oo i)), .val (.ref (oo j)), .val (.int t)] [(.int t)]))
          refine own_of (fun tgt kon => XS.iconst X5.here hx rfl (hb hby d1_54) kon) ?_
          show own_Wp _ _ _ _ (T5.setTop (mkF m 55 #[.val (.ref (oo i)), .val (.ref (oo j)), .val (.int t)] [(.int (1 : Int32)), (.int t)]))
          refine own_of (fun tgt kon => XS.goto X5.here hx rfl (pc0 := 55) (pc' := 59) rfl (hb hby d1_55) (by decide) (by decide) kon) ?_
          show own_Wp _ _ _ _ (T5.setTop (mkF m 59 #[.val (.ref (oo i)), .val (.ref (oo j)), .val (.int t)] [(.int (1 : Int32)), (.int t)]))
          exact J59 T5 _ ((1 : Int32)) X5 e5 N0 (by first | exact (if_pos (Or.inl ((hinj i 2 hi (by decide)).mp hc30))).symm | exact (if_pos (Or.inr (Or.inl ((hinj i 3 hi (by decide)).mp hc37)))).symm | exact (if_pos (Or.inr (Or.inr (Or.inl ((hinj i 5 hi (by decide)).mp hc44))))).symm | exact (if_pos (Or.inr (Or.inr (Or.inr ((hinj i 6 hi (by decide)).mp hc51))))).symm | exact (if_neg (fun q => q.elim (fun q => hc30 ((hinj i 2 hi (by decide)).mpr q)) (fun q => q.elim (fun q => hc37 ((hinj i 3 hi (by decide)).mpr q)) (fun q => q.elim (fun q => hc44 ((hinj i 5 hi (by decide)).mpr q)) (fun q => hc51 ((hinj i 6 hi (by decide)).mpr q)))))).symm)
        · skip
          refine own_of (fun tgt kon => Jvm.RoadKit.acmp (g := (mkF m 37 #[.val (.ref (oo i)), .val (.ref (oo j)), .val (.int t)] [(.ref (oo 3)), (.ref (oo i)), (.int t)])) X5 hx rfl rfl rfl (pc0 := 37) (pc' := 40) (same := false) rfl (hb hby d1_37) rfl (decide_eq_false fun q => hc37 (Value.ref.inj q)) (by decide) (by decide) kon) ?_
          show own_Wp _ _ _ _ (T5.setTop (mkF m 40 #[.val (.ref (oo i)), .val (.ref (oo j)), .val (.int t)] [(.int t)]))
          refine own_of (fun tgt kon => XS.aloadN X5.here hx rfl (hb hby d1_40) rfl rfl kon) ?_
          show own_Wp _ _ _ _ (T5.setTop (mkF m 41 #[.val (.ref (oo i)), .val (.ref (oo j)), .val (.int t)] [(.ref (oo i)), (.int t)]))
          obtain ⟨T6, X6, e6, st6⟩ := getS2 X5 hx hZ hown (host := "") (Or.inl (hw _ (List.mem_of_getElem? (i := 44) rfl))) Via.refl e5 (S 5 (by decide)) (g := (mkF m 41 #[.val (.ref (oo i)), .val (.ref (oo j)), .val (.int t)] [(.ref (oo i)), (.int t)])) rfl (hb hby d1_41)
          refine own_of st6 ?_
          show own_Wp _ _ _ _ (T6.setTop (mkF m 44 #[.val (.ref (oo i)), .val (.ref (oo j)), .val (.int t)] [(.ref (oo 5)), (.ref (oo i)), (.int t)]))
          by_cases hc44 : (oo i) = (oo 5)
          · skip
            refine own_of (fun tgt kon => Jvm.RoadKit.acmp (g := (mkF m 44 #[.val (.ref (oo i)), .val (.ref (oo j)), .val (.int t)] [(.ref (oo 5)), (.ref (oo i)), (.int t)])) X6 hx rfl rfl rfl (pc0 := 44) (pc' := 54) (same := true) rfl (hb hby d1_44) rfl (decide_eq_true (congrArg Value.ref hc44)) (by decide) (by decide) kon) ?_
            show own_Wp _ _ _ _ (T6.setTop (mkF m 54 #[.val (.ref (oo i)), .val (.ref (oo j)), .val (.int t)] [(.int t)]))
            refine own_of (fun tgt kon => XS.iconst X6.here hx rfl (hb hby d1_54) kon) ?_
            show own_Wp _ _ _ _ (T6.setTop (mkF m 55 #[.val (.ref (oo i)), .val (.ref (oo j)), .val (.int t)] [(.int (1 : Int32)), (.int t)]))
            refine own_of (fun tgt kon => XS.goto X6.here hx rfl (pc0 := 55) (pc' := 59) rfl (hb hby d1_55) (by decide) (by decide) kon) ?_
            show own_Wp _ _ _ _ (T6.setTop (mkF m 59 #[.val (.ref (oo i)), .val (.ref (oo j)), .val (.int t)] [(.int (1 : Int32)), (.int t)]))
            exact J59 T6 _ ((1 : Int32)) X6 e6 N0 (by first | exact (if_pos (Or.inl ((hinj i 2 hi (by decide)).mp hc30))).symm | exact (if_pos (Or.inr (Or.inl ((hinj i 3 hi (by decide)).mp hc37)))).symm | exact (if_pos (Or.inr (Or.inr (Or.inl ((hinj i 5 hi (by decide)).mp hc44))))).symm | exact (if_pos (Or.inr (Or.inr (Or.inr ((hinj i 6 hi (by decide)).mp hc51))))).symm | exact (if_neg (fun q => q.elim (fun q => hc30 ((hinj i 2 hi (by decide)).mpr q)) (fun q => q.elim (fun q => hc37 ((hinj i 3 hi (by decide)).mpr q)) (fun q => q.elim (fun q => hc44 ((hinj i 5 hi (by decide)).mpr q)) (fun q => hc51 ((hinj i 6 hi (by decide)).mpr q)))))).symm)
          · skip
            refine own_of (fun tgt kon => Jvm.RoadKit.acmp (g := (mkF m 44 #[.val (.ref (oo i)), .val (.ref (oo j)), .val (.int t)] [(.ref (oo 5)), (.ref (oo i)), (.int t)])) X6 hx rfl rfl rfl (pc0 := 44) (pc' := 47) (same := false) rfl (hb hby d1_44) rfl (decide_eq_false fun q => hc44 (Value.ref.inj q)) (by decide) (by decide) kon) ?_
            show own_Wp _ _ _ _ (T6.setTop (mkF m 47 #[.val (.ref (oo i)), .val (.ref (oo j)), .val (.int t)] [(.int t)]))
            refine own_of (fun tgt kon => XS.aloadN X6.here hx rfl (hb hby d1_47) rfl rfl kon) ?_
            show own_Wp _ _ _ _ (T6.setTop (mkF m 48 #[.val (.ref (oo i)), .val (.ref (oo j)), .val (.int t)] [(.ref (oo i)), (.int t)]))
            obtain ⟨T7, X7, e7, st7⟩ := getS2 X6 hx hZ hown (host := "") (Or.inl (hw _ (List.mem_of_getElem? (i := 45) rfl))) Via.refl e6 (S 6 (by decide)) (g := (mkF m 48 #[.val (.ref (oo i)), .val (.ref (oo j)), .val (.int t)] [(.ref (oo i)), (.int t)])) rfl (hb hby d1_48)
            refine own_of st7 ?_
            show own_Wp _ _ _ _ (T7.setTop (mkF m 51 #[.val (.ref (oo i)), .val (.ref (oo j)), .val (.int t)] [(.ref (oo 6)), (.ref (oo i)), (.int t)]))
            by_cases hc51 : (oo i) = (oo 6)
            · skip
              refine own_of (fun tgt kon => Jvm.RoadKit.acmp (g := (mkF m 51 #[.val (.ref (oo i)), .val (.ref (oo j)), .val (.int t)] [(.ref (oo 6)), (.ref (oo i)), (.int t)])) X7 hx rfl rfl rfl (pc0 := 51) (pc' := 54) (same := true) rfl (hb hby d1_51) rfl (decide_eq_true (congrArg Value.ref hc51)) (by decide) (by decide) kon) ?_
              show own_Wp _ _ _ _ (T7.setTop (mkF m 54 #[.val (.ref (oo i)), .val (.ref (oo j)), .val (.int t)] [(.int t)]))
              refine own_of (fun tgt kon => XS.iconst X7.here hx rfl (hb hby d1_54) kon) ?_
              show own_Wp _ _ _ _ (T7.setTop (mkF m 55 #[.val (.ref (oo i)), .val (.ref (oo j)), .val (.int t)] [(.int (1 : Int32)), (.int t)]))
              refine own_of (fun tgt kon => XS.goto X7.here hx rfl (pc0 := 55) (pc' := 59) rfl (hb hby d1_55) (by decide) (by decide) kon) ?_
              show own_Wp _ _ _ _ (T7.setTop (mkF m 59 #[.val (.ref (oo i)), .val (.ref (oo j)), .val (.int t)] [(.int (1 : Int32)), (.int t)]))
              exact J59 T7 _ ((1 : Int32)) X7 e7 N0 (by first | exact (if_pos (Or.inl ((hinj i 2 hi (by decide)).mp hc30))).symm | exact (if_pos (Or.inr (Or.inl ((hinj i 3 hi (by decide)).mp hc37)))).symm | exact (if_pos (Or.inr (Or.inr (Or.inl ((hinj i 5 hi (by decide)).mp hc44))))).symm | exact (if_pos (Or.inr (Or.inr (Or.inr ((hinj i 6 hi (by decide)).mp hc51))))).symm | exact (if_neg (fun q => q.elim (fun q => hc30 ((hinj i 2 hi (by decide)).mpr q)) (fun q => q.elim (fun q => hc37 ((hinj i 3 hi (by decide)).mpr q)) (fun q => q.elim (fun q => hc44 ((hinj i 5 hi (by decide)).mpr q)) (fun q => hc51 ((hinj i 6 hi (by decide)).mpr q)))))).symm)
            · skip
              refine own_of (fun tgt kon => Jvm.RoadKit.acmp (g := (mkF m 51 #[.val (.ref (oo i)), .val (.ref (oo j)), .val (.int t)] [(.ref (oo 6)), (.ref (oo i)), (.int t)])) X7 hx rfl rfl rfl (pc0 := 51) (pc' := 58) (same := false) rfl (hb hby d1_51) rfl (decide_eq_false fun q => hc51 (Value.ref.inj q)) (by decide) (by decide) kon) ?_
              show own_Wp _ _ _ _ (T7.setTop (mkF m 58 #[.val (.ref (oo i)), .val (.ref (oo j)), .val (.int t)] [(.int t)]))
              refine own_of (fun tgt kon => XS.iconst X7.here hx rfl (hb hby d1_58) kon) ?_
              show own_Wp _ _ _ _ (T7.setTop (mkF m 59 #[.val (.ref (oo i)), .val (.ref (oo j)), .val (.int t)] [(.int (0 : Int32)), (.int t)]))
              exact J59 T7 _ ((0 : Int32)) X7 e7 N0 (by first | exact (if_pos (Or.inl ((hinj i 2 hi (by decide)).mp hc30))).symm | exact (if_pos (Or.inr (Or.inl ((hinj i 3 hi (by decide)).mp hc37)))).symm | exact (if_pos (Or.inr (Or.inr (Or.inl ((hinj i 5 hi (by decide)).mp hc44))))).symm | exact (if_pos (Or.inr (Or.inr (Or.inr ((hinj i 6 hi (by decide)).mp hc51))))).symm | exact (if_neg (fun q => q.elim (fun q => hc30 ((hinj i 2 hi (by decide)).mpr q)) (fun q => q.elim (fun q => hc37 ((hinj i 3 hi (by decide)).mpr q)) (fun q => q.elim (fun q => hc44 ((hinj i 5 hi (by decide)).mpr q)) (fun q => hc51 ((hinj i 6 hi (by decide)).mpr q)))))).symm)
    · skip
      refine own_of (fun tgt kon => Jvm.RoadKit.acmp (g := (mkF m 22 #[.val (.ref (oo i)), .val (.ref (oo j)), .val (.int t)] [(.ref (oo 7)), (.ref (oo j))])) X2 hx rfl rfl rfl (pc0 := 22) (pc' := 64) (same := false) rfl (hb hby d1_22) rfl (decide_eq_false fun q => hc22 (Value.ref.inj q)) (by decide) (by decide) kon) ?_
      show own_Wp _ _ _ _ (T2.setTop (mkF m 64 #[.val (.ref (oo i)), .val (.ref (oo j)), .val (.int t)] []))
      refine own_of (fun tgt kon => XS.aloadN X2.here hx rfl (hb hby d1_64) rfl rfl kon) ?_
      show own_Wp _ _ _ _ (T2.setTop (mkF m 65 #[.val (.ref (oo i)), .val (.ref (oo j)), .val (.int t)] [(.ref (oo j))]))
      obtain ⟨T8, X8, e8, st8⟩ := getS2 X2 hx hZ hown (host := "") (Or.inl (hw _ (List.mem_of_getElem? (i := 41) rfl))) Via.refl e2 (S 9 (by decide)) (g := (mkF m 65 #[.val (.ref (oo i)), .val (.ref (oo j)), .val (.int t)] [(.ref (oo j))])) rfl (hb hby d1_65)
      refine own_of st8 ?_
      show own_Wp _ _ _ _ (T8.setTop (mkF m 68 #[.val (.ref (oo i)), .val (.ref (oo j)), .val (.int t)] [(.ref (oo 9)), (.ref (oo j))]))
      by_cases hc68 : (oo j) = (oo 9)
      · skip
        refine own_of (fun tgt kon => Jvm.RoadKit.acmp (g := (mkF m 68 #[.val (.ref (oo i)), .val (.ref (oo j)), .val (.int t)] [(.ref (oo 9)), (.ref (oo j))])) X8 hx rfl rfl rfl (pc0 := 68) (pc' := 71) (same := true) rfl (hb hby d1_68) rfl (decide_eq_true (congrArg Value.ref hc68)) (by decide) (by decide) kon) ?_
        show own_Wp _ _ _ _ (T8.setTop (mkF m 71 #[.val (.ref (oo i)), .val (.ref (oo j)), .val (.int t)] []))
        refine own_of (fun tgt kon => XS.iloadN X8.here hx rfl (hb hby d1_71) rfl kon) ?_
        show own_Wp _ _ _ _ (T8.setTop (mkF m 72 #[.val (.ref (oo i)), .val (.ref (oo j)), .val (.int t)] [(.int t)]))
        refine own_of (fun tgt kon => XS.aloadN X8.here hx rfl (hb hby d1_72) rfl rfl kon) ?_
        show own_Wp _ _ _ _ (T8.setTop (mkF m 73 #[.val (.ref (oo i)), .val (.ref (oo j)), .val (.int t)] [(.ref (oo i)), (.int t)]))
        obtain ⟨T9, X9, e9, st9⟩ := getS2 X8 hx hZ hown (host := "") (Or.inl (hw _ (List.mem_of_getElem? (i := 46) rfl))) Via.refl e8 (S 10 (by decide)) (g := (mkF m 73 #[.val (.ref (oo i)), .val (.ref (oo j)), .val (.int t)] [(.ref (oo i)), (.int t)])) rfl (hb hby d1_73)
        refine own_of st9 ?_
        show own_Wp _ _ _ _ (T9.setTop (mkF m 76 #[.val (.ref (oo i)), .val (.ref (oo j)), .val (.int t)] [(.ref (oo 10)), (.ref (oo i)), (.int t)]))
        have J84 : ∀ (y : Int32), (y = if i = 10 then (1 : Int32) else 0) → own_Wp p.tables e below (own_K ({ frames := 0, cells := 0, slots := 0, locals := 0 } : Room) s below (Q_rm1 Z i j oo nm h0 n0)) (T9.setTop (mkF m 84 #[.val (.ref (oo i)), .val (.ref (oo j)), .val (.int t)] [(.int y), (.int t)])) := by
          intro y h_y
          refine own_of (fun tgt kon => XS.ior X9.here hx rfl (hb hby d1_84) rfl kon) ?_
          show own_Wp _ _ _ _ (T9.setTop (mkF m 85 #[.val (.ref (oo i)), .val (.ref (oo j)), .val (.int t)] [(.int (t ||| y))]))
          refine own_of (fun tgt kon => XS.istoreN X9.here hx rfl (hb hby d1_85) rfl (l' := #[.val (.ref (oo i)), .val (.ref (oo j)), .val (.int (t ||| y))]) rfl kon) ?_
          show own_Wp _ _ _ _ (T9.setTop (mkF m 86 #[.val (.ref (oo i)), .val (.ref (oo j)), .val (.int (t ||| y))] []))
          refine own_of (fun tgt kon => XS.iloadN X9.here hx rfl (hb hby d1_86) rfl kon) ?_
          show own_Wp _ _ _ _ (T9.setTop (mkF m 87 #[.val (.ref (oo i)), .val (.ref (oo j)), .val (.int (t ||| y))] [(.int (t ||| y))]))
          refine own_ret X9 hlk (some (.int (nar .boolean (t ||| y)))) (own_rtI hrt) (fun fs hr => retN X9 hx (t := .boolean) hrt (by simp) (hb hby d1_87) hr) ?_ (by decide) (by decide)
          rw [e9]
          refine ⟨?_, N0, rfl⟩
          unfold own_im
          rw [if_neg (fun q => hc22 ((hinj j 7 hj (by decide)).mpr q)), if_pos ((hinj j 9 hj (by decide)).mp hc68), ← h_t, ← h_y]
        show own_Wp _ _ _ _ (T9.setTop (mkF m 76 #[.val (.ref (oo i)), .val (.ref (oo j)), .val (.int t)] [(.ref (oo 10)), (.ref (oo i)), (.int t)]))
        by_cases hc76 : (oo i) = (oo 10)
        · skip
          refine own_of (fun tgt kon => Jvm.RoadKit.acmp (g := (mkF m 76 #[.val (.ref (oo i)), .val (.ref (oo j)), .val (.int t)] [(.ref (oo 10)), (.ref (oo i)), (.int t)])) X9 hx rfl rfl rfl (pc0 := 76) (pc' := 79) (same := true) rfl (hb hby d1_76) rfl (decide_eq_true (congrArg Value.ref hc76)) (by decide) (by decide) kon) ?_
          show own_Wp _ _ _ _ (T9.setTop (mkF m 79 #[.val (.ref (oo i)), .val (.ref (oo j)), .val (.int t)] [(.int t)]))
          refine own_of (fun tgt kon => XS.iconst X9.here hx rfl (hb hby d1_79) kon) ?_
          show own_Wp _ _ _ _ (T9.setTop (mkF m 80 #[.val (.ref (oo i)), .val (.ref (oo j)), .val (.int t)] [(.int (1 : Int32)), (.int t)]))
          refine own_of (fun tgt kon => XS.goto X9.here hx rfl (pc0 := 80) (pc' := 84) rfl (hb hby d1_80) (by decide) (by decide) kon) ?_
          show own_Wp _ _ _ _ (T9.setTop (mkF m 84 #[.val (.ref (oo i)), .val (.ref (oo j)), .val (.int t)] [(.int (1 : Int32)), (.int t)]))
          exact J84 ((1 : Int32)) (by first | exact (if_pos ((hinj i 10 hi (by decide)).mp hc76)).symm | exact (if_neg (fun q => hc76 ((hinj i 10 hi (by decide)).mpr q))).symm)
        · skip
          refine own_of (fun tgt kon => Jvm.RoadKit.acmp (g := (mkF m 76 #[.val (.ref (oo i)), .val (.ref (oo j)), .val (.int t)] [(.ref (oo 10)), (.ref (oo i)), (.int t)])) X9 hx rfl rfl rfl (pc0 := 76) (pc' := 83) (same := false) rfl (hb hby d1_76) rfl (decide_eq_false fun q => hc76 (Value.ref.inj q)) (by decide) (by decide) kon) ?_
          show own_Wp _ _ _ _ (T9.setTop (mkF m 83 #[.val (.ref (oo i)), .val (.ref (oo j)), .val (.int t)] [(.int t)]))
          refine own_of (fun tgt kon => XS.iconst X9.here hx rfl (hb hby d1_83) kon) ?_
          show own_Wp _ _ _ _ (T9.setTop (mkF m 84 #[.val (.ref (oo i)), .val (.ref (oo j)), .val (.int t)] [(.int (0 : Int32)), (.int t)]))
          exact J84 ((0 : Int32)) (by first | exact (if_pos ((hinj i 10 hi (by decide)).mp hc76)).symm | exact (if_neg (fun q => hc76 ((hinj i 10 hi (by decide)).mpr q))).symm)
      · skip
        refine own_of (fun tgt kon => Jvm.RoadKit.acmp (g := (mkF m 68 #[.val (.ref (oo i)), .val (.ref (oo j)), .val (.int t)] [(.ref (oo 9)), (.ref (oo j))])) X8 hx rfl rfl rfl (pc0 := 68) (pc' := 86) (same := false) rfl (hb hby d1_68) rfl (decide_eq_false fun q => hc68 (Value.ref.inj q)) (by decide) (by decide) kon) ?_
        show own_Wp _ _ _ _ (T8.setTop (mkF m 86 #[.val (.ref (oo i)), .val (.ref (oo j)), .val (.int t)] []))
        refine own_of (fun tgt kon => XS.iloadN X8.here hx rfl (hb hby d1_86) rfl kon) ?_
        show own_Wp _ _ _ _ (T8.setTop (mkF m 87 #[.val (.ref (oo i)), .val (.ref (oo j)), .val (.int t)] [(.int t)]))
        refine own_ret X8 hlk (some (.int (nar .boolean t))) (own_rtI hrt) (fun fs hr => retN X8 hx (t := .boolean) hrt (by simp) (hb hby d1_87) hr) ?_ (by decide) (by decide)
        rw [e8]
        refine ⟨?_, N0, rfl⟩
        unfold own_im
        rw [if_neg (fun q => hc22 ((hinj j 7 hj (by decide)).mpr q)), if_neg (fun q => hc68 ((hinj j 9 hj (by decide)).mpr q)), ← h_t, Int32.or_zero]
  show own_Wp _ _ _ _ (T1.setTop (mkF m 4 #[.val (.ref (oo i)), .val (.ref (oo j)), .unset] [(.ref (oo 1)), (.ref (oo i))]))
  by_cases hc4 : (oo i) = (oo 1)
  · skip
    refine own_of (fun tgt kon => Jvm.RoadKit.acmp (g := (mkF m 4 #[.val (.ref (oo i)), .val (.ref (oo j)), .unset] [(.ref (oo 1)), (.ref (oo i))])) X1 hx rfl rfl rfl (pc0 := 4) (pc' := 12) (same := true) rfl (hb hby d1_4) rfl (decide_eq_true (congrArg Value.ref hc4)) (by decide) (by decide) kon) ?_
    show own_Wp _ _ _ _ (T1.setTop (mkF m 12 #[.val (.ref (oo i)), .val (.ref (oo j)), .unset] []))
    refine own_of (fun tgt kon => XS.iconst X1.here hx rfl (hb hby d1_12) kon) ?_
    show own_Wp _ _ _ _ (T1.setTop (mkF m 13 #[.val (.ref (oo i)), .val (.ref (oo j)), .unset] [(.int (1 : Int32))]))
    refine own_of (fun tgt kon => XS.goto X1.here hx rfl (pc0 := 13) (pc' := 17) rfl (hb hby d1_13) (by decide) (by decide) kon) ?_
    show own_Wp _ _ _ _ (T1.setTop (mkF m 17 #[.val (.ref (oo i)), .val (.ref (oo j)), .unset] [(.int (1 : Int32))]))
    exact J17 ((1 : Int32)) (by first | exact (if_pos (Or.inl ((hinj i 1 hi (by decide)).mp hc4))).symm | exact (if_pos (Or.inr ((hinj i j hi hj).mp hc9))).symm | exact (if_neg (fun q => q.elim (fun q => hc4 ((hinj i 1 hi (by decide)).mpr q)) (fun q => hc9 ((hinj i j hi hj).mpr q)))).symm)
  · skip
    refine own_of (fun tgt kon => Jvm.RoadKit.acmp (g := (mkF m 4 #[.val (.ref (oo i)), .val (.ref (oo j)), .unset] [(.ref (oo 1)), (.ref (oo i))])) X1 hx rfl rfl rfl (pc0 := 4) (pc' := 7) (same := false) rfl (hb hby d1_4) rfl (decide_eq_false fun q => hc4 (Value.ref.inj q)) (by decide) (by decide) kon) ?_
    show own_Wp _ _ _ _ (T1.setTop (mkF m 7 #[.val (.ref (oo i)), .val (.ref (oo j)), .unset] []))
    refine own_of (fun tgt kon => XS.aloadN X1.here hx rfl (hb hby d1_7) rfl rfl kon) ?_
    show own_Wp _ _ _ _ (T1.setTop (mkF m 8 #[.val (.ref (oo i)), .val (.ref (oo j)), .unset] [(.ref (oo i))]))
    refine own_of (fun tgt kon => XS.aloadN X1.here hx rfl (hb hby d1_8) rfl rfl kon) ?_
    show own_Wp _ _ _ _ (T1.setTop (mkF m 9 #[.val (.ref (oo i)), .val (.ref (oo j)), .unset] [(.ref (oo j)), (.ref (oo i))]))
    by_cases hc9 : (oo i) = (oo j)
    · skip
      refine own_of (fun tgt kon => Jvm.RoadKit.acmp (g := (mkF m 9 #[.val (.ref (oo i)), .val (.ref (oo j)), .unset] [(.ref (oo j)), (.ref (oo i))])) X1 hx rfl rfl rfl (pc0 := 9) (pc' := 12) (same := true) rfl (hb hby d1_9) rfl (decide_eq_true (congrArg Value.ref hc9)) (by decide) (by decide) kon) ?_
      show own_Wp _ _ _ _ (T1.setTop (mkF m 12 #[.val (.ref (oo i)), .val (.ref (oo j)), .unset] []))
      refine own_of (fun tgt kon => XS.iconst X1.here hx rfl (hb hby d1_12) kon) ?_
      show own_Wp _ _ _ _ (T1.setTop (mkF m 13 #[.val (.ref (oo i)), .val (.ref (oo j)), .unset] [(.int (1 : Int32))]))
      refine own_of (fun tgt kon => XS.goto X1.here hx rfl (pc0 := 13) (pc' := 17) rfl (hb hby d1_13) (by decide) (by decide) kon) ?_
      show own_Wp _ _ _ _ (T1.setTop (mkF m 17 #[.val (.ref (oo i)), .val (.ref (oo j)), .unset] [(.int (1 : Int32))]))
      exact J17 ((1 : Int32)) (by first | exact (if_pos (Or.inl ((hinj i 1 hi (by decide)).mp hc4))).symm | exact (if_pos (Or.inr ((hinj i j hi hj).mp hc9))).symm | exact (if_neg (fun q => q.elim (fun q => hc4 ((hinj i 1 hi (by decide)).mpr q)) (fun q => hc9 ((hinj i j hi hj).mpr q)))).symm)
    · skip
      refine own_of (fun tgt kon => Jvm.RoadKit.acmp (g := (mkF m 9 #[.val (.ref (oo i)), .val (.ref (oo j)), .unset] [(.ref (oo j)), (.ref (oo i))])) X1 hx rfl rfl rfl (pc0 := 9) (pc' := 16) (same := false) rfl (hb hby d1_9) rfl (decide_eq_false fun q => hc9 (Value.ref.inj q)) (by decide) (by decide) kon) ?_
      show own_Wp _ _ _ _ (T1.setTop (mkF m 16 #[.val (.ref (oo i)), .val (.ref (oo j)), .unset] []))
      refine own_of (fun tgt kon => XS.iconst X1.here hx rfl (hb hby d1_16) kon) ?_
      show own_Wp _ _ _ _ (T1.setTop (mkF m 17 #[.val (.ref (oo i)), .val (.ref (oo j)), .unset] [(.int (0 : Int32))]))
      exact J17 ((0 : Int32)) (by first | exact (if_pos (Or.inl ((hinj i 1 hi (by decide)).mp hc4))).symm | exact (if_pos (Or.inr ((hinj i j hi hj).mp hc9))).symm | exact (if_neg (fun q => q.elim (fun q => hc4 ((hinj i 1 hi (by decide)).mpr q)) (fun q => hc9 ((hinj i j hi hj).mpr q)))).symm)
theorem own_pn1 : plainName "com/example/ply2/ply2/metadata/AclOperationImpliesPinLaw" = true := by first | (simp [plainName, overriddenIn]; done) | decide +kernel
theorem own_pd0 : parseMethodDescriptor "(Lcom/example/ply2/ply2/metadata/AclOperation;)Z" = some ⟨[(.object "com/example/ply2/ply2/metadata/AclOperation")], some .boolean⟩ := by decide +kernel
def Q_rm0 (Z : State) (p1 : Int32) (p2 : Int32) (oo : Nat → Addr) (h0 : Heap) (n0 : Nat) (v : Option Value) (h : Heap) (L : List Loc) : Prop := v = some (.int 1) ∧ Fr n0 L
set_option maxRecDepth 65536 in
set_option maxHeartbeats 40000000 in
theorem rm0 (l : Launch) (Z : State) (a0 : Array Value) (hw : ∀ d ∈ tables_1, d.before a0 Z = true) (ws : List Jvm.Cond) (p1 : Int32) (p2 : Int32) (oo : Nat → Addr) (h0 : Heap) (n0 : Nat) (Z0 : n0 ≤ h0.size) (S : ∀ k, k < 14 → Sta Z Z.heap "com/example/ply2/ply2/metadata/AclOperation" (own_nm k) "Lcom/example/ply2/ply2/metadata/AclOperation;" (.ref (oo k))) (E : ∀ k, k < 14 → Exa Z Z.heap (oo k) "com/example/ply2/ply2/metadata/AclOperation") (hinj : ∀ x y, x < 14 → y < 14 → (oo x = oo y ↔ x = y)) (O : Old Z n0 h0) :
    own_Ctr l Z x code maxLocals ret ws room_1 #[(.int p1), (.int p2)] h0 (Q_rm0 Z p1 p2 oo h0 n0) := by
  refine own_enter (plainFor_of_name own_pn1) ?_
  intro p e s m below meth c s₁ X0 hx hby hml hrt hlk hZ hown hnm e0
  have N0 := Fr.nil n0
  have Zs := Z0
  rw [show entryFrame m #[(.int p1), (.int p2)] maxLocals = mkF m 0 #[.val (.int p1), .val (.int p2), .unset, .unset, .unset, .unset, .unset] [] from by first | (simp [entryFrame, mkF, argsToLocals, Value.category, maxLocals]; done) | rfl]
  show own_Wp _ _ _ _ (s₁.setTop (mkF m 0 #[.val (.int p1), .val (.int p2), .unset, .unset, .unset, .unset, .unset] []))
  refine own_of (fun tgt kon => XS.bipush X0.here hx rfl (hb hby at_0) kon) ?_
  show own_Wp _ _ _ _ (s₁.setTop (mkF m 2 #[.val (.int p1), .val (.int p2), .unset, .unset, .unset, .unset, .unset] [(.int (14 : Int32))]))
  obtain ⟨T1, h1, k1, X1, e1, E1, A1, O1, st1⟩ := newR X0 hx hZ hown (hw _ (List.mem_of_getElem? (i := 0) rfl)) (hw _ (List.mem_of_getElem? (i := 1) rfl)) e0 (g := (mkF m 2 #[.val (.int p1), .val (.int p2), .unset, .unset, .unset, .unset, .unset] [(.int (14 : Int32))])) rfl (hb hby at_2) rfl (by decide) (cap := 14) (by decide) (by decide) (by decide) (by decide)
  refine own_of st1 ?_
  clear st1
  obtain ⟨b1, gq1⟩ : ∃ z, z = h0.size := ⟨_, rfl⟩
  rw [← gq1] at A1 ⊢
  have g_b1 : n0 ≤ b1 := Nat.le_trans Zs (Nat.le_of_eq gq1.symm)
  have Zs := Nat.le_trans Zs E1.1
  have O := O.ext E1
  have V_b1 : own_ArO Z h1 b1 "com/example/ply2/ply2/metadata/AclOperation" 14 (fun _ => .null) := own_ArO.new A1 O1 (by decide) rfl
  show own_Wp _ _ _ _ (T1.setTop (mkF m 5 #[.val (.int p1), .val (.int p2), .unset, .unset, .unset, .unset, .unset] [(.ref b1)]))
  refine own_of (fun tgt kon => XS.dup X1.here hx rfl (hb hby at_5) rfl rfl kon) ?_
  show own_Wp _ _ _ _ (T1.setTop (mkF m 6 #[.val (.int p1), .val (.int p2), .unset, .unset, .unset, .unset, .unset] [(.ref b1), (.ref b1)]))
  refine own_of (fun tgt kon => XS.iconst X1.here hx rfl (hb hby at_6) kon) ?_
  show own_Wp _ _ _ _ (T1.setTop (mkF m 7 #[.val (.int p1), .val (.int p2), .unset, .unset, .unset, .unset, .unset] [(.int (0 : Int32)), (.ref b1), (.ref b1)]))
  obtain ⟨T2, X2, e2, st2⟩ := getS2 X1 hx hZ hown (host := "") (Or.inl (hw _ (List.mem_of_getElem? (i := 2) rfl))) Via.refl e1 ((S 0 (by decide)).ext O.2) (g := (mkF m 7 #[.val (.int p1), .val (.int p2), .unset, .unset, .unset, .unset, .unset] [(.int (0 : Int32)), (.ref b1), (.ref b1)])) rfl (hb hby at_7)
  refine own_of st2 ?_
  show own_Wp _ _ _ _ (T2.setTop (mkF m 10 #[.val (.int p1), .val (.int p2), .unset, .unset, .unset, .unset, .unset] [(.ref (oo 0)), (.int (0 : Int32)), (.ref b1), (.ref b1)]))
  obtain ⟨T3, h3, X3, e3, W3, Aq3, st3⟩ := own_stR X2 hx hZ e2 V_b1 (j := (0 : Int32)) (i := 0) (y := (oo 0)) (by decide) (by decide) (Ins.self ((E _ (by decide)).ext O.2)) (g := (mkF m 10 #[.val (.int p1), .val (.int p2), .unset, .unset, .unset, .unset, .unset] [(.ref (oo 0)), (.int (0 : Int32)), (.ref b1), (.ref b1)])) rfl rfl (hb hby at_10)
  refine own_of st3 ?_
  have Zs := Nat.le_trans Zs (Keep.of_wr W3).1
  have O := O.wr W3 g_b1
  have V_b1 := Aq3
  have N3 := Fr.snoc X3 N0 g_b1
  show own_Wp _ _ _ _ (T3.setTop (mkF m 11 #[.val (.int p1), .val (.int p2), .unset, .unset, .unset, .unset, .unset] [(.ref b1)]))
  refine own_of (fun tgt kon => XS.dup X3.here hx rfl (hb hby at_11) rfl rfl kon) ?_
  show own_Wp _ _ _ _ (T3.setTop (mkF m 12 #[.val (.int p1), .val (.int p2), .unset, .unset, .unset, .unset, .unset] [(.ref b1), (.ref b1)]))
  refine own_of (fun tgt kon => XS.iconst X3.here hx rfl (hb hby at_12) kon) ?_
  show own_Wp _ _ _ _ (T3.setTop (mkF m 13 #[.val (.int p1), .val (.int p2), .unset, .unset, .unset, .unset, .unset] [(.int (1 : Int32)), (.ref b1), (.ref b1)]))
  obtain ⟨T4, X4, e4, st4⟩ := getS2 X3 hx hZ hown (host := "") (Or.inl (hw _ (List.mem_of_getElem? (i := 6) rfl))) Via.refl e3 ((S 1 (by decide)).ext O.2) (g := (mkF m 13 #[.val (.int p1), .val (.int p2), .unset, .unset, .unset, .unset, .unset] [(.int (1 : Int32)), (.ref b1), (.ref b1)])) rfl (hb hby at_13)
  refine own_of st4 ?_
  show own_Wp _ _ _ _ (T4.setTop (mkF m 16 #[.val (.int p1), .val (.int p2), .unset, .unset, .unset, .unset, .unset] [(.ref (oo 1)), (.int (1 : Int32)), (.ref b1), (.ref b1)]))
  obtain ⟨T5, h5, X5, e5, W5, Aq5, st5⟩ := own_stR X4 hx hZ e4 V_b1 (j := (1 : Int32)) (i := 1) (y := (oo 1)) (by decide) (by decide) (Ins.self ((E _ (by decide)).ext O.2)) (g := (mkF m 16 #[.val (.int p1), .val (.int p2), .unset, .unset, .unset, .unset, .unset] [(.ref (oo 1)), (.int (1 : Int32)), (.ref b1), (.ref b1)])) rfl rfl (hb hby at_16)
  refine own_of st5 ?_
  have Zs := Nat.le_trans Zs (Keep.of_wr W5).1
  have O := O.wr W5 g_b1
  have V_b1 := Aq5
  have N5 := Fr.snoc X5 N3 g_b1
  show own_Wp _ _ _ _ (T5.setTop (mkF m 17 #[.val (.int p1), .val (.int p2), .unset, .unset, .unset, .unset, .unset] [(.ref b1)]))
  refine own_of (fun tgt kon => XS.dup X5.here hx rfl (hb hby at_17) rfl rfl kon) ?_
  show own_Wp _ _ _ _ (T5.setTop (mkF m 18 #[.val (.int p1), .val (.int p2), .unset, .unset, .unset, .unset, .unset] [(.ref b1), (.ref b1)]))
  refine own_of (fun tgt kon => XS.iconst X5.here hx rfl (hb hby at_18) kon) ?_
  show own_Wp _ _ _ _ (T5.setTop (mkF m 19 #[.val (.int p1), .val (.int p2), .unset, .unset, .unset, .unset, .unset] [(.int (2 : Int32)), (.ref b1), (.ref b1)]))
  obtain ⟨T6, X6, e6, st6⟩ := getS2 X5 hx hZ hown (host := "") (Or.inl (hw _ (List.mem_of_getElem? (i := 8) rfl))) Via.refl e5 ((S 2 (by decide)).ext O.2) (g := (mkF m 19 #[.val (.int p1), .val (.int p2), .unset, .unset, .unset, .unset, .unset] [(.int (2 : Int32)), (.ref b1), (.ref b1)])) rfl (hb hby at_19)
  refine own_of st6 ?_
  show own_Wp _ _ _ _ (T6.setTop (mkF m 22 #[.val (.int p1), .val (.int p2), .unset, .unset, .unset, .unset, .unset] [(.ref (oo 2)), (.int (2 : Int32)), (.ref b1), (.ref b1)]))
  obtain ⟨T7, h7, X7, e7, W7, Aq7, st7⟩ := own_stR X6 hx hZ e6 V_b1 (j := (2 : Int32)) (i := 2) (y := (oo 2)) (by decide) (by decide) (Ins.self ((E _ (by decide)).ext O.2)) (g := (mkF m 22 #[.val (.int p1), .val (.int p2), .unset, .unset, .unset, .unset, .unset] [(.ref (oo 2)), (.int (2 : Int32)), (.ref b1), (.ref b1)])) rfl rfl (hb hby at_22)
  refine own_of st7 ?_
  have Zs := Nat.le_trans Zs (Keep.of_wr W7).1
  have O := O.wr W7 g_b1
  have V_b1 := Aq7
  have N7 := Fr.snoc X7 N5 g_b1
  show own_Wp _ _ _ _ (T7.setTop (mkF m 23 #[.val (.int p1), .val (.int p2), .unset, .unset, .unset, .unset, .unset] [(.ref b1)]))
  refine own_of (fun tgt kon => XS.dup X7.here hx rfl (hb hby at_23) rfl rfl kon) ?_
  show own_Wp _ _ _ _ (T7.setTop (mkF m 24 #[.val (.int p1), .val (.int p2), .unset, .unset, .unset, .unset, .unset] [(.ref b1), (.ref b1)]))
  refine own_of (fun tgt kon => XS.iconst X7.here hx rfl (hb hby at_24) kon) ?_
  show own_Wp _ _ _ _ (T7.setTop (mkF m 25 #[.val (.int p1), .val (.int p2), .unset, .unset, .unset, .unset, .unset] [(.int (3 : Int32)), (.ref b1), (.ref b1)]))
  obtain ⟨T8, X8, e8, st8⟩ := getS2 X7 hx hZ hown (host := "") (Or.inl (hw _ (List.mem_of_getElem? (i := 10) rfl))) Via.refl e7 ((S 3 (by decide)).ext O.2) (g := (mkF m 25 #[.val (.int p1), .val (.int p2), .unset, .unset, .unset, .unset, .unset] [(.int (3 : Int32)), (.ref b1), (.ref b1)])) rfl (hb hby at_25)
  refine own_of st8 ?_
  show own_Wp _ _ _ _ (T8.setTop (mkF m 28 #[.val (.int p1), .val (.int p2), .unset, .unset, .unset, .unset, .unset] [(.ref (oo 3)), (.int (3 : Int32)), (.ref b1), (.ref b1)]))
  obtain ⟨T9, h9, X9, e9, W9, Aq9, st9⟩ := own_stR X8 hx hZ e8 V_b1 (j := (3 : Int32)) (i := 3) (y := (oo 3)) (by decide) (by decide) (Ins.self ((E _ (by decide)).ext O.2)) (g := (mkF m 28 #[.val (.int p1), .val (.int p2), .unset, .unset, .unset, .unset, .unset] [(.ref (oo 3)), (.int (3 : Int32)), (.ref b1), (.ref b1)])) rfl rfl (hb hby at_28)
  refine own_of st9 ?_
  have Zs := Nat.le_trans Zs (Keep.of_wr W9).1
  have O := O.wr W9 g_b1
  have V_b1 := Aq9
  have N9 := Fr.snoc X9 N7 g_b1
  show own_Wp _ _ _ _ (T9.setTop (mkF m 29 #[.val (.int p1), .val (.int p2), .unset, .unset, .unset, .unset, .unset] [(.ref b1)]))
  refine own_of (fun tgt kon => XS.dup X9.here hx rfl (hb hby at_29) rfl rfl kon) ?_
  show own_Wp _ _ _ _ (T9.setTop (mkF m 30 #[.val (.int p1), .val (.int p2), .unset, .unset, .unset, .unset, .unset] [(.ref b1), (.ref b1)]))
  refine own_of (fun tgt kon => XS.iconst X9.here hx rfl (hb hby at_30) kon) ?_
  show own_Wp _ _ _ _ (T9.setTop (mkF m 31 #[.val (.int p1), .val (.int p2), .unset, .unset, .unset, .unset, .unset] [(.int (4 : Int32)), (.ref b1), (.ref b1)]))
  obtain ⟨T10, X10, e10, st10⟩ := getS2 X9 hx hZ hown (host := "") (Or.inl (hw _ (List.mem_of_getElem? (i := 12) rfl))) Via.refl e9 ((S 4 (by decide)).ext O.2) (g := (mkF m 31 #[.val (.int p1), .val (.int p2), .unset, .unset, .unset, .unset, .unset] [(.int (4 : Int32)), (.ref b1), (.ref b1)])) rfl (hb hby at_31)
  refine own_of st10 ?_
  show own_Wp _ _ _ _ (T10.setTop (mkF m 34 #[.val (.int p1), .val (.int p2), .unset, .unset, .unset, .unset, .unset] [(.ref (oo 4)), (.int (4 : Int32)), (.ref b1), (.ref b1)]))
  obtain ⟨T11, h11, X11, e11, W11, Aq11, st11⟩ := own_stR X10 hx hZ e10 V_b1 (j := (4 : Int32)) (i := 4) (y := (oo 4)) (by decide) (by decide) (Ins.self ((E _ (by decide)).ext O.2)) (g := (mkF m 34 #[.val (.int p1), .val (.int p2), .unset, .unset, .unset, .unset, .unset] [(.ref (oo 4)), (.int (4 : Int32)), (.ref b1), (.ref b1)])) rfl rfl (hb hby at_34)
  refine own_of st11 ?_
  have Zs := Nat.le_trans Zs (Keep.of_wr W11).1
  have O := O.wr W11 g_b1
  have V_b1 := Aq11
  have N11 := Fr.snoc X11 N9 g_b1
  show own_Wp _ _ _ _ (T11.setTop (mkF m 35 #[.val (.int p1), .val (.int p2), .unset, .unset, .unset, .unset, .unset] [(.ref b1)]))
  refine own_of (fun tgt kon => XS.dup X11.here hx rfl (hb hby at_35) rfl rfl kon) ?_
  show own_Wp _ _ _ _ (T11.setTop (mkF m 36 #[.val (.int p1), .val (.int p2), .unset, .unset, .unset, .unset, .unset] [(.ref b1), (.ref b1)]))
  refine own_of (fun tgt kon => XS.iconst X11.here hx rfl (hb hby at_36) kon) ?_
  show own_Wp _ _ _ _ (T11.setTop (mkF m 37 #[.val (.int p1), .val (.int p2), .unset, .unset, .unset, .unset, .unset] [(.int (5 : Int32)), (.ref b1), (.ref b1)]))
  obtain ⟨T12, X12, e12, st12⟩ := getS2 X11 hx hZ hown (host := "") (Or.inl (hw _ (List.mem_of_getElem? (i := 14) rfl))) Via.refl e11 ((S 5 (by decide)).ext O.2) (g := (mkF m 37 #[.val (.int p1), .val (.int p2), .unset, .unset, .unset, .unset, .unset] [(.int (5 : Int32)), (.ref b1), (.ref b1)])) rfl (hb hby at_37)
  refine own_of st12 ?_
  show own_Wp _ _ _ _ (T12.setTop (mkF m 40 #[.val (.int p1), .val (.int p2), .unset, .unset, .unset, .unset, .unset] [(.ref (oo 5)), (.int (5 : Int32)), (.ref b1), (.ref b1)]))
  obtain ⟨T13, h13, X13, e13, W13, Aq13, st13⟩ := own_stR X12 hx hZ e12 V_b1 (j := (5 : Int32)) (i := 5) (y := (oo 5)) (by decide) (by decide) (Ins.self ((E _ (by decide)).ext O.2)) (g := (mkF m 40 #[.val (.int p1), .val (.int p2), .unset, .unset, .unset, .unset, .unset] [(.ref (oo 5)), (.int (5 : Int32)), (.ref b1), (.ref b1)])) rfl rfl (hb hby at_40)
  refine own_of st13 ?_
  have Zs := Nat.le_trans Zs (Keep.of_wr W13).1
  have O := O.wr W13 g_b1
  have V_b1 := Aq13
  have N13 := Fr.snoc X13 N11 g_b1
  show own_Wp _ _ _ _ (T13.setTop (mkF m 41 #[.val (.int p1), .val (.int p2), .unset, .unset, .unset, .unset, .unset] [(.ref b1)]))
  refine own_of (fun tgt kon => XS.dup X13.here hx rfl (hb hby at_41) rfl rfl kon) ?_
  show own_Wp _ _ _ _ (T13.setTop (mkF m 42 #[.val (.int p1), .val (.int p2), .unset, .unset, .unset, .unset, .unset] [(.ref b1), (.ref b1)]))
  refine own_of (fun tgt kon => XS.bipush X13.here hx rfl (hb hby at_42) kon) ?_
  show own_Wp _ _ _ _ (T13.setTop (mkF m 44 #[.val (.int p1), .val (.int p2), .unset, .unset, .unset, .unset, .unset] [(.int (6 : Int32)), (.ref b1), (.ref b1)]))
  obtain ⟨T14, X14, e14, st14⟩ := getS2 X13 hx hZ hown (host := "") (Or.inl (hw _ (List.mem_of_getElem? (i := 16) rfl))) Via.refl e13 ((S 6 (by decide)).ext O.2) (g := (mkF m 44 #[.val (.int p1), .val (.int p2), .unset, .unset, .unset, .unset, .unset] [(.int (6 : Int32)), (.ref b1), (.ref b1)])) rfl (hb hby at_44)
  refine own_of st14 ?_
  show own_Wp _ _ _ _ (T14.setTop (mkF m 47 #[.val (.int p1), .val (.int p2), .unset, .unset, .unset, .unset, .unset] [(.ref (oo 6)), (.int (6 : Int32)), (.ref b1), (.ref b1)]))
  obtain ⟨T15, h15, X15, e15, W15, Aq15, st15⟩ := own_stR X14 hx hZ e14 V_b1 (j := (6 : Int32)) (i := 6) (y := (oo 6)) (by decide) (by decide) (Ins.self ((E _ (by decide)).ext O.2)) (g := (mkF m 47 #[.val (.int p1), .val (.int p2), .unset, .unset, .unset, .unset, .unset] [(.ref (oo 6)), (.int (6 : Int32)), (.ref b1), (.ref b1)])) rfl rfl (hb hby at_47)
  refine own_of st15 ?_
  have Zs := Nat.le_trans Zs (Keep.of_wr W15).1
  have O := O.wr W15 g_b1
  have V_b1 := Aq15
  have N15 := Fr.snoc X15 N13 g_b1
  show own_Wp _ _ _ _ (T15.setTop (mkF m 48 #[.val (.int p1), .val (.int p2), .unset, .unset, .unset, .unset, .unset] [(.ref b1)]))
  refine own_of (fun tgt kon => XS.dup X15.here hx rfl (hb hby at_48) rfl rfl kon) ?_
  show own_Wp _ _ _ _ (T15.setTop (mkF m 49 #[.val (.int p1), .val (.int p2), .unset, .unset, .unset, .unset, .unset] [(.ref b1), (.ref b1)]))
  refine own_of (fun tgt kon => XS.bipush X15.here hx rfl (hb hby at_49) kon) ?_
  show own_Wp _ _ _ _ (T15.setTop (mkF m 51 #[.val (.int p1), .val (.int p2), .unset, .unset, .unset, .unset, .unset] [(.int (7 : Int32)), (.ref b1), (.ref b1)]))
  obtain ⟨T16, X16, e16, st16⟩ := getS2 X15 hx hZ hown (host := "") (Or.inl (hw _ (List.mem_of_getElem? (i := 18) rfl))) Via.refl e15 ((S 7 (by decide)).ext O.2) (g := (mkF m 51 #[.val (.int p1), .val (.int p2), .unset, .unset, .unset, .unset, .unset] [(.int (7 : Int32)), (.ref b1), (.ref b1)])) rfl (hb hby at_51)
  refine own_of st16 ?_
  show own_Wp _ _ _ _ (T16.setTop (mkF m 54 #[.val (.int p1), .val (.int p2), .unset, .unset, .unset, .unset, .unset] [(.ref (oo 7)), (.int (7 : Int32)), (.ref b1), (.ref b1)]))
  obtain ⟨T17, h17, X17, e17, W17, Aq17, st17⟩ := own_stR X16 hx hZ e16 V_b1 (j := (7 : Int32)) (i := 7) (y := (oo 7)) (by decide) (by decide) (Ins.self ((E _ (by decide)).ext O.2)) (g := (mkF m 54 #[.val (.int p1), .val (.int p2), .unset, .unset, .unset, .unset, .unset] [(.ref (oo 7)), (.int (7 : Int32)), (.ref b1), (.ref b1)])) rfl rfl (hb hby at_54)
  refine own_of st17 ?_
  have Zs := Nat.le_trans Zs (Keep.of_wr W17).1
  have O := O.wr W17 g_b1
  have V_b1 := Aq17
  have N17 := Fr.snoc X17 N15 g_b1
  show own_Wp _ _ _ _ (T17.setTop (mkF m 55 #[.val (.int p1), .val (.int p2), .unset, .unset, .unset, .unset, .unset] [(.ref b1)]))
  refine own_of (fun tgt kon => XS.dup X17.here hx rfl (hb hby at_55) rfl rfl kon) ?_
  show own_Wp _ _ _ _ (T17.setTop (mkF m 56 #[.val (.int p1), .val (.int p2), .unset, .unset, .unset, .unset, .unset] [(.ref b1), (.ref b1)]))
  refine own_of (fun tgt kon => XS.bipush X17.here hx rfl (hb hby at_56) kon) ?_
  show own_Wp _ _ _ _ (T17.setTop (mkF m 58 #[.val (.int p1), .val (.int p2), .unset, .unset, .unset, .unset, .unset] [(.int (8 : Int32)), (.ref b1), (.ref b1)]))
  obtain ⟨T18, X18, e18, st18⟩ := getS2 X17 hx hZ hown (host := "") (Or.inl (hw _ (List.mem_of_getElem? (i := 20) rfl))) Via.refl e17 ((S 8 (by decide)).ext O.2) (g := (mkF m 58 #[.val (.int p1), .val (.int p2), .unset, .unset, .unset, .unset, .unset] [(.int (8 : Int32)), (.ref b1), (.ref b1)])) rfl (hb hby at_58)
  refine own_of st18 ?_
  show own_Wp _ _ _ _ (T18.setTop (mkF m 61 #[.val (.int p1), .val (.int p2), .unset, .unset, .unset, .unset, .unset] [(.ref (oo 8)), (.int (8 : Int32)), (.ref b1), (.ref b1)]))
  obtain ⟨T19, h19, X19, e19, W19, Aq19, st19⟩ := own_stR X18 hx hZ e18 V_b1 (j := (8 : Int32)) (i := 8) (y := (oo 8)) (by decide) (by decide) (Ins.self ((E _ (by decide)).ext O.2)) (g := (mkF m 61 #[.val (.int p1), .val (.int p2), .unset, .unset, .unset, .unset, .unset] [(.ref (oo 8)), (.int (8 : Int32)), (.ref b1), (.ref b1)])) rfl rfl (hb hby at_61)
  refine own_of st19 ?_
  have Zs := Nat.le_trans Zs (Keep.of_wr W19).1
  have O := O.wr W19 g_b1
  have V_b1 := Aq19
  have N19 := Fr.snoc X19 N17 g_b1
  show own_Wp _ _ _ _ (T19.setTop (mkF m 62 #[.val (.int p1), .val (.int p2), .unset, .unset, .unset, .unset, .unset] [(.ref b1)]))
  refine own_of (fun tgt kon => XS.dup X19.here hx rfl (hb hby at_62) rfl rfl kon) ?_
  show own_Wp _ _ _ _ (T19.setTop (mkF m 63 #[.val (.int p1), .val (.int p2), .unset, .unset, .unset, .unset, .unset] [(.ref b1), (.ref b1)]))
  refine own_of (fun tgt kon => XS.bipush X19.here hx rfl (hb hby at_63) kon) ?_
  show own_Wp _ _ _ _ (T19.setTop (mkF m 65 #[.val (.int p1), .val (.int p2), .unset, .unset, .unset, .unset, .unset] [(.int (9 : Int32)), (.ref b1), (.ref b1)]))
  obtain ⟨T20, X20, e20, st20⟩ := getS2 X19 hx hZ hown (host := "") (Or.inl (hw _ (List.mem_of_getElem? (i := 22) rfl))) Via.refl e19 ((S 9 (by decide)).ext O.2) (g := (mkF m 65 #[.val (.int p1), .val (.int p2), .unset, .unset, .unset, .unset, .unset] [(.int (9 : Int32)), (.ref b1), (.ref b1)])) rfl (hb hby at_65)
  refine own_of st20 ?_
  show own_Wp _ _ _ _ (T20.setTop (mkF m 68 #[.val (.int p1), .val (.int p2), .unset, .unset, .unset, .unset, .unset] [(.ref (oo 9)), (.int (9 : Int32)), (.ref b1), (.ref b1)]))
  obtain ⟨T21, h21, X21, e21, W21, Aq21, st21⟩ := own_stR X20 hx hZ e20 V_b1 (j := (9 : Int32)) (i := 9) (y := (oo 9)) (by decide) (by decide) (Ins.self ((E _ (by decide)).ext O.2)) (g := (mkF m 68 #[.val (.int p1), .val (.int p2), .unset, .unset, .unset, .unset, .unset] [(.ref (oo 9)), (.int (9 : Int32)), (.ref b1), (.ref b1)])) rfl rfl (hb hby at_68)
  refine own_of st21 ?_
  have Zs := Nat.le_trans Zs (Keep.of_wr W21).1
  have O := O.wr W21 g_b1
  have V_b1 := Aq21
  have N21 := Fr.snoc X21 N19 g_b1
  show own_Wp _ _ _ _ (T21.setTop (mkF m 69 #[.val (.int p1), .val (.int p2), .unset, .unset, .unset, .unset, .unset] [(.ref b1)]))
  refine own_of (fun tgt kon => XS.dup X21.here hx rfl (hb hby at_69) rfl rfl kon) ?_
  show own_Wp _ _ _ _ (T21.setTop (mkF m 70 #[.val (.int p1), .val (.int p2), .unset, .unset, .unset, .unset, .unset] [(.ref b1), (.ref b1)]))
  refine own_of (fun tgt kon => XS.bipush X21.here hx rfl (hb hby at_70) kon) ?_
  show own_Wp _ _ _ _ (T21.setTop (mkF m 72 #[.val (.int p1), .val (.int p2), .unset, .unset, .unset, .unset, .unset] [(.int (10 : Int32)), (.ref b1), (.ref b1)]))
  obtain ⟨T22, X22, e22, st22⟩ := getS2 X21 hx hZ hown (host := "") (Or.inl (hw _ (List.mem_of_getElem? (i := 24) rfl))) Via.refl e21 ((S 10 (by decide)).ext O.2) (g := (mkF m 72 #[.val (.int p1), .val (.int p2), .unset, .unset, .unset, .unset, .unset] [(.int (10 : Int32)), (.ref b1), (.ref b1)])) rfl (hb hby at_72)
  refine own_of st22 ?_
  show own_Wp _ _ _ _ (T22.setTop (mkF m 75 #[.val (.int p1), .val (.int p2), .unset, .unset, .unset, .unset, .unset] [(.ref (oo 10)), (.int (10 : Int32)), (.ref b1), (.ref b1)]))
  obtain ⟨T23, h23, X23, e23, W23, Aq23, st23⟩ := own_stR X22 hx hZ e22 V_b1 (j := (10 : Int32)) (i := 10) (y := (oo 10)) (by decide) (by decide) (Ins.self ((E _ (by decide)).ext O.2)) (g := (mkF m 75 #[.val (.int p1), .val (.int p2), .unset, .unset, .unset, .unset, .unset] [(.ref (oo 10)), (.int (10 : Int32)), (.ref b1), (.ref b1)])) rfl rfl (hb hby at_75)
  refine own_of st23 ?_
  have Zs := Nat.le_trans Zs (Keep.of_wr W23).1
  have O := O.wr W23 g_b1
  have V_b1 := Aq23
  have N23 := Fr.snoc X23 N21 g_b1
  show own_Wp _ _ _ _ (T23.setTop (mkF m 76 #[.val (.int p1), .val (.int p2), .unset, .unset, .unset, .unset, .unset] [(.ref b1)]))
  refine own_of (fun tgt kon => XS.dup X23.here hx rfl (hb hby at_76) rfl rfl kon) ?_
  show own_Wp _ _ _ _ (T23.setTop (mkF m 77 #[.val (.int p1), .val (.int p2), .unset, .unset, .unset, .unset, .unset] [(.ref b1), (.ref b1)]))
  refine own_of (fun tgt kon => XS.bipush X23.here hx rfl (hb hby at_77) kon) ?_
  show own_Wp _ _ _ _ (T23.setTop (mkF m 79 #[.val (.int p1), .val (.int p2), .unset, .unset, .unset, .unset, .unset] [(.int (11 : Int32)), (.ref b1), (.ref b1)]))
  obtain ⟨T24, X24, e24, st24⟩ := getS2 X23 hx hZ hown (host := "") (Or.inl (hw _ (List.mem_of_getElem? (i := 26) rfl))) Via.refl e23 ((S 11 (by decide)).ext O.2) (g := (mkF m 79 #[.val (.int p1), .val (.int p2), .unset, .unset, .unset, .unset, .unset] [(.int (11 : Int32)), (.ref b1), (.ref b1)])) rfl (hb hby at_79)
  refine own_of st24 ?_
  show own_Wp _ _ _ _ (T24.setTop (mkF m 82 #[.val (.int p1), .val (.int p2), .unset, .unset, .unset, .unset, .unset] [(.ref (oo 11)), (.int (11 : Int32)), (.ref b1), (.ref b1)]))
  obtain ⟨T25, h25, X25, e25, W25, Aq25, st25⟩ := own_stR X24 hx hZ e24 V_b1 (j := (11 : Int32)) (i := 11) (y := (oo 11)) (by decide) (by decide) (Ins.self ((E _ (by decide)).ext O.2)) (g := (mkF m 82 #[.val (.int p1), .val (.int p2), .unset, .unset, .unset, .unset, .unset] [(.ref (oo 11)), (.int (11 : Int32)), (.ref b1), (.ref b1)])) rfl rfl (hb hby at_82)
  refine own_of st25 ?_
  have Zs := Nat.le_trans Zs (Keep.of_wr W25).1
  have O := O.wr W25 g_b1
  have V_b1 := Aq25
  have N25 := Fr.snoc X25 N23 g_b1
  show own_Wp _ _ _ _ (T25.setTop (mkF m 83 #[.val (.int p1), .val (.int p2), .unset, .unset, .unset, .unset, .unset] [(.ref b1)]))
  refine own_of (fun tgt kon => XS.dup X25.here hx rfl (hb hby at_83) rfl rfl kon) ?_
  show own_Wp _ _ _ _ (T25.setTop (mkF m 84 #[.val (.int p1), .val (.int p2), .unset, .unset, .unset, .unset, .unset] [(.ref b1), (.ref b1)]))
  refine own_of (fun tgt kon => XS.bipush X25.here hx rfl (hb hby at_84) kon) ?_
  show own_Wp _ _ _ _ (T25.setTop (mkF m 86 #[.val (.int p1), .val (.int p2), .unset, .unset, .unset, .unset, .unset] [(.int (12 : Int32)), (.ref b1), (.ref b1)]))
  obtain ⟨T26, X26, e26, st26⟩ := getS2 X25 hx hZ hown (host := "") (Or.inl (hw _ (List.mem_of_getElem? (i := 28) rfl))) Via.refl e25 ((S 12 (by decide)).ext O.2) (g := (mkF m 86 #[.val (.int p1), .val (.int p2), .unset, .unset, .unset, .unset, .unset] [(.int (12 : Int32)), (.ref b1), (.ref b1)])) rfl (hb hby at_86)
  refine own_of st26 ?_
  show own_Wp _ _ _ _ (T26.setTop (mkF m 89 #[.val (.int p1), .val (.int p2), .unset, .unset, .unset, .unset, .unset] [(.ref (oo 12)), (.int (12 : Int32)), (.ref b1), (.ref b1)]))
  obtain ⟨T27, h27, X27, e27, W27, Aq27, st27⟩ := own_stR X26 hx hZ e26 V_b1 (j := (12 : Int32)) (i := 12) (y := (oo 12)) (by decide) (by decide) (Ins.self ((E _ (by decide)).ext O.2)) (g := (mkF m 89 #[.val (.int p1), .val (.int p2), .unset, .unset, .unset, .unset, .unset] [(.ref (oo 12)), (.int (12 : Int32)), (.ref b1), (.ref b1)])) rfl rfl (hb hby at_89)
  refine own_of st27 ?_
  have Zs := Nat.le_trans Zs (Keep.of_wr W27).1
  have O := O.wr W27 g_b1
  have V_b1 := Aq27
  have N27 := Fr.snoc X27 N25 g_b1
  show own_Wp _ _ _ _ (T27.setTop (mkF m 90 #[.val (.int p1), .val (.int p2), .unset, .unset, .unset, .unset, .unset] [(.ref b1)]))
  refine own_of (fun tgt kon => XS.dup X27.here hx rfl (hb hby at_90) rfl rfl kon) ?_
  show own_Wp _ _ _ _ (T27.setTop (mkF m 91 #[.val (.int p1), .val (.int p2), .unset, .unset, .unset, .unset, .unset] [(.ref b1), (.ref b1)]))
  refine own_of (fun tgt kon => XS.bipush X27.here hx rfl (hb hby at_91) kon) ?_
  show own_Wp _ _ _ _ (T27.setTop (mkF m 93 #[.val (.int p1), .val (.int p2), .unset, .unset, .unset, .unset, .unset] [(.int (13 : Int32)), (.ref b1), (.ref b1)]))
  obtain ⟨T28, X28, e28, st28⟩ := getS2 X27 hx hZ hown (host := "") (Or.inl (hw _ (List.mem_of_getElem? (i := 30) rfl))) Via.refl e27 ((S 13 (by decide)).ext O.2) (g := (mkF m 93 #[.val (.int p1), .val (.int p2), .unset, .unset, .unset, .unset, .unset] [(.int (13 : Int32)), (.ref b1), (.ref b1)])) rfl (hb hby at_93)
  refine own_of st28 ?_
  show own_Wp _ _ _ _ (T28.setTop (mkF m 96 #[.val (.int p1), .val (.int p2), .unset, .unset, .unset, .unset, .unset] [(.ref (oo 13)), (.int (13 : Int32)), (.ref b1), (.ref b1)]))
  obtain ⟨T29, h29, X29, e29, W29, Aq29, st29⟩ := own_stR X28 hx hZ e28 V_b1 (j := (13 : Int32)) (i := 13) (y := (oo 13)) (by decide) (by decide) (Ins.self ((E _ (by decide)).ext O.2)) (g := (mkF m 96 #[.val (.int p1), .val (.int p2), .unset, .unset, .unset, .unset, .unset] [(.ref (oo 13)), (.int (13 : Int32)), (.ref b1), (.ref b1)])) rfl rfl (hb hby at_96)
  refine own_of st29 ?_
  have Zs := Nat.le_trans Zs (Keep.of_wr W29).1
  have O := O.wr W29 g_b1
  have V_b1 := Aq29
  have N29 := Fr.snoc X29 N27 g_b1
  show own_Wp _ _ _ _ (T29.setTop (mkF m 97 #[.val (.int p1), .val (.int p2), .unset, .unset, .unset, .unset, .unset] [(.ref b1)]))
  have V_b1 := V_b1.fn (f' := fun k => .ref (oo k)) (by intro k hk; rcases k with _ | _ | _ | _ | _ | _ | _ | _ | _ | _ | _ | _ | _ | _ | k <;> first | rfl | omega)
  refine own_of (fun tgt kon => XS.astoreN X29.here hx rfl (hb hby at_97) rfl rfl (l' := #[.val (.int p1), .val (.int p2), .val (.ref b1), .unset, .unset, .unset, .unset]) rfl kon) ?_
  show own_Wp _ _ _ _ (T29.setTop (mkF m 98 #[.val (.int p1), .val (.int p2), .val (.ref b1), .unset, .unset, .unset, .unset] []))
  refine own_of (fun tgt kon => XS.bipush X29.here hx rfl (hb hby at_98) kon) ?_
  show own_Wp _ _ _ _ (T29.setTop (mkF m 100 #[.val (.int p1), .val (.int p2), .val (.ref b1), .unset, .unset, .unset, .unset] [(.int (14 : Int32))]))
  obtain ⟨T30, h30, k30, X30, e30, E30, A30, st30⟩ := newP X29 hx hZ (hw _ (List.mem_of_getElem? (i := 32) rfl)) e29 (g := (mkF m 100 #[.val (.int p1), .val (.int p2), .val (.ref b1), .unset, .unset, .unset, .unset] [(.int (14 : Int32))])) rfl (hb hby at_100) rfl (by decide) (cap := 14) (by decide) (by decide) (by decide) (by decide)
  refine own_of st30 ?_
  clear st30
  obtain ⟨b30, gq30⟩ : ∃ z, z = h29.size := ⟨_, rfl⟩
  rw [← gq30] at A30 ⊢
  have ne_b1_b30 : b1 ≠ b30 := Nat.ne_of_lt (Nat.lt_of_lt_of_le V_b1.lt (Nat.le_of_eq gq30.symm))
  have g_b30 : n0 ≤ b30 := Nat.le_trans Zs (Nat.le_of_eq gq30.symm)
  have Zs := Nat.le_trans Zs E30.1
  have O := O.ext E30
  have V_b1 := V_b1.ext E30
  have V_b30 : own_Ar Z h30 b30 .int 14 (fun _ => (.int (0 : Int32))) := own_Ar.new A30 (by decide) rfl
  show own_Wp _ _ _ _ (T30.setTop (mkF m 102 #[.val (.int p1), .val (.int p2), .val (.ref b1), .unset, .unset, .unset, .unset] [(.ref b30)]))
  refine own_of (fun tgt kon => XS.dup X30.here hx rfl (hb hby at_102) rfl rfl kon) ?_
  show own_Wp _ _ _ _ (T30.setTop (mkF m 103 #[.val (.int p1), .val (.int p2), .val (.ref b1), .unset, .unset, .unset, .unset] [(.ref b30), (.ref b30)]))
  refine own_of (fun tgt kon => XS.iconst X30.here hx rfl (hb hby at_103) kon) ?_
  show own_Wp _ _ _ _ (T30.setTop (mkF m 104 #[.val (.int p1), .val (.int p2), .val (.ref b1), .unset, .unset, .unset, .unset] [(.int (0 : Int32)), (.ref b30), (.ref b30)]))
  refine own_of (fun tgt kon => XS.iconst X30.here hx rfl (hb hby at_104) kon) ?_
  show own_Wp _ _ _ _ (T30.setTop (mkF m 105 #[.val (.int p1), .val (.int p2), .val (.ref b1), .unset, .unset, .unset, .unset] [(.int (1 : Int32)), (.int (0 : Int32)), (.ref b30), (.ref b30)]))
  obtain ⟨T31, h31, X31, e31, W31, Aq31, st31⟩ := own_stI X30 hx hZ e30 V_b30 (j := (0 : Int32)) (i := 0) (x := (1 : Int32)) (by decide) (by decide) (g := (mkF m 105 #[.val (.int p1), .val (.int p2), .val (.ref b1), .unset, .unset, .unset, .unset] [(.int (1 : Int32)), (.int (0 : Int32)), (.ref b30), (.ref b30)])) rfl rfl (hb hby at_105)
  refine own_of st31 ?_
  have Zs := Nat.le_trans Zs (Keep.of_wr W31).1
  have O := O.wr W31 g_b30
  have V_b1 := V_b1.other W31 ne_b1_b30
  have V_b30 := Aq31
  have N31 := Fr.snoc X31 N29 g_b30
  show own_Wp _ _ _ _ (T31.setTop (mkF m 106 #[.val (.int p1), .val (.int p2), .val (.ref b1), .unset, .unset, .unset, .unset] [(.ref b30)]))
  refine own_of (fun tgt kon => XS.dup X31.here hx rfl (hb hby at_106) rfl rfl kon) ?_
  show own_Wp _ _ _ _ (T31.setTop (mkF m 107 #[.val (.int p1), .val (.int p2), .val (.ref b1), .unset, .unset, .unset, .unset] [(.ref b30), (.ref b30)]))
  refine own_of (fun tgt kon => XS.iconst X31.here hx rfl (hb hby at_107) kon) ?_
  show own_Wp _ _ _ _ (T31.setTop (mkF m 108 #[.val (.int p1), .val (.int p2), .val (.ref b1), .unset, .unset, .unset, .unset] [(.int (1 : Int32)), (.ref b30), (.ref b30)]))
  refine own_of (fun tgt kon => XS.sipush X31.here hx rfl (hb hby at_108) kon) ?_
  show own_Wp _ _ _ _ (T31.setTop (mkF m 111 #[.val (.int p1), .val (.int p2), .val (.ref b1), .unset, .unset, .unset, .unset] [(.int (16383 : Int32)), (.int (1 : Int32)), (.ref b30), (.ref b30)]))
  obtain ⟨T32, h32, X32, e32, W32, Aq32, st32⟩ := own_stI X31 hx hZ e31 V_b30 (j := (1 : Int32)) (i := 1) (x := (16383 : Int32)) (by decide) (by decide) (g := (mkF m 111 #[.val (.int p1), .val (.int p2), .val (.ref b1), .unset, .unset, .unset, .unset] [(.int (16383 : Int32)), (.int (1 : Int32)), (.ref b30), (.ref b30)])) rfl rfl (hb hby at_111)
  refine own_of st32 ?_
  have Zs := Nat.le_trans Zs (Keep.of_wr W32).1
  have O := O.wr W32 g_b30
  have V_b1 := V_b1.other W32 ne_b1_b30
  have V_b30 := Aq32
  have N32 := Fr.snoc X32 N31 g_b30
  show own_Wp _ _ _ _ (T32.setTop (mkF m 112 #[.val (.int p1), .val (.int p2), .val (.ref b1), .unset, .unset, .unset, .unset] [(.ref b30)]))
  refine own_of (fun tgt kon => XS.dup X32.here hx rfl (hb hby at_112) rfl rfl kon) ?_
  show own_Wp _ _ _ _ (T32.setTop (mkF m 113 #[.val (.int p1), .val (.int p2), .val (.ref b1), .unset, .unset, .unset, .unset] [(.ref b30), (.ref b30)]))
  refine own_of (fun tgt kon => XS.iconst X32.here hx rfl (hb hby at_113) kon) ?_
  show own_Wp _ _ _ _ (T32.setTop (mkF m 114 #[.val (.int p1), .val (.int p2), .val (.ref b1), .unset, .unset, .unset, .unset] [(.int (2 : Int32)), (.ref b30), (.ref b30)]))
  refine own_of (fun tgt kon => XS.sipush X32.here hx rfl (hb hby at_114) kon) ?_
  show own_Wp _ _ _ _ (T32.setTop (mkF m 117 #[.val (.int p1), .val (.int p2), .val (.ref b1), .unset, .unset, .unset, .unset] [(.int (132 : Int32)), (.int (2 : Int32)), (.ref b30), (.ref b30)]))
  obtain ⟨T33, h33, X33, e33, W33, Aq33, st33⟩ := own_stI X32 hx hZ e32 V_b30 (j := (2 : Int32)) (i := 2) (x := (132 : Int32)) (by decide) (by decide) (g := (mkF m 117 #[.val (.int p1), .val (.int p2), .val (.ref b1), .unset, .unset, .unset, .unset] [(.int (132 : Int32)), (.int (2 : Int32)), (.ref b30), (.ref b30)])) rfl rfl (hb hby at_117)
  refine own_of st33 ?_
  have Zs := Nat.le_trans Zs (Keep.of_wr W33).1
  have O := O.wr W33 g_b30
  have V_b1 := V_b1.other W33 ne_b1_b30
  have V_b30 := Aq33
  have N33 := Fr.snoc X33 N32 g_b30
  show own_Wp _ _ _ _ (T33.setTop (mkF m 118 #[.val (.int p1), .val (.int p2), .val (.ref b1), .unset, .unset, .unset, .unset] [(.ref b30)]))
  refine own_of (fun tgt kon => XS.dup X33.here hx rfl (hb hby at_118) rfl rfl kon) ?_
  show own_Wp _ _ _ _ (T33.setTop (mkF m 119 #[.val (.int p1), .val (.int p2), .val (.ref b1), .unset, .unset, .unset, .unset] [(.ref b30), (.ref b30)]))
  refine own_of (fun tgt kon => XS.iconst X33.here hx rfl (hb hby at_119) kon) ?_
  show own_Wp _ _ _ _ (T33.setTop (mkF m 120 #[.val (.int p1), .val (.int p2), .val (.ref b1), .unset, .unset, .unset, .unset] [(.int (3 : Int32)), (.ref b30), (.ref b30)]))
  refine own_of (fun tgt kon => XS.sipush X33.here hx rfl (hb hby at_120) kon) ?_
  show own_Wp _ _ _ _ (T33.setTop (mkF m 123 #[.val (.int p1), .val (.int p2), .val (.ref b1), .unset, .unset, .unset, .unset] [(.int (136 : Int32)), (.int (3 : Int32)), (.ref b30), (.ref b30)]))
  obtain ⟨T34, h34, X34, e34, W34, Aq34, st34⟩ := own_stI X33 hx hZ e33 V_b30 (j := (3 : Int32)) (i := 3) (x := (136 : Int32)) (by decide) (by decide) (g := (mkF m 123 #[.val (.int p1), .val (.int p2), .val (.ref b1), .unset, .unset, .unset, .unset] [(.int (136 : Int32)), (.int (3 : Int32)), (.ref b30), (.ref b30)])) rfl rfl (hb hby at_123)
  refine own_of st34 ?_
  have Zs := Nat.le_trans Zs (Keep.of_wr W34).1
  have O := O.wr W34 g_b30
  have V_b1 := V_b1.other W34 ne_b1_b30
  have V_b30 := Aq34
  have N34 := Fr.snoc X34 N33 g_b30
  show own_Wp _ _ _ _ (T34.setTop (mkF m 124 #[.val (.int p1), .val (.int p2), .val (.ref b1), .unset, .unset, .unset, .unset] [(.ref b30)]))
  refine own_of (fun tgt kon => XS.dup X34.here hx rfl (hb hby at_124) rfl rfl kon) ?_
  show own_Wp _ _ _ _ (T34.setTop (mkF m 125 #[.val (.int p1), .val (.int p2), .val (.ref b1), .unset, .unset, .unset, .unset] [(.ref b30), (.ref b30)]))
  refine own_of (fun tgt kon => XS.iconst X34.here hx rfl (hb hby at_125) kon) ?_
  show own_Wp _ _ _ _ (T34.setTop (mkF m 126 #[.val (.int p1), .val (.int p2), .val (.ref b1), .unset, .unset, .unset, .unset] [(.int (4 : Int32)), (.ref b30), (.ref b30)]))
  refine own_of (fun tgt kon => XS.bipush X34.here hx rfl (hb hby at_126) kon) ?_
  show own_Wp _ _ _ _ (T34.setTop (mkF m 128 #[.val (.int p1), .val (.int p2), .val (.ref b1), .unset, .unset, .unset, .unset] [(.int (16 : Int32)), (.int (4 : Int32)), (.ref b30), (.ref b30)]))
  obtain ⟨T35, h35, X35, e35, W35, Aq35, st35⟩ := own_stI X34 hx hZ e34 V_b30 (j := (4 : Int32)) (i := 4) (x := (16 : Int32)) (by decide) (by decide) (g := (mkF m 128 #[.val (.int p1), .val (.int p2), .val (.ref b1), .unset, .unset, .unset, .unset] [(.int (16 : Int32)), (.int (4 : Int32)), (.ref b30), (.ref b30)])) rfl rfl (hb hby at_128)
  refine own_of st35 ?_
  have Zs := Nat.le_trans Zs (Keep.of_wr W35).1
  have O := O.wr W35 g_b30
  have V_b1 := V_b1.other W35 ne_b1_b30
  have V_b30 := Aq35
  have N35 := Fr.snoc X35 N34 g_b30
  show own_Wp _ _ _ _ (T35.setTop (mkF m 129 #[.val (.int p1), .val (.int p2), .val (.ref b1), .unset, .unset, .unset, .unset] [(.ref b30)]))
  refine own_of (fun tgt kon => XS.dup X35.here hx rfl (hb hby at_129) rfl rfl kon) ?_
  show own_Wp _ _ _ _ (T35.setTop (mkF m 130 #[.val (.int p1), .val (.int p2), .val (.ref b1), .unset, .unset, .unset, .unset] [(.ref b30), (.ref b30)]))
  refine own_of (fun tgt kon => XS.iconst X35.here hx rfl (hb hby at_130) kon) ?_
  show own_Wp _ _ _ _ (T35.setTop (mkF m 131 #[.val (.int p1), .val (.int p2), .val (.ref b1), .unset, .unset, .unset, .unset] [(.int (5 : Int32)), (.ref b30), (.ref b30)]))
  refine own_of (fun tgt kon => XS.sipush X35.here hx rfl (hb hby at_131) kon) ?_
  show own_Wp _ _ _ _ (T35.setTop (mkF m 134 #[.val (.int p1), .val (.int p2), .val (.ref b1), .unset, .unset, .unset, .unset] [(.int (160 : Int32)), (.int (5 : Int32)), (.ref b30), (.ref b30)]))
  obtain ⟨T36, h36, X36, e36, W36, Aq36, st36⟩ := own_stI X35 hx hZ e35 V_b30 (j := (5 : Int32)) (i := 5) (x := (160 : Int32)) (by decide) (by decide) (g := (mkF m 134 #[.val (.int p1), .val (.int p2), .val (.ref b1), .unset, .unset, .unset, .unset] [(.int (160 : Int32)), (.int (5 : Int32)), (.ref b30), (.ref b30)])) rfl rfl (hb hby at_134)
  refine own_of st36 ?_
  have Zs := Nat.le_trans Zs (Keep.of_wr W36).1
  have O := O.wr W36 g_b30
  have V_b1 := V_b1.other W36 ne_b1_b30
  have V_b30 := Aq36
  have N36 := Fr.snoc X36 N35 g_b30
  show own_Wp _ _ _ _ (T36.setTop (mkF m 135 #[.val (.int p1), .val (.int p2), .val (.ref b1), .unset, .unset, .unset, .unset] [(.ref b30)]))
  refine own_of (fun tgt kon => XS.dup X36.here hx rfl (hb hby at_135) rfl rfl kon) ?_
  show own_Wp _ _ _ _ (T36.setTop (mkF m 136 #[.val (.int p1), .val (.int p2), .val (.ref b1), .unset, .unset, .unset, .unset] [(.ref b30), (.ref b30)]))
  refine own_of (fun tgt kon => XS.bipush X36.here hx rfl (hb hby at_136) kon) ?_
  show own_Wp _ _ _ _ (T36.setTop (mkF m 138 #[.val (.int p1), .val (.int p2), .val (.ref b1), .unset, .unset, .unset, .unset] [(.int (6 : Int32)), (.ref b30), (.ref b30)]))
  refine own_of (fun tgt kon => XS.sipush X36.here hx rfl (hb hby at_138) kon) ?_
  show own_Wp _ _ _ _ (T36.setTop (mkF m 141 #[.val (.int p1), .val (.int p2), .val (.ref b1), .unset, .unset, .unset, .unset] [(.int (192 : Int32)), (.int (6 : Int32)), (.ref b30), (.ref b30)]))
  obtain ⟨T37, h37, X37, e37, W37, Aq37, st37⟩ := own_stI X36 hx hZ e36 V_b30 (j := (6 : Int32)) (i := 6) (x := (192 : Int32)) (by decide) (by decide) (g := (mkF m 141 #[.val (.int p1), .val (.int p2), .val (.ref b1), .unset, .unset, .unset, .unset] [(.int (192 : Int32)), (.int (6 : Int32)), (.ref b30), (.ref b30)])) rfl rfl (hb hby at_141)
  refine own_of st37 ?_
  have Zs := Nat.le_trans Zs (Keep.of_wr W37).1
  have O := O.wr W37 g_b30
  have V_b1 := V_b1.other W37 ne_b1_b30
  have V_b30 := Aq37
  have N37 := Fr.snoc X37 N36 g_b30
  show own_Wp _ _ _ _ (T37.setTop (mkF m 142 #[.val (.int p1), .val (.int p2), .val (.ref b1), .unset, .unset, .unset, .unset] [(.ref b30)]))
  refine own_of (fun tgt kon => XS.dup X37.here hx rfl (hb hby at_142) rfl rfl kon) ?_
  show own_Wp _ _ _ _ (T37.setTop (mkF m 143 #[.val (.int p1), .val (.int p2), .val (.ref b1), .unset, .unset, .unset, .unset] [(.ref b30), (.ref b30)]))
  refine own_of (fun tgt kon => XS.bipush X37.here hx rfl (hb hby at_143) kon) ?_
  show own_Wp _ _ _ _ (T37.setTop (mkF m 145 #[.val (.int p1), .val (.int p2), .val (.ref b1), .unset, .unset, .unset, .unset] [(.int (7 : Int32)), (.ref b30), (.ref b30)]))
  refine own_of (fun tgt kon => XS.sipush X37.here hx rfl (hb hby at_145) kon) ?_
  show own_Wp _ _ _ _ (T37.setTop (mkF m 148 #[.val (.int p1), .val (.int p2), .val (.ref b1), .unset, .unset, .unset, .unset] [(.int (128 : Int32)), (.int (7 : Int32)), (.ref b30), (.ref b30)]))
  obtain ⟨T38, h38, X38, e38, W38, Aq38, st38⟩ := own_stI X37 hx hZ e37 V_b30 (j := (7 : Int32)) (i := 7) (x := (128 : Int32)) (by decide) (by decide) (g := (mkF m 148 #[.val (.int p1), .val (.int p2), .val (.ref b1), .unset, .unset, .unset, .unset] [(.int (128 : Int32)), (.int (7 : Int32)), (.ref b30), (.ref b30)])) rfl rfl (hb hby at_148)
  refine own_of st38 ?_
  have Zs := Nat.le_trans Zs (Keep.of_wr W38).1
  have O := O.wr W38 g_b30
  have V_b1 := V_b1.other W38 ne_b1_b30
  have V_b30 := Aq38
  have N38 := Fr.snoc X38 N37 g_b30
  show own_Wp _ _ _ _ (T38.setTop (mkF m 149 #[.val (.int p1), .val (.int p2), .val (.ref b1), .unset, .unset, .unset, .unset] [(.ref b30)]))
  refine own_of (fun tgt kon => XS.dup X38.here hx rfl (hb hby at_149) rfl rfl kon) ?_
  show own_Wp _ _ _ _ (T38.setTop (mkF m 150 #[.val (.int p1), .val (.int p2), .val (.ref b1), .unset, .unset, .unset, .unset] [(.ref b30), (.ref b30)]))
  refine own_of (fun tgt kon => XS.bipush X38.here hx rfl (hb hby at_150) kon) ?_
  show own_Wp _ _ _ _ (T38.setTop (mkF m 152 #[.val (.int p1), .val (.int p2), .val (.ref b1), .unset, .unset, .unset, .unset] [(.int (8 : Int32)), (.ref b30), (.ref b30)]))
  refine own_of (fun tgt kon => XS.sipush X38.here hx rfl (hb hby at_152) kon) ?_
  show own_Wp _ _ _ _ (T38.setTop (mkF m 155 #[.val (.int p1), .val (.int p2), .val (.ref b1), .unset, .unset, .unset, .unset] [(.int (256 : Int32)), (.int (8 : Int32)), (.ref b30), (.ref b30)]))
  obtain ⟨T39, h39, X39, e39, W39, Aq39, st39⟩ := own_stI X38 hx hZ e38 V_b30 (j := (8 : Int32)) (i := 8) (x := (256 : Int32)) (by decide) (by decide) (g := (mkF m 155 #[.val (.int p1), .val (.int p2), .val (.ref b1), .unset, .unset, .unset, .unset] [(.int (256 : Int32)), (.int (8 : Int32)), (.ref b30), (.ref b30)])) rfl rfl (hb hby at_155)
  refine own_of st39 ?_
  have Zs := Nat.le_trans Zs (Keep.of_wr W39).1
  have O := O.wr W39 g_b30
  have V_b1 := V_b1.other W39 ne_b1_b30
  have V_b30 := Aq39
  have N39 := Fr.snoc X39 N38 g_b30
  show own_Wp _ _ _ _ (T39.setTop (mkF m 156 #[.val (.int p1), .val (.int p2), .val (.ref b1), .unset, .unset, .unset, .unset] [(.ref b30)]))
  refine own_of (fun tgt kon => XS.dup X39.here hx rfl (hb hby at_156) rfl rfl kon) ?_
  show own_Wp _ _ _ _ (T39.setTop (mkF m 157 #[.val (.int p1), .val (.int p2), .val (.ref b1), .unset, .unset, .unset, .unset] [(.ref b30), (.ref b30)]))
  refine own_of (fun tgt kon => XS.bipush X39.here hx rfl (hb hby at_157) kon) ?_
  show own_Wp _ _ _ _ (T39.setTop (mkF m 159 #[.val (.int p1), .val (.int p2), .val (.ref b1), .unset, .unset, .unset, .unset] [(.int (9 : Int32)), (.ref b30), (.ref b30)]))
  refine own_of (fun tgt kon => XS.sipush X39.here hx rfl (hb hby at_159) kon) ?_
  show own_Wp _ _ _ _ (T39.setTop (mkF m 162 #[.val (.int p1), .val (.int p2), .val (.ref b1), .unset, .unset, .unset, .unset] [(.int (512 : Int32)), (.int (9 : Int32)), (.ref b30), (.ref b30)]))
  obtain ⟨T40, h40, X40, e40, W40, Aq40, st40⟩ := own_stI X39 hx hZ e39 V_b30 (j := (9 : Int32)) (i := 9) (x := (512 : Int32)) (by decide) (by decide) (g := (mkF m 162 #[.val (.int p1), .val (.int p2), .val (.ref b1), .unset, .unset, .unset, .unset] [(.int (512 : Int32)), (.int (9 : Int32)), (.ref b30), (.ref b30)])) rfl rfl (hb hby at_162)
  refine own_of st40 ?_
  have Zs := Nat.le_trans Zs (Keep.of_wr W40).1
  have O := O.wr W40 g_b30
  have V_b1 := V_b1.other W40 ne_b1_b30
  have V_b30 := Aq40
  have N40 := Fr.snoc X40 N39 g_b30
  show own_Wp _ _ _ _ (T40.setTop (mkF m 163 #[.val (.int p1), .val (.int p2), .val (.ref b1), .unset, .unset, .unset, .unset] [(.ref b30)]))
  refine own_of (fun tgt kon => XS.dup X40.here hx rfl (hb hby at_163) rfl rfl kon) ?_
  show own_Wp _ _ _ _ (T40.setTop (mkF m 164 #[.val (.int p1), .val (.int p2), .val (.ref b1), .unset, .unset, .unset, .unset] [(.ref b30), (.ref b30)]))
  refine own_of (fun tgt kon => XS.bipush X40.here hx rfl (hb hby at_164) kon) ?_
  show own_Wp _ _ _ _ (T40.setTop (mkF m 166 #[.val (.int p1), .val (.int p2), .val (.ref b1), .unset, .unset, .unset, .unset] [(.int (10 : Int32)), (.ref b30), (.ref b30)]))
  refine own_of (fun tgt kon => XS.sipush X40.here hx rfl (hb hby at_166) kon) ?_
  show own_Wp _ _ _ _ (T40.setTop (mkF m 169 #[.val (.int p1), .val (.int p2), .val (.ref b1), .unset, .unset, .unset, .unset] [(.int (1536 : Int32)), (.int (10 : Int32)), (.ref b30), (.ref b30)]))
  obtain ⟨T41, h41, X41, e41, W41, Aq41, st41⟩ := own_stI X40 hx hZ e40 V_b30 (j := (10 : Int32)) (i := 10) (x := (1536 : Int32)) (by decide) (by decide) (g := (mkF m 169 #[.val (.int p1), .val (.int p2), .val (.ref b1), .unset, .unset, .unset, .unset] [(.int (1536 : Int32)), (.int (10 : Int32)), (.ref b30), (.ref b30)])) rfl rfl (hb hby at_169)
  refine own_of st41 ?_
  have Zs := Nat.le_trans Zs (Keep.of_wr W41).1
  have O := O.wr W41 g_b30
  have V_b1 := V_b1.other W41 ne_b1_b30
  have V_b30 := Aq41
  have N41 := Fr.snoc X41 N40 g_b30
  show own_Wp _ _ _ _ (T41.setTop (mkF m 170 #[.val (.int p1), .val (.int p2), .val (.ref b1), .unset, .unset, .unset, .unset] [(.ref b30)]))
  refine own_of (fun tgt kon => XS.dup X41.here hx rfl (hb hby at_170) rfl rfl kon) ?_
  show own_Wp _ _ _ _ (T41.setTop (mkF m 171 #[.val (.int p1), .val (.int p2), .val (.ref b1), .unset, .unset, .unset, .unset] [(.ref b30), (.ref b30)]))
  refine own_of (fun tgt kon => XS.bipush X41.here hx rfl (hb hby at_171) kon) ?_
  show own_Wp _ _ _ _ (T41.setTop (mkF m 173 #[.val (.int p1), .val (.int p2), .val (.ref b1), .unset, .unset, .unset, .unset] [(.int (11 : Int32)), (.ref b30), (.ref b30)]))
  refine own_of (fun tgt kon => XS.sipush X41.here hx rfl (hb hby at_173) kon) ?_
  show own_Wp _ _ _ _ (T41.setTop (mkF m 176 #[.val (.int p1), .val (.int p2), .val (.ref b1), .unset, .unset, .unset, .unset] [(.int (2048 : Int32)), (.int (11 : Int32)), (.ref b30), (.ref b30)]))
  obtain ⟨T42, h42, X42, e42, W42, Aq42, st42⟩ := own_stI X41 hx hZ e41 V_b30 (j := (11 : Int32)) (i := 11) (x := (2048 : Int32)) (by decide) (by decide) (g := (mkF m 176 #[.val (.int p1), .val (.int p2), .val (.ref b1), .unset, .unset, .unset, .unset] [(.int (2048 : Int32)), (.int (11 : Int32)), (.ref b30), (.ref b30)])) rfl rfl (hb hby at_176)
  refine own_of st42 ?_
  have Zs := Nat.le_trans Zs (Keep.of_wr W42).1
  have O := O.wr W42 g_b30
  have V_b1 := V_b1.other W42 ne_b1_b30
  have V_b30 := Aq42
  have N42 := Fr.snoc X42 N41 g_b30
  show own_Wp _ _ _ _ (T42.setTop (mkF m 177 #[.val (.int p1), .val (.int p2), .val (.ref b1), .unset, .unset, .unset, .unset] [(.ref b30)]))
  refine own_of (fun tgt kon => XS.dup X42.here hx rfl (hb hby at_177) rfl rfl kon) ?_
  show own_Wp _ _ _ _ (T42.setTop (mkF m 178 #[.val (.int p1), .val (.int p2), .val (.ref b1), .unset, .unset, .unset, .unset] [(.ref b30), (.ref b30)]))
  refine own_of (fun tgt kon => XS.bipush X42.here hx rfl (hb hby at_178) kon) ?_
  show own_Wp _ _ _ _ (T42.setTop (mkF m 180 #[.val (.int p1), .val (.int p2), .val (.ref b1), .unset, .unset, .unset, .unset] [(.int (12 : Int32)), (.ref b30), (.ref b30)]))
  refine own_of (fun tgt kon => XS.sipush X42.here hx rfl (hb hby at_180) kon) ?_
  show own_Wp _ _ _ _ (T42.setTop (mkF m 183 #[.val (.int p1), .val (.int p2), .val (.ref b1), .unset, .unset, .unset, .unset] [(.int (4096 : Int32)), (.int (12 : Int32)), (.ref b30), (.ref b30)]))
  obtain ⟨T43, h43, X43, e43, W43, Aq43, st43⟩ := own_stI X42 hx hZ e42 V_b30 (j := (12 : Int32)) (i := 12) (x := (4096 : Int32)) (by decide) (by decide) (g := (mkF m 183 #[.val (.int p1), .val (.int p2), .val (.ref b1), .unset, .unset, .unset, .unset] [(.int (4096 : Int32)), (.int (12 : Int32)), (.ref b30), (.ref b30)])) rfl rfl (hb hby at_183)
  refine own_of st43 ?_
  have Zs := Nat.le_trans Zs (Keep.of_wr W43).1
  have O := O.wr W43 g_b30
  have V_b1 := V_b1.other W43 ne_b1_b30
  have V_b30 := Aq43
  have N43 := Fr.snoc X43 N42 g_b30
  show own_Wp _ _ _ _ (T43.setTop (mkF m 184 #[.val (.int p1), .val (.int p2), .val (.ref b1), .unset, .unset, .unset, .unset] [(.ref b30)]))
  refine own_of (fun tgt kon => XS.dup X43.here hx rfl (hb hby at_184) rfl rfl kon) ?_
  show own_Wp _ _ _ _ (T43.setTop (mkF m 185 #[.val (.int p1), .val (.int p2), .val (.ref b1), .unset, .unset, .unset, .unset] [(.ref b30), (.ref b30)]))
  refine own_of (fun tgt kon => XS.bipush X43.here hx rfl (hb hby at_185) kon) ?_
  show own_Wp _ _ _ _ (T43.setTop (mkF m 187 #[.val (.int p1), .val (.int p2), .val (.ref b1), .unset, .unset, .unset, .unset] [(.int (13 : Int32)), (.ref b30), (.ref b30)]))
  refine own_of (fun tgt kon => XS.sipush X43.here hx rfl (hb hby at_187) kon) ?_
  show own_Wp _ _ _ _ (T43.setTop (mkF m 190 #[.val (.int p1), .val (.int p2), .val (.ref b1), .unset, .unset, .unset, .unset] [(.int (8192 : Int32)), (.int (13 : Int32)), (.ref b30), (.ref b30)]))
  obtain ⟨T44, h44, X44, e44, W44, Aq44, st44⟩ := own_stI X43 hx hZ e43 V_b30 (j := (13 : Int32)) (i := 13) (x := (8192 : Int32)) (by decide) (by decide) (g := (mkF m 190 #[.val (.int p1), .val (.int p2), .val (.ref b1), .unset, .unset, .unset, .unset] [(.int (8192 : Int32)), (.int (13 : Int32)), (.ref b30), (.ref b30)])) rfl rfl (hb hby at_190)
  refine own_of st44 ?_
  have Zs := Nat.le_trans Zs (Keep.of_wr W44).1
  have O := O.wr W44 g_b30
  have V_b1 := V_b1.other W44 ne_b1_b30
  have V_b30 := Aq44
  have N44 := Fr.snoc X44 N43 g_b30
  show own_Wp _ _ _ _ (T44.setTop (mkF m 191 #[.val (.int p1), .val (.int p2), .val (.ref b1), .unset, .unset, .unset, .unset] [(.ref b30)]))
  have V_b30 := V_b30.fn (f' := fun k => .int (own_imp k)) (by intro k hk; rcases k with _ | _ | _ | _ | _ | _ | _ | _ | _ | _ | _ | _ | _ | _ | k <;> first | rfl | omega)
  refine own_of (fun tgt kon => XS.astoreN X44.here hx rfl (hb hby at_191) rfl rfl (l' := #[.val (.int p1), .val (.int p2), .val (.ref b1), .val (.ref b30), .unset, .unset, .unset]) rfl kon) ?_
  show own_Wp _ _ _ _ (T44.setTop (mkF m 192 #[.val (.int p1), .val (.int p2), .val (.ref b1), .val (.ref b30), .unset, .unset, .unset] []))
  refine own_of (fun tgt kon => XS.iloadN X44.here hx rfl (hb hby at_192) rfl kon) ?_
  show own_Wp _ _ _ _ (T44.setTop (mkF m 193 #[.val (.int p1), .val (.int p2), .val (.ref b1), .val (.ref b30), .unset, .unset, .unset] [(.int p1)]))
  refine own_of (X44.ldcInt hx hown (mvT hZ (hw _ (List.mem_of_getElem? (i := 33) rfl))) (g := (mkF m 193 #[.val (.int p1), .val (.int p2), .val (.ref b1), .val (.ref b30), .unset, .unset, .unset] [(.int p1)])) rfl (hb hby at_193)) ?_
  show own_Wp _ _ _ _ (T44.setTop (mkF m 195 #[.val (.int p1), .val (.int p2), .val (.ref b1), .val (.ref b30), .unset, .unset, .unset] [(.int (2147483647 : Int32)), (.int p1)]))
  refine own_of (fun tgt kon => XS.iand X44.here hx rfl (hb hby at_195) rfl kon) ?_
  show own_Wp _ _ _ _ (T44.setTop (mkF m 196 #[.val (.int p1), .val (.int p2), .val (.ref b1), .val (.ref b30), .unset, .unset, .unset] [(.int (p1 &&& (2147483647 : Int32)))]))
  refine own_of (fun tgt kon => XS.bipush X44.here hx rfl (hb hby at_196) kon) ?_
  show own_Wp _ _ _ _ (T44.setTop (mkF m 198 #[.val (.int p1), .val (.int p2), .val (.ref b1), .val (.ref b30), .unset, .unset, .unset] [(.int (14 : Int32)), (.int (p1 &&& (2147483647 : Int32)))]))
  refine own_of (fun tgt kon => iremM X44 hx rfl (hb hby at_198) rfl (by decide) kon) ?_
  show own_Wp _ _ _ _ (T44.setTop (mkF m 199 #[.val (.int p1), .val (.int p2), .val (.ref b1), .val (.ref b30), .unset, .unset, .unset] [(.int ((p1 &&& (2147483647 : Int32)) % (14 : Int32)))]))
  obtain ⟨ii, h_ii⟩ : ∃ q : Int32, q = ((p1 &&& (2147483647 : Int32)) % (14 : Int32)) := ⟨_, rfl⟩
  rw [← h_ii]
  refine own_of (fun tgt kon => XS.istore X44.here hx rfl (hb hby at_199) rfl (l' := #[.val (.int p1), .val (.int p2), .val (.ref b1), .val (.ref b30), .val (.int ii), .unset, .unset]) rfl kon) ?_
  show own_Wp _ _ _ _ (T44.setTop (mkF m 201 #[.val (.int p1), .val (.int p2), .val (.ref b1), .val (.ref b30), .val (.int ii), .unset, .unset] []))
  refine own_of (fun tgt kon => XS.iloadN X44.here hx rfl (hb hby at_201) rfl kon) ?_
  show own_Wp _ _ _ _ (T44.setTop (mkF m 202 #[.val (.int p1), .val (.int p2), .val (.ref b1), .val (.ref b30), .val (.int ii), .unset, .unset] [(.int p2)]))
  refine own_of (X44.ldcInt hx hown (mvT hZ (hw _ (List.mem_of_getElem? (i := 33) rfl))) (g := (mkF m 202 #[.val (.int p1), .val (.int p2), .val (.ref b1), .val (.ref b30), .val (.int ii), .unset, .unset] [(.int p2)])) rfl (hb hby at_202)) ?_
  show own_Wp _ _ _ _ (T44.setTop (mkF m 204 #[.val (.int p1), .val (.int p2), .val (.ref b1), .val (.ref b30), .val (.int ii), .unset, .unset] [(.int (2147483647 : Int32)), (.int p2)]))
  refine own_of (fun tgt kon => XS.iand X44.here hx rfl (hb hby at_204) rfl kon) ?_
  show own_Wp _ _ _ _ (T44.setTop (mkF m 205 #[.val (.int p1), .val (.int p2), .val (.ref b1), .val (.ref b30), .val (.int ii), .unset, .unset] [(.int (p2 &&& (2147483647 : Int32)))]))
  refine own_of (fun tgt kon => XS.bipush X44.here hx rfl (hb hby at_205) kon) ?_
  show own_Wp _ _ _ _ (T44.setTop (mkF m 207 #[.val (.int p1), .val (.int p2), .val (.ref b1), .val (.ref b30), .val (.int ii), .unset, .unset] [(.int (14 : Int32)), (.int (p2 &&& (2147483647 : Int32)))]))
  refine own_of (fun tgt kon => iremM X44 hx rfl (hb hby at_207) rfl (by decide) kon) ?_
  show own_Wp _ _ _ _ (T44.setTop (mkF m 208 #[.val (.int p1), .val (.int p2), .val (.ref b1), .val (.ref b30), .val (.int ii), .unset, .unset] [(.int ((p2 &&& (2147483647 : Int32)) % (14 : Int32)))]))
  obtain ⟨jj, h_jj⟩ : ∃ q : Int32, q = ((p2 &&& (2147483647 : Int32)) % (14 : Int32)) := ⟨_, rfl⟩
  rw [← h_jj]
  refine own_of (fun tgt kon => XS.istore X44.here hx rfl (hb hby at_208) rfl (l' := #[.val (.int p1), .val (.int p2), .val (.ref b1), .val (.ref b30), .val (.int ii), .val (.int jj), .unset]) rfl kon) ?_
  show own_Wp _ _ _ _ (T44.setTop (mkF m 210 #[.val (.int p1), .val (.int p2), .val (.ref b1), .val (.ref b30), .val (.int ii), .val (.int jj), .unset] []))
  obtain ⟨i, hi, hii, hi2⟩ := own_rem14 h_ii
  obtain ⟨j, hj, hjj, hj2⟩ := own_rem14 h_jj
  refine own_of (fun tgt kon => XS.aloadN X44.here hx rfl (hb hby at_210) rfl rfl kon) ?_
  show own_Wp _ _ _ _ (T44.setTop (mkF m 211 #[.val (.int p1), .val (.int p2), .val (.ref b1), .val (.ref b30), .val (.int ii), .val (.int jj), .unset] [(.ref b30)]))
  refine own_of (fun tgt kon => XS.iload X44.here hx rfl (hb hby at_211) rfl kon) ?_
  show own_Wp _ _ _ _ (T44.setTop (mkF m 213 #[.val (.int p1), .val (.int p2), .val (.ref b1), .val (.ref b30), .val (.int ii), .val (.int jj), .unset] [(.int ii), (.ref b30)]))
  refine own_iaload X44 hx hZ e44 V_b30 (j := ii) (i := i) (v := (own_imp i)) hii hi rfl (g := (mkF m 213 #[.val (.int p1), .val (.int p2), .val (.ref b1), .val (.ref b30), .val (.int ii), .val (.int jj), .unset] [(.int ii), (.ref b30)])) rfl rfl (hb hby at_213) ?_
  show own_Wp _ _ _ _ (T44.setTop (mkF m 214 #[.val (.int p1), .val (.int p2), .val (.ref b1), .val (.ref b30), .val (.int ii), .val (.int jj), .unset] [(.int (own_imp i))]))
  refine own_of (fun tgt kon => XS.iload X44.here hx rfl (hb hby at_214) rfl kon) ?_
  show own_Wp _ _ _ _ (T44.setTop (mkF m 216 #[.val (.int p1), .val (.int p2), .val (.ref b1), .val (.ref b30), .val (.int ii), .val (.int jj), .unset] [(.int jj), (.int (own_imp i))]))
  refine own_of (fun tgt kon => XS.ishr X44.here hx rfl (hb hby at_216) rfl kon) ?_
  show own_Wp _ _ _ _ (T44.setTop (mkF m 217 #[.val (.int p1), .val (.int p2), .val (.ref b1), .val (.ref b30), .val (.int ii), .val (.int jj), .unset] [(.int ((own_imp i) >>> (jj &&& 31)))]))
  refine own_of (fun tgt kon => XS.iconst X44.here hx rfl (hb hby at_217) kon) ?_
  show own_Wp _ _ _ _ (T44.setTop (mkF m 218 #[.val (.int p1), .val (.int p2), .val (.ref b1), .val (.ref b30), .val (.int ii), .val (.int jj), .unset] [(.int (1 : Int32)), (.int ((own_imp i) >>> (jj &&& 31)))]))
  refine own_of (fun tgt kon => XS.iand X44.here hx rfl (hb hby at_218) rfl kon) ?_
  show own_Wp _ _ _ _ (T44.setTop (mkF m 219 #[.val (.int p1), .val (.int p2), .val (.ref b1), .val (.ref b30), .val (.int ii), .val (.int jj), .unset] [(.int (((own_imp i) >>> (jj &&& 31)) &&& (1 : Int32)))]))
  have J227 : ∀ (ex : Int32), (ex = if ((own_imp i) >>> (jj &&& 31)) &&& (1 : Int32) = (0 : Int32) then (0 : Int32) else 1) → own_Wp p.tables e below (own_K room_1 s below (Q_rm0 Z p1 p2 oo h0 n0)) (T44.setTop (mkF m 227 #[.val (.int p1), .val (.int p2), .val (.ref b1), .val (.ref b30), .val (.int ii), .val (.int jj), .unset] [(.int ex)])) := by
    intro ex h_ex
    refine own_of (fun tgt kon => XS.istore X44.here hx rfl (hb hby at_227) rfl (l' := #[.val (.int p1), .val (.int p2), .val (.ref b1), .val (.ref b30), .val (.int ii), .val (.int jj), .val (.int ex)]) rfl kon) ?_
    show own_Wp _ _ _ _ (T44.setTop (mkF m 229 #[.val (.int p1), .val (.int p2), .val (.ref b1), .val (.ref b30), .val (.int ii), .val (.int jj), .val (.int ex)] []))
    refine own_of (fun tgt kon => XS.aloadN X44.here hx rfl (hb hby at_229) rfl rfl kon) ?_
    show own_Wp _ _ _ _ (T44.setTop (mkF m 230 #[.val (.int p1), .val (.int p2), .val (.ref b1), .val (.ref b30), .val (.int ii), .val (.int jj), .val (.int ex)] [(.ref b1)]))
    refine own_of (fun tgt kon => XS.iload X44.here hx rfl (hb hby at_230) rfl kon) ?_
    show own_Wp _ _ _ _ (T44.setTop (mkF m 232 #[.val (.int p1), .val (.int p2), .val (.ref b1), .val (.ref b30), .val (.int ii), .val (.int jj), .val (.int ex)] [(.int ii), (.ref b1)]))
    refine own_aaload X44 hx hZ e44 V_b1.1 (j := ii) (i := i) (v := (.ref (oo i))) hii hi rfl (g := (mkF m 232 #[.val (.int p1), .val (.int p2), .val (.ref b1), .val (.ref b30), .val (.int ii), .val (.int jj), .val (.int ex)] [(.int ii), (.ref b1)])) rfl rfl (hb hby at_232) ?_
    show own_Wp _ _ _ _ (T44.setTop (mkF m 233 #[.val (.int p1), .val (.int p2), .val (.ref b1), .val (.ref b30), .val (.int ii), .val (.int jj), .val (.int ex)] [(.ref (oo i))]))
    refine own_of (fun tgt kon => XS.aloadN X44.here hx rfl (hb hby at_233) rfl rfl kon) ?_
    show own_Wp _ _ _ _ (T44.setTop (mkF m 234 #[.val (.int p1), .val (.int p2), .val (.ref b1), .val (.ref b30), .val (.int ii), .val (.int jj), .val (.int ex)] [(.ref b1), (.ref (oo i))]))
    refine own_of (fun tgt kon => XS.iload X44.here hx rfl (hb hby at_234) rfl kon) ?_
    show own_Wp _ _ _ _ (T44.setTop (mkF m 236 #[.val (.int p1), .val (.int p2), .val (.ref b1), .val (.ref b30), .val (.int ii), .val (.int jj), .val (.int ex)] [(.int jj), (.ref b1), (.ref (oo i))]))
    refine own_aaload X44 hx hZ e44 V_b1.1 (j := jj) (i := j) (v := (.ref (oo j))) hjj hj rfl (g := (mkF m 236 #[.val (.int p1), .val (.int p2), .val (.ref b1), .val (.ref b30), .val (.int ii), .val (.int jj), .val (.int ex)] [(.int jj), (.ref b1), (.ref (oo i))])) rfl rfl (hb hby at_236) ?_
    show own_Wp _ _ _ _ (T44.setTop (mkF m 237 #[.val (.int p1), .val (.int p2), .val (.ref b1), .val (.ref b30), .val (.int ii), .val (.int jj), .val (.int ex)] [(.ref (oo j)), (.ref (oo i))]))
    refine own_callV X44 hx hZ (C := "com/example/ply2/ply2/metadata/AclOperation") (y := (⟨"com/example/ply2/ply2/metadata/AclOperation", "implies", "(Lcom/example/ply2/ply2/metadata/AclOperation;)Z"⟩ : MethodName)) (a := (oo i)) (argsL := [(.ref (oo j))]) (rest := []) (W := 0) hown (hw _ (List.mem_of_getElem? (i := 34) rfl)) (hw _ (List.mem_of_getElem? (i := 35) rfl)) (hw _ (List.mem_of_getElem? (i := 37) rfl)) (hw _ (List.mem_of_getElem? (i := 36) rfl)) (hw _ (List.mem_of_getElem? (i := 3) rfl)) (hw _ (List.mem_of_getElem? (i := 38) rfl)) (by decide) e44 ((E i hi).ext O.2) (rm1 l Z a0 hw [] i j oo own_nm h44 n0 Zs (fun k hk => (S k hk).ext O.2) hinj hi hj) (by decide) (by decide) (by decide) (by decide) (g := (mkF m 237 #[.val (.int p1), .val (.int p2), .val (.ref b1), .val (.ref b30), .val (.int ii), .val (.int jj), .val (.int ex)] [(.ref (oo j)), (.ref (oo i))])) rfl (by rw [hml]; rfl) (lenOf own_pd0 rfl) rfl (by show 2 * 0 + _ ≤ _; exact Nat.le_of_eq rfl) (hb hby at_237) ?_
    rintro T45 L45 _ X45 ⟨rfl, N45q, e45⟩
    have N45 := Fr.app N44 N45q
    show own_Wp _ _ _ _ (T45.setTop (mkF m 240 #[.val (.int p1), .val (.int p2), .val (.ref b1), .val (.ref b30), .val (.int ii), .val (.int jj), .val (.int ex)] [(.int (nar .boolean (own_im i j)))]))
    refine own_of (fun tgt kon => XS.iload X45.here hx rfl (hb hby at_240) rfl kon) ?_
    show own_Wp _ _ _ _ (T45.setTop (mkF m 242 #[.val (.int p1), .val (.int p2), .val (.ref b1), .val (.ref b30), .val (.int ii), .val (.int jj), .val (.int ex)] [(.int ex), (.int (nar .boolean (own_im i j)))]))
    have hc242 : (nar .boolean (own_im i j)) = ex := (own_imeq ⟨i, hi⟩ ⟨j, hj⟩).trans (by rw [h_ex, ← hj2])
    refine own_of (fun tgt kon => XS.icmpNo X45.here hx rfl (hb hby at_242) rfl (teq hc242).2 kon) ?_
    show own_Wp _ _ _ _ (T45.setTop (mkF m 245 #[.val (.int p1), .val (.int p2), .val (.ref b1), .val (.ref b30), .val (.int ii), .val (.int jj), .val (.int ex)] []))
    refine own_of (fun tgt kon => XS.iconst X45.here hx rfl (hb hby at_245) kon) ?_
    show own_Wp _ _ _ _ (T45.setTop (mkF m 246 #[.val (.int p1), .val (.int p2), .val (.ref b1), .val (.ref b30), .val (.int ii), .val (.int jj), .val (.int ex)] [(.int (1 : Int32))]))
    refine own_of (fun tgt kon => XS.goto X45.here hx rfl (pc0 := 246) (pc' := 250) rfl (hb hby at_246) (by decide) (by decide) kon) ?_
    show own_Wp _ _ _ _ (T45.setTop (mkF m 250 #[.val (.int p1), .val (.int p2), .val (.ref b1), .val (.ref b30), .val (.int ii), .val (.int jj), .val (.int ex)] [(.int (1 : Int32))]))
    refine own_ret X45 hlk (some (.int (1 : Int32))) (own_rtI hrt) (fun fs hr => retN X45 hx (t := .boolean) hrt (by simp) (hb hby at_250) hr) ?_ (by decide) (by decide)
    rw [e45]
    exact ⟨rfl, N45⟩
  show own_Wp _ _ _ _ (T44.setTop (mkF m 219 #[.val (.int p1), .val (.int p2), .val (.ref b1), .val (.ref b30), .val (.int ii), .val (.int jj), .unset] [(.int (((own_imp i) >>> (jj &&& 31)) &&& (1 : Int32)))]))
  by_cases hc219 : (((own_imp i) >>> (jj &&& 31)) &&& (1 : Int32)) = (0 : Int32)
  · skip
    refine own_of (fun tgt kon => XS.ifYes X44.here hx rfl (pc0 := 219) (pc' := 226) rfl (hb hby at_219) rfl ((if0 _ _).trans (teq hc219).1) (by decide) (by decide) kon) ?_
    show own_Wp _ _ _ _ (T44.setTop (mkF m 226 #[.val (.int p1), .val (.int p2), .val (.ref b1), .val (.ref b30), .val (.int ii), .val (.int jj), .unset] []))
    refine own_of (fun tgt kon => XS.iconst X44.here hx rfl (hb hby at_226) kon) ?_
    show own_Wp _ _ _ _ (T44.setTop (mkF m 227 #[.val (.int p1), .val (.int p2), .val (.ref b1), .val (.ref b30), .val (.int ii), .val (.int jj), .unset] [(.int (0 : Int32))]))
    exact J227 ((0 : Int32)) (by exact (if_pos hc219).symm)
  · skip
    refine own_of (fun tgt kon => XS.ifNo X44.here hx rfl (hb hby at_219) rfl ((if0 _ _).trans (feq hc219).1) kon) ?_
    show own_Wp _ _ _ _ (T44.setTop (mkF m 222 #[.val (.int p1), .val (.int p2), .val (.ref b1), .val (.ref b30), .val (.int ii), .val (.int jj), .unset] []))
    refine own_of (fun tgt kon => XS.iconst X44.here hx rfl (hb hby at_222) kon) ?_
    show own_Wp _ _ _ _ (T44.setTop (mkF m 223 #[.val (.int p1), .val (.int p2), .val (.ref b1), .val (.ref b30), .val (.int ii), .val (.int jj), .unset] [(.int (1 : Int32))]))
    refine own_of (fun tgt kon => XS.goto X44.here hx rfl (pc0 := 223) (pc' := 227) rfl (hb hby at_223) (by decide) (by decide) kon) ?_
    show own_Wp _ _ _ _ (T44.setTop (mkF m 227 #[.val (.int p1), .val (.int p2), .val (.ref b1), .val (.ref b30), .val (.int ii), .val (.int jj), .unset] [(.int (1 : Int32))]))
    exact J227 ((1 : Int32)) (by exact (if_neg hc219).symm)
set_option maxRecDepth 65536 in
set_option maxHeartbeats 40000000 in
theorem comes_1 {Post : Tables → Env → Array Value → State → Outcome → State → Prop} (hpost : ∀ tb e args s v u, (limb_1_1.after args s (.returned v) u = true ∧ limb_1_2.after args s (.returned v) u = true ∧ True) → FrameEnd s (.returned v) u (Jvm.fieldLocs frame_1_writes args s ++ Jvm.arrayLocs frame_1_arrays args s ++ Jvm.staticLocs frame_1_statics s) 16 128 → Post tb e args s (.returned v) u) :
    ArmFor flags0 classFile x code maxLocals ret World_1 tables_1 room_1 Calls_1 rest_1 Pre_1 Post := by
  intro l hfl _ _ p e ha hc hk s m args below hf hA hF happ hP
  obtain ⟨hcalls, hrest, hpre⟩ := hP
  obtain ⟨-, -, -, hnamed, -, -, -, hat⟩ := (Spec.applies_iff hf).mp happ
  obtain ⟨hg, hn⟩ := and_e (Cond.before_iff.mp (show (Jvm.Cond.and given_1 narrow_1).before args s = true from hpre))
  obtain ⟨g1, g2⟩ := and_e hg
  obtain ⟨g3, g4⟩ := and_e g2
  obtain ⟨w0, w1, rfl⟩ : ∃ w0 w1 : Value, args = #[w0, w1] := by
    have hs : args.size = 2 := by simpa [Cond.value, given_1] using g1
    obtain ⟨L⟩ := args
    match L, hs with
    | [w0, w1], _ => exact ⟨w0, w1, rfl⟩
  have hw := fun d (hd : d ∈ tables_1) => atoms_spec (ws := Jvm.Cond.code x code maxLocals ret :: tables_1) hat d (List.mem_cons_of_mem _ hd)
  have hfit : Fit s := fun {y c} hc i hi => by
    obtain ⟨ha, rfl⟩ := Array.getElem?_eq_some_iff.mp hc
    have q := List.all_eq_true.mp ((Array.all_eq_true_iff_forall_mem.mp hF) _ (Array.getElem_mem ha)) i (List.mem_range.mpr hi)
    simpa [Array.getElem?_eq_getElem hi] using q
  obtain ⟨i0, ei0⟩ := is_v g3
  obtain rfl : w0 = (.int i0) := Option.some.inj ei0
  obtain ⟨i1, ei1⟩ := is_v g4
  obtain rfl : w1 = (.int i1) := Option.some.inj ei1
  obtain ⟨u1, u2⟩ := and_e hn
  obtain ⟨u3, u4⟩ := and_e u2
  obtain ⟨u5, u6⟩ := and_e u4
  obtain ⟨u7, u8⟩ := and_e u6
  obtain ⟨u9, u10⟩ := and_e u8
  obtain ⟨u11, u12⟩ := and_e u10
  obtain ⟨u13, u14⟩ := and_e u12
  obtain ⟨u15, u16⟩ := and_e u14
  obtain ⟨u17, u18⟩ := and_e u16
  obtain ⟨u19, u20⟩ := and_e u18
  obtain ⟨u21, u22⟩ := and_e u20
  obtain ⟨u23, u24⟩ := and_e u22
  obtain ⟨u25, u26⟩ := and_e u24
  obtain ⟨u27, u28⟩ := and_e u26
  obtain ⟨u29, u30⟩ := and_e u28
  obtain ⟨u31, u32⟩ := and_e u30
  obtain ⟨u33, u34⟩ := and_e u32
  obtain ⟨u35, u36⟩ := and_e u34
  obtain ⟨u37, u38⟩ := and_e u36
  obtain ⟨u39, u40⟩ := and_e u38
  obtain ⟨u41, u42⟩ := and_e u40
  obtain ⟨u43, u44⟩ := and_e u42
  obtain ⟨u45, u46⟩ := and_e u44
  obtain ⟨u47, u48⟩ := and_e u46
  obtain ⟨u49, u50⟩ := and_e u48
  obtain ⟨u51, u52⟩ := and_e u50
  obtain ⟨u53, u54⟩ := and_e u52
  obtain ⟨o0, E_o0, ev0⟩ := own_exaRef u1
  have S0 := Sta.start ev0 (Or.inr ⟨(hw _ (List.mem_of_getElem? (i := 3) rfl)), (hw _ (List.mem_of_getElem? (i := 4) rfl))⟩)
  have Fo0 := own_fldI ev0 u29
  obtain ⟨o1, E_o1, ev1⟩ := own_exaRef u3
  have S1 := Sta.start ev1 (Or.inr ⟨(hw _ (List.mem_of_getElem? (i := 3) rfl)), (hw _ (List.mem_of_getElem? (i := 7) rfl))⟩)
  have Fo1 := own_fldI ev1 u31
  obtain ⟨o2, E_o2, ev2⟩ := own_exaRef u5
  have S2 := Sta.start ev2 (Or.inr ⟨(hw _ (List.mem_of_getElem? (i := 3) rfl)), (hw _ (List.mem_of_getElem? (i := 9) rfl))⟩)
  have Fo2 := own_fldI ev2 u45
  obtain ⟨o3, E_o3, ev3⟩ := own_exaRef u7
  have S3 := Sta.start ev3 (Or.inr ⟨(hw _ (List.mem_of_getElem? (i := 3) rfl)), (hw _ (List.mem_of_getElem? (i := 11) rfl))⟩)
  have Fo3 := own_fldI ev3 u33
  obtain ⟨o4, E_o4, ev4⟩ := own_exaRef u9
  have S4 := Sta.start ev4 (Or.inr ⟨(hw _ (List.mem_of_getElem? (i := 3) rfl)), (hw _ (List.mem_of_getElem? (i := 13) rfl))⟩)
  have Fo4 := own_fldI ev4 u47
  obtain ⟨o5, E_o5, ev5⟩ := own_exaRef u11
  have S5 := Sta.start ev5 (Or.inr ⟨(hw _ (List.mem_of_getElem? (i := 3) rfl)), (hw _ (List.mem_of_getElem? (i := 15) rfl))⟩)
  have Fo5 := own_fldI ev5 u41
  obtain ⟨o6, E_o6, ev6⟩ := own_exaRef u13
  have S6 := Sta.start ev6 (Or.inr ⟨(hw _ (List.mem_of_getElem? (i := 3) rfl)), (hw _ (List.mem_of_getElem? (i := 17) rfl))⟩)
  have Fo6 := own_fldI ev6 u53
  obtain ⟨o7, E_o7, ev7⟩ := own_exaRef u15
  have S7 := Sta.start ev7 (Or.inr ⟨(hw _ (List.mem_of_getElem? (i := 3) rfl)), (hw _ (List.mem_of_getElem? (i := 19) rfl))⟩)
  have Fo7 := own_fldI ev7 u35
  obtain ⟨o8, E_o8, ev8⟩ := own_exaRef u17
  have S8 := Sta.start ev8 (Or.inr ⟨(hw _ (List.mem_of_getElem? (i := 3) rfl)), (hw _ (List.mem_of_getElem? (i := 21) rfl))⟩)
  have Fo8 := own_fldI ev8 u43
  obtain ⟨o9, E_o9, ev9⟩ := own_exaRef u19
  have S9 := Sta.start ev9 (Or.inr ⟨(hw _ (List.mem_of_getElem? (i := 3) rfl)), (hw _ (List.mem_of_getElem? (i := 23) rfl))⟩)
  have Fo9 := own_fldI ev9 u37
  obtain ⟨o10, E_o10, ev10⟩ := own_exaRef u21
  have S10 := Sta.start ev10 (Or.inr ⟨(hw _ (List.mem_of_getElem? (i := 3) rfl)), (hw _ (List.mem_of_getElem? (i := 25) rfl))⟩)
  have Fo10 := own_fldI ev10 u39
  obtain ⟨o11, E_o11, ev11⟩ := own_exaRef u23
  have S11 := Sta.start ev11 (Or.inr ⟨(hw _ (List.mem_of_getElem? (i := 3) rfl)), (hw _ (List.mem_of_getElem? (i := 27) rfl))⟩)
  have Fo11 := own_fldI ev11 u49
  obtain ⟨o12, E_o12, ev12⟩ := own_exaRef u25
  have S12 := Sta.start ev12 (Or.inr ⟨(hw _ (List.mem_of_getElem? (i := 3) rfl)), (hw _ (List.mem_of_getElem? (i := 29) rfl))⟩)
  have Fo12 := own_fldI ev12 u54
  obtain ⟨o13, E_o13, ev13⟩ := own_exaRef u27
  have S13 := Sta.start ev13 (Or.inr ⟨(hw _ (List.mem_of_getElem? (i := 3) rfl)), (hw _ (List.mem_of_getElem? (i := 31) rfl))⟩)
  have Fo13 := own_fldI ev13 u51
  obtain ⟨oo, hoo⟩ : ∃ oo : Nat → Addr, oo = fun k => match k with | 0 => o0 | 1 => o1 | 2 => o2 | 3 => o3 | 4 => o4 | 5 => o5 | 6 => o6 | 7 => o7 | 8 => o8 | 9 => o9 | 10 => o10 | 11 => o11 | 12 => o12 | _ => o13 := ⟨_, rfl⟩
  have S : ∀ k, k < 14 → Sta s s.heap "com/example/ply2/ply2/metadata/AclOperation" (own_nm k) "Lcom/example/ply2/ply2/metadata/AclOperation;" (.ref (oo k)) := by
    intro k hk; subst hoo
    rcases k with _ | _ | _ | _ | _ | _ | _ | _ | _ | _ | _ | _ | _ | _ | k
    · exact S0
    · exact S1
    · exact S2
    · exact S3
    · exact S4
    · exact S5
    · exact S6
    · exact S7
    · exact S8
    · exact S9
    · exact S10
    · exact S11
    · exact S12
    · exact S13
    · omega
  have E : ∀ k, k < 14 → Exa s s.heap (oo k) "com/example/ply2/ply2/metadata/AclOperation" := by
    intro k hk; subst hoo
    rcases k with _ | _ | _ | _ | _ | _ | _ | _ | _ | _ | _ | _ | _ | _ | k
    · exact E_o0
    · exact E_o1
    · exact E_o2
    · exact E_o3
    · exact E_o4
    · exact E_o5
    · exact E_o6
    · exact E_o7
    · exact E_o8
    · exact E_o9
    · exact E_o10
    · exact E_o11
    · exact E_o12
    · exact E_o13
    · omega
  have Fo : ∀ k, k < 14 → Fld s s.heap (oo k) "java/lang/Enum" "ordinal" "I" (.int (Int32.ofNat k)) := by
    intro k hk; subst hoo
    rcases k with _ | _ | _ | _ | _ | _ | _ | _ | _ | _ | _ | _ | _ | _ | k
    · exact Fo0
    · exact Fo1
    · exact Fo2
    · exact Fo3
    · exact Fo4
    · exact Fo5
    · exact Fo6
    · exact Fo7
    · exact Fo8
    · exact Fo9
    · exact Fo10
    · exact Fo11
    · exact Fo12
    · exact Fo13
    · omega
  have hinj : ∀ x y, x < 14 → y < 14 → (oo x = oo y ↔ x = y) := by
    intro x y hx hy
    refine ⟨fun q => ?_, fun q => q ▸ rfl⟩
    apply Decidable.byContradiction
    intro q2
    refine (Fo x hx).ne (Fo y hy) ?_ q
    intro q3
    have q4 : Int32.ofNat x = Int32.ofNat y := Value.int.inj q3
    have q5 := congrArg Int32.toInt q4
    rw [Int32.toInt_ofNat_of_lt (by omega), Int32.toInt_ofNat_of_lt (by omega)] at q5
    omega
  obtain ⟨n, o, h1, h2, h3, _, L, rfl, ⟨rfl, N⟩, hq⟩ := rm0 l s _ hw tables_1 i0 i1 oo s.heap s.heap.size (Nat.le_refl _) S E hinj (Old.start s) p e ha hc hk s m _ below hf ((Spec.applies_iff_loose hf).mp happ).1 ⟨rfl, State.Warmed39.refl s, rfl⟩ trivial
  refine ⟨n, _, h1, h2, h3, hpost _ _ _ _ _ _ ⟨Cond.after_iff.mpr rfl, Cond.after_iff.mpr (eq_i res_at (Term.int_eval (1)) rfl), trivial⟩ ⟨hq.1, hq.2.1, (hq.2.2.sift fun y hy => Or.inr (N y hy)).mono (by decide) (by decide)⟩⟩
theorem main_1_1 : Claimed_1_1 := comes_1 fun _ _ _ _ _ _ h hF => ⟨h.1, hF⟩
theorem main_1_2 : Claimed_1_2 := comes_1 fun _ _ _ _ _ _ h hF => ⟨h.2.1, hF⟩
end Jvm.Pilot.@@N@@
namespace Jvm.Pilot.@@N@@
open Jvm Jvm.ClassFile Sem Op Lib Jvm.Free Jvm.Stand Jvm.Pilot.@@N@@.Jvm.D
/-! MADE BY PROGRAM (witnessworld.py) out of the Statement's table words and the real class files: 14 classes; the members and pool entries that the words name. The judged class is class 1, her method 1. -/
namespace start1
open Jvm.ClassFile
def u (s : String) : CpInfo := .utf8 (stringToUtf16 s)
/-- a pool by its gaps: so many unusable entries, then the entry; so many at the end -/
def gap : Nat → List CpInfo → List CpInfo
  | 0, r => r
  | n + 1, r => .unusable :: gap n r
def poolList (es : List (Nat × CpInfo)) (last : Nat) : List CpInfo := es.foldr (fun e r => gap e.1 (e.2 :: r)) (gap last [])
def pool (es : List (Nat × CpInfo)) (last : Nat) : Array CpInfo := ⟨poolList es last⟩
def fileOf (pool : Array CpInfo) (this : Nat) (attrs : Array Attribute := #[]) (ms : Array MethodInfo := #[]) (fl : Nat := 33) (sup : Nat := 0) (ifs : Array Nat := #[]) (fds : Array FieldInfo := #[]) : ClassFile where
  minorVersion := 0
  majorVersion := 65
  constantPool := pool
  accessFlags := fl
  thisClass := this
  superClass := sup
  interfaces := ifs
  fields := fds
  methods := ms
  attributes := attrs
def plain (name : String) (sup : Option ClassId) : Class where
  name := name
  kind := .ordinary
  loader := none
  accessFlags := 33
  super := sup
  interfaces := #[]
  cf := none
  fields := #[]
  methods := #[]
  instanceTypes := #[]
  staticTypes := #[]
  resolved := #[]
  callSites := []
  init := .initialized
  statics := none
  mirror := none

def pool0 : Array CpInfo := pool [(5, u "<init>"), (0, u "()V"), (1, .class_ 10), (1, u "java/lang/Object")] 113

def k0m0 : Method := { name := "<init>", desc := "()V", sig := { parameters := [], returnType := none }, accessFlags := 1, code := none }
/-- java/lang/Object -/
def k0 : Class := { plain "java/lang/Object" none with
  accessFlags := 33
  interfaces := #[]
  cf := some (fileOf pool0 8 #[] #[{ accessFlags := 1, nameIndex := 5, descriptorIndex := 6, attributes := #[] }] 33 0 #[] #[])
  fields := #[]
  methods := #[k0m0]
  instanceTypes := #[]
  staticTypes := #[]
  resolved := Array.replicate 124 none
  statics := none }

def pool1 : Array CpInfo := pool [(2, .class_ 4), (1, u "java/lang/Object"), (0, u "<init>"), (0, u "()V"), (0, .class_ 8), (0, u "com/example/ply2/ply2/metadata/AclOperation"), (0, .fieldref 7 10), (0, .nameAndType 11 12), (0, u "ANY"), (0, u "Lcom/example/ply2/ply2/metadata/AclOperation;"), (0, .fieldref 7 14), (0, .nameAndType 15 12), (0, u "ALL"), (0, .fieldref 7 17), (0, .nameAndType 18 12), (0, u "READ"), (0, .fieldref 7 20), (0, .nameAndType 21 12), (0, u "WRITE"), (0, .fieldref 7 23), (0, .nameAndType 24 12), (0, u "CREATE"), (0, .fieldref 7 26), (0, .nameAndType 27 12), (0, u "DELETE"), (0, .fieldref 7 29), (0, .nameAndType 30 12), (0, u "ALTER"), (0, .fieldref 7 32), (0, .nameAndType 33 12), (0, u "DESCRIBE"), (0, .fieldref 7 35), (0, .nameAndType 36 12), (0, u "CLUSTER_ACTION"), (0, .fieldref 7 38), (0, .nameAndType 39 12), (0, u "DESCRIBE_CONFIGS"), (0, .fieldref 7 41), (0, .nameAndType 42 12), (0, u "ALTER_CONFIGS"), (0, .fieldref 7 44), (0, .nameAndType 45 12), (0, u "IDEMPOTENT_WRITE"), (0, .fieldref 7 47), (0, .nameAndType 48 12), (0, u "CREATE_TOKENS"), (0, .fieldref 7 50), (0, .nameAndType 51 12), (0, u "DESCRIBE_TOKENS"), (0, .integer 2147483647), (0, .methodref 7 54), (0, .nameAndType 55 56), (0, u "implies"), (0, u "(Lcom/example/ply2/ply2/metadata/AclOperation;)Z"), (0, .class_ 58), (0, u "com/example/ply2/ply2/metadata/AclOperationImpliesPinLaw"), (2, u "law"), (0, u "(II)Z")] 7

def k1m0 : Method := { name := "<init>", desc := "()V", sig := { parameters := [], returnType := none }, accessFlags := 2, code := none }
def k1c1 : Code := { maxStack := 4, maxLocals := 7, code := code, exceptionTable := #[], attributes := #[] }
def k1m1 : Method := { name := "law", desc := "(II)Z", sig := { parameters := [.int, .int], returnType := some .boolean }, accessFlags := 9, code := some k1c1 }
/-- com/example/ply2/ply2/metadata/AclOperationImpliesPinLaw -/
def k1 : Class := { plain "com/example/ply2/ply2/metadata/AclOperationImpliesPinLaw" (some 0) with
  accessFlags := 49
  interfaces := #[]
  cf := some (fileOf pool1 57 #[] #[{ accessFlags := 2, nameIndex := 5, descriptorIndex := 6, attributes := #[] }, { accessFlags := 9, nameIndex := 61, descriptorIndex := 62, attributes := #[] }] 49 2 #[] #[])
  fields := #[]
  methods := #[k1m0, k1m1]
  instanceTypes := #[]
  staticTypes := #[]
  resolved := Array.replicate 70 none
  statics := none }

def pool2 : Array CpInfo := pool [(1, .class_ 2), (0, u "java/lang/constant/Constable"), (0, .class_ 4), (0, u "java/lang/Object")] 6

/-- java/lang/constant/Constable -/
def k2 : Class := { plain "java/lang/constant/Constable" (some 0) with
  accessFlags := 1537
  interfaces := #[]
  cf := some (fileOf pool2 1 #[] #[] 1537 3 #[] #[])
  fields := #[]
  methods := #[]
  instanceTypes := #[]
  staticTypes := #[]
  resolved := Array.replicate 11 none
  statics := none }

def pool3 : Array CpInfo := pool [(1, .class_ 2), (0, u "java/lang/Comparable"), (0, .class_ 4), (0, u "java/lang/Object")] 7

/-- java/lang/Comparable -/
def k3 : Class := { plain "java/lang/Comparable" (some 0) with
  accessFlags := 1537
  interfaces := #[]
  cf := some (fileOf pool3 1 #[] #[] 1537 3 #[] #[])
  fields := #[]
  methods := #[]
  instanceTypes := #[]
  staticTypes := #[]
  resolved := Array.replicate 12 none
  statics := none }

def pool4 : Array CpInfo := pool [(1, .class_ 2), (0, u "java/io/Serializable"), (0, .class_ 4), (0, u "java/lang/Object")] 2

/-- java/io/Serializable -/
def k4 : Class := { plain "java/io/Serializable" (some 0) with
  accessFlags := 1537
  interfaces := #[]
  cf := some (fileOf pool4 1 #[] #[] 1537 3 #[] #[])
  fields := #[]
  methods := #[]
  instanceTypes := #[]
  staticTypes := #[]
  resolved := Array.replicate 7 none
  statics := none }

def pool5 : Array CpInfo := pool [(2, .class_ 4), (1, u "java/lang/Enum"), (0, u "name"), (0, u "Ljava/lang/String;"), (2, u "ordinal"), (0, u "I"), (1, .class_ 14), (1, u "java/lang/Object"), (4, u "hash"), (86, .class_ 108), (1, u "java/lang/Enum$EnumDesc"), (2, .class_ 112), (0, u "java/lang/constant/Constable"), (0, .class_ 114), (0, u "java/lang/Comparable"), (0, .class_ 116), (0, u "java/io/Serializable")] 87

/-- java/lang/Enum -/
def k5 : Class := { plain "java/lang/Enum" (some 0) with
  accessFlags := 1057
  interfaces := #[2, 3, 4]
  cf := some (fileOf pool5 2 #[.nestMembers #[106]] #[] 1057 12 #[111, 113, 115] #[{ accessFlags := 18, nameIndex := 5, descriptorIndex := 6, attributes := #[] }, { accessFlags := 18, nameIndex := 9, descriptorIndex := 10, attributes := #[] }, { accessFlags := 2, nameIndex := 19, descriptorIndex := 10, attributes := #[] }])
  fields := #[{ name := "name", type := (.object "java/lang/String"), accessFlags := 18, slot := 0, constantValue := 0 }, { name := "ordinal", type := .int, accessFlags := 18, slot := 1, constantValue := 0 }, { name := "hash", type := .int, accessFlags := 2, slot := 2, constantValue := 0 }]
  methods := #[]
  instanceTypes := #[(.object "java/lang/String"), .int, .int]
  staticTypes := #[]
  resolved := Array.replicate 204 none
  statics := none }

def pool6 : Array CpInfo := pool [(9, .class_ 10), (0, u "com/example/ply2/ply2/metadata/AclCode"), (14, .class_ 26), (0, u "java/lang/Object")] 9

/-- com/example/ply2/ply2/metadata/AclCode -/
def k6 : Class := { plain "com/example/ply2/ply2/metadata/AclCode" (some 0) with
  accessFlags := 1536
  interfaces := #[]
  cf := some (fileOf pool6 9 #[] #[] 1536 25 #[] #[])
  fields := #[]
  methods := #[]
  instanceTypes := #[]
  staticTypes := #[]
  resolved := Array.replicate 36 none
  statics := none }

def pool7 : Array CpInfo := pool [(1, .class_ 2), (0, u "com/example/ply2/ply2/metadata/AclOperation"), (2, u "ANY"), (0, u "Lcom/example/ply2/ply2/metadata/AclOperation;"), (0, .fieldref 1 8), (0, .nameAndType 9 6), (0, u "ALL"), (0, .fieldref 1 11), (0, .nameAndType 12 6), (0, u "READ"), (0, .fieldref 1 14), (0, .nameAndType 15 6), (0, u "WRITE"), (2, u "CREATE"), (0, .fieldref 1 20), (0, .nameAndType 21 6), (0, u "DELETE"), (0, .fieldref 1 23), (0, .nameAndType 24 6), (0, u "ALTER"), (0, .fieldref 1 26), (0, .nameAndType 27 6), (0, u "DESCRIBE"), (2, u "CLUSTER_ACTION"), (0, .fieldref 1 32), (0, .nameAndType 33 6), (0, u "DESCRIBE_CONFIGS"), (0, .fieldref 1 35), (0, .nameAndType 36 6), (0, u "ALTER_CONFIGS"), (2, u "IDEMPOTENT_WRITE"), (2, u "CREATE_TOKENS"), (2, u "DESCRIBE_TOKENS"), (2, u "$VALUES"), (0, u "[Lcom/example/ply2/ply2/metadata/AclOperation;"), (6, .class_ 58), (1, u "java/lang/Enum"), (8, u "code"), (0, u "B"), (1, .class_ 72), (1, u "com/example/ply2/ply2/metadata/AclCode"), (34, u "implies"), (0, u "(Lcom/example/ply2/ply2/metadata/AclOperation;)Z")] 6

def k7c0 : Code := { maxStack := 3, maxLocals := 3, code := prog_163_method_6_code, exceptionTable := #[], attributes := #[] }
def k7m0 : Method := { name := "implies", desc := "(Lcom/example/ply2/ply2/metadata/AclOperation;)Z", sig := { parameters := [(.object "com/example/ply2/ply2/metadata/AclOperation")], returnType := some .boolean }, accessFlags := 1, code := some k7c0 }
/-- com/example/ply2/ply2/metadata/AclOperation -/
def k7 : Class := { plain "com/example/ply2/ply2/metadata/AclOperation" (some 5) with
  accessFlags := 16433
  interfaces := #[6]
  cf := some (fileOf pool7 1 #[] #[{ accessFlags := 1, nameIndex := 107, descriptorIndex := 108, attributes := #[] }] 16433 56 #[70] #[{ accessFlags := 16409, nameIndex := 5, descriptorIndex := 6, attributes := #[] }, { accessFlags := 16409, nameIndex := 9, descriptorIndex := 6, attributes := #[] }, { accessFlags := 16409, nameIndex := 12, descriptorIndex := 6, attributes := #[] }, { accessFlags := 16409, nameIndex := 15, descriptorIndex := 6, attributes := #[] }, { accessFlags := 16409, nameIndex := 18, descriptorIndex := 6, attributes := #[] }, { accessFlags := 16409, nameIndex := 21, descriptorIndex := 6, attributes := #[] }, { accessFlags := 16409, nameIndex := 24, descriptorIndex := 6, attributes := #[] }, { accessFlags := 16409, nameIndex := 27, descriptorIndex := 6, attributes := #[] }, { accessFlags := 16409, nameIndex := 30, descriptorIndex := 6, attributes := #[] }, { accessFlags := 16409, nameIndex := 33, descriptorIndex := 6, attributes := #[] }, { accessFlags := 16409, nameIndex := 36, descriptorIndex := 6, attributes := #[] }, { accessFlags := 16409, nameIndex := 39, descriptorIndex := 6, attributes := #[] }, { accessFlags := 16409, nameIndex := 42, descriptorIndex := 6, attributes := #[] }, { accessFlags := 16409, nameIndex := 45, descriptorIndex := 6, attributes := #[] }, { accessFlags := 18, nameIndex := 67, descriptorIndex := 68, attributes := #[] }, { accessFlags := 4122, nameIndex := 48, descriptorIndex := 49, attributes := #[] }])
  fields := #[{ name := "ANY", type := (.object "com/example/ply2/ply2/metadata/AclOperation"), accessFlags := 16409, slot := 0, constantValue := 0 }, { name := "ALL", type := (.object "com/example/ply2/ply2/metadata/AclOperation"), accessFlags := 16409, slot := 1, constantValue := 0 }, { name := "READ", type := (.object "com/example/ply2/ply2/metadata/AclOperation"), accessFlags := 16409, slot := 2, constantValue := 0 }, { name := "WRITE", type := (.object "com/example/ply2/ply2/metadata/AclOperation"), accessFlags := 16409, slot := 3, constantValue := 0 }, { name := "CREATE", type := (.object "com/example/ply2/ply2/metadata/AclOperation"), accessFlags := 16409, slot := 4, constantValue := 0 }, { name := "DELETE", type := (.object "com/example/ply2/ply2/metadata/AclOperation"), accessFlags := 16409, slot := 5, constantValue := 0 }, { name := "ALTER", type := (.object "com/example/ply2/ply2/metadata/AclOperation"), accessFlags := 16409, slot := 6, constantValue := 0 }, { name := "DESCRIBE", type := (.object "com/example/ply2/ply2/metadata/AclOperation"), accessFlags := 16409, slot := 7, constantValue := 0 }, { name := "CLUSTER_ACTION", type := (.object "com/example/ply2/ply2/metadata/AclOperation"), accessFlags := 16409, slot := 8, constantValue := 0 }, { name := "DESCRIBE_CONFIGS", type := (.object "com/example/ply2/ply2/metadata/AclOperation"), accessFlags := 16409, slot := 9, constantValue := 0 }, { name := "ALTER_CONFIGS", type := (.object "com/example/ply2/ply2/metadata/AclOperation"), accessFlags := 16409, slot := 10, constantValue := 0 }, { name := "IDEMPOTENT_WRITE", type := (.object "com/example/ply2/ply2/metadata/AclOperation"), accessFlags := 16409, slot := 11, constantValue := 0 }, { name := "CREATE_TOKENS", type := (.object "com/example/ply2/ply2/metadata/AclOperation"), accessFlags := 16409, slot := 12, constantValue := 0 }, { name := "DESCRIBE_TOKENS", type := (.object "com/example/ply2/ply2/metadata/AclOperation"), accessFlags := 16409, slot := 13, constantValue := 0 }, { name := "code", type := .byte, accessFlags := 18, slot := 3, constantValue := 0 }, { name := "$VALUES", type := (.array (.object "com/example/ply2/ply2/metadata/AclOperation")), accessFlags := 4122, slot := 14, constantValue := 0 }]
  methods := #[k7m0]
  instanceTypes := #[(.object "java/lang/String"), .int, .int, .byte]
  staticTypes := #[(.object "com/example/ply2/ply2/metadata/AclOperation"), (.object "com/example/ply2/ply2/metadata/AclOperation"), (.object "com/example/ply2/ply2/metadata/AclOperation"), (.object "com/example/ply2/ply2/metadata/AclOperation"), (.object "com/example/ply2/ply2/metadata/AclOperation"), (.object "com/example/ply2/ply2/metadata/AclOperation"), (.object "com/example/ply2/ply2/metadata/AclOperation"), (.object "com/example/ply2/ply2/metadata/AclOperation"), (.object "com/example/ply2/ply2/metadata/AclOperation"), (.object "com/example/ply2/ply2/metadata/AclOperation"), (.object "com/example/ply2/ply2/metadata/AclOperation"), (.object "com/example/ply2/ply2/metadata/AclOperation"), (.object "com/example/ply2/ply2/metadata/AclOperation"), (.object "com/example/ply2/ply2/metadata/AclOperation"), (.array (.object "com/example/ply2/ply2/metadata/AclOperation"))]
  resolved := Array.replicate 115 none
  statics := some 0 }

def pool8 : Array CpInfo := pool [(1, u "java/lang/Cloneable"), (0, .class_ 1), (0, u "java/lang/Object"), (0, .class_ 3)] 3

/-- java/lang/Cloneable -/
def k8 : Class := { plain "java/lang/Cloneable" (some 0) with
  accessFlags := 1537
  interfaces := #[]
  cf := some (fileOf pool8 2 #[] #[] 1537 4 #[] #[])
  fields := #[]
  methods := #[]
  instanceTypes := #[]
  staticTypes := #[]
  resolved := Array.replicate 8 none
  statics := none }

/-- the primitive byte -/
def k9 : Class := { plain "byte" none with kind := .primitive 'B', accessFlags := 0x411 }
/-- [B -/
def k10 : Class := { plain "[B" (some 0) with kind := .array 9 .byte, interfaces := #[8, 4], accessFlags := 1041 }

/-- the primitive int -/
def k11 : Class := { plain "int" none with kind := .primitive 'I', accessFlags := 0x411 }
/-- [I -/
def k12 : Class := { plain "[I" (some 0) with kind := .array 11 .int, interfaces := #[8, 4], accessFlags := 1041 }

/-- [Lcom/example/ply2/ply2/metadata/AclOperation; -/
def k13 : Class := { plain "[Lcom/example/ply2/ply2/metadata/AclOperation;" (some 0) with kind := .array 7 (.object "com/example/ply2/ply2/metadata/AclOperation"), interfaces := #[8, 4], accessFlags := 1041 }

def heap : Heap := #[{ cls := 7, slots := #[.ref 1, .ref 2, .ref 3, .ref 4, .ref 5, .ref 6, .ref 7, .ref 8, .ref 9, .ref 10, .ref 11, .ref 12, .ref 13, .ref 14, .null], vm := .statics 7 },
  { cls := 7, slots := #[.null, .int 0, .int 0, .int 0], vm := .none },
  { cls := 7, slots := #[.null, .int 1, .int 0, .int 0], vm := .none },
  { cls := 7, slots := #[.null, .int 2, .int 0, .int 0], vm := .none },
  { cls := 7, slots := #[.null, .int 3, .int 0, .int 0], vm := .none },
  { cls := 7, slots := #[.null, .int 4, .int 0, .int 0], vm := .none },
  { cls := 7, slots := #[.null, .int 5, .int 0, .int 0], vm := .none },
  { cls := 7, slots := #[.null, .int 6, .int 0, .int 0], vm := .none },
  { cls := 7, slots := #[.null, .int 7, .int 0, .int 0], vm := .none },
  { cls := 7, slots := #[.null, .int 8, .int 0, .int 0], vm := .none },
  { cls := 7, slots := #[.null, .int 9, .int 0, .int 0], vm := .none },
  { cls := 7, slots := #[.null, .int 10, .int 0, .int 0], vm := .none },
  { cls := 7, slots := #[.null, .int 11, .int 0, .int 0], vm := .none },
  { cls := 7, slots := #[.null, .int 12, .int 0, .int 0], vm := .none },
  { cls := 7, slots := #[.null, .int 13, .int 0, .int 0], vm := .none }]
def classes : Array Class := #[k0, k1, k2, k3, k4, k5, k6, k7, k8, k9, k10, k11, k12, k13]
def interned : List (Array UInt16 × Addr) := []
def slotsUsed : Nat := 71
def theMethod : MethodId := ⟨1, 1⟩
def args0 : Array Value := #[.int 3, .int 7]
def aboutOver (below : List Frame) : State where
  vm := { classes := classes, interned := interned.toArray }
  heap := heap
  slotsUsed := slotsUsed
  threads := #[{ frames := .invoking theMethod args0 :: below }]
def below0 : List Frame := [.native { method := ⟨0, 0⟩, args := #[] }]
def about1 : State := aboutOver below0
def p0 : Program := .bare "" "" ""
def e0 : Env := launch0.env 0 0 0
theorem w_frames : about1.frames = Frame.invoking theMethod args0 :: below0 := rfl
set_option maxRecDepth 65536 in
theorem w_args : argsFit about1.vm theMethod args0 = true := by decide +kernel
set_option maxRecDepth 65536 in
theorem w_heap : heapFits about1 = true := by decide +kernel
set_option maxRecDepth 65536 in
theorem w_runnable : about1.curStatus? = some .runnable := by decide +kernel
set_option maxRecDepth 65536 in
theorem w_alone : about1.alone = true := by decide +kernel
set_option maxRecDepth 65536 in
theorem w_named : about1.methodNamed? x = some theMethod := by decide +kernel
set_option maxRecDepth 65536 in
theorem w_hears : about1.hears theMethod below0 = true := by decide +kernel
set_option maxRecDepth 65536 in
theorem w_ripe : about1.ripe theMethod args0 below0 = true := by decide +kernel
theorem w_running : about1.status = .running := rfl
set_option maxRecDepth 65536 in
theorem w_room : about1.hasRoom e0.platform room_1 = true :=
  launch0.hasRoom_least _ room_1 (by decide +kernel) (by decide +kernel) (by decide +kernel) (by decide +kernel) (by decide +kernel) (by decide +kernel)
theorem allAtoms_all (ts : List Jvm.Cond) (a : Array Jvm.Value) (st : Jvm.State) : (allAtoms ts).before a st = ts.all (fun c => c.before a st) := by
  induction ts with
  | nil => rfl
  | cons c t ih =>
    show (Jvm.Cond.and c (allAtoms t)).before a st = _
    rw [Jvm.Cond.before_and, ih, List.all_cons]
def words1 : List Jvm.Cond := Jvm.Cond.code x code maxLocals ret :: tables_1
/-- a 'code' word, met by the world's own term for the bytes: nothing is compared byte by byte -/
theorem code_word {y : MethodName} {bytes : ByteArray} {mx : Nat} {rt : Option FieldType} {a : Array Value} {s : State} {m : MethodId} {meth : Method} {c : Code} (h1 : s.methodNamed? y = some m) (h2 : s.vm.method? m = some meth) (h3 : meth.code = some c) (h4 : c.code = bytes)
    (h5 : (c.maxLocals == mx && c.exceptionTable.isEmpty && decide (c.maxStack ≤ mostOperands) && decide (meth.sig.returnType = rt) && !meth.locks && decide (parseMethodDescriptor y.desc = some meth.sig)) = true) : (Jvm.Cond.code y bytes mx rt).before a s = true := by
  simp only [Bool.and_eq_true, beq_iff_eq, Bool.not_eq_true', decide_eq_true_eq] at h5
  obtain ⟨⟨⟨⟨⟨g1, g2⟩, g3⟩, g4⟩, g5⟩, g6⟩ := h5
  simp [Cond.before, Cond.holds, Cond.value, h1, h2, h3, h4, g1, g2, g3, g4, g5, g6]
def isCode : Jvm.Cond → Bool
  | .code _ _ _ _ => true
  | _ => false
theorem all_split {L : List Jvm.Cond} {P : Jvm.Cond → Bool} (h1 : L.all (fun c => isCode c || P c) = true) (h2 : ∀ c ∈ L.filter isCode, P c = true) : L.all P = true := by
  refine List.all_eq_true.mpr fun c hc => ?_
  have h := List.all_eq_true.mp h1 c hc
  rcases Bool.eq_false_or_eq_true (isCode c) with hi | hi
  · exact h2 c (List.mem_filter.mpr ⟨hc, hi⟩)
  · simpa [hi] using h
set_option maxRecDepth 65536 in
theorem w_c0 : (Jvm.Cond.code x code maxLocals ret).before args0 about1 = true := code_word (m := ⟨1, 1⟩) (meth := k1m1) (c := k1c1) (by decide +kernel) rfl rfl rfl (by decide +kernel)
set_option maxRecDepth 65536 in
theorem w_c1 : (Jvm.Cond.code ({ cls := "com/example/ply2/ply2/metadata/AclOperation", name := "implies", desc := "(Lcom/example/ply2/ply2/metadata/AclOperation;)Z" } : Jvm.MethodName) prog_163_method_6_code (3 : Nat) (Option.some Jvm.ClassFile.FieldType.boolean)).before args0 about1 = true := code_word (m := ⟨7, 0⟩) (meth := k7m0) (c := k7c0) (by decide +kernel) rfl rfl rfl (by decide +kernel)
def codes1 : List Jvm.Cond := [Jvm.Cond.code x code maxLocals ret, Jvm.Cond.code ({ cls := "com/example/ply2/ply2/metadata/AclOperation", name := "implies", desc := "(Lcom/example/ply2/ply2/metadata/AclOperation;)Z" } : Jvm.MethodName) prog_163_method_6_code (3 : Nat) (Option.some Jvm.ClassFile.FieldType.boolean)]
set_option maxRecDepth 65536 in
theorem codes_eq : words1.filter isCode = codes1 := rfl
theorem w_codes : ∀ c ∈ words1.filter isCode, c.before args0 about1 = true := by
  rw [codes_eq]
  intro c hc
  simp only [codes1, List.mem_cons, List.not_mem_nil, or_false] at hc
  rcases hc with rfl | rfl
  · exact w_c0
  · exact w_c1
set_option maxRecDepth 65536 in
theorem w_t1 : (words1.take 24).all (fun c => isCode c || c.before args0 about1) = true := by decide +kernel
set_option maxRecDepth 65536 in
theorem w_t2 : (words1.drop 24).all (fun c => isCode c || c.before args0 about1) = true := by decide +kernel
theorem w_tables : (allAtoms (Jvm.Cond.code x code maxLocals ret :: tables_1)).before args0 about1 = true := by
  rw [allAtoms_all]
  show words1.all (fun c => c.before args0 about1) = true
  refine all_split ?_ w_codes
  rw [← List.take_append_drop 24 words1, List.all_append, w_t1, w_t2]
  rfl
set_option maxRecDepth 65536 in
theorem w_case : (Jvm.Cond.and given_1 narrow_1).before args0 about1 = true := by decide +kernel
theorem w_applies : (headSpec (Jvm.Cond.code x code maxLocals ret :: tables_1) room_1).applies x e0.platform about1 = true :=
  (Spec.applies_iff w_frames).mpr ⟨w_running, w_runnable, w_alone, w_named, w_hears, w_ripe, w_room, w_tables⟩
theorem atStart : AtStart classFile x code maxLocals ret World_1 tables_1 room_1 Calls_1 rest_1 Pre_1 launch0 p0 e0 about1 theMethod args0 below0 :=
  ⟨lists_1, trivial, launch0.admits_env _ _ _, launch0.least_env, fairChoices_fair.cas, fairChoices_fair.clock, w_frames, w_args, w_heap, w_applies, trivial, trivial, w_case⟩
end start1
theorem witness_1 : WitnessClaimed_1 := ⟨start1.p0, start1.e0, start1.about1, start1.theMethod, start1.args0, start1.below0, start1.atStart⟩
end Jvm.Pilot.@@N@@
