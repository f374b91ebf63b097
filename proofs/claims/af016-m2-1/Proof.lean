import JvmDerived
import JvmDerived.Pilot.@@N@@Statement
import JvmDerived.Pilot.@@N@@Code
set_option linter.unusedVariables false
set_option linter.unusedSimpArgs false
@@BLOCK:NumsL.lean.txt@@
namespace Jvm.Pilot.@@N@@
open Jvm Jvm.ClassFile Sem Op Lib Jvm.Free Jvm.Stand Jvm.LawKit Jvm.RoadKit Bundle Jvm.Pilot.@@N@@.Jvm.D
section OwnKit
variable {p : Program} {l : Launch} {e : Env} {R : Room} {s : State} {m : MethodId} {args : Array Value} {below : List Frame} {meth : Method} {c : Code} {T : State} {locs : List Loc} {cells slots : Nat} {Z : State} {a0 : Array Value} {h h' : Heap} {K : State → Outcome → Prop}
/-- from here the run comes to an end that K takes -/
def own_Wp (tb : Tables) (e : Env) (below : List Frame) (K : State → Outcome → Prop) (st : State) : Prop := ∃ s₂ o, Steps tb e below st s₂ ∧ K s₂ o
theorem own_of {tb : Tables} {A B : State} (h : ∀ t, Steps tb e below B t → Steps tb e below A t) (w : own_Wp tb e below K B) : own_Wp tb e below K A := by
  obtain ⟨s₂, o, h1, h2⟩ := w
  exact ⟨s₂, o, h _ h1, h2⟩
def own_K (R : Room) (s : State) (below : List Frame) (Q : Option Value → Heap → List Loc → Prop) (s₂ : State) (o : Outcome) : Prop :=
  s₂.status = .running ∧ Ended s₂ below o ∧ ∃ v L, o = .returned v ∧ Q v s₂.heap L ∧ FrameEnd s o s₂ L R.cells R.slots
theorem own_ret {Q : Option Value → Heap → List Loc → Prop} (X : Stand p l e R s m args below meth c T locs cells slots) (hlk : meth.locks = false) (v : Option Value) (hv : meth.sig.returnType = none → v = none) {f : JFrame}
    (hs : ∀ fs, (∀ (f : JFrame) (acts : List Action), f.method = m → f.locked = none → f.entered = [] → (doReturn e (T.setTop f) acts v).1 = T.setFrames fs) → Steps p.tables e below (T.setTop f) (T.setFrames fs))
    (hQ : Q v T.heap locs) (hc : cells ≤ R.cells) (hsl : slots ≤ R.slots) : own_Wp p.tables e below (own_K R s below Q) (T.setTop f) := by
  obtain ⟨fs, hr, hrun, hended, hW, hsame⟩ := X.leave (v := v) hv hlk
  exact ⟨_, _, hs fs hr, hrun, hended, _, _, rfl, hQ, ⟨_, rfl⟩, hW, hsame.mono hc hsl⟩
theorem own_rtI {i : FieldType} {v : Option Value} {r : Option FieldType} (h1 : r = some i) : r = none → v = none := fun h => by rw [h1] at h; cases h
theorem own_retI (X : Stand p l e R s m args below meth c T locs cells slots) (hx : p.tables.exec = Jvm.exec) {pc : Nat} {Ls : Array Slot} {z : Int32} {rest : List Value} (hret : meth.sig.returnType = some .int) (hd : decode c.code pc = .ok (.ireturn, 1)) {fs : List Frame}
    (hl : ∀ (f : JFrame) (acts : List Action), f.method = m → f.locked = none → f.entered = [] → (doReturn e (T.setTop f) acts (some (.int z))).1 = T.setFrames fs) : Steps p.tables e below (T.setTop (mkF m pc Ls (.int z :: rest))) (T.setFrames fs) :=
  retOut X hx hret rfl (Or.inl ⟨rfl, Or.inl rfl, z, rfl⟩) hd hl
theorem own_retJ (X : Stand p l e R s m args below meth c T locs cells slots) (hx : p.tables.exec = Jvm.exec) {pc : Nat} {Ls : Array Slot} {z : Int64} {rest : List Value} (hret : meth.sig.returnType = some .long) (hd : decode c.code pc = .ok (.lreturn, 1)) {fs : List Frame}
    (hl : ∀ (f : JFrame) (acts : List Action), f.method = m → f.locked = none → f.entered = [] → (doReturn e (T.setTop f) acts (some (.long z))).1 = T.setFrames fs) : Steps p.tables e below (T.setTop (mkF m pc Ls (.long z :: rest))) (T.setFrames fs) :=
  retOut X hx hret rfl (Or.inr (Or.inl ⟨rfl, rfl, z, rfl⟩)) hd hl
theorem own_retR (X : Stand p l e R s m args below meth c T locs cells slots) (hx : p.tables.exec = Jvm.exec) {pc : Nat} {Ls : Array Slot} {w : Value} {t : FieldType} {rest : List Value} (hret : meth.sig.returnType = some t) (hw : w.isRef = true) (ht : t.isReference = true) (hn : narrow t w = w) (hd : decode c.code pc = .ok (.areturn, 1)) {fs : List Frame}
    (hl : ∀ (f : JFrame) (acts : List Action), f.method = m → f.locked = none → f.entered = [] → (doReturn e (T.setTop f) acts (some w)).1 = T.setFrames fs) : Steps p.tables e below (T.setTop (mkF m pc Ls (w :: rest))) (T.setFrames fs) :=
  retOut X hx hret hn (Or.inr (Or.inr (Or.inr (Or.inr ⟨rfl, ht, hw⟩)))) hd hl
/-- a method's contract: called so, at the heap h0, it returns as Q says -/
abbrev own_Ctr (l : Launch) (Z : State) (y : MethodName) (bytes : ByteArray) (maxL : Nat) (ret : Option FieldType) (ws : List Jvm.Cond) (rm : Room) (as' : Array Value) (h0 : Heap) (Q : Option Value → Heap → List Loc → Prop) : Prop :=
  MetFree l y (head1 (Jvm.Cond.code y bytes maxL ret :: ws) rm) (fun a U => a = as' ∧ Z.Warmed39 U.vm ∧ U.heap = h0) (fun _ _ _ _ _ => True) (fun _ U o U' => ∃ v L, o = .returned v ∧ Q v U'.heap L ∧ FrameEnd U o U' L rm.cells rm.slots)
theorem own_enter {y : MethodName} {bytes : ByteArray} {maxL : Nat} {ret : Option FieldType} {ws : List Jvm.Cond} {rm : Room} {as' : Array Value} {h0 : Heap} {Q : Option Value → Heap → List Loc → Prop} (hpl : plainFor y = true)
    (body : ∀ (p : Program) (e : Env) (s : State) (m : MethodId) (below : List Frame) (meth : Method) (c : Code) (s₁ : State), Stand p l e rm s m as' below meth c s₁ [] 0 0 → p.tables.exec = Jvm.exec → c.code = bytes → c.maxLocals = maxL → meth.sig.returnType = ret → meth.locks = false → Z.Warmed39 s.vm → s.vm.findClass y.cls = some m.cls → meth.name = y.name → s₁.heap = h0 → own_Wp p.tables e below (own_K rm s below Q) (s₁.setTop (entryFrame m as' maxL))) :
    own_Ctr l Z y bytes maxL ret ws rm as' h0 Q := by
  refine MetFree.of_bodySF hpl hisR ?_
  intro p e s m args below meth c s₁ Bd hml0 hP hK
  obtain ⟨rfl, hZ, hh⟩ := hP
  obtain ⟨s₂, o, h1, h2, h3, h4⟩ := body p e s m below meth c s₁ (Stand.of_body Bd) Bd.exec Bd.bytes hml0 Bd.returns Bd.notSynchronized hZ (findClass_of_methodNamed Bd.named) (name_of_methodNamed Bd.named Bd.method).1 (by rw [← hh, Bd.state]; rfl)
  exact ⟨s₂, o, h1, h2, h3, h4⟩
section Calls
variable {own C : String} {index maxL W : Nat} {y z : MethodName} {bytes : ByteArray} {ret : Option FieldType} {rm : Room} {Q : Option Value → Heap → List Loc → Prop} {argsL rest : List Value} {g : JFrame} {a : Addr}
theorem own_callS (X : Stand p l e R s m args below meth c T locs cells slots) (hx : p.tables.exec = Jvm.exec) (hZ : Z.Warmed39 s.vm) (hown : s.vm.findClass own = some m.cls)
    (w1 : (Jvm.Cond.methodLink own index y).before a0 Z = true) (w2 : (Jvm.Cond.static y).before a0 Z = true) (w3 : (Jvm.Cond.initialized y.cls).before a0 Z = true) (w4 : (Jvm.Cond.code y bytes maxL ret).before a0 Z = true)
    (hy : y.cls ≠ "java/lang/invoke/MethodHandle" ∧ y.cls ≠ "java/lang/invoke/VarHandle") (eT : T.heap = h) (hM : own_Ctr l Z y bytes maxL ret [] rm argsL.toArray h Q)
    (hf : rm.frames + 1 ≤ R.frames) (hl : W + (maxL + 11) + rm.locals ≤ R.locals) (hc : cells + rm.cells ≤ R.cells) (hs : slots + rm.slots ≤ R.slots)
    (hg : g.method = m) (hsize : g.locals.size = c.maxLocals) (hlen : ∀ sig, parseMethodDescriptor y.desc = some sig → argsL.length = sig.parameters.length) (hstack : g.stack = argsL.reverse ++ rest) (hW : 2 * g.monitorRoom + (rest.map fun v => v.category).sum ≤ W) (hdg : decode c.code g.pc = .ok (.invokestatic index, 3))
    (k : ∀ (T' : State) (L : List Loc) (v : Option Value), Stand p l e R s m args below meth c T' (locs ++ L) (cells + rm.cells) (slots + rm.slots) → Q v T'.heap L → own_Wp p.tables e below K (T'.setTop { g with pc := g.pc + 3, stack := v.toList ++ rest })) :
    own_Wp p.tables e below K (T.setTop g) := by
  obtain ⟨v, _, ⟨T', L', k', n'⟩, -, X', ⟨Lc, hQ, l1, y1, z1⟩, st⟩ := Jvm.LawKit.callS X hx hown (mvT hZ w1) (mvT hZ w2) (mvT hZ w3) (mvT hZ w4) hy (backOf (W := W) hM hZ w4 w3 hf hl) hg hsize hlen hstack hW hdg (fun _ _ => ⟨rfl, eT, hc, hs⟩)
  dsimp only [Pt.U, Pt.locs, Pt.cells, Pt.slots] at X' l1 y1 z1 st hQ
  subst l1 y1 z1
  exact own_of st (k _ _ _ X' hQ)
theorem own_callI (X : Stand p l e R s m args below meth c T locs cells slots) (hx : p.tables.exec = Jvm.exec) (hZ : Z.Warmed39 s.vm) (hy1 : y.name = "<init>") (hown : s.vm.findClass own = some m.cls)
    (w1 : (Jvm.Cond.methodLink own index y).before a0 Z = true) (w2 : (Jvm.Cond.instanceMethod y).before a0 Z = true) (w3 : (Jvm.Cond.initialized y.cls).before a0 Z = true) (w4 : (Jvm.Cond.code y bytes maxL none).before a0 Z = true)
    (hy : y.cls ≠ "java/lang/invoke/MethodHandle" ∧ y.cls ≠ "java/lang/invoke/VarHandle") (eT : T.heap = h) (hM : own_Ctr l Z y bytes maxL none [] rm (.ref a :: argsL).toArray h Q)
    (hf : rm.frames + 1 ≤ R.frames) (hl : W + (maxL + 11) + rm.locals ≤ R.locals) (hc : cells + rm.cells ≤ R.cells) (hs : slots + rm.slots ≤ R.slots)
    (hg : g.method = m) (hsize : g.locals.size = c.maxLocals) (hlen : ∀ sig, parseMethodDescriptor y.desc = some sig → argsL.length = sig.parameters.length) (hstack : g.stack = argsL.reverse ++ .ref a :: rest) (hW : 2 * g.monitorRoom + (rest.map fun v => v.category).sum ≤ W) (hdg : decode c.code g.pc = .ok (.invokespecial index, 3))
    (k : ∀ (T' : State) (L : List Loc) (v : Option Value), Stand p l e R s m args below meth c T' (locs ++ L) (cells + rm.cells) (slots + rm.slots) → Q v T'.heap L → own_Wp p.tables e below K (T'.setTop { g with pc := g.pc + 3, stack := v.toList ++ rest })) :
    own_Wp p.tables e below K (T.setTop g) := by
  obtain ⟨v, _, ⟨T', L', k', n'⟩, -, X', ⟨Lc, hQ, l1, y1, z1⟩, st⟩ := X.specialBack hx hy1 hown (mvT hZ w1) (mvT hZ w2) (mvT hZ w4) hy (backOf (W := W) hM hZ w4 w3 hf hl) hg hsize (Steps.refl _) hlen hstack hW hdg (fun _ _ => ⟨rfl, eT, hc, hs⟩)
  dsimp only [Pt.U, Pt.locs, Pt.cells, Pt.slots] at X' l1 y1 z1 st hQ
  subst l1 y1 z1
  exact own_of (fun t q => st.trans q) (k _ _ _ X' hQ)
theorem own_callV (X : Stand p l e R s m args below meth c T locs cells slots) (hx : p.tables.exec = Jvm.exec) (hZ : Z.Warmed39 s.vm) (hown : s.vm.findClass own = some m.cls)
    (w1 : (Jvm.Cond.methodLink own index y).before a0 Z = true) (w2 : (Jvm.Cond.declares y).before a0 Z = true) (w5 : (Jvm.Cond.selects C y y).before a0 Z = true) (w6 : (Jvm.Cond.instanceMethod y).before a0 Z = true) (w3 : (Jvm.Cond.initialized y.cls).before a0 Z = true) (w4 : (Jvm.Cond.code y bytes maxL ret).before a0 Z = true)
    (hy : y.cls ≠ "java/lang/invoke/MethodHandle" ∧ y.cls ≠ "java/lang/invoke/VarHandle") (eT : T.heap = h) (E : Exa Z h a C) (hM : own_Ctr l Z y bytes maxL ret [] rm (.ref a :: argsL).toArray h Q)
    (hf : rm.frames + 1 ≤ R.frames) (hl : W + (maxL + 11) + rm.locals ≤ R.locals) (hc : cells + rm.cells ≤ R.cells) (hs : slots + rm.slots ≤ R.slots)
    (hg : g.method = m) (hsize : g.locals.size = c.maxLocals) (hlen : ∀ sig, parseMethodDescriptor y.desc = some sig → argsL.length = sig.parameters.length) (hstack : g.stack = argsL.reverse ++ .ref a :: rest) (hW : 2 * g.monitorRoom + (rest.map fun v => v.category).sum ≤ W) (hdg : decode c.code g.pc = .ok (.invokevirtual index, 3))
    (k : ∀ (T' : State) (L : List Loc) (v : Option Value), Stand p l e R s m args below meth c T' (locs ++ L) (cells + rm.cells) (slots + rm.slots) → Q v T'.heap L → own_Wp p.tables e below K (T'.setTop { g with pc := g.pc + 3, stack := v.toList ++ rest })) :
    own_Wp p.tables e below K (T.setTop g) := by
  obtain ⟨cq, kq, qa, qb, qc⟩ := isOf hZ eT E
  obtain ⟨v, _, ⟨T', L', k', n'⟩, -, X', ⟨Lc, hQ, l1, y1, z1⟩, st⟩ := X.virtualBack hx hown (mvT hZ w1) (mvT hZ w2) (notFace_of_selects (args := #[]) (mvT hZ w5)) (mvT hZ w5) (mvT hZ w6) hy (backOf (W := W) hM hZ w4 w3 hf hl) qa qc hg hsize (Steps.refl _) hlen hstack hW hdg (fun _ _ => ⟨rfl, eT, hc, hs⟩)
  dsimp only [Pt.U, Pt.locs, Pt.cells, Pt.slots] at X' l1 y1 z1 st hQ
  subst l1 y1 z1
  exact own_of (fun t q => st.trans q) (k _ _ _ X' hQ)
theorem own_callP {nI : Nat} {C0 : String} (X : Stand p l e R s m args below meth c T locs cells slots) (hx : p.tables.exec = Jvm.exec) (hZ : Z.Warmed39 s.vm) (hown : s.vm.findClass own = some m.cls)
    (w1 : (Jvm.Cond.methodLink own index y).before a0 Z = true) (w2 : (Jvm.Cond.instanceMethod y).before a0 Z = true) (wi : (Jvm.Cond.instantiable y.cls nI).before a0 Z = true) (wp : (Jvm.Cond.privateMethod y).before a0 Z = true) (w3 : (Jvm.Cond.initialized y.cls).before a0 Z = true) (w4 : (Jvm.Cond.code y bytes maxL ret).before a0 Z = true)
    (hy : y.cls ≠ "java/lang/invoke/MethodHandle" ∧ y.cls ≠ "java/lang/invoke/VarHandle") (eT : T.heap = h) (E : Exa Z h a C0) (hM : own_Ctr l Z y bytes maxL ret [] rm (.ref a :: argsL).toArray h Q)
    (hf : rm.frames + 1 ≤ R.frames) (hl : W + (maxL + 11) + rm.locals ≤ R.locals) (hc : cells + rm.cells ≤ R.cells) (hs : slots + rm.slots ≤ R.slots)
    (hg : g.method = m) (hsize : g.locals.size = c.maxLocals) (hlen : ∀ sig, parseMethodDescriptor y.desc = some sig → argsL.length = sig.parameters.length) (hstack : g.stack = argsL.reverse ++ .ref a :: rest) (hW : 2 * g.monitorRoom + (rest.map fun v => v.category).sum ≤ W) (hdg : decode c.code g.pc = .ok (.invokevirtual index, 3))
    (k : ∀ (T' : State) (L : List Loc) (v : Option Value), Stand p l e R s m args below meth c T' (locs ++ L) (cells + rm.cells) (slots + rm.slots) → Q v T'.heap L → own_Wp p.tables e below K (T'.setTop { g with pc := g.pc + 3, stack := v.toList ++ rest })) :
    own_Wp p.tables e below K (T.setTop g) := by
  obtain ⟨cq, q1, q2⟩ := E.cell
  obtain ⟨ci, ki, i1, i2, -, i4, -⟩ := Cond.instantiable_spec (mvT (args := args) hZ wi)
  simp only [Bool.or_eq_false_iff] at i4
  have hpr : s.PrivateAt y := Cond.privateMethod_at (mvP hZ wp (args := #[]))
  have hsel : (Jvm.Cond.selects y.cls y y).before args s = true := selects_self_of_private i1 i2 i4.1 hpr (mvT hZ w2) hy
  obtain ⟨v, _, ⟨T', L', k', n'⟩, -, X', ⟨Lc, hQ, l1, y1, z1⟩, st⟩ := X.privateBack hx hown (mvT hZ w1) (mvT hZ w2) hsel hpr (mvT hZ w4) hy (backOf (W := W) hM hZ w4 w3 hf hl) hg hsize (Steps.refl _) (by rw [eT]; exact q1) q2 hlen hstack hW hdg (fun _ _ => ⟨rfl, eT, hc, hs⟩)
  dsimp only [Pt.U, Pt.locs, Pt.cells, Pt.slots] at X' l1 y1 z1 st hQ
  subst l1 y1 z1
  exact own_of (fun t q => st.trans q) (k _ _ _ X' hQ)
end Calls
end OwnKit
section OwnArr
variable {p : Program} {l : Launch} {e : Env} {R : Room} {s : State} {m : MethodId} {args : Array Value} {below : List Frame} {meth : Method} {c : Code} {T : State} {locs : List Loc} {cells slots : Nat} {Z : State} {a0 : Array Value} {h h' : Heap} {K : State → Outcome → Prop}
variable {a b : Addr} {ty : FieldType} {n sl : Nat} {f : Nat → Value} {v : Value} {ws : List Addr}
theorem own_nat {j : Int32} {i : Nat} (hj : j.toInt = (i : Int)) : j.toNatClampNeg = i := by
  show j.toInt.toNat = i
  rw [hj]; exact Int.toNat_natCast i
theorem own_nneg {j : Int32} {i : Nat} (hj : j.toInt = (i : Int)) : ¬ j < 0 := by
  rw [Int32.lt_iff_toInt_lt, hj]
  show ¬ ((i : Int) < 0)
  omega
/-- the array at a: its kind, its length, its elements -/
def own_Ar (Z : State) (h : Heap) (a : Addr) (ty : FieldType) (n : Nat) (f : Nat → Value) : Prop := n < 2147483648 ∧ ∃ c : Cell, Arr Z h a c ty ∧ c.slots.size = n ∧ ∀ i, i < n → c.slots[i]? = some (f i)
def own_set (f : Nat → Value) (i : Nat) (v : Value) : Nat → Value := fun k => if k = i then v else f k
theorem own_set_eq (f : Nat → Value) (i : Nat) (v : Value) : own_set f i v i = v := if_pos rfl
theorem own_set_ne {f : Nat → Value} {i k : Nat} {v : Value} (q : k ≠ i) : own_set f i v k = f k := if_neg q
theorem own_Ar.lt (F : own_Ar Z h a ty n f) : a < h.size := by obtain ⟨_, c, A, -⟩ := F; exact A.lt
theorem own_Ar.ext (F : own_Ar Z h a ty n f) (E : Ext h h') : own_Ar Z h' a ty n f := by obtain ⟨q, c, A, r⟩ := F; exact ⟨q, c, A.ext E, r⟩
theorem own_Ar.other (F : own_Ar Z h a ty n f) (W : Wr h h' b sl v) (q : a ≠ b) : own_Ar Z h' a ty n f := by obtain ⟨q0, c, A, r⟩ := F; exact ⟨q0, c, A.other W q, r⟩
theorem own_Ar.keep (F : own_Ar Z h a ty n f) (K : Keep h h' ws) (q : a ∉ ws) : own_Ar Z h' a ty n f := by obtain ⟨q0, c, A, r⟩ := F; exact ⟨q0, c, ⟨K.2.1 a c A.1 q, A.2⟩, r⟩
theorem own_Ar.fn {f' : Nat → Value} (F : own_Ar Z h a ty n f) (q : ∀ i, i < n → f i = f' i) : own_Ar Z h a ty n f' := by obtain ⟨q0, c, A, r1, r2⟩ := F; exact ⟨q0, c, A, r1, fun i hi => by rw [← q i hi]; exact r2 i hi⟩
theorem own_Ar.new {k : ClassId} {z : Int32} (A : Arr Z h a (newA k ty z) ty) (q : ¬ z < 0) (e : z.toNatClampNeg = n) : own_Ar Z h a ty n (fun _ => defaultValue ty) := by
  refine ⟨by rw [← e]; exact (back32 q).2, _, A, by rw [sz_new, e], fun i hi => ?_⟩
  simp [newA, e, hi]
theorem own_Ar.start (A : Arr Z h a c' ty) (hs : c'.slots.size < 2147483648) (H : ∀ i, i < c'.slots.size → c'.slots[i]? = some (f i)) : own_Ar Z h a ty c'.slots.size f := ⟨hs, _, A, rfl, H⟩
section Steps
variable {j : Int32} {i : Nat} {g : JFrame} {rest : List Value}
theorem own_in {cl : Cell} (hj : j.toInt = (i : Int)) (hi : i < n) (hsz : cl.slots.size = n) : ¬ (j < 0 ∨ cl.slots.size ≤ j.toNatClampNeg) := by
  rw [own_nat hj, hsz]
  rintro (q | q)
  · exact own_nneg hj q
  · omega
theorem own_iaload {v : Int32} (X : Stand p l e R s m args below meth c T locs cells slots) (hx : p.tables.exec = Jvm.exec) (hZ : Z.Warmed39 s.vm) (eT : T.heap = h) (A : own_Ar Z h a .int n f) (hj : j.toInt = (i : Int)) (hi : i < n) (hv : f i = .int v)
    (hg : g.method = m) (hs : g.stack = .int j :: .ref a :: rest) (hd : decode c.code g.pc = .ok (.iaload, 1)) (k : own_Wp p.tables e below K (T.setTop { g with pc := g.pc + 1, stack := .int v :: rest })) : own_Wp p.tables e below K (T.setTop g) := by
  obtain ⟨-, cl, A, hsz, H⟩ := A
  exact own_of (X.iaload hx (by rw [eT]; exact A.1) (State.isArrayOf_alike hZ.alike A.2.1) A.2.2 (own_in hj hi hsz) (by rw [own_nat hj, H i hi, hv]) hg hs hd) k
theorem own_laload {v : Int64} (X : Stand p l e R s m args below meth c T locs cells slots) (hx : p.tables.exec = Jvm.exec) (hZ : Z.Warmed39 s.vm) (eT : T.heap = h) (A : own_Ar Z h a .long n f) (hj : j.toInt = (i : Int)) (hi : i < n) (hv : f i = .long v)
    (hg : g.method = m) (hs : g.stack = .int j :: .ref a :: rest) (hd : decode c.code g.pc = .ok (.laload, 1)) (k : own_Wp p.tables e below K (T.setTop { g with pc := g.pc + 1, stack := .long v :: rest })) : own_Wp p.tables e below K (T.setTop g) := by
  obtain ⟨-, cl, A, hsz, H⟩ := A
  exact own_of (X.laload hx (by rw [eT]; exact A.1) (State.isArrayOf_alike hZ.alike A.2.1) A.2.2 (own_in hj hi hsz) (by rw [own_nat hj, H i hi, hv]) hg hs hd) k
theorem own_baload {v : Int32} (X : Stand p l e R s m args below meth c T locs cells slots) (hx : p.tables.exec = Jvm.exec) (hZ : Z.Warmed39 s.vm) (eT : T.heap = h) (A : own_Ar Z h a .byte n f) (hj : j.toInt = (i : Int)) (hi : i < n) (hv : f i = .int v)
    (hg : g.method = m) (hs : g.stack = .int j :: .ref a :: rest) (hd : decode c.code g.pc = .ok (.baload, 1)) (k : own_Wp p.tables e below K (T.setTop { g with pc := g.pc + 1, stack := .int v :: rest })) : own_Wp p.tables e below K (T.setTop g) := by
  obtain ⟨-, cl, A, hsz, H⟩ := A
  exact own_of (X.baloadBytes hx (by rw [eT]; exact A.1) (State.isArrayOf_alike hZ.alike A.2.1) A.2.2 (own_in hj hi hsz) (by rw [own_nat hj, H i hi, hv]) hg hs hd) k
theorem own_zaload {v : Int32} (X : Stand p l e R s m args below meth c T locs cells slots) (hx : p.tables.exec = Jvm.exec) (hZ : Z.Warmed39 s.vm) (eT : T.heap = h) (A : own_Ar Z h a .boolean n f) (hj : j.toInt = (i : Int)) (hi : i < n) (hv : f i = .int v)
    (hg : g.method = m) (hs : g.stack = .int j :: .ref a :: rest) (hd : decode c.code g.pc = .ok (.baload, 1)) (k : own_Wp p.tables e below K (T.setTop { g with pc := g.pc + 1, stack := .int v :: rest })) : own_Wp p.tables e below K (T.setTop g) := by
  obtain ⟨-, cl, A, hsz, H⟩ := A
  exact own_of (X.baloadBooleans hx (by rw [eT]; exact A.1) (State.isArrayOf_alike hZ.alike A.2.1) A.2.2 (own_in hj hi hsz) (by rw [own_nat hj, H i hi, hv]) hg hs hd) k
theorem own_aaload {C : String} {v : Value} (X : Stand p l e R s m args below meth c T locs cells slots) (hx : p.tables.exec = Jvm.exec) (hZ : Z.Warmed39 s.vm) (eT : T.heap = h) (A : own_Ar Z h a (.object C) n f) (hj : j.toInt = (i : Int)) (hi : i < n) (hv : f i = v)
    (hg : g.method = m) (hs : g.stack = .int j :: .ref a :: rest) (hd : decode c.code g.pc = .ok (.aaload, 1)) (k : own_Wp p.tables e below K (T.setTop { g with pc := g.pc + 1, stack := v :: rest })) : own_Wp p.tables e below K (T.setTop g) := by
  obtain ⟨-, cl, A, hsz, H⟩ := A
  exact own_of (X.aaload hx (by rw [eT]; exact A.1) (State.isArrayOf_alike hZ.alike A.2.1) rfl A.2.2 (own_in hj hi hsz) (by rw [own_nat hj, H i hi, hv]) hg hs hd) k
theorem own_len {z : Int32} (X : Stand p l e R s m args below meth c T locs cells slots) (hx : p.tables.exec = Jvm.exec) (hZ : Z.Warmed39 s.vm) (eT : T.heap = h) (A : own_Ar Z h a ty n f) (hz : z.toInt = (n : Int))
    (hg : g.method = m) (hs : g.stack = .ref a :: rest) (hd : decode c.code g.pc = .ok (.arraylength, 1)) (k : own_Wp p.tables e below K (T.setTop { g with pc := g.pc + 1, stack := .int z :: rest })) : own_Wp p.tables e below K (T.setTop g) := by
  obtain ⟨-, cl, A, hsz, H⟩ := A
  have q : cl.slots.size.toInt32 = z := by rw [hsz, ← own_nat hz]; exact (back32 (own_nneg hz)).1
  rw [← q] at k
  exact own_of (X.arraylength hx (by rw [eT]; exact A.1) (State.isArrayOf_alike hZ.alike A.2.1) hg hs hd) k
theorem own_Ar.set {cl : Cell} {hn : n < 2147483648} (A : Arr Z h a cl ty) (hsz : cl.slots.size = n) (H : ∀ i, i < n → cl.slots[i]? = some (f i)) (hi : i < n) (W : Wr h h' a i v) : own_Ar Z h' a ty n (own_set f i v) := by
  refine ⟨hn, _, A.same W, by rw [sz_set]; exact hsz, fun q hq => ?_⟩
  by_cases e : q = i
  · subst e; rw [own_set_eq]; simp [Cell.setSlot, hsz, hq]
  · rw [own_set_ne e, ← H q hq]; exact Array.getElem?_setIfInBounds_ne (Ne.symm e)
theorem own_stI {x : Int32} (X : Stand p l e R s m args below meth c T locs cells slots) (hx : p.tables.exec = Jvm.exec) (hZ : Z.Warmed39 s.vm) (eT : T.heap = h) (A : own_Ar Z h a .int n f) (hj : j.toInt = (i : Int)) (hi : i < n)
    (hg : g.method = m) (hs : g.stack = .int x :: .int j :: .ref a :: rest) (hd : decode c.code g.pc = .ok (.iastore, 1)) :
    ∃ T' h', Stand p l e R s m args below meth c T' (locs ++ [⟨a, i⟩]) cells slots ∧ T'.heap = h' ∧ Wr h h' a i (.int x) ∧ own_Ar Z h' a .int n (own_set f i (.int x)) ∧ ∀ target, Steps p.tables e below (T'.setTop { g with pc := g.pc + 1, stack := rest }) target → Steps p.tables e below (T.setTop g) target := by
  obtain ⟨hn, cl, A, hsz, H⟩ := A
  obtain ⟨T', h', X', e', W, st⟩ := stI X hx hZ eT A (own_in hj hi hsz) hg hs hd
  rw [own_nat hj] at X' W
  exact ⟨T', h', X', e', W, own_Ar.set (hn := hn) A hsz H hi W, st⟩
theorem own_stJ {x : Int64} (X : Stand p l e R s m args below meth c T locs cells slots) (hx : p.tables.exec = Jvm.exec) (hZ : Z.Warmed39 s.vm) (eT : T.heap = h) (A : own_Ar Z h a .long n f) (hj : j.toInt = (i : Int)) (hi : i < n)
    (hg : g.method = m) (hs : g.stack = .long x :: .int j :: .ref a :: rest) (hd : decode c.code g.pc = .ok (.lastore, 1)) :
    ∃ T' h', Stand p l e R s m args below meth c T' (locs ++ [⟨a, i⟩]) cells slots ∧ T'.heap = h' ∧ Wr h h' a i (.long x) ∧ own_Ar Z h' a .long n (own_set f i (.long x)) ∧ ∀ target, Steps p.tables e below (T'.setTop { g with pc := g.pc + 1, stack := rest }) target → Steps p.tables e below (T.setTop g) target := by
  obtain ⟨hn, cl, A, hsz, H⟩ := A
  obtain ⟨T', h', X', e', W, st⟩ := stJ X hx hZ eT A (own_in hj hi hsz) hg hs hd
  rw [own_nat hj] at X' W
  exact ⟨T', h', X', e', W, own_Ar.set (hn := hn) A hsz H hi W, st⟩
theorem own_stB {x : Int32} (X : Stand p l e R s m args below meth c T locs cells slots) (hx : p.tables.exec = Jvm.exec) (hZ : Z.Warmed39 s.vm) (eT : T.heap = h) (A : own_Ar Z h a .byte n f) (hj : j.toInt = (i : Int)) (hi : i < n)
    (hg : g.method = m) (hs : g.stack = .int x :: .int j :: .ref a :: rest) (hd : decode c.code g.pc = .ok (.bastore, 1)) :
    ∃ T' h', Stand p l e R s m args below meth c T' (locs ++ [⟨a, i⟩]) cells slots ∧ T'.heap = h' ∧ Wr h h' a i (.int x.toInt8.toInt32) ∧ own_Ar Z h' a .byte n (own_set f i (.int x.toInt8.toInt32)) ∧ ∀ target, Steps p.tables e below (T'.setTop { g with pc := g.pc + 1, stack := rest }) target → Steps p.tables e below (T.setTop g) target := by
  obtain ⟨hn, cl, A, hsz, H⟩ := A
  obtain ⟨T', h', X', e', W, st⟩ := stB X hx hZ eT A (own_in hj hi hsz) hg hs hd
  rw [own_nat hj] at X' W
  exact ⟨T', h', X', e', W, own_Ar.set (hn := hn) A hsz H hi W, st⟩
end Steps
theorem own_more {cells' slots' : Nat} (X : Stand p l e R s m args below meth c T locs cells slots) (h1 : cells ≤ cells') (h2 : slots ≤ slots') : Stand p l e R s m args below meth c T locs cells' slots' := { X with same := X.same.mono h1 h2 }
section Start
variable {C nm d : String}
theorem own_refArr {t : Term} (ha : (Jvm.Cond.arrayOf t ty).value args s none s [] = some true) : ∃ (a : Addr) (cl : Cell), Arr s s.heap a cl ty ∧ s.arrayAt? a = some cl ∧ t.eval args s none [] s = some (.ref a) := by
  obtain ⟨a, ev⟩ : ∃ a, t.eval args s none [] s = some (.ref a) := by
    simp only [Cond.value] at ha
    split at ha
    · cases ha
    · split at ha
      · exact ⟨_, by assumption⟩
      · cases ha
      · cases ha
  obtain ⟨cl, A⟩ := Arr.start ev ha
  exact ⟨a, cl, A, IntBox.arrayAt_of A.1 A.2.1 A.2.2, ev⟩
theorem own_exaRef {t : Term} {K : String} (h : (Jvm.Cond.exactly t K).value args s none s [] = some true) : ∃ a, Exa s s.heap a K ∧ t.eval args s none [] s = some (.ref a) := by
  obtain ⟨a', c', cell, k, e1, -⟩ := Cond.exactly_spec (Cond.before_iff.mpr h)
  exact ⟨a', Exa.start e1 h, e1⟩
theorem own_fldOf {t : Term} {v : Value} {O : String} (ev : t.eval args s none [] s = some (.ref a)) (e : (Term.field t O nm d).eval args s none [] s = some v) : Fld s s.heap a O nm d v := by
  simp only [Term.eval, ev, Option.bind_eq_bind, Option.bind_some] at e
  exact Fld.start e
theorem own_fldI {t : Term} {x : Int32} {O : String} (ev : t.eval args s none [] s = some (.ref a)) (h : (Jvm.Cond.eq (.field t O nm d) (.int x)).value args s none s [] = some true) : Fld s s.heap a O nm d (.int x) := by
  cases he : (Term.field t O nm d).eval args s none [] s with
  | none => simp [Cond.value, he] at h
  | some w =>
    have : w = .int x := by
      simp only [Cond.value, he] at h
      rw [show (Term.int x).eval args s none [] s = some (.int x) from rfl] at h
      cases w <;> simp at h
      subst h; rfl
    subst this
    exact own_fldOf ev he
theorem own_isRef {t : Term} (h : (Jvm.Cond.isRef t).value args s none s [] = some true) : ∃ v, t.eval args s none [] s = some v ∧ (v = .null ∨ ∃ b, v = .ref b) := by
  simp only [Cond.value] at h
  cases he : t.eval args s none [] s with
  | none => simp [he] at h
  | some w => rw [he] at h; cases w <;> simp at h <;> simp
theorem own_notZero {t : Term} {x : Int32} (ev : t.eval args s none [] s = some (.int x)) (h : (Jvm.Cond.not (Jvm.Cond.eq t (.int 0))).value args s none s [] = some true) : ¬ x = 0 := by
  intro q
  subst q
  simp [Cond.value, ev, Term.eval] at h
theorem own_ltOf {x y : Int32} {i k : Nat} (h1 : x.toInt = (i : Int)) (h2 : y.toInt = (k : Int)) (h : i < k) : x < y := by
  rw [Int32.lt_iff_toInt_lt, h1, h2]; omega
theorem own_Ar.some {cl : Cell} (A : Arr Z h a cl ty) (hs : cl.slots.size < 2147483648) : own_Ar Z h a ty cl.slots.size (fun k => (cl.slots[k]?).getD .null) :=
  ⟨hs, _, A, rfl, fun i hi => by simp [Array.getElem?_eq_getElem hi]⟩
/-- a static that holds an array, at the start -/
theorem own_staArr (hi : (Jvm.Cond.initialized C).before args s = true) (hl : (Jvm.Cond.laysStatic C nm d).before args s = true) (ha : (Jvm.Cond.arrayOf (.static C nm d) ty).value args s none s [] = some true) :
    ∃ (a : Addr) (cl : Cell), Sta s s.heap C nm d (.ref a) ∧ Arr s s.heap a cl ty ∧ s.arrayAt? a = some cl ∧ (Term.static C nm d).eval args s none [] s = some (.ref a) := by
  obtain ⟨a, ev⟩ : ∃ a, (Term.static C nm d).eval args s none [] s = some (.ref a) := by
    simp only [Cond.value] at ha
    split at ha
    · cases ha
    · split at ha
      · exact ⟨_, by assumption⟩
      · cases ha
      · cases ha
  obtain ⟨cl, A⟩ := Arr.start ev ha
  exact ⟨a, cl, Sta.start ev (Or.inr ⟨hi, hl⟩), A, IntBox.arrayAt_of A.1 A.2.1 A.2.2, ev⟩
/-- an element that the case names -/
theorem own_elemEq {t i b : Term} {x : Int32} {cl : Cell} {jj : Int32} {idx : List Nat} (ev : t.eval args s none idx s = some (.ref a)) (hat : s.arrayAt? a = some cl) (hi : i.eval args s none idx s = some (.int jj)) (hb : b.eval args s none idx s = some (.int x)) (h : (Jvm.Cond.eq (.elem t i) b).value args s none s idx = some true) : ¬ jj < 0 ∧ cl.slots[jj.toNatClampNeg]? = some (.int x) := by
  simp only [Cond.value, hb] at h
  cases he : (Term.elem t i).eval args s none idx s with
  | none => simp [he] at h
  | some w =>
    obtain ⟨a', j', cl', q1, q2, q3, q4, q5⟩ := Term.elem_spec he
    cases ev.symm.trans q1
    cases hi.symm.trans q2
    cases hat.symm.trans q3
    rw [he] at h
    cases w <;> simp at h
    subst h
    exact ⟨fun z => q4 (Or.inl z), q5⟩
theorem own_lenEq {t : Term} {x : Int32} {cl : Cell} (ev : t.eval args s none [] s = some (.ref a)) (hat : s.arrayAt? a = some cl) (h : (Jvm.Cond.eq (.length t) (.int x)).value args s none s [] = some true) : (cl.slots.size : Int) = x.toInt := by
  simp only [Cond.value, Term.eval, ev, hat, Option.bind_eq_bind, Option.bind_some] at h
  by_cases q : cl.slots.size < 2147483648
  · simp [q] at h
    rw [← h]
    exact (Int32.toInt_ofNat_of_lt q).symm
  · simp [q] at h
theorem own_or {A B : Jvm.Cond} {idx : List Nat} (h : (Jvm.Cond.or A B).value args s none s idx = some true) : A.value args s none s idx = some true ∨ B.value args s none s idx = some true := by
  simp only [Cond.value] at h
  split at h
  · exact Or.inr h
  · exact Or.inl h
theorem own_leV {A B : Term} {x y : Int32} {idx : List Nat} (ha : A.eval args s none idx s = some (.int x)) (hb : B.eval args s none idx s = some (.int y)) (h : (Jvm.Cond.le A B).value args s none s idx = some true) : x.toInt ≤ y.toInt := by
  rw [Cond.le_ints ha hb] at h
  exact Int32.le_iff_toInt_le.mp (by simpa using h)
theorem own_ltV {A B : Term} {x y : Int32} {idx : List Nat} (ha : A.eval args s none idx s = some (.int x)) (hb : B.eval args s none idx s = some (.int y)) (h : (Jvm.Cond.lt A B).value args s none s idx = some true) : x.toInt < y.toInt := by
  simp only [Cond.value, ha, hb] at h
  exact Int32.lt_iff_toInt_lt.mp (by simpa using h)
theorem own_idx {k : Nat} (hk : k < 2147483648) : (k.toInt32).toInt = (k : Int) := Int32.toInt_ofNat_of_lt hk
section Elems
variable {t b : Term} {cl : Cell} {x lo hi : Int32} {k : Nat}
theorem own_elemK (ev : ∀ idx, t.eval args s none idx s = some (.ref a)) (hat : s.arrayAt? a = some cl) (hk : k < 2147483648) (hb : b.eval args s none [k] s = some (.int x)) (h : (Jvm.Cond.eq (.elem t (.index 0)) b).value args s none s [k] = some true) : cl.slots[k]? = some (.int x) := by
  have q := (own_elemEq (ev _) hat (Term.index_eval k) hb h).2
  rwa [own_nat (own_idx hk)] at q
theorem own_all1 (ev : ∀ idx, t.eval args s none idx s = some (.ref a)) (hat : s.arrayAt? a = some cl) (hn : cl.slots.size < 2147483648) (h : (Jvm.Cond.all t (.or (.le (.int lo) (.index 0)) (.eq (.elem t (.index 0)) b))).value args s none s [] = some true) (hk : k < cl.slots.size) (h1 : (k : Int) < lo.toInt) (hb : b.eval args s none [k] s = some (.int x)) : cl.slots[k]? = some (.int x) := by
  rcases own_or (Cond.all_elim (ev _) hat h k hk) with q | q
  · have := own_leV rfl (Term.index_eval k) q; rw [own_idx (by omega)] at this; omega
  · exact own_elemK ev hat (by omega) hb q
theorem own_all2 (ev : ∀ idx, t.eval args s none idx s = some (.ref a)) (hat : s.arrayAt? a = some cl) (hn : cl.slots.size < 2147483648) (h : (Jvm.Cond.all t (.or (.lt (.index 0) (.int lo)) (.or (.le (.int hi) (.index 0)) (.eq (.elem t (.index 0)) b)))).value args s none s [] = some true) (hk : k < cl.slots.size) (h1 : lo.toInt ≤ (k : Int)) (h2 : (k : Int) < hi.toInt) (hb : b.eval args s none [k] s = some (.int x)) : cl.slots[k]? = some (.int x) := by
  rcases own_or (Cond.all_elim (ev _) hat h k hk) with q | q
  · have := own_ltV (Term.index_eval k) rfl q; rw [own_idx (by omega)] at this; omega
  · rcases own_or q with q | q
    · have := own_leV rfl (Term.index_eval k) q; rw [own_idx (by omega)] at this; omega
    · exact own_elemK ev hat (by omega) hb q
theorem own_all3 (ev : ∀ idx, t.eval args s none idx s = some (.ref a)) (hat : s.arrayAt? a = some cl) (hn : cl.slots.size < 2147483648) (h : (Jvm.Cond.all t (.or (.lt (.index 0) (.int lo)) (.eq (.elem t (.index 0)) b))).value args s none s [] = some true) (hk : k < cl.slots.size) (h1 : lo.toInt ≤ (k : Int)) (hb : b.eval args s none [k] s = some (.int x)) : cl.slots[k]? = some (.int x) := by
  rcases own_or (Cond.all_elim (ev _) hat h k hk) with q | q
  · have := own_ltV (Term.index_eval k) rfl q; rw [own_idx (by omega)] at this; omega
  · exact own_elemK ev hat (by omega) hb q
theorem own_one (ev : ∀ idx, t.eval args s none idx s = some (.ref a)) (hat : s.arrayAt? a = some cl) (h : (Jvm.Cond.eq (.elem t (.int lo)) (.int x)).value args s none s [] = some true) (hk : lo.toInt = (k : Int)) : cl.slots[k]? = some (.int x) := by
  have q := (own_elemEq (ev _) hat rfl rfl h).2
  rwa [own_nat hk] at q
end Elems
end Start
end OwnArr
section OwnObj
variable {p : Program} {l : Launch} {e : Env} {R : Room} {s : State} {m : MethodId} {args : Array Value} {below : List Frame} {meth : Method} {c : Code} {T : State} {locs : List Loc} {cells slots : Nat} {Z : State} {a0 : Array Value} {h h' : Heap} {K : State → Outcome → Prop}
variable {a b y : Addr} {C : String} {n sl : Nat} {f : Nat → Value} {v : Value} {ws : List Addr}
/-- an array of objects of the class C -/
def own_ArO (Z : State) (h : Heap) (a : Addr) (C : String) (n : Nat) (f : Nat → Value) : Prop := own_Ar Z h a (.object C) n f ∧ ∃ c : Cell, h[a]? = some c ∧ Ovr Z c.cls C
theorem own_ArO.lt (F : own_ArO Z h a C n f) : a < h.size := F.1.lt
theorem own_ArO.ext (F : own_ArO Z h a C n f) (E : Ext h h') : own_ArO Z h' a C n f := ⟨F.1.ext E, by obtain ⟨c, h1, h2⟩ := F.2; exact ⟨c, E.2 _ _ h1, h2⟩⟩
theorem own_ArO.other (F : own_ArO Z h a C n f) (W : Wr h h' b sl v) (q : a ≠ b) : own_ArO Z h' a C n f := ⟨F.1.other W q, by
  obtain ⟨c, h1, h2⟩ := F.2
  obtain ⟨c', e1, -, -, -, e5, -⟩ := wr_at W h1
  exact ⟨c, by rw [← e5 q]; exact e1, h2⟩⟩
theorem own_ArO.keep (F : own_ArO Z h a C n f) (K : Keep h h' ws) (q : a ∉ ws) : own_ArO Z h' a C n f := ⟨F.1.keep K q, by obtain ⟨c, h1, h2⟩ := F.2; exact ⟨c, K.2.1 a c h1 q, h2⟩⟩
theorem own_ArO.fn {f' : Nat → Value} (F : own_ArO Z h a C n f) (q : ∀ i, i < n → f i = f' i) : own_ArO Z h a C n f' := ⟨F.1.fn q, F.2⟩
theorem own_ArO.new {k : ClassId} {z : Int32} (A : Arr Z h a (newA k (.object C) z) (.object C)) (O : Ovr Z k C) (q : ¬ z < 0) (e : z.toNatClampNeg = n) : own_ArO Z h a C n (fun _ => .null) := ⟨own_Ar.new A q e, _, A.1, O⟩
theorem own_stR {j : Int32} {i : Nat} {g : JFrame} {rest : List Value} (X : Stand p l e R s m args below meth c T locs cells slots) (hx : p.tables.exec = Jvm.exec) (hZ : Z.Warmed39 s.vm) (eT : T.heap = h) (A : own_ArO Z h a C n f) (hj : j.toInt = (i : Int)) (hi : i < n) (I : Ins Z h y C true)
    (hg : g.method = m) (hs : g.stack = .ref y :: .int j :: .ref a :: rest) (hd : decode c.code g.pc = .ok (.aastore, 1)) :
    ∃ T' h', Stand p l e R s m args below meth c T' (locs ++ [⟨a, i⟩]) cells slots ∧ T'.heap = h' ∧ Wr h h' a i (.ref y) ∧ own_ArO Z h' a C n (own_set f i (.ref y)) ∧ ∀ target, Steps p.tables e below (T'.setTop { g with pc := g.pc + 1, stack := rest }) target → Steps p.tables e below (T.setTop g) target := by
  obtain ⟨⟨hn, cl, A, hsz, H⟩, c1, o1, o2⟩ := A
  cases A.1.symm.trans o1
  obtain ⟨T', h', X', e', W, st⟩ := stR X hx hZ eT A (own_in hj hi hsz) rfl (Sto.of A o2 I) hg hs hd
  rw [own_nat hj] at X' W
  exact ⟨T', h', X', e', W, ⟨own_Ar.set (hn := hn) A hsz H hi W, _, (A.same W).1, o2⟩, st⟩
end OwnObj
section OwnStart
variable {s : State} {args : Array Value} {Z : State} {a0 : Array Value} {a : Addr}
theorem own_eqI {t : Term} {x : Int32} (h : (Jvm.Cond.eq t (.int x)).value args s none s [] = some true) : t.eval args s none [] s = some (.int x) := by
  simp only [Cond.value] at h
  rw [show (Term.int x).eval args s none [] s = some (.int x) from rfl] at h
  cases he : t.eval args s none [] s with
  | none => simp [he] at h
  | some w =>
    rw [he] at h
    cases w <;> simp at h
    subst h; rfl
theorem own_exaElem {t : Term} {cl : Cell} {K : String} {k : Nat} (ev : ∀ idx, t.eval args s none idx s = some (.ref a)) (hat : s.arrayAt? a = some cl) (hk : k < 2147483648) (h : (Jvm.Cond.exactly (.elem t (.index 0)) K).value args s none s [k] = some true) : ∃ b, cl.slots[k]? = some (.ref b) ∧ Exa s s.heap b K := by
  obtain ⟨b, c', cell, kk, e1, -⟩ := Cond.exactly_spec (show (Jvm.Cond.exactly (.elem t (.index 0)) K).holds args s none s [k] = true by simp [Cond.holds, h])
  obtain ⟨a', j', cl', q1, q2, q3, q4, q5⟩ := Term.elem_spec e1
  cases (ev _).symm.trans q1
  cases (Term.index_eval k).symm.trans q2
  cases hat.symm.trans q3
  rw [own_nat (own_idx hk)] at q5
  exact ⟨b, q5, exa_at e1 h⟩
theorem own_nsRoot {O K : String} {n : Nat} (w : (Jvm.Cond.noSuperclass O).before a0 Z = true) (wi : (Jvm.Cond.instantiable K n).before a0 Z = true) (hn : O ≠ K) : NS Z O K := by
  obtain ⟨c, k, h1, h2, h3, -, -⟩ := Cond.noSuperclass_spec w
  obtain ⟨t, kt, g1, -⟩ := Cond.instantiable_spec wi
  have ne := ids_ne h1 g1 hn
  refine ⟨c, t, h1, g1, fun fuel => ?_⟩
  cases fuel with
  | zero => rfl
  | succ f => simp [Vm.isSubclassAux, ne, h2, h3]
theorem own_nsNo {C S K : String} {n : Nat} (w : (Jvm.Cond.superclass C S).before a0 Z = true) (wi : (Jvm.Cond.instantiable K n).before a0 Z = true) (q : NS Z C K) (hn : C ≠ K) : ∃ c t, Z.vm.findClass C = some c ∧ Z.vm.findClass K = some t ∧ Z.vm.assignable c t = false := by
  obtain ⟨c, t, h0, g0, n3⟩ := q
  obtain ⟨p, k, kp, h1, h2, h3, h4, h5, -, h7⟩ := Cond.superclass_spec h0 w
  obtain ⟨t', kt, g1, g2, g3, g4, -⟩ := Cond.instantiable_spec wi
  cases g0.symm.trans g1
  have ne := ids_ne h0 g0 hn
  simp only [Bool.or_eq_false_iff] at g4
  refine ⟨c, t, h0, g0, ?_⟩
  show Z.vm.assignableAux (255 + 1) c t = false
  simp [Vm.assignableAux, ne, h2, g2, h5, g3, g4.1, Vm.isSubclass, n3]
end OwnStart
def own_eq (x y u w : Int32) : Int32 := if x = u ∧ y = w then 1 else 0
theorem own_eq_comm (x y u w : Int32) : own_eq x y u w = own_eq u w x y := by
  unfold own_eq
  by_cases h : x = u ∧ y = w
  · rw [if_pos h, if_pos ⟨h.1.symm, h.2.symm⟩]
  · rw [if_neg h, if_neg (fun q => h ⟨q.1.symm, q.2.symm⟩)]
theorem own_eq_self (x y : Int32) : own_eq x y x y = 1 := if_pos ⟨rfl, rfl⟩
theorem own_cIdx {x : Int32} (h1 : ¬ x < (-128 : Int32)) (h2 : ¬ (127 : Int32) < x) : (x + (128 : Int32)).toInt = (((x.toInt + 128).toNat : Nat) : Int) ∧ (x.toInt + 128).toNat < 256 := by
  rw [Int32.lt_iff_toInt_lt] at h1 h2
  have l1 : (-128 : Int32).toInt = -128 := by decide
  have l2 : (127 : Int32).toInt = 127 := by decide
  have l3 : (128 : Int32).toInt = 128 := by decide
  rw [Jvm.Kit.i32_add (by omega) (by omega)]
  omega
theorem own_pn0 : plainName "java/lang/Number" = true := by first | (simp [plainName, overriddenIn]; done) | decide +kernel
theorem d6_0 : decode jdk_18_method_1_code 0 = .ok (.aload_n 0, 1) := by decide +kernel
theorem d6_1 : decode jdk_18_method_1_code 1 = .ok (.invokespecial 1, 3) := by decide +kernel
theorem d6_4 : decode jdk_18_method_1_code 4 = .ok (.return_, 1) := by decide +kernel
def Q_rmni (Z : State) (a1 : Addr) (h0 : Heap) (n0 : Nat) (v : Option Value) (h : Heap) (L : List Loc) : Prop := v = none ∧ Fr n0 L ∧ h = h0
set_option maxRecDepth 65536 in
set_option maxHeartbeats 40000000 in
theorem rmni (l : Launch) (Z : State) (a0 : Array Value) (hw : ∀ d ∈ tables_1, d.before a0 Z = true) (ws : List Jvm.Cond) (a1 : Addr) (h0 : Heap) (n0 : Nat) (Z0 : n0 ≤ h0.size)  :
    own_Ctr l Z (⟨"java/lang/Number", "<init>", "()V"⟩ : MethodName) jdk_18_method_1_code 1 none ws ({ frames := 1, cells := 0, slots := 0, locals := 12 } : Room) #[(.ref a1)] h0 (Q_rmni Z a1 h0 n0) := by
  refine own_enter (plainFor_of_name own_pn0) ?_
  intro p e s m below meth c s₁ X0 hx hby hml hrt hlk hZ hown hnm e0
  have N0 := Fr.nil n0
  have Zs := Z0
  rw [show entryFrame m #[(.ref a1)] 1 = mkF m 0 #[.val (.ref a1)] [] from by first | (simp [entryFrame, mkF, argsToLocals, Value.category]; done) | rfl]
  show own_Wp _ _ _ _ (s₁.setTop (mkF m 0 #[.val (.ref a1)] []))
  refine own_of (fun tgt kon => XS.aloadN X0.here hx rfl (hb hby d6_0) rfl rfl kon) ?_
  show own_Wp _ _ _ _ (s₁.setTop (mkF m 1 #[.val (.ref a1)] [(.ref a1)]))
  obtain ⟨T1, X1, e1, st1⟩ := initO X0 hx hZ hown (hw _ (List.mem_of_getElem? (i := 42) rfl)) (hw _ (List.mem_of_getElem? (i := 7) rfl)) (hw _ (List.mem_of_getElem? (i := 8) rfl)) e0 (g := (mkF m 1 #[.val (.ref a1)] [(.ref a1)])) rfl (by rw [hml]; rfl) rfl (hb hby d6_1) (by decide) (W := 0) (by show 2 * 0 + _ ≤ _; exact Nat.le_of_eq rfl) (by decide)
  refine own_of st1 ?_
  show own_Wp _ _ _ _ (T1.setTop (mkF m 4 #[.val (.ref a1)] []))
  refine own_ret X1 hlk none (fun _ => rfl) (fun fs hr => X1.returnOut hx hrt (hb hby d6_4) hr) ?_ (by decide) (by decide)
  rw [e1]
  exact ⟨rfl, N0, rfl⟩
theorem own_pn1 : plainName "java/lang/Integer" = true := by first | (simp [plainName, overriddenIn]; done) | decide +kernel
theorem d5_0 : decode jdk_33_method_23_code 0 = .ok (.aload_n 0, 1) := by decide +kernel
theorem d5_1 : decode jdk_33_method_23_code 1 = .ok (.invokespecial 202, 3) := by decide +kernel
theorem own_pd0 : parseMethodDescriptor "()V" = some ⟨[], none⟩ := by decide +kernel
theorem d5_4 : decode jdk_33_method_23_code 4 = .ok (.aload_n 0, 1) := by decide +kernel
theorem d5_5 : decode jdk_33_method_23_code 5 = .ok (.iload_n 1, 1) := by decide +kernel
theorem d5_6 : decode jdk_33_method_23_code 6 = .ok (.putfield 205, 3) := by decide +kernel
theorem d5_9 : decode jdk_33_method_23_code 9 = .ok (.return_, 1) := by decide +kernel
def Q_rmii (Z : State) (a1 : Addr) (p2 : Int32) (h0 : Heap) (n0 : Nat) (v : Option Value) (h : Heap) (L : List Loc) : Prop := v = none ∧ Fr n0 L ∧ Keep h0 h [a1] ∧ Exa Z h a1 "java/lang/Integer" ∧ Fld Z h a1 "java/lang/Integer" "value" "I" (.int p2)
set_option maxRecDepth 65536 in
set_option maxHeartbeats 40000000 in
theorem rmii (l : Launch) (Z : State) (a0 : Array Value) (hw : ∀ d ∈ tables_1, d.before a0 Z = true) (ws : List Jvm.Cond) (a1 : Addr) (p2 : Int32) (h0 : Heap) (n0 : Nat) (Z0 : n0 ≤ h0.size) (E_a1 : Exa Z h0 a1 "java/lang/Integer") (u_value : Value) (F_value : Fld Z h0 a1 "java/lang/Integer" "value" "I" u_value) (g_a1 : n0 ≤ a1) :
    own_Ctr l Z (⟨"java/lang/Integer", "<init>", "(I)V"⟩ : MethodName) jdk_33_method_23_code 2 none ws ({ frames := 2, cells := 0, slots := 0, locals := 24 } : Room) #[(.ref a1), (.int p2)] h0 (Q_rmii Z a1 p2 h0 n0) := by
  refine own_enter (plainFor_of_name own_pn1) ?_
  intro p e s m below meth c s₁ X0 hx hby hml hrt hlk hZ hown hnm e0
  have N0 := Fr.nil n0
  have Zs := Z0
  have K0 := Keep.refl h0 [a1]
  rw [show entryFrame m #[(.ref a1), (.int p2)] 2 = mkF m 0 #[.val (.ref a1), .val (.int p2)] [] from by first | (simp [entryFrame, mkF, argsToLocals, Value.category]; done) | rfl]
  show own_Wp _ _ _ _ (s₁.setTop (mkF m 0 #[.val (.ref a1), .val (.int p2)] []))
  refine own_of (fun tgt kon => XS.aloadN X0.here hx rfl (hb hby d5_0) rfl rfl kon) ?_
  show own_Wp _ _ _ _ (s₁.setTop (mkF m 1 #[.val (.ref a1), .val (.int p2)] [(.ref a1)]))
  refine own_callI X0 hx hZ (y := (⟨"java/lang/Number", "<init>", "()V"⟩ : MethodName)) (a := a1) (argsL := []) (rest := []) (W := 0) rfl hown (hw _ (List.mem_of_getElem? (i := 36) rfl)) (hw _ (List.mem_of_getElem? (i := 37) rfl)) (hw _ (List.mem_of_getElem? (i := 40) rfl)) (hw _ (List.mem_of_getElem? (i := 41) rfl)) (by decide) e0 (rmni l Z a0 hw [] a1 h0 n0 Zs) (by decide) (by decide) (by decide) (by decide) (g := (mkF m 1 #[.val (.ref a1), .val (.int p2)] [(.ref a1)])) rfl (by rw [hml]; rfl) (lenOf own_pd0 rfl) rfl (by show 2 * 0 + _ ≤ _; exact Nat.le_of_eq rfl) (hb hby d5_1) ?_
  rintro T1 L1 _ X1 ⟨rfl, N1q, e1⟩
  have N1 := Fr.app N0 N1q
  show own_Wp _ _ _ _ (T1.setTop (mkF m 4 #[.val (.ref a1), .val (.int p2)] []))
  refine own_of (fun tgt kon => XS.aloadN X1.here hx rfl (hb hby d5_4) rfl rfl kon) ?_
  show own_Wp _ _ _ _ (T1.setTop (mkF m 5 #[.val (.ref a1), .val (.int p2)] [(.ref a1)]))
  refine own_of (fun tgt kon => XS.iloadN X1.here hx rfl (hb hby d5_5) rfl kon) ?_
  show own_Wp _ _ _ _ (T1.setTop (mkF m 6 #[.val (.ref a1), .val (.int p2)] [(.int p2), (.ref a1)]))
  obtain ⟨T2, h2, X2, e2, W2, st2⟩ := putF X1 hx hZ hown (host := "") (Or.inl (hw _ (List.mem_of_getElem? (i := 43) rfl))) Via.refl e1 F_value E_a1 (Or.inr ⟨(hw _ (List.mem_of_getElem? (i := 44) rfl)), rfl, hnm⟩) (hw _ (List.mem_of_getElem? (i := 31) rfl)) (ty := .int) (by decide) rfl rfl (g := (mkF m 6 #[.val (.ref a1), .val (.int p2)] [(.int p2), (.ref a1)])) rfl rfl (hb hby d5_6)
  refine own_of st2 ?_
  have Fq2 := Fld.same W2 F_value
  have Zs := Nat.le_trans Zs (Keep.of_wr W2).1
  have K0 := K0.wr W2 (Or.inl (List.mem_of_getElem? (i := 0) rfl))
  have E_a1 := E_a1.wr W2
  have F_value := Fq2
  have N2 := Fr.snoc X2 N1 g_a1
  show own_Wp _ _ _ _ (T2.setTop (mkF m 9 #[.val (.ref a1), .val (.int p2)] []))
  refine own_ret X2 hlk none (fun _ => rfl) (fun fs hr => X2.returnOut hx hrt (hb hby d5_9) hr) ?_ (by decide) (by decide)
  rw [e2]
  exact ⟨rfl, N2, K0, E_a1, F_value⟩
theorem own_pn2 : plainName "com/example/ply2/ply2/metadata/ScramCredential$Shape" = true := by first | (simp [plainName, overriddenIn]; done) | decide +kernel
theorem d1_0 : decode prog_209_method_1_code 0 = .ok (.aload_n 0, 1) := by decide +kernel
theorem d1_1 : decode prog_209_method_1_code 1 = .ok (.invokespecial 1, 3) := by decide +kernel
theorem d1_4 : decode prog_209_method_1_code 4 = .ok (.aload_n 0, 1) := by decide +kernel
theorem d1_5 : decode prog_209_method_1_code 5 = .ok (.iload_n 1, 1) := by decide +kernel
theorem d1_6 : decode prog_209_method_1_code 6 = .ok (.putfield 7, 3) := by decide +kernel
theorem d1_9 : decode prog_209_method_1_code 9 = .ok (.aload_n 0, 1) := by decide +kernel
theorem d1_10 : decode prog_209_method_1_code 10 = .ok (.iload_n 2, 1) := by decide +kernel
theorem d1_11 : decode prog_209_method_1_code 11 = .ok (.putfield 13, 3) := by decide +kernel
theorem d1_14 : decode prog_209_method_1_code 14 = .ok (.return_, 1) := by decide +kernel
def Q_rmsi (Z : State) (a1 : Addr) (p2 : Int32) (p3 : Int32) (h0 : Heap) (n0 : Nat) (v : Option Value) (h : Heap) (L : List Loc) : Prop := v = none ∧ Fr n0 L ∧ Keep h0 h [a1] ∧ Exa Z h a1 "com/example/ply2/ply2/metadata/ScramCredential$Shape" ∧ Fld Z h a1 "com/example/ply2/ply2/metadata/ScramCredential$Shape" "iterations" "I" (.int p2) ∧ Fld Z h a1 "com/example/ply2/ply2/metadata/ScramCredential$Shape" "saltLength" "I" (.int p3)
set_option maxRecDepth 65536 in
set_option maxHeartbeats 40000000 in
theorem rmsi (l : Launch) (Z : State) (a0 : Array Value) (hw : ∀ d ∈ tables_1, d.before a0 Z = true) (ws : List Jvm.Cond) (a1 : Addr) (p2 : Int32) (p3 : Int32) (h0 : Heap) (n0 : Nat) (Z0 : n0 ≤ h0.size) (E_a1 : Exa Z h0 a1 "com/example/ply2/ply2/metadata/ScramCredential$Shape") (u_iterations : Value) (u_saltLength : Value) (F_iterations : Fld Z h0 a1 "com/example/ply2/ply2/metadata/ScramCredential$Shape" "iterations" "I" u_iterations) (F_saltLength : Fld Z h0 a1 "com/example/ply2/ply2/metadata/ScramCredential$Shape" "saltLength" "I" u_saltLength) (g_a1 : n0 ≤ a1) :
    own_Ctr l Z (⟨"com/example/ply2/ply2/metadata/ScramCredential$Shape", "<init>", "(II)V"⟩ : MethodName) prog_209_method_1_code 3 none ws ({ frames := 1, cells := 0, slots := 0, locals := 12 } : Room) #[(.ref a1), (.int p2), (.int p3)] h0 (Q_rmsi Z a1 p2 p3 h0 n0) := by
  refine own_enter (plainFor_of_name own_pn2) ?_
  intro p e s m below meth c s₁ X0 hx hby hml hrt hlk hZ hown hnm e0
  have N0 := Fr.nil n0
  have Zs := Z0
  have K0 := Keep.refl h0 [a1]
  rw [show entryFrame m #[(.ref a1), (.int p2), (.int p3)] 3 = mkF m 0 #[.val (.ref a1), .val (.int p2), .val (.int p3)] [] from by first | (simp [entryFrame, mkF, argsToLocals, Value.category]; done) | rfl]
  show own_Wp _ _ _ _ (s₁.setTop (mkF m 0 #[.val (.ref a1), .val (.int p2), .val (.int p3)] []))
  refine own_of (fun tgt kon => XS.aloadN X0.here hx rfl (hb hby d1_0) rfl rfl kon) ?_
  show own_Wp _ _ _ _ (s₁.setTop (mkF m 1 #[.val (.ref a1), .val (.int p2), .val (.int p3)] [(.ref a1)]))
  obtain ⟨T1, X1, e1, st1⟩ := initO X0 hx hZ hown (hw _ (List.mem_of_getElem? (i := 6) rfl)) (hw _ (List.mem_of_getElem? (i := 7) rfl)) (hw _ (List.mem_of_getElem? (i := 8) rfl)) e0 (g := (mkF m 1 #[.val (.ref a1), .val (.int p2), .val (.int p3)] [(.ref a1)])) rfl (by rw [hml]; rfl) rfl (hb hby d1_1) (by decide) (W := 0) (by show 2 * 0 + _ ≤ _; exact Nat.le_of_eq rfl) (by decide)
  refine own_of st1 ?_
  show own_Wp _ _ _ _ (T1.setTop (mkF m 4 #[.val (.ref a1), .val (.int p2), .val (.int p3)] []))
  refine own_of (fun tgt kon => XS.aloadN X1.here hx rfl (hb hby d1_4) rfl rfl kon) ?_
  show own_Wp _ _ _ _ (T1.setTop (mkF m 5 #[.val (.ref a1), .val (.int p2), .val (.int p3)] [(.ref a1)]))
  refine own_of (fun tgt kon => XS.iloadN X1.here hx rfl (hb hby d1_5) rfl kon) ?_
  show own_Wp _ _ _ _ (T1.setTop (mkF m 6 #[.val (.ref a1), .val (.int p2), .val (.int p3)] [(.int p2), (.ref a1)]))
  obtain ⟨T2, h2, X2, e2, W2, st2⟩ := putF X1 hx hZ hown (host := "") (Or.inl (hw _ (List.mem_of_getElem? (i := 9) rfl))) Via.refl e1 F_iterations E_a1 (Or.inr ⟨(hw _ (List.mem_of_getElem? (i := 10) rfl)), rfl, hnm⟩) (hw _ (List.mem_of_getElem? (i := 1) rfl)) (ty := .int) (by decide) rfl rfl (g := (mkF m 6 #[.val (.ref a1), .val (.int p2), .val (.int p3)] [(.int p2), (.ref a1)])) rfl rfl (hb hby d1_6)
  refine own_of st2 ?_
  have Fq2 := Fld.same W2 F_iterations
  have Zs := Nat.le_trans Zs (Keep.of_wr W2).1
  have K0 := K0.wr W2 (Or.inl (List.mem_of_getElem? (i := 0) rfl))
  have E_a1 := E_a1.wr W2
  have F_saltLength := F_saltLength.other W2 (Or.inr (slot_ne (Or.inr (hw _ (List.mem_of_getElem? (i := 12) rfl))) (Or.inr (hw _ (List.mem_of_getElem? (i := 10) rfl))) (by decide) (t := .int) (t' := .int) (by decide) (by decide)))
  have F_iterations := Fq2
  have N2 := Fr.snoc X2 N0 g_a1
  show own_Wp _ _ _ _ (T2.setTop (mkF m 9 #[.val (.ref a1), .val (.int p2), .val (.int p3)] []))
  refine own_of (fun tgt kon => XS.aloadN X2.here hx rfl (hb hby d1_9) rfl rfl kon) ?_
  show own_Wp _ _ _ _ (T2.setTop (mkF m 10 #[.val (.ref a1), .val (.int p2), .val (.int p3)] [(.ref a1)]))
  refine own_of (fun tgt kon => XS.iloadN X2.here hx rfl (hb hby d1_10) rfl kon) ?_
  show own_Wp _ _ _ _ (T2.setTop (mkF m 11 #[.val (.ref a1), .val (.int p2), .val (.int p3)] [(.int p3), (.ref a1)]))
  obtain ⟨T3, h3, X3, e3, W3, st3⟩ := putF X2 hx hZ hown (host := "") (Or.inl (hw _ (List.mem_of_getElem? (i := 11) rfl))) Via.refl e2 F_saltLength E_a1 (Or.inr ⟨(hw _ (List.mem_of_getElem? (i := 12) rfl)), rfl, hnm⟩) (hw _ (List.mem_of_getElem? (i := 1) rfl)) (ty := .int) (by decide) rfl rfl (g := (mkF m 11 #[.val (.ref a1), .val (.int p2), .val (.int p3)] [(.int p3), (.ref a1)])) rfl rfl (hb hby d1_11)
  refine own_of st3 ?_
  have Fq3 := Fld.same W3 F_saltLength
  have Zs := Nat.le_trans Zs (Keep.of_wr W3).1
  have K0 := K0.wr W3 (Or.inl (List.mem_of_getElem? (i := 0) rfl))
  have E_a1 := E_a1.wr W3
  have F_iterations := F_iterations.other W3 (Or.inr (slot_ne (Or.inr (hw _ (List.mem_of_getElem? (i := 10) rfl))) (Or.inr (hw _ (List.mem_of_getElem? (i := 12) rfl))) (by decide) (t := .int) (t' := .int) (by decide) (by decide)))
  have F_saltLength := Fq3
  have N3 := Fr.snoc X3 N2 g_a1
  show own_Wp _ _ _ _ (T3.setTop (mkF m 14 #[.val (.ref a1), .val (.int p2), .val (.int p3)] []))
  refine own_ret X3 hlk none (fun _ => rfl) (fun fs hr => X3.returnOut hx hrt (hb hby d1_14) hr) ?_ (by decide) (by decide)
  rw [e3]
  exact ⟨rfl, N3, K0, E_a1, F_iterations, F_saltLength⟩
theorem d3_0 : decode jdk_33_method_22_code 0 = .ok (.iload_n 0, 1) := by decide +kernel
theorem d3_1 : decode jdk_33_method_22_code 1 = .ok (.bipush (-128), 2) := by decide +kernel
theorem d3_3 : decode jdk_33_method_22_code 3 = .ok (.if_icmp .lt 20, 3) := by decide +kernel
theorem d3_23 : decode jdk_33_method_22_code 23 = .ok (.new 1, 3) := by decide +kernel
theorem d3_26 : decode jdk_33_method_22_code 26 = .ok (.dup, 1) := by decide +kernel
theorem d3_27 : decode jdk_33_method_22_code 27 = .ok (.iload_n 0, 1) := by decide +kernel
theorem d3_28 : decode jdk_33_method_22_code 28 = .ok (.invokespecial 199, 3) := by decide +kernel
theorem own_pd1 : parseMethodDescriptor "(I)V" = some ⟨[.int], none⟩ := by decide +kernel
theorem d3_31 : decode jdk_33_method_22_code 31 = .ok (.areturn, 1) := by decide +kernel
theorem d3_6 : decode jdk_33_method_22_code 6 = .ok (.iload_n 0, 1) := by decide +kernel
theorem d3_7 : decode jdk_33_method_22_code 7 = .ok (.getstatic 191, 3) := by decide +kernel
theorem d3_10 : decode jdk_33_method_22_code 10 = .ok (.if_icmp .gt 13, 3) := by decide +kernel
theorem d3_13 : decode jdk_33_method_22_code 13 = .ok (.getstatic 195, 3) := by decide +kernel
theorem d3_16 : decode jdk_33_method_22_code 16 = .ok (.iload_n 0, 1) := by decide +kernel
theorem d3_17 : decode jdk_33_method_22_code 17 = .ok (.sipush 128, 3) := by decide +kernel
theorem d3_20 : decode jdk_33_method_22_code 20 = .ok (.iadd, 1) := by decide +kernel
theorem d3_21 : decode jdk_33_method_22_code 21 = .ok (.aaload, 1) := by decide +kernel
theorem d3_22 : decode jdk_33_method_22_code 22 = .ok (.areturn, 1) := by decide +kernel
def Q_rmvo (Z : State) (p1 : Int32) (ah : Addr) (ic : Nat → Addr) (h0 : Heap) (n0 : Nat) (v : Option Value) (h : Heap) (L : List Loc) : Prop := ∃ b, v = some (.ref b) ∧ Fr n0 L ∧ Keep h0 h [] ∧ Exa Z h b "java/lang/Integer"
set_option maxRecDepth 65536 in
set_option maxHeartbeats 40000000 in
theorem rmvo (l : Launch) (Z : State) (a0 : Array Value) (hw : ∀ d ∈ tables_1, d.before a0 Z = true) (ws : List Jvm.Cond) (p1 : Int32) (ah : Addr) (ic : Nat → Addr) (h0 : Heap) (n0 : Nat) (Z0 : n0 ≤ h0.size) (S_H : Sta Z h0 "java/lang/Integer$IntegerCache" "high" "I" (.int (127 : Int32))) (S_K : Sta Z h0 "java/lang/Integer$IntegerCache" "cache" "[Ljava/lang/Integer;" (.ref ah)) (A_K : own_Ar Z h0 ah (.object "java/lang/Integer") 256 (fun k => .ref (ic k))) (E_K : ∀ k, k < 256 → Exa Z h0 (ic k) "java/lang/Integer") :
    own_Ctr l Z (⟨"java/lang/Integer", "valueOf", "(I)Ljava/lang/Integer;"⟩ : MethodName) jdk_33_method_22_code 1 (some (.object "java/lang/Integer")) ws ({ frames := 3, cells := 1, slots := 1, locals := 38 } : Room) #[(.int p1)] h0 (Q_rmvo Z p1 ah ic h0 n0) := by
  refine own_enter (plainFor_of_name own_pn1) ?_
  intro p e s m below meth c s₁ X0 hx hby hml hrt hlk hZ hown hnm e0
  have N0 := Fr.nil n0
  have Zs := Z0
  have K0 := Keep.refl h0 []
  rw [show entryFrame m #[(.int p1)] 1 = mkF m 0 #[.val (.int p1)] [] from by first | (simp [entryFrame, mkF, argsToLocals, Value.category]; done) | rfl]
  show own_Wp _ _ _ _ (s₁.setTop (mkF m 0 #[.val (.int p1)] []))
  refine own_of (fun tgt kon => XS.iloadN X0.here hx rfl (hb hby d3_0) rfl kon) ?_
  show own_Wp _ _ _ _ (s₁.setTop (mkF m 1 #[.val (.int p1)] [(.int p1)]))
  refine own_of (fun tgt kon => XS.bipush X0.here hx rfl (hb hby d3_1) kon) ?_
  show own_Wp _ _ _ _ (s₁.setTop (mkF m 3 #[.val (.int p1)] [(.int (-128 : Int32)), (.int p1)]))
  by_cases hc3 : p1 < (-128 : Int32)
  · skip
    refine own_of (fun tgt kon => XS.icmpYes X0.here hx rfl (pc0 := 3) (pc' := 23) rfl (hb hby d3_3) rfl (tlt hc3).1 (by decide) (by decide) kon) ?_
    show own_Wp _ _ _ _ (s₁.setTop (mkF m 23 #[.val (.int p1)] []))
    obtain ⟨T1, h1, X1, e1, E1, A1, D1, -, st1⟩ := newO X0 hx hZ hown (hw _ (List.mem_of_getElem? (i := 30) rfl)) (hw _ (List.mem_of_getElem? (i := 31) rfl)) (hw _ (List.mem_of_getElem? (i := 15) rfl)) e0 (g := (mkF m 23 #[.val (.int p1)] [])) rfl (hb hby d3_23) (by decide) (by decide)
    refine own_of st1 ?_
    clear st1
    obtain ⟨b1, gq1⟩ : ∃ z, z = h0.size := ⟨_, rfl⟩
    rw [← gq1] at A1 D1 ⊢
    have ne_ah_b1 : ah ≠ b1 := Nat.ne_of_lt (Nat.lt_of_lt_of_le A_K.lt (Nat.le_of_eq gq1.symm))
    have g_b1 : n0 ≤ b1 := Nat.le_trans Zs (Nat.le_of_eq gq1.symm)
    have sz_b1 : h0.size ≤ b1 := Nat.le_trans K0.1 (Nat.le_of_eq gq1.symm)
    have Zs := Nat.le_trans Zs E1.1
    have K0 := K0.ext E1
    have A_K := A_K.ext E1
    have E_b1 := A1
    have F_value_b1 : Fld Z h1 b1 "java/lang/Integer" "value" "I" (.int (0 : Int32)) := D1 (Or.inr (hw _ (List.mem_of_getElem? (i := 44) rfl))) (ty := .int) (by decide)
    show own_Wp _ _ _ _ (T1.setTop (mkF m 26 #[.val (.int p1)] [(.ref b1)]))
    refine own_of (fun tgt kon => XS.dup X1.here hx rfl (hb hby d3_26) rfl rfl kon) ?_
    show own_Wp _ _ _ _ (T1.setTop (mkF m 27 #[.val (.int p1)] [(.ref b1), (.ref b1)]))
    refine own_of (fun tgt kon => XS.iloadN X1.here hx rfl (hb hby d3_27) rfl kon) ?_
    show own_Wp _ _ _ _ (T1.setTop (mkF m 28 #[.val (.int p1)] [(.int p1), (.ref b1), (.ref b1)]))
    refine own_callI X1 hx hZ (y := (⟨"java/lang/Integer", "<init>", "(I)V"⟩ : MethodName)) (a := b1) (argsL := [(.int p1)]) (rest := [(.ref b1)]) (W := 1) rfl hown (hw _ (List.mem_of_getElem? (i := 32) rfl)) (hw _ (List.mem_of_getElem? (i := 33) rfl)) (hw _ (List.mem_of_getElem? (i := 15) rfl)) (hw _ (List.mem_of_getElem? (i := 35) rfl)) (by decide) e1 (rmii l Z a0 hw [] b1 p1 h1 n0 Zs E_b1 _ F_value_b1 g_b1) (by decide) (by decide) (by decide) (by decide) (g := (mkF m 28 #[.val (.int p1)] [(.int p1), (.ref b1), (.ref b1)])) rfl (by rw [hml]; rfl) (lenOf own_pd1 rfl) rfl (by show 2 * 0 + _ ≤ _; exact Nat.le_of_eq rfl) (hb hby d3_28) ?_
    rintro T2 L2 _ X2 ⟨rfl, N2q, Kq2, Eq2, Fq2_value⟩
    have N2 := Fr.app N0 N2q
    show own_Wp _ _ _ _ (T2.setTop (mkF m 31 #[.val (.int p1)] [(.ref b1)]))
    have Zs := Nat.le_trans Zs Kq2.1
    have K0 := K0.trans Kq2 (allS (P := fun z => z ∈ _ ∨ _ ≤ z) (Or.inr sz_b1) all0)
    have A_K := A_K.keep Kq2 (ninS ne_ah_b1 nin0)
    have E_b1 := E_b1.keep Kq2
    have E_b1 := Eq2
    have F_value_b1 := Fq2_value
    refine own_ret X2 hlk (some (.ref b1)) (own_rtI hrt) (fun fs hr => own_retR X2 hx hrt rfl rfl rfl (hb hby d3_31) hr) ?_ (by decide) (by decide)
    exact ⟨_, rfl, N2, K0, E_b1⟩
  · skip
    refine own_of (fun tgt kon => XS.icmpNo X0.here hx rfl (hb hby d3_3) rfl (flt hc3).1 kon) ?_
    show own_Wp _ _ _ _ (s₁.setTop (mkF m 6 #[.val (.int p1)] []))
    refine own_of (fun tgt kon => XS.iloadN X0.here hx rfl (hb hby d3_6) rfl kon) ?_
    show own_Wp _ _ _ _ (s₁.setTop (mkF m 7 #[.val (.int p1)] [(.int p1)]))
    obtain ⟨T3, X3, e3, st3⟩ := getS2 X0 hx hZ hown (host := "") (Or.inl (hw _ (List.mem_of_getElem? (i := 17) rfl))) Via.refl e0 S_H (g := (mkF m 7 #[.val (.int p1)] [(.int p1)])) rfl (hb hby d3_7)
    refine own_of st3 ?_
    show own_Wp _ _ _ _ (T3.setTop (mkF m 10 #[.val (.int p1)] [(.int (127 : Int32)), (.int p1)]))
    by_cases hc10 : (127 : Int32) < p1
    · skip
      refine own_of (fun tgt kon => XS.icmpYes X3.here hx rfl (pc0 := 10) (pc' := 23) rfl (hb hby d3_10) rfl (tlt hc10).2.2.1 (by decide) (by decide) kon) ?_
      show own_Wp _ _ _ _ (T3.setTop (mkF m 23 #[.val (.int p1)] []))
      obtain ⟨T4, h4, X4, e4, E4, A4, D4, -, st4⟩ := newO X3 hx hZ hown (hw _ (List.mem_of_getElem? (i := 30) rfl)) (hw _ (List.mem_of_getElem? (i := 31) rfl)) (hw _ (List.mem_of_getElem? (i := 15) rfl)) e3 (g := (mkF m 23 #[.val (.int p1)] [])) rfl (hb hby d3_23) (by decide) (by decide)
      refine own_of st4 ?_
      clear st4
      obtain ⟨b4, gq4⟩ : ∃ z, z = h0.size := ⟨_, rfl⟩
      rw [← gq4] at A4 D4 ⊢
      have ne_ah_b4 : ah ≠ b4 := Nat.ne_of_lt (Nat.lt_of_lt_of_le A_K.lt (Nat.le_of_eq gq4.symm))
      have g_b4 : n0 ≤ b4 := Nat.le_trans Zs (Nat.le_of_eq gq4.symm)
      have sz_b4 : h0.size ≤ b4 := Nat.le_trans K0.1 (Nat.le_of_eq gq4.symm)
      have Zs := Nat.le_trans Zs E4.1
      have K0 := K0.ext E4
      have A_K := A_K.ext E4
      have E_b4 := A4
      have F_value_b4 : Fld Z h4 b4 "java/lang/Integer" "value" "I" (.int (0 : Int32)) := D4 (Or.inr (hw _ (List.mem_of_getElem? (i := 44) rfl))) (ty := .int) (by decide)
      show own_Wp _ _ _ _ (T4.setTop (mkF m 26 #[.val (.int p1)] [(.ref b4)]))
      refine own_of (fun tgt kon => XS.dup X4.here hx rfl (hb hby d3_26) rfl rfl kon) ?_
      show own_Wp _ _ _ _ (T4.setTop (mkF m 27 #[.val (.int p1)] [(.ref b4), (.ref b4)]))
      refine own_of (fun tgt kon => XS.iloadN X4.here hx rfl (hb hby d3_27) rfl kon) ?_
      show own_Wp _ _ _ _ (T4.setTop (mkF m 28 #[.val (.int p1)] [(.int p1), (.ref b4), (.ref b4)]))
      refine own_callI X4 hx hZ (y := (⟨"java/lang/Integer", "<init>", "(I)V"⟩ : MethodName)) (a := b4) (argsL := [(.int p1)]) (rest := [(.ref b4)]) (W := 1) rfl hown (hw _ (List.mem_of_getElem? (i := 32) rfl)) (hw _ (List.mem_of_getElem? (i := 33) rfl)) (hw _ (List.mem_of_getElem? (i := 15) rfl)) (hw _ (List.mem_of_getElem? (i := 35) rfl)) (by decide) e4 (rmii l Z a0 hw [] b4 p1 h4 n0 Zs E_b4 _ F_value_b4 g_b4) (by decide) (by decide) (by decide) (by decide) (g := (mkF m 28 #[.val (.int p1)] [(.int p1), (.ref b4), (.ref b4)])) rfl (by rw [hml]; rfl) (lenOf own_pd1 rfl) rfl (by show 2 * 0 + _ ≤ _; exact Nat.le_of_eq rfl) (hb hby d3_28) ?_
      rintro T5 L5 _ X5 ⟨rfl, N5q, Kq5, Eq5, Fq5_value⟩
      have N5 := Fr.app N0 N5q
      show own_Wp _ _ _ _ (T5.setTop (mkF m 31 #[.val (.int p1)] [(.ref b4)]))
      have Zs := Nat.le_trans Zs Kq5.1
      have K0 := K0.trans Kq5 (allS (P := fun z => z ∈ _ ∨ _ ≤ z) (Or.inr sz_b4) all0)
      have A_K := A_K.keep Kq5 (ninS ne_ah_b4 nin0)
      have E_b4 := E_b4.keep Kq5
      have E_b4 := Eq5
      have F_value_b4 := Fq5_value
      refine own_ret X5 hlk (some (.ref b4)) (own_rtI hrt) (fun fs hr => own_retR X5 hx hrt rfl rfl rfl (hb hby d3_31) hr) ?_ (by decide) (by decide)
      exact ⟨_, rfl, N5, K0, E_b4⟩
    · skip
      refine own_of (fun tgt kon => XS.icmpNo X3.here hx rfl (hb hby d3_10) rfl (flt hc10).2.2.1 kon) ?_
      show own_Wp _ _ _ _ (T3.setTop (mkF m 13 #[.val (.int p1)] []))
      obtain ⟨T6, X6, e6, st6⟩ := getS2 X3 hx hZ hown (host := "") (Or.inl (hw _ (List.mem_of_getElem? (i := 19) rfl))) Via.refl e3 S_K (g := (mkF m 13 #[.val (.int p1)] [])) rfl (hb hby d3_13)
      refine own_of st6 ?_
      show own_Wp _ _ _ _ (T6.setTop (mkF m 16 #[.val (.int p1)] [(.ref ah)]))
      refine own_of (fun tgt kon => XS.iloadN X6.here hx rfl (hb hby d3_16) rfl kon) ?_
      show own_Wp _ _ _ _ (T6.setTop (mkF m 17 #[.val (.int p1)] [(.int p1), (.ref ah)]))
      refine own_of (fun tgt kon => XS.sipush X6.here hx rfl (hb hby d3_17) kon) ?_
      show own_Wp _ _ _ _ (T6.setTop (mkF m 20 #[.val (.int p1)] [(.int (128 : Int32)), (.int p1), (.ref ah)]))
      refine own_of (fun tgt kon => XS.iadd X6.here hx rfl (hb hby d3_20) rfl kon) ?_
      show own_Wp _ _ _ _ (T6.setTop (mkF m 21 #[.val (.int p1)] [(.int (p1 + (128 : Int32))), (.ref ah)]))
      refine own_aaload X6 hx hZ e6 A_K (j := (p1 + (128 : Int32))) (i := (p1.toInt + 128).toNat) (v := (.ref (ic (p1.toInt + 128).toNat))) (own_cIdx hc3 hc10).1 (own_cIdx hc3 hc10).2 rfl (g := (mkF m 21 #[.val (.int p1)] [(.int (p1 + (128 : Int32))), (.ref ah)])) rfl rfl (hb hby d3_21) ?_
      show own_Wp _ _ _ _ (T6.setTop (mkF m 22 #[.val (.int p1)] [(.ref (ic (p1.toInt + 128).toNat))]))
      refine own_ret X6 hlk (some (.ref (ic (p1.toInt + 128).toNat))) (own_rtI hrt) (fun fs hr => own_retR X6 hx hrt rfl rfl rfl (hb hby d3_22) hr) ?_ (by decide) (by decide)
      rw [e6]
      exact ⟨_, rfl, N0, K0, E_K _ (own_cIdx hc3 hc10).2⟩
theorem d4_0 : decode prog_209_method_5_code 0 = .ok (.aload_n 1, 1) := by decide +kernel
theorem d4_1 : decode prog_209_method_5_code 1 = .ok (.instanceof 8, 3) := by decide +kernel
theorem d4_4 : decode prog_209_method_5_code 4 = .ok (.ifCond .eq 34, 3) := by decide +kernel
theorem d4_7 : decode prog_209_method_5_code 7 = .ok (.aload_n 1, 1) := by decide +kernel
theorem d4_8 : decode prog_209_method_5_code 8 = .ok (.checkcast 8, 3) := by decide +kernel
theorem d4_11 : decode prog_209_method_5_code 11 = .ok (.astore_n 2, 1) := by decide +kernel
theorem d4_12 : decode prog_209_method_5_code 12 = .ok (.aload_n 0, 1) := by decide +kernel
theorem d4_13 : decode prog_209_method_5_code 13 = .ok (.getfield 7, 3) := by decide +kernel
theorem d4_16 : decode prog_209_method_5_code 16 = .ok (.aload_n 2, 1) := by decide +kernel
theorem d4_17 : decode prog_209_method_5_code 17 = .ok (.getfield 7, 3) := by decide +kernel
theorem d4_20 : decode prog_209_method_5_code 20 = .ok (.if_icmp .ne 18, 3) := by decide +kernel
theorem d4_23 : decode prog_209_method_5_code 23 = .ok (.aload_n 0, 1) := by decide +kernel
theorem d4_24 : decode prog_209_method_5_code 24 = .ok (.getfield 13, 3) := by decide +kernel
theorem d4_27 : decode prog_209_method_5_code 27 = .ok (.aload_n 2, 1) := by decide +kernel
theorem d4_28 : decode prog_209_method_5_code 28 = .ok (.getfield 13, 3) := by decide +kernel
theorem d4_31 : decode prog_209_method_5_code 31 = .ok (.if_icmp .ne 7, 3) := by decide +kernel
theorem d4_34 : decode prog_209_method_5_code 34 = .ok (.iconst 1, 1) := by decide +kernel
theorem d4_35 : decode prog_209_method_5_code 35 = .ok (.goto 4, 3) := by decide +kernel
theorem d4_39 : decode prog_209_method_5_code 39 = .ok (.ireturn, 1) := by decide +kernel
theorem d4_38 : decode prog_209_method_5_code 38 = .ok (.iconst 0, 1) := by decide +kernel
def Q_rmeqs (Z : State) (a1 : Addr) (a2 : Addr) (x1 : Int32) (y1 : Int32) (x2 : Int32) (y2 : Int32) (h0 : Heap) (n0 : Nat) (v : Option Value) (h : Heap) (L : List Loc) : Prop := v = some (.int (own_eq x1 y1 x2 y2)) ∧ Fr n0 L ∧ h = h0
set_option maxRecDepth 65536 in
set_option maxHeartbeats 40000000 in
theorem rmeqs (l : Launch) (Z : State) (a0 : Array Value) (hw : ∀ d ∈ tables_1, d.before a0 Z = true) (ws : List Jvm.Cond) (a1 : Addr) (a2 : Addr) (x1 : Int32) (y1 : Int32) (x2 : Int32) (y2 : Int32) (h0 : Heap) (n0 : Nat) (Z0 : n0 ≤ h0.size) (F_it_a1 : Fld Z h0 a1 "com/example/ply2/ply2/metadata/ScramCredential$Shape" "iterations" "I" (.int x1)) (F_sl_a1 : Fld Z h0 a1 "com/example/ply2/ply2/metadata/ScramCredential$Shape" "saltLength" "I" (.int y1)) (E_a2 : Exa Z h0 a2 "com/example/ply2/ply2/metadata/ScramCredential$Shape") (F_it_a2 : Fld Z h0 a2 "com/example/ply2/ply2/metadata/ScramCredential$Shape" "iterations" "I" (.int x2)) (F_sl_a2 : Fld Z h0 a2 "com/example/ply2/ply2/metadata/ScramCredential$Shape" "saltLength" "I" (.int y2)) :
    own_Ctr l Z (⟨"com/example/ply2/ply2/metadata/ScramCredential$Shape", "equals", "(Ljava/lang/Object;)Z"⟩ : MethodName) prog_209_method_5_code 3 (some .boolean) ws ({ frames := 0, cells := 0, slots := 0, locals := 0 } : Room) #[(.ref a1), (.ref a2)] h0 (Q_rmeqs Z a1 a2 x1 y1 x2 y2 h0 n0) := by
  refine own_enter (plainFor_of_name own_pn2) ?_
  intro p e s m below meth c s₁ X0 hx hby hml hrt hlk hZ hown hnm e0
  have N0 := Fr.nil n0
  have Zs := Z0
  rw [show entryFrame m #[(.ref a1), (.ref a2)] 3 = mkF m 0 #[.val (.ref a1), .val (.ref a2), .unset] [] from by first | (simp [entryFrame, mkF, argsToLocals, Value.category]; done) | rfl]
  show own_Wp _ _ _ _ (s₁.setTop (mkF m 0 #[.val (.ref a1), .val (.ref a2), .unset] []))
  refine own_of (fun tgt kon => XS.aloadN X0.here hx rfl (hb hby d4_0) rfl rfl kon) ?_
  show own_Wp _ _ _ _ (s₁.setTop (mkF m 1 #[.val (.ref a1), .val (.ref a2), .unset] [(.ref a2)]))
  obtain ⟨T1, X1, e1, st1⟩ := instY X0 hx hZ hown (hw _ (List.mem_of_getElem? (i := 25) rfl)) e0 (Ins.self E_a2) (g := (mkF m 1 #[.val (.ref a1), .val (.ref a2), .unset] [(.ref a2)])) rfl rfl (hb hby d4_1)
  refine own_of st1 ?_
  show own_Wp _ _ _ _ (T1.setTop (mkF m 4 #[.val (.ref a1), .val (.ref a2), .unset] [(.int (1 : Int32))]))
  have hc4 : ¬ ((1 : Int32) = (0 : Int32)) := by decide
  refine own_of (fun tgt kon => XS.ifNo X1.here hx rfl (hb hby d4_4) rfl ((if0 _ _).trans (feq hc4).1) kon) ?_
  show own_Wp _ _ _ _ (T1.setTop (mkF m 7 #[.val (.ref a1), .val (.ref a2), .unset] []))
  refine own_of (fun tgt kon => XS.aloadN X1.here hx rfl (hb hby d4_7) rfl rfl kon) ?_
  show own_Wp _ _ _ _ (T1.setTop (mkF m 8 #[.val (.ref a1), .val (.ref a2), .unset] [(.ref a2)]))
  obtain ⟨T2, X2, e2, st2⟩ := castY X1 hx hZ hown (hw _ (List.mem_of_getElem? (i := 25) rfl)) e1 (Ins.self E_a2) (g := (mkF m 8 #[.val (.ref a1), .val (.ref a2), .unset] [(.ref a2)])) rfl rfl (hb hby d4_8)
  refine own_of st2 ?_
  show own_Wp _ _ _ _ (T2.setTop (mkF m 11 #[.val (.ref a1), .val (.ref a2), .unset] [(.ref a2)]))
  refine own_of (fun tgt kon => XS.astoreN X2.here hx rfl (hb hby d4_11) rfl rfl (l' := #[.val (.ref a1), .val (.ref a2), .val (.ref a2)]) rfl kon) ?_
  show own_Wp _ _ _ _ (T2.setTop (mkF m 12 #[.val (.ref a1), .val (.ref a2), .val (.ref a2)] []))
  refine own_of (fun tgt kon => XS.aloadN X2.here hx rfl (hb hby d4_12) rfl rfl kon) ?_
  show own_Wp _ _ _ _ (T2.setTop (mkF m 13 #[.val (.ref a1), .val (.ref a2), .val (.ref a2)] [(.ref a1)]))
  obtain ⟨T3, X3, e3, st3⟩ := getF X2 hx hZ hown (host := "") (Or.inl (hw _ (List.mem_of_getElem? (i := 9) rfl))) Via.refl e2 F_it_a1 (g := (mkF m 13 #[.val (.ref a1), .val (.ref a2), .val (.ref a2)] [(.ref a1)])) rfl rfl (hb hby d4_13)
  refine own_of st3 ?_
  show own_Wp _ _ _ _ (T3.setTop (mkF m 16 #[.val (.ref a1), .val (.ref a2), .val (.ref a2)] [(.int x1)]))
  refine own_of (fun tgt kon => XS.aloadN X3.here hx rfl (hb hby d4_16) rfl rfl kon) ?_
  show own_Wp _ _ _ _ (T3.setTop (mkF m 17 #[.val (.ref a1), .val (.ref a2), .val (.ref a2)] [(.ref a2), (.int x1)]))
  obtain ⟨T4, X4, e4, st4⟩ := getF X3 hx hZ hown (host := "") (Or.inl (hw _ (List.mem_of_getElem? (i := 9) rfl))) Via.refl e3 F_it_a2 (g := (mkF m 17 #[.val (.ref a1), .val (.ref a2), .val (.ref a2)] [(.ref a2), (.int x1)])) rfl rfl (hb hby d4_17)
  refine own_of st4 ?_
  show own_Wp _ _ _ _ (T4.setTop (mkF m 20 #[.val (.ref a1), .val (.ref a2), .val (.ref a2)] [(.int x2), (.int x1)]))
  by_cases hc20 : x1 = x2
  · skip
    refine own_of (fun tgt kon => XS.icmpNo X4.here hx rfl (hb hby d4_20) rfl (teq hc20).2 kon) ?_
    show own_Wp _ _ _ _ (T4.setTop (mkF m 23 #[.val (.ref a1), .val (.ref a2), .val (.ref a2)] []))
    refine own_of (fun tgt kon => XS.aloadN X4.here hx rfl (hb hby d4_23) rfl rfl kon) ?_
    show own_Wp _ _ _ _ (T4.setTop (mkF m 24 #[.val (.ref a1), .val (.ref a2), .val (.ref a2)] [(.ref a1)]))
    obtain ⟨T5, X5, e5, st5⟩ := getF X4 hx hZ hown (host := "") (Or.inl (hw _ (List.mem_of_getElem? (i := 11) rfl))) Via.refl e4 F_sl_a1 (g := (mkF m 24 #[.val (.ref a1), .val (.ref a2), .val (.ref a2)] [(.ref a1)])) rfl rfl (hb hby d4_24)
    refine own_of st5 ?_
    show own_Wp _ _ _ _ (T5.setTop (mkF m 27 #[.val (.ref a1), .val (.ref a2), .val (.ref a2)] [(.int y1)]))
    refine own_of (fun tgt kon => XS.aloadN X5.here hx rfl (hb hby d4_27) rfl rfl kon) ?_
    show own_Wp _ _ _ _ (T5.setTop (mkF m 28 #[.val (.ref a1), .val (.ref a2), .val (.ref a2)] [(.ref a2), (.int y1)]))
    obtain ⟨T6, X6, e6, st6⟩ := getF X5 hx hZ hown (host := "") (Or.inl (hw _ (List.mem_of_getElem? (i := 11) rfl))) Via.refl e5 F_sl_a2 (g := (mkF m 28 #[.val (.ref a1), .val (.ref a2), .val (.ref a2)] [(.ref a2), (.int y1)])) rfl rfl (hb hby d4_28)
    refine own_of st6 ?_
    show own_Wp _ _ _ _ (T6.setTop (mkF m 31 #[.val (.ref a1), .val (.ref a2), .val (.ref a2)] [(.int y2), (.int y1)]))
    by_cases hc31 : y1 = y2
    · skip
      refine own_of (fun tgt kon => XS.icmpNo X6.here hx rfl (hb hby d4_31) rfl (teq hc31).2 kon) ?_
      show own_Wp _ _ _ _ (T6.setTop (mkF m 34 #[.val (.ref a1), .val (.ref a2), .val (.ref a2)] []))
      refine own_of (fun tgt kon => XS.iconst X6.here hx rfl (hb hby d4_34) kon) ?_
      show own_Wp _ _ _ _ (T6.setTop (mkF m 35 #[.val (.ref a1), .val (.ref a2), .val (.ref a2)] [(.int (1 : Int32))]))
      refine own_of (fun tgt kon => XS.goto X6.here hx rfl (pc0 := 35) (pc' := 39) rfl (hb hby d4_35) (by decide) (by decide) kon) ?_
      show own_Wp _ _ _ _ (T6.setTop (mkF m 39 #[.val (.ref a1), .val (.ref a2), .val (.ref a2)] [(.int (1 : Int32))]))
      refine own_ret X6 hlk (some (.int (1 : Int32))) (own_rtI hrt) (fun fs hr => retN X6 hx (t := .boolean) hrt (by simp) (hb hby d4_39) hr) ?_ (by decide) (by decide)
      rw [e6]
      exact ⟨by unfold own_eq; rw [if_pos (And.intro hc20 hc31)], N0, rfl⟩
    · skip
      refine own_of (fun tgt kon => XS.icmpYes X6.here hx rfl (pc0 := 31) (pc' := 38) rfl (hb hby d4_31) rfl (feq hc31).2 (by decide) (by decide) kon) ?_
      show own_Wp _ _ _ _ (T6.setTop (mkF m 38 #[.val (.ref a1), .val (.ref a2), .val (.ref a2)] []))
      refine own_of (fun tgt kon => XS.iconst X6.here hx rfl (hb hby d4_38) kon) ?_
      show own_Wp _ _ _ _ (T6.setTop (mkF m 39 #[.val (.ref a1), .val (.ref a2), .val (.ref a2)] [(.int (0 : Int32))]))
      refine own_ret X6 hlk (some (.int (0 : Int32))) (own_rtI hrt) (fun fs hr => retN X6 hx (t := .boolean) hrt (by simp) (hb hby d4_39) hr) ?_ (by decide) (by decide)
      rw [e6]
      exact ⟨by unfold own_eq; rw [if_neg (fun q => hc31 q.2)], N0, rfl⟩
  · skip
    refine own_of (fun tgt kon => XS.icmpYes X4.here hx rfl (pc0 := 20) (pc' := 38) rfl (hb hby d4_20) rfl (feq hc20).2 (by decide) (by decide) kon) ?_
    show own_Wp _ _ _ _ (T4.setTop (mkF m 38 #[.val (.ref a1), .val (.ref a2), .val (.ref a2)] []))
    refine own_of (fun tgt kon => XS.iconst X4.here hx rfl (hb hby d4_38) kon) ?_
    show own_Wp _ _ _ _ (T4.setTop (mkF m 39 #[.val (.ref a1), .val (.ref a2), .val (.ref a2)] [(.int (0 : Int32))]))
    refine own_ret X4 hlk (some (.int (0 : Int32))) (own_rtI hrt) (fun fs hr => retN X4 hx (t := .boolean) hrt (by simp) (hb hby d4_39) hr) ?_ (by decide) (by decide)
    rw [e4]
    exact ⟨by unfold own_eq; rw [if_neg (fun q => hc20 q.1)], N0, rfl⟩
def Q_rmeqn (Z : State) (a1 : Addr) (h0 : Heap) (n0 : Nat) (v : Option Value) (h : Heap) (L : List Loc) : Prop := v = some (.int 0) ∧ Fr n0 L ∧ h = h0
set_option maxRecDepth 65536 in
set_option maxHeartbeats 40000000 in
theorem rmeqn (l : Launch) (Z : State) (a0 : Array Value) (hw : ∀ d ∈ tables_1, d.before a0 Z = true) (ws : List Jvm.Cond) (a1 : Addr) (h0 : Heap) (n0 : Nat) (Z0 : n0 ≤ h0.size)  :
    own_Ctr l Z (⟨"com/example/ply2/ply2/metadata/ScramCredential$Shape", "equals", "(Ljava/lang/Object;)Z"⟩ : MethodName) prog_209_method_5_code 3 (some .boolean) ws ({ frames := 0, cells := 0, slots := 0, locals := 0 } : Room) #[(.ref a1), .null] h0 (Q_rmeqn Z a1 h0 n0) := by
  refine own_enter (plainFor_of_name own_pn2) ?_
  intro p e s m below meth c s₁ X0 hx hby hml hrt hlk hZ hown hnm e0
  have N0 := Fr.nil n0
  have Zs := Z0
  rw [show entryFrame m #[(.ref a1), .null] 3 = mkF m 0 #[.val (.ref a1), .val .null, .unset] [] from by first | (simp [entryFrame, mkF, argsToLocals, Value.category]; done) | rfl]
  show own_Wp _ _ _ _ (s₁.setTop (mkF m 0 #[.val (.ref a1), .val .null, .unset] []))
  refine own_of (fun tgt kon => XS.aloadN X0.here hx rfl (hb hby d4_0) rfl rfl kon) ?_
  show own_Wp _ _ _ _ (s₁.setTop (mkF m 1 #[.val (.ref a1), .val .null, .unset] [.null]))
  refine own_of (X0.instanceofNull hx (g := (mkF m 1 #[.val (.ref a1), .val .null, .unset] [.null])) rfl rfl (hb hby d4_1)) ?_
  show own_Wp _ _ _ _ (s₁.setTop (mkF m 4 #[.val (.ref a1), .val .null, .unset] [(.int (0 : Int32))]))
  have hc4 : (0 : Int32) = (0 : Int32) := rfl
  refine own_of (fun tgt kon => XS.ifYes X0.here hx rfl (pc0 := 4) (pc' := 38) rfl (hb hby d4_4) rfl ((if0 _ _).trans (teq hc4).1) (by decide) (by decide) kon) ?_
  show own_Wp _ _ _ _ (s₁.setTop (mkF m 38 #[.val (.ref a1), .val .null, .unset] []))
  refine own_of (fun tgt kon => XS.iconst X0.here hx rfl (hb hby d4_38) kon) ?_
  show own_Wp _ _ _ _ (s₁.setTop (mkF m 39 #[.val (.ref a1), .val .null, .unset] [(.int (0 : Int32))]))
  refine own_ret X0 hlk (some (.int (0 : Int32))) (own_rtI hrt) (fun fs hr => retN X0 hx (t := .boolean) hrt (by simp) (hb hby d4_39) hr) ?_ (by decide) (by decide)
  rw [e0]
  exact ⟨rfl, N0, rfl⟩
def Q_rmeqi (Z : State) (a1 : Addr) (a2 : Addr) (h0 : Heap) (n0 : Nat) (v : Option Value) (h : Heap) (L : List Loc) : Prop := v = some (.int 0) ∧ Fr n0 L ∧ h = h0
set_option maxRecDepth 65536 in
set_option maxHeartbeats 40000000 in
theorem rmeqi (l : Launch) (Z : State) (a0 : Array Value) (hw : ∀ d ∈ tables_1, d.before a0 Z = true) (ws : List Jvm.Cond) (a1 : Addr) (a2 : Addr) (h0 : Heap) (n0 : Nat) (Z0 : n0 ≤ h0.size) (E_a2 : Exa Z h0 a2 "java/lang/Integer") :
    own_Ctr l Z (⟨"com/example/ply2/ply2/metadata/ScramCredential$Shape", "equals", "(Ljava/lang/Object;)Z"⟩ : MethodName) prog_209_method_5_code 3 (some .boolean) ws ({ frames := 0, cells := 0, slots := 0, locals := 0 } : Room) #[(.ref a1), (.ref a2)] h0 (Q_rmeqi Z a1 a2 h0 n0) := by
  refine own_enter (plainFor_of_name own_pn2) ?_
  intro p e s m below meth c s₁ X0 hx hby hml hrt hlk hZ hown hnm e0
  have N0 := Fr.nil n0
  have Zs := Z0
  rw [show entryFrame m #[(.ref a1), (.ref a2)] 3 = mkF m 0 #[.val (.ref a1), .val (.ref a2), .unset] [] from by first | (simp [entryFrame, mkF, argsToLocals, Value.category]; done) | rfl]
  show own_Wp _ _ _ _ (s₁.setTop (mkF m 0 #[.val (.ref a1), .val (.ref a2), .unset] []))
  refine own_of (fun tgt kon => XS.aloadN X0.here hx rfl (hb hby d4_0) rfl rfl kon) ?_
  show own_Wp _ _ _ _ (s₁.setTop (mkF m 1 #[.val (.ref a1), .val (.ref a2), .unset] [(.ref a2)]))
  obtain ⟨T1, X1, e1, st1⟩ := instNo X0 hx hZ hown (hw _ (List.mem_of_getElem? (i := 25) rfl)) e0 E_a2 (own_nsNo (hw _ (List.mem_of_getElem? (i := 27) rfl)) (hw _ (List.mem_of_getElem? (i := 1) rfl)) (NS.step (hw _ (List.mem_of_getElem? (i := 27) rfl)) (NS.step (hw _ (List.mem_of_getElem? (i := 28) rfl)) (own_nsRoot (hw _ (List.mem_of_getElem? (i := 29) rfl)) (hw _ (List.mem_of_getElem? (i := 1) rfl)) (by decide)) (by decide)) (by decide)) (by decide)) (g := (mkF m 1 #[.val (.ref a1), .val (.ref a2), .unset] [(.ref a2)])) rfl rfl (hb hby d4_1)
  refine own_of st1 ?_
  show own_Wp _ _ _ _ (T1.setTop (mkF m 4 #[.val (.ref a1), .val (.ref a2), .unset] [(.int (0 : Int32))]))
  have hc4 : (0 : Int32) = (0 : Int32) := rfl
  refine own_of (fun tgt kon => XS.ifYes X1.here hx rfl (pc0 := 4) (pc' := 38) rfl (hb hby d4_4) rfl ((if0 _ _).trans (teq hc4).1) (by decide) (by decide) kon) ?_
  show own_Wp _ _ _ _ (T1.setTop (mkF m 38 #[.val (.ref a1), .val (.ref a2), .unset] []))
  refine own_of (fun tgt kon => XS.iconst X1.here hx rfl (hb hby d4_38) kon) ?_
  show own_Wp _ _ _ _ (T1.setTop (mkF m 39 #[.val (.ref a1), .val (.ref a2), .unset] [(.int (0 : Int32))]))
  refine own_ret X1 hlk (some (.int (0 : Int32))) (own_rtI hrt) (fun fs hr => retN X1 hx (t := .boolean) hrt (by simp) (hb hby d4_39) hr) ?_ (by decide) (by decide)
  rw [e1]
  exact ⟨rfl, N0, rfl⟩
theorem own_pn3 : plainName "com/example/ply2/ply2/metadata/ShapeEqualsPinLaw" = true := by first | (simp [plainName, overriddenIn]; done) | decide +kernel
theorem own_pd2 : parseMethodDescriptor "(II)V" = some ⟨[.int, .int], none⟩ := by decide +kernel
theorem own_pd3 : parseMethodDescriptor "(I)Ljava/lang/Integer;" = some ⟨[.int], some (.object "java/lang/Integer")⟩ := by decide +kernel
theorem own_pd4 : parseMethodDescriptor "(Ljava/lang/Object;)Z" = some ⟨[(.object "java/lang/Object")], some .boolean⟩ := by decide +kernel
def Q_rm0 (Z : State) (p1 : Int32) (p2 : Int32) (p3 : Int32) (p4 : Int32) (p5 : Int32) (ah : Addr) (ic : Nat → Addr) (h0 : Heap) (n0 : Nat) (v : Option Value) (h : Heap) (L : List Loc) : Prop := v = some (.int 1) ∧ Fr n0 L
set_option maxRecDepth 65536 in
set_option maxHeartbeats 40000000 in
theorem rm0 (l : Launch) (Z : State) (a0 : Array Value) (hw : ∀ d ∈ tables_1, d.before a0 Z = true) (ws : List Jvm.Cond) (p1 : Int32) (p2 : Int32) (p3 : Int32) (p4 : Int32) (p5 : Int32) (ah : Addr) (ic : Nat → Addr) (h0 : Heap) (n0 : Nat) (Z0 : n0 ≤ h0.size) (S_H : Sta Z Z.heap "java/lang/Integer$IntegerCache" "high" "I" (.int (127 : Int32))) (S_K : Sta Z Z.heap "java/lang/Integer$IntegerCache" "cache" "[Ljava/lang/Integer;" (.ref ah)) (A_K : own_Ar Z Z.heap ah (.object "java/lang/Integer") 256 (fun k => .ref (ic k))) (E_K : ∀ k, k < 256 → Exa Z Z.heap (ic k) "java/lang/Integer") (O : Old Z n0 h0) :
    own_Ctr l Z x code maxLocals ret ws room_1 #[(.int p1), (.int p2), (.int p3), (.int p4), (.int p5)] h0 (Q_rm0 Z p1 p2 p3 p4 p5 ah ic h0 n0) := by
  refine own_enter (plainFor_of_name own_pn3) ?_
  intro p e s m below meth c s₁ X0 hx hby hml hrt hlk hZ hown hnm e0
  have N0 := Fr.nil n0
  have Zs := Z0
  rw [show entryFrame m #[(.int p1), (.int p2), (.int p3), (.int p4), (.int p5)] maxLocals = mkF m 0 #[.val (.int p1), .val (.int p2), .val (.int p3), .val (.int p4), .val (.int p5), .unset, .unset, .unset, .unset, .unset, .unset, .unset, .unset, .unset, .unset] [] from by first | (simp [entryFrame, mkF, argsToLocals, Value.category, maxLocals]; done) | rfl]
  show own_Wp _ _ _ _ (s₁.setTop (mkF m 0 #[.val (.int p1), .val (.int p2), .val (.int p3), .val (.int p4), .val (.int p5), .unset, .unset, .unset, .unset, .unset, .unset, .unset, .unset, .unset, .unset] []))
  refine own_of (fun tgt kon => XS.iload X0.here hx rfl (hb hby at_0) rfl kon) ?_
  show own_Wp _ _ _ _ (s₁.setTop (mkF m 2 #[.val (.int p1), .val (.int p2), .val (.int p3), .val (.int p4), .val (.int p5), .unset, .unset, .unset, .unset, .unset, .unset, .unset, .unset, .unset, .unset] [(.int p5)]))
  refine own_of (fun tgt kon => XS.iconst X0.here hx rfl (hb hby at_2) kon) ?_
  show own_Wp _ _ _ _ (s₁.setTop (mkF m 3 #[.val (.int p1), .val (.int p2), .val (.int p3), .val (.int p4), .val (.int p5), .unset, .unset, .unset, .unset, .unset, .unset, .unset, .unset, .unset, .unset] [(.int (1 : Int32)), (.int p5)]))
  refine own_of (fun tgt kon => XS.iand X0.here hx rfl (hb hby at_3) rfl kon) ?_
  show own_Wp _ _ _ _ (s₁.setTop (mkF m 4 #[.val (.int p1), .val (.int p2), .val (.int p3), .val (.int p4), .val (.int p5), .unset, .unset, .unset, .unset, .unset, .unset, .unset, .unset, .unset, .unset] [(.int (p5 &&& (1 : Int32)))]))
  have J12 : ∀ (jv : Int32), (jv = if (p5 &&& (1 : Int32)) = (0 : Int32) then p3 else p1) → own_Wp p.tables e below (own_K room_1 s below (Q_rm0 Z p1 p2 p3 p4 p5 ah ic h0 n0)) (s₁.setTop (mkF m 12 #[.val (.int p1), .val (.int p2), .val (.int p3), .val (.int p4), .val (.int p5), .unset, .unset, .unset, .unset, .unset, .unset, .unset, .unset, .unset, .unset] [(.int jv)])) := by
    intro jv h_jv
    refine own_of (fun tgt kon => XS.istore X0.here hx rfl (hb hby at_12) rfl (l' := #[.val (.int p1), .val (.int p2), .val (.int p3), .val (.int p4), .val (.int p5), .val (.int jv), .unset, .unset, .unset, .unset, .unset, .unset, .unset, .unset, .unset]) rfl kon) ?_
    show own_Wp _ _ _ _ (s₁.setTop (mkF m 14 #[.val (.int p1), .val (.int p2), .val (.int p3), .val (.int p4), .val (.int p5), .val (.int jv), .unset, .unset, .unset, .unset, .unset, .unset, .unset, .unset, .unset] []))
    refine own_of (fun tgt kon => XS.iload X0.here hx rfl (hb hby at_14) rfl kon) ?_
    show own_Wp _ _ _ _ (s₁.setTop (mkF m 16 #[.val (.int p1), .val (.int p2), .val (.int p3), .val (.int p4), .val (.int p5), .val (.int jv), .unset, .unset, .unset, .unset, .unset, .unset, .unset, .unset, .unset] [(.int p5)]))
    refine own_of (fun tgt kon => XS.iconst X0.here hx rfl (hb hby at_16) kon) ?_
    show own_Wp _ _ _ _ (s₁.setTop (mkF m 17 #[.val (.int p1), .val (.int p2), .val (.int p3), .val (.int p4), .val (.int p5), .val (.int jv), .unset, .unset, .unset, .unset, .unset, .unset, .unset, .unset, .unset] [(.int (2 : Int32)), (.int p5)]))
    refine own_of (fun tgt kon => XS.iand X0.here hx rfl (hb hby at_17) rfl kon) ?_
    show own_Wp _ _ _ _ (s₁.setTop (mkF m 18 #[.val (.int p1), .val (.int p2), .val (.int p3), .val (.int p4), .val (.int p5), .val (.int jv), .unset, .unset, .unset, .unset, .unset, .unset, .unset, .unset, .unset] [(.int (p5 &&& (2 : Int32)))]))
    have J26 : ∀ (tv : Int32), (tv = if (p5 &&& (2 : Int32)) = (0 : Int32) then p4 else p2) → own_Wp p.tables e below (own_K room_1 s below (Q_rm0 Z p1 p2 p3 p4 p5 ah ic h0 n0)) (s₁.setTop (mkF m 26 #[.val (.int p1), .val (.int p2), .val (.int p3), .val (.int p4), .val (.int p5), .val (.int jv), .unset, .unset, .unset, .unset, .unset, .unset, .unset, .unset, .unset] [(.int tv)])) := by
      intro tv h_tv
      refine own_of (fun tgt kon => XS.istore X0.here hx rfl (hb hby at_26) rfl (l' := #[.val (.int p1), .val (.int p2), .val (.int p3), .val (.int p4), .val (.int p5), .val (.int jv), .val (.int tv), .unset, .unset, .unset, .unset, .unset, .unset, .unset, .unset]) rfl kon) ?_
      show own_Wp _ _ _ _ (s₁.setTop (mkF m 28 #[.val (.int p1), .val (.int p2), .val (.int p3), .val (.int p4), .val (.int p5), .val (.int jv), .val (.int tv), .unset, .unset, .unset, .unset, .unset, .unset, .unset, .unset] []))
      obtain ⟨T1, h1, X1, e1, E1, A1, D1, -, st1⟩ := newO X0 hx hZ hown (hw _ (List.mem_of_getElem? (i := 0) rfl)) (hw _ (List.mem_of_getElem? (i := 1) rfl)) (hw _ (List.mem_of_getElem? (i := 2) rfl)) e0 (g := (mkF m 28 #[.val (.int p1), .val (.int p2), .val (.int p3), .val (.int p4), .val (.int p5), .val (.int jv), .val (.int tv), .unset, .unset, .unset, .unset, .unset, .unset, .unset, .unset] [])) rfl (hb hby at_28) (by decide) (by decide)
      refine own_of st1 ?_
      clear st1
      obtain ⟨b1, gq1⟩ : ∃ z, z = h0.size := ⟨_, rfl⟩
      rw [← gq1] at A1 D1 ⊢
      have g_b1 : n0 ≤ b1 := Nat.le_trans Zs (Nat.le_of_eq gq1.symm)
      have Zs := Nat.le_trans Zs E1.1
      have O := O.ext E1
      have E_b1 := A1
      have F_iterations_b1 : Fld Z h1 b1 "com/example/ply2/ply2/metadata/ScramCredential$Shape" "iterations" "I" (.int (0 : Int32)) := D1 (Or.inr (hw _ (List.mem_of_getElem? (i := 10) rfl))) (ty := .int) (by decide)
      have F_saltLength_b1 : Fld Z h1 b1 "com/example/ply2/ply2/metadata/ScramCredential$Shape" "saltLength" "I" (.int (0 : Int32)) := D1 (Or.inr (hw _ (List.mem_of_getElem? (i := 12) rfl))) (ty := .int) (by decide)
      show own_Wp _ _ _ _ (T1.setTop (mkF m 31 #[.val (.int p1), .val (.int p2), .val (.int p3), .val (.int p4), .val (.int p5), .val (.int jv), .val (.int tv), .unset, .unset, .unset, .unset, .unset, .unset, .unset, .unset] [(.ref b1)]))
      refine own_of (fun tgt kon => XS.dup X1.here hx rfl (hb hby at_31) rfl rfl kon) ?_
      show own_Wp _ _ _ _ (T1.setTop (mkF m 32 #[.val (.int p1), .val (.int p2), .val (.int p3), .val (.int p4), .val (.int p5), .val (.int jv), .val (.int tv), .unset, .unset, .unset, .unset, .unset, .unset, .unset, .unset] [(.ref b1), (.ref b1)]))
      refine own_of (fun tgt kon => XS.iloadN X1.here hx rfl (hb hby at_32) rfl kon) ?_
      show own_Wp _ _ _ _ (T1.setTop (mkF m 33 #[.val (.int p1), .val (.int p2), .val (.int p3), .val (.int p4), .val (.int p5), .val (.int jv), .val (.int tv), .unset, .unset, .unset, .unset, .unset, .unset, .unset, .unset] [(.int p1), (.ref b1), (.ref b1)]))
      refine own_of (fun tgt kon => XS.iloadN X1.here hx rfl (hb hby at_33) rfl kon) ?_
      show own_Wp _ _ _ _ (T1.setTop (mkF m 34 #[.val (.int p1), .val (.int p2), .val (.int p3), .val (.int p4), .val (.int p5), .val (.int jv), .val (.int tv), .unset, .unset, .unset, .unset, .unset, .unset, .unset, .unset] [(.int p2), (.int p1), (.ref b1), (.ref b1)]))
      refine own_callI X1 hx hZ (y := (⟨"com/example/ply2/ply2/metadata/ScramCredential$Shape", "<init>", "(II)V"⟩ : MethodName)) (a := b1) (argsL := [(.int p1), (.int p2)]) (rest := [(.ref b1)]) (W := 1) rfl hown (hw _ (List.mem_of_getElem? (i := 3) rfl)) (hw _ (List.mem_of_getElem? (i := 4) rfl)) (hw _ (List.mem_of_getElem? (i := 2) rfl)) (hw _ (List.mem_of_getElem? (i := 5) rfl)) (by decide) e1 (rmsi l Z a0 hw [] b1 p1 p2 h1 n0 Zs E_b1 _ _ F_iterations_b1 F_saltLength_b1 g_b1) (by decide) (by decide) (by decide) (by decide) (g := (mkF m 34 #[.val (.int p1), .val (.int p2), .val (.int p3), .val (.int p4), .val (.int p5), .val (.int jv), .val (.int tv), .unset, .unset, .unset, .unset, .unset, .unset, .unset, .unset] [(.int p2), (.int p1), (.ref b1), (.ref b1)])) rfl (by rw [hml]; rfl) (lenOf own_pd2 rfl) rfl (by show 2 * 0 + _ ≤ _; exact Nat.le_of_eq rfl) (hb hby at_34) ?_
      rintro T2 L2 _ X2 ⟨rfl, N2q, Kq2, Eq2, Fq2_iterations, Fq2_saltLength⟩
      have N2 := Fr.app N0 N2q
      show own_Wp _ _ _ _ (T2.setTop (mkF m 37 #[.val (.int p1), .val (.int p2), .val (.int p3), .val (.int p4), .val (.int p5), .val (.int jv), .val (.int tv), .unset, .unset, .unset, .unset, .unset, .unset, .unset, .unset] [(.ref b1)]))
      have Zs := Nat.le_trans Zs Kq2.1
      have O := O.keep Kq2 (allS g_b1 all0)
      have E_b1 := E_b1.keep Kq2
      have E_b1 := Eq2
      have F_iterations_b1 := Fq2_iterations
      have F_saltLength_b1 := Fq2_saltLength
      refine own_of (fun tgt kon => XS.astore X2.here hx rfl (hb hby at_37) rfl rfl (l' := #[.val (.int p1), .val (.int p2), .val (.int p3), .val (.int p4), .val (.int p5), .val (.int jv), .val (.int tv), .val (.ref b1), .unset, .unset, .unset, .unset, .unset, .unset, .unset]) rfl kon) ?_
      show own_Wp _ _ _ _ (T2.setTop (mkF m 39 #[.val (.int p1), .val (.int p2), .val (.int p3), .val (.int p4), .val (.int p5), .val (.int jv), .val (.int tv), .val (.ref b1), .unset, .unset, .unset, .unset, .unset, .unset, .unset] []))
      obtain ⟨T3, h3, X3, e3, E3, A3, D3, -, st3⟩ := newO X2 hx hZ hown (hw _ (List.mem_of_getElem? (i := 0) rfl)) (hw _ (List.mem_of_getElem? (i := 1) rfl)) (hw _ (List.mem_of_getElem? (i := 2) rfl)) rfl (g := (mkF m 39 #[.val (.int p1), .val (.int p2), .val (.int p3), .val (.int p4), .val (.int p5), .val (.int jv), .val (.int tv), .val (.ref b1), .unset, .unset, .unset, .unset, .unset, .unset, .unset] [])) rfl (hb hby at_39) (by decide) (by decide)
      refine own_of st3 ?_
      clear st3
      obtain ⟨b3, gq3⟩ : ∃ z, z = T2.heap.size := ⟨_, rfl⟩
      rw [← gq3] at A3 D3 ⊢
      have ne_b1_b3 : b1 ≠ b3 := Nat.ne_of_lt (Nat.lt_of_lt_of_le E_b1.lt (Nat.le_of_eq gq3.symm))
      have g_b3 : n0 ≤ b3 := Nat.le_trans Zs (Nat.le_of_eq gq3.symm)
      have Zs := Nat.le_trans Zs E3.1
      have O := O.ext E3
      have E_b1 := E_b1.ext E3
      have F_iterations_b1 := F_iterations_b1.ext E3
      have F_saltLength_b1 := F_saltLength_b1.ext E3
      have E_b3 := A3
      have F_iterations_b3 : Fld Z h3 b3 "com/example/ply2/ply2/metadata/ScramCredential$Shape" "iterations" "I" (.int (0 : Int32)) := D3 (Or.inr (hw _ (List.mem_of_getElem? (i := 10) rfl))) (ty := .int) (by decide)
      have F_saltLength_b3 : Fld Z h3 b3 "com/example/ply2/ply2/metadata/ScramCredential$Shape" "saltLength" "I" (.int (0 : Int32)) := D3 (Or.inr (hw _ (List.mem_of_getElem? (i := 12) rfl))) (ty := .int) (by decide)
      show own_Wp _ _ _ _ (T3.setTop (mkF m 42 #[.val (.int p1), .val (.int p2), .val (.int p3), .val (.int p4), .val (.int p5), .val (.int jv), .val (.int tv), .val (.ref b1), .unset, .unset, .unset, .unset, .unset, .unset, .unset] [(.ref b3)]))
      refine own_of (fun tgt kon => XS.dup X3.here hx rfl (hb hby at_42) rfl rfl kon) ?_
      show own_Wp _ _ _ _ (T3.setTop (mkF m 43 #[.val (.int p1), .val (.int p2), .val (.int p3), .val (.int p4), .val (.int p5), .val (.int jv), .val (.int tv), .val (.ref b1), .unset, .unset, .unset, .unset, .unset, .unset, .unset] [(.ref b3), (.ref b3)]))
      refine own_of (fun tgt kon => XS.iload X3.here hx rfl (hb hby at_43) rfl kon) ?_
      show own_Wp _ _ _ _ (T3.setTop (mkF m 45 #[.val (.int p1), .val (.int p2), .val (.int p3), .val (.int p4), .val (.int p5), .val (.int jv), .val (.int tv), .val (.ref b1), .unset, .unset, .unset, .unset, .unset, .unset, .unset] [(.int jv), (.ref b3), (.ref b3)]))
      refine own_of (fun tgt kon => XS.iload X3.here hx rfl (hb hby at_45) rfl kon) ?_
      show own_Wp _ _ _ _ (T3.setTop (mkF m 47 #[.val (.int p1), .val (.int p2), .val (.int p3), .val (.int p4), .val (.int p5), .val (.int jv), .val (.int tv), .val (.ref b1), .unset, .unset, .unset, .unset, .unset, .unset, .unset] [(.int tv), (.int jv), (.ref b3), (.ref b3)]))
      refine own_callI X3 hx hZ (y := (⟨"com/example/ply2/ply2/metadata/ScramCredential$Shape", "<init>", "(II)V"⟩ : MethodName)) (a := b3) (argsL := [(.int jv), (.int tv)]) (rest := [(.ref b3)]) (W := 1) rfl hown (hw _ (List.mem_of_getElem? (i := 3) rfl)) (hw _ (List.mem_of_getElem? (i := 4) rfl)) (hw _ (List.mem_of_getElem? (i := 2) rfl)) (hw _ (List.mem_of_getElem? (i := 5) rfl)) (by decide) e3 (rmsi l Z a0 hw [] b3 jv tv h3 n0 Zs E_b3 _ _ F_iterations_b3 F_saltLength_b3 g_b3) (by decide) (by decide) (by decide) (by decide) (g := (mkF m 47 #[.val (.int p1), .val (.int p2), .val (.int p3), .val (.int p4), .val (.int p5), .val (.int jv), .val (.int tv), .val (.ref b1), .unset, .unset, .unset, .unset, .unset, .unset, .unset] [(.int tv), (.int jv), (.ref b3), (.ref b3)])) rfl (by rw [hml]; rfl) (lenOf own_pd2 rfl) rfl (by show 2 * 0 + _ ≤ _; exact Nat.le_of_eq rfl) (hb hby at_47) ?_
      rintro T4 L4 _ X4 ⟨rfl, N4q, Kq4, Eq4, Fq4_iterations, Fq4_saltLength⟩
      have N4 := Fr.app N2 N4q
      show own_Wp _ _ _ _ (T4.setTop (mkF m 50 #[.val (.int p1), .val (.int p2), .val (.int p3), .val (.int p4), .val (.int p5), .val (.int jv), .val (.int tv), .val (.ref b1), .unset, .unset, .unset, .unset, .unset, .unset, .unset] [(.ref b3)]))
      have Zs := Nat.le_trans Zs Kq4.1
      have O := O.keep Kq4 (allS g_b3 all0)
      have E_b1 := E_b1.keep Kq4
      have F_iterations_b1 := F_iterations_b1.keep Kq4 (ninS ne_b1_b3 nin0)
      have F_saltLength_b1 := F_saltLength_b1.keep Kq4 (ninS ne_b1_b3 nin0)
      have E_b3 := E_b3.keep Kq4
      have E_b3 := Eq4
      have F_iterations_b3 := Fq4_iterations
      have F_saltLength_b3 := Fq4_saltLength
      refine own_of (fun tgt kon => XS.astore X4.here hx rfl (hb hby at_50) rfl rfl (l' := #[.val (.int p1), .val (.int p2), .val (.int p3), .val (.int p4), .val (.int p5), .val (.int jv), .val (.int tv), .val (.ref b1), .val (.ref b3), .unset, .unset, .unset, .unset, .unset, .unset]) rfl kon) ?_
      show own_Wp _ _ _ _ (T4.setTop (mkF m 52 #[.val (.int p1), .val (.int p2), .val (.int p3), .val (.int p4), .val (.int p5), .val (.int jv), .val (.int tv), .val (.ref b1), .val (.ref b3), .unset, .unset, .unset, .unset, .unset, .unset] []))
      refine own_of (fun tgt kon => XS.iloadN X4.here hx rfl (hb hby at_52) rfl kon) ?_
      show own_Wp _ _ _ _ (T4.setTop (mkF m 53 #[.val (.int p1), .val (.int p2), .val (.int p3), .val (.int p4), .val (.int p5), .val (.int jv), .val (.int tv), .val (.ref b1), .val (.ref b3), .unset, .unset, .unset, .unset, .unset, .unset] [(.int p1)]))
      refine own_of (fun tgt kon => XS.iload X4.here hx rfl (hb hby at_53) rfl kon) ?_
      show own_Wp _ _ _ _ (T4.setTop (mkF m 55 #[.val (.int p1), .val (.int p2), .val (.int p3), .val (.int p4), .val (.int p5), .val (.int jv), .val (.int tv), .val (.ref b1), .val (.ref b3), .unset, .unset, .unset, .unset, .unset, .unset] [(.int jv), (.int p1)]))
      have J69 : ∀ (ex : Int32), (ex = if p1 = jv ∧ p2 = tv then (1 : Int32) else 0) → own_Wp p.tables e below (own_K room_1 s below (Q_rm0 Z p1 p2 p3 p4 p5 ah ic h0 n0)) (T4.setTop (mkF m 69 #[.val (.int p1), .val (.int p2), .val (.int p3), .val (.int p4), .val (.int p5), .val (.int jv), .val (.int tv), .val (.ref b1), .val (.ref b3), .unset, .unset, .unset, .unset, .unset, .unset] [(.int ex)])) := by
        intro ex h_ex
        refine own_of (fun tgt kon => XS.istore X4.here hx rfl (hb hby at_69) rfl (l' := #[.val (.int p1), .val (.int p2), .val (.int p3), .val (.int p4), .val (.int p5), .val (.int jv), .val (.int tv), .val (.ref b1), .val (.ref b3), .val (.int ex), .unset, .unset, .unset, .unset, .unset]) rfl kon) ?_
        show own_Wp _ _ _ _ (T4.setTop (mkF m 71 #[.val (.int p1), .val (.int p2), .val (.int p3), .val (.int p4), .val (.int p5), .val (.int jv), .val (.int tv), .val (.ref b1), .val (.ref b3), .val (.int ex), .unset, .unset, .unset, .unset, .unset] []))
        refine own_of (fun tgt kon => XS.iload X4.here hx rfl (hb hby at_71) rfl kon) ?_
        show own_Wp _ _ _ _ (T4.setTop (mkF m 73 #[.val (.int p1), .val (.int p2), .val (.int p3), .val (.int p4), .val (.int p5), .val (.int jv), .val (.int tv), .val (.ref b1), .val (.ref b3), .val (.int ex), .unset, .unset, .unset, .unset, .unset] [(.int p5)]))
        refine own_of (fun tgt kon => XS.iconst X4.here hx rfl (hb hby at_73) kon) ?_
        show own_Wp _ _ _ _ (T4.setTop (mkF m 74 #[.val (.int p1), .val (.int p2), .val (.int p3), .val (.int p4), .val (.int p5), .val (.int jv), .val (.int tv), .val (.ref b1), .val (.ref b3), .val (.int ex), .unset, .unset, .unset, .unset, .unset] [(.int (4 : Int32)), (.int p5)]))
        refine own_of (fun tgt kon => XS.iand X4.here hx rfl (hb hby at_74) rfl kon) ?_
        show own_Wp _ _ _ _ (T4.setTop (mkF m 75 #[.val (.int p1), .val (.int p2), .val (.int p3), .val (.int p4), .val (.int p5), .val (.int jv), .val (.int tv), .val (.ref b1), .val (.ref b3), .val (.int ex), .unset, .unset, .unset, .unset, .unset] [(.int (p5 &&& (4 : Int32)))]))
        by_cases hc75 : (p5 &&& (4 : Int32)) = (0 : Int32)
        · skip
          refine own_of (fun tgt kon => XS.ifYes X4.here hx rfl (pc0 := 75) (pc' := 82) rfl (hb hby at_75) rfl ((if0 _ _).trans (teq hc75).1) (by decide) (by decide) kon) ?_
          show own_Wp _ _ _ _ (T4.setTop (mkF m 82 #[.val (.int p1), .val (.int p2), .val (.int p3), .val (.int p4), .val (.int p5), .val (.int jv), .val (.int tv), .val (.ref b1), .val (.ref b3), .val (.int ex), .unset, .unset, .unset, .unset, .unset] []))
          refine own_of (fun tgt kon => XS.iloadN X4.here hx rfl (hb hby at_82) rfl kon) ?_
          show own_Wp _ _ _ _ (T4.setTop (mkF m 83 #[.val (.int p1), .val (.int p2), .val (.int p3), .val (.int p4), .val (.int p5), .val (.int jv), .val (.int tv), .val (.ref b1), .val (.ref b3), .val (.int ex), .unset, .unset, .unset, .unset, .unset] [(.int p1)]))
          refine own_callS X4 hx hZ (y := (⟨"java/lang/Integer", "valueOf", "(I)Ljava/lang/Integer;"⟩ : MethodName)) (argsL := [(.int p1)]) (rest := []) (W := 0) hown (hw _ (List.mem_of_getElem? (i := 13) rfl)) (hw _ (List.mem_of_getElem? (i := 14) rfl)) (hw _ (List.mem_of_getElem? (i := 15) rfl)) (hw _ (List.mem_of_getElem? (i := 16) rfl)) (by decide) rfl (rmvo l Z a0 hw [] p1 ah ic T4.heap n0 Zs (S_H.ext O.2) (S_K.ext O.2) (A_K.ext O.2) (fun k hk => (E_K k hk).ext O.2)) (by decide) (by decide) (by decide) (by decide) (g := (mkF m 83 #[.val (.int p1), .val (.int p2), .val (.int p3), .val (.int p4), .val (.int p5), .val (.int jv), .val (.int tv), .val (.ref b1), .val (.ref b3), .val (.int ex), .unset, .unset, .unset, .unset, .unset] [(.int p1)])) rfl (by rw [hml]; rfl) (lenOf own_pd3 rfl) rfl (by show 2 * 0 + _ ≤ _; exact Nat.le_of_eq rfl) (hb hby at_83) ?_
          rintro T5 L5 _ X5 ⟨bi5, rfl, N5q, Kq5, E_bi5⟩
          have N5 := Fr.app N4 N5q
          show own_Wp _ _ _ _ (T5.setTop (mkF m 86 #[.val (.int p1), .val (.int p2), .val (.int p3), .val (.int p4), .val (.int p5), .val (.int jv), .val (.int tv), .val (.ref b1), .val (.ref b3), .val (.int ex), .unset, .unset, .unset, .unset, .unset] [(.ref bi5)]))
          have Zs := Nat.le_trans Zs Kq5.1
          have O := O.keep Kq5 all0
          have E_b1 := E_b1.keep Kq5
          have F_iterations_b1 := F_iterations_b1.keep Kq5 nin0
          have F_saltLength_b1 := F_saltLength_b1.keep Kq5 nin0
          have E_b3 := E_b3.keep Kq5
          have F_iterations_b3 := F_iterations_b3.keep Kq5 nin0
          have F_saltLength_b3 := F_saltLength_b3.keep Kq5 nin0
          refine own_of (fun tgt kon => XS.astore X5.here hx rfl (hb hby at_86) rfl rfl (l' := #[.val (.int p1), .val (.int p2), .val (.int p3), .val (.int p4), .val (.int p5), .val (.int jv), .val (.int tv), .val (.ref b1), .val (.ref b3), .val (.int ex), .val (.ref bi5), .unset, .unset, .unset, .unset]) rfl kon) ?_
          show own_Wp _ _ _ _ (T5.setTop (mkF m 88 #[.val (.int p1), .val (.int p2), .val (.int p3), .val (.int p4), .val (.int p5), .val (.int jv), .val (.int tv), .val (.ref b1), .val (.ref b3), .val (.int ex), .val (.ref bi5), .unset, .unset, .unset, .unset] []))
          refine own_of (fun tgt kon => XS.aload X5.here hx rfl (hb hby at_88) rfl rfl kon) ?_
          show own_Wp _ _ _ _ (T5.setTop (mkF m 90 #[.val (.int p1), .val (.int p2), .val (.int p3), .val (.int p4), .val (.int p5), .val (.int jv), .val (.int tv), .val (.ref b1), .val (.ref b3), .val (.int ex), .val (.ref bi5), .unset, .unset, .unset, .unset] [(.ref b1)]))
          refine own_of (fun tgt kon => XS.aload X5.here hx rfl (hb hby at_90) rfl rfl kon) ?_
          show own_Wp _ _ _ _ (T5.setTop (mkF m 92 #[.val (.int p1), .val (.int p2), .val (.int p3), .val (.int p4), .val (.int p5), .val (.int jv), .val (.int tv), .val (.ref b1), .val (.ref b3), .val (.int ex), .val (.ref bi5), .unset, .unset, .unset, .unset] [(.ref b3), (.ref b1)]))
          refine own_callV X5 hx hZ (C := "com/example/ply2/ply2/metadata/ScramCredential$Shape") (y := (⟨"com/example/ply2/ply2/metadata/ScramCredential$Shape", "equals", "(Ljava/lang/Object;)Z"⟩ : MethodName)) (a := b1) (argsL := [(.ref b3)]) (rest := []) (W := 0) hown (hw _ (List.mem_of_getElem? (i := 20) rfl)) (hw _ (List.mem_of_getElem? (i := 21) rfl)) (hw _ (List.mem_of_getElem? (i := 23) rfl)) (hw _ (List.mem_of_getElem? (i := 22) rfl)) (hw _ (List.mem_of_getElem? (i := 2) rfl)) (hw _ (List.mem_of_getElem? (i := 24) rfl)) (by decide) rfl E_b1 (rmeqs l Z a0 hw [] b1 b3 p1 p2 jv tv T5.heap n0 Zs F_iterations_b1 F_saltLength_b1 E_b3 F_iterations_b3 F_saltLength_b3) (by decide) (by decide) (by decide) (by decide) (g := (mkF m 92 #[.val (.int p1), .val (.int p2), .val (.int p3), .val (.int p4), .val (.int p5), .val (.int jv), .val (.int tv), .val (.ref b1), .val (.ref b3), .val (.int ex), .val (.ref bi5), .unset, .unset, .unset, .unset] [(.ref b3), (.ref b1)])) rfl (by rw [hml]; rfl) (lenOf own_pd4 rfl) rfl (by show 2 * 0 + _ ≤ _; exact Nat.le_of_eq rfl) (hb hby at_92) ?_
          rintro T6 L6 _ X6 ⟨rfl, N6q, e6⟩
          have N6 := Fr.app N5 N6q
          show own_Wp _ _ _ _ (T6.setTop (mkF m 95 #[.val (.int p1), .val (.int p2), .val (.int p3), .val (.int p4), .val (.int p5), .val (.int jv), .val (.int tv), .val (.ref b1), .val (.ref b3), .val (.int ex), .val (.ref bi5), .unset, .unset, .unset, .unset] [(.int (own_eq p1 p2 jv tv))]))
          refine own_of (fun tgt kon => XS.istore X6.here hx rfl (hb hby at_95) rfl (l' := #[.val (.int p1), .val (.int p2), .val (.int p3), .val (.int p4), .val (.int p5), .val (.int jv), .val (.int tv), .val (.ref b1), .val (.ref b3), .val (.int ex), .val (.ref bi5), .val (.int (own_eq p1 p2 jv tv)), .unset, .unset, .unset]) rfl kon) ?_
          show own_Wp _ _ _ _ (T6.setTop (mkF m 97 #[.val (.int p1), .val (.int p2), .val (.int p3), .val (.int p4), .val (.int p5), .val (.int jv), .val (.int tv), .val (.ref b1), .val (.ref b3), .val (.int ex), .val (.ref bi5), .val (.int (own_eq p1 p2 jv tv)), .unset, .unset, .unset] []))
          refine own_of (fun tgt kon => XS.aload X6.here hx rfl (hb hby at_97) rfl rfl kon) ?_
          show own_Wp _ _ _ _ (T6.setTop (mkF m 99 #[.val (.int p1), .val (.int p2), .val (.int p3), .val (.int p4), .val (.int p5), .val (.int jv), .val (.int tv), .val (.ref b1), .val (.ref b3), .val (.int ex), .val (.ref bi5), .val (.int (own_eq p1 p2 jv tv)), .unset, .unset, .unset] [(.ref b3)]))
          refine own_of (fun tgt kon => XS.aload X6.here hx rfl (hb hby at_99) rfl rfl kon) ?_
          show own_Wp _ _ _ _ (T6.setTop (mkF m 101 #[.val (.int p1), .val (.int p2), .val (.int p3), .val (.int p4), .val (.int p5), .val (.int jv), .val (.int tv), .val (.ref b1), .val (.ref b3), .val (.int ex), .val (.ref bi5), .val (.int (own_eq p1 p2 jv tv)), .unset, .unset, .unset] [(.ref b1), (.ref b3)]))
          refine own_callV X6 hx hZ (C := "com/example/ply2/ply2/metadata/ScramCredential$Shape") (y := (⟨"com/example/ply2/ply2/metadata/ScramCredential$Shape", "equals", "(Ljava/lang/Object;)Z"⟩ : MethodName)) (a := b3) (argsL := [(.ref b1)]) (rest := []) (W := 0) hown (hw _ (List.mem_of_getElem? (i := 20) rfl)) (hw _ (List.mem_of_getElem? (i := 21) rfl)) (hw _ (List.mem_of_getElem? (i := 23) rfl)) (hw _ (List.mem_of_getElem? (i := 22) rfl)) (hw _ (List.mem_of_getElem? (i := 2) rfl)) (hw _ (List.mem_of_getElem? (i := 24) rfl)) (by decide) e6 E_b3 (rmeqs l Z a0 hw [] b3 b1 jv tv p1 p2 T5.heap n0 Zs F_iterations_b3 F_saltLength_b3 E_b1 F_iterations_b1 F_saltLength_b1) (by decide) (by decide) (by decide) (by decide) (g := (mkF m 101 #[.val (.int p1), .val (.int p2), .val (.int p3), .val (.int p4), .val (.int p5), .val (.int jv), .val (.int tv), .val (.ref b1), .val (.ref b3), .val (.int ex), .val (.ref bi5), .val (.int (own_eq p1 p2 jv tv)), .unset, .unset, .unset] [(.ref b1), (.ref b3)])) rfl (by rw [hml]; rfl) (lenOf own_pd4 rfl) rfl (by show 2 * 0 + _ ≤ _; exact Nat.le_of_eq rfl) (hb hby at_101) ?_
          rintro T7 L7 _ X7 ⟨rfl, N7q, e7⟩
          have N7 := Fr.app N6 N7q
          show own_Wp _ _ _ _ (T7.setTop (mkF m 104 #[.val (.int p1), .val (.int p2), .val (.int p3), .val (.int p4), .val (.int p5), .val (.int jv), .val (.int tv), .val (.ref b1), .val (.ref b3), .val (.int ex), .val (.ref bi5), .val (.int (own_eq p1 p2 jv tv)), .unset, .unset, .unset] [(.int (own_eq jv tv p1 p2))]))
          refine own_of (fun tgt kon => XS.istore X7.here hx rfl (hb hby at_104) rfl (l' := #[.val (.int p1), .val (.int p2), .val (.int p3), .val (.int p4), .val (.int p5), .val (.int jv), .val (.int tv), .val (.ref b1), .val (.ref b3), .val (.int ex), .val (.ref bi5), .val (.int (own_eq p1 p2 jv tv)), .val (.int (own_eq jv tv p1 p2)), .unset, .unset]) rfl kon) ?_
          show own_Wp _ _ _ _ (T7.setTop (mkF m 106 #[.val (.int p1), .val (.int p2), .val (.int p3), .val (.int p4), .val (.int p5), .val (.int jv), .val (.int tv), .val (.ref b1), .val (.ref b3), .val (.int ex), .val (.ref bi5), .val (.int (own_eq p1 p2 jv tv)), .val (.int (own_eq jv tv p1 p2)), .unset, .unset] []))
          refine own_of (fun tgt kon => XS.aload X7.here hx rfl (hb hby at_106) rfl rfl kon) ?_
          show own_Wp _ _ _ _ (T7.setTop (mkF m 108 #[.val (.int p1), .val (.int p2), .val (.int p3), .val (.int p4), .val (.int p5), .val (.int jv), .val (.int tv), .val (.ref b1), .val (.ref b3), .val (.int ex), .val (.ref bi5), .val (.int (own_eq p1 p2 jv tv)), .val (.int (own_eq jv tv p1 p2)), .unset, .unset] [(.ref b1)]))
          refine own_of (fun tgt kon => XS.aload X7.here hx rfl (hb hby at_108) rfl rfl kon) ?_
          show own_Wp _ _ _ _ (T7.setTop (mkF m 110 #[.val (.int p1), .val (.int p2), .val (.int p3), .val (.int p4), .val (.int p5), .val (.int jv), .val (.int tv), .val (.ref b1), .val (.ref b3), .val (.int ex), .val (.ref bi5), .val (.int (own_eq p1 p2 jv tv)), .val (.int (own_eq jv tv p1 p2)), .unset, .unset] [(.ref b1), (.ref b1)]))
          refine own_callV X7 hx hZ (C := "com/example/ply2/ply2/metadata/ScramCredential$Shape") (y := (⟨"com/example/ply2/ply2/metadata/ScramCredential$Shape", "equals", "(Ljava/lang/Object;)Z"⟩ : MethodName)) (a := b1) (argsL := [(.ref b1)]) (rest := []) (W := 0) hown (hw _ (List.mem_of_getElem? (i := 20) rfl)) (hw _ (List.mem_of_getElem? (i := 21) rfl)) (hw _ (List.mem_of_getElem? (i := 23) rfl)) (hw _ (List.mem_of_getElem? (i := 22) rfl)) (hw _ (List.mem_of_getElem? (i := 2) rfl)) (hw _ (List.mem_of_getElem? (i := 24) rfl)) (by decide) e7 E_b1 (rmeqs l Z a0 hw [] b1 b1 p1 p2 p1 p2 T5.heap n0 Zs F_iterations_b1 F_saltLength_b1 E_b1 F_iterations_b1 F_saltLength_b1) (by decide) (by decide) (by decide) (by decide) (g := (mkF m 110 #[.val (.int p1), .val (.int p2), .val (.int p3), .val (.int p4), .val (.int p5), .val (.int jv), .val (.int tv), .val (.ref b1), .val (.ref b3), .val (.int ex), .val (.ref bi5), .val (.int (own_eq p1 p2 jv tv)), .val (.int (own_eq jv tv p1 p2)), .unset, .unset] [(.ref b1), (.ref b1)])) rfl (by rw [hml]; rfl) (lenOf own_pd4 rfl) rfl (by show 2 * 0 + _ ≤ _; exact Nat.le_of_eq rfl) (hb hby at_110) ?_
          rintro T8 L8 _ X8 ⟨rfl, N8q, e8⟩
          have N8 := Fr.app N7 N8q
          show own_Wp _ _ _ _ (T8.setTop (mkF m 113 #[.val (.int p1), .val (.int p2), .val (.int p3), .val (.int p4), .val (.int p5), .val (.int jv), .val (.int tv), .val (.ref b1), .val (.ref b3), .val (.int ex), .val (.ref bi5), .val (.int (own_eq p1 p2 jv tv)), .val (.int (own_eq jv tv p1 p2)), .unset, .unset] [(.int (own_eq p1 p2 p1 p2))]))
          refine own_of (fun tgt kon => XS.istore X8.here hx rfl (hb hby at_113) rfl (l' := #[.val (.int p1), .val (.int p2), .val (.int p3), .val (.int p4), .val (.int p5), .val (.int jv), .val (.int tv), .val (.ref b1), .val (.ref b3), .val (.int ex), .val (.ref bi5), .val (.int (own_eq p1 p2 jv tv)), .val (.int (own_eq jv tv p1 p2)), .val (.int (own_eq p1 p2 p1 p2)), .unset]) rfl kon) ?_
          show own_Wp _ _ _ _ (T8.setTop (mkF m 115 #[.val (.int p1), .val (.int p2), .val (.int p3), .val (.int p4), .val (.int p5), .val (.int jv), .val (.int tv), .val (.ref b1), .val (.ref b3), .val (.int ex), .val (.ref bi5), .val (.int (own_eq p1 p2 jv tv)), .val (.int (own_eq jv tv p1 p2)), .val (.int (own_eq p1 p2 p1 p2)), .unset] []))
          refine own_of (fun tgt kon => XS.aload X8.here hx rfl (hb hby at_115) rfl rfl kon) ?_
          show own_Wp _ _ _ _ (T8.setTop (mkF m 117 #[.val (.int p1), .val (.int p2), .val (.int p3), .val (.int p4), .val (.int p5), .val (.int jv), .val (.int tv), .val (.ref b1), .val (.ref b3), .val (.int ex), .val (.ref bi5), .val (.int (own_eq p1 p2 jv tv)), .val (.int (own_eq jv tv p1 p2)), .val (.int (own_eq p1 p2 p1 p2)), .unset] [(.ref b1)]))
          refine own_of (fun tgt kon => XS.aload X8.here hx rfl (hb hby at_117) rfl rfl kon) ?_
          show own_Wp _ _ _ _ (T8.setTop (mkF m 119 #[.val (.int p1), .val (.int p2), .val (.int p3), .val (.int p4), .val (.int p5), .val (.int jv), .val (.int tv), .val (.ref b1), .val (.ref b3), .val (.int ex), .val (.ref bi5), .val (.int (own_eq p1 p2 jv tv)), .val (.int (own_eq jv tv p1 p2)), .val (.int (own_eq p1 p2 p1 p2)), .unset] [(.ref bi5), (.ref b1)]))
          refine own_callV X8 hx hZ (C := "com/example/ply2/ply2/metadata/ScramCredential$Shape") (y := (⟨"com/example/ply2/ply2/metadata/ScramCredential$Shape", "equals", "(Ljava/lang/Object;)Z"⟩ : MethodName)) (a := b1) (argsL := [(.ref bi5)]) (rest := []) (W := 0) hown (hw _ (List.mem_of_getElem? (i := 20) rfl)) (hw _ (List.mem_of_getElem? (i := 21) rfl)) (hw _ (List.mem_of_getElem? (i := 23) rfl)) (hw _ (List.mem_of_getElem? (i := 22) rfl)) (hw _ (List.mem_of_getElem? (i := 2) rfl)) (hw _ (List.mem_of_getElem? (i := 24) rfl)) (by decide) e8 E_b1 (rmeqi l Z a0 hw [] b1 bi5 T5.heap n0 Zs E_bi5) (by decide) (by decide) (by decide) (by decide) (g := (mkF m 119 #[.val (.int p1), .val (.int p2), .val (.int p3), .val (.int p4), .val (.int p5), .val (.int jv), .val (.int tv), .val (.ref b1), .val (.ref b3), .val (.int ex), .val (.ref bi5), .val (.int (own_eq p1 p2 jv tv)), .val (.int (own_eq jv tv p1 p2)), .val (.int (own_eq p1 p2 p1 p2)), .unset] [(.ref bi5), (.ref b1)])) rfl (by rw [hml]; rfl) (lenOf own_pd4 rfl) rfl (by show 2 * 0 + _ ≤ _; exact Nat.le_of_eq rfl) (hb hby at_119) ?_
          rintro T9 L9 _ X9 ⟨rfl, N9q, e9⟩
          have N9 := Fr.app N8 N9q
          show own_Wp _ _ _ _ (T9.setTop (mkF m 122 #[.val (.int p1), .val (.int p2), .val (.int p3), .val (.int p4), .val (.int p5), .val (.int jv), .val (.int tv), .val (.ref b1), .val (.ref b3), .val (.int ex), .val (.ref bi5), .val (.int (own_eq p1 p2 jv tv)), .val (.int (own_eq jv tv p1 p2)), .val (.int (own_eq p1 p2 p1 p2)), .unset] [(.int (0 : Int32))]))
          refine own_of (fun tgt kon => XS.istore X9.here hx rfl (hb hby at_122) rfl (l' := #[.val (.int p1), .val (.int p2), .val (.int p3), .val (.int p4), .val (.int p5), .val (.int jv), .val (.int tv), .val (.ref b1), .val (.ref b3), .val (.int ex), .val (.ref bi5), .val (.int (own_eq p1 p2 jv tv)), .val (.int (own_eq jv tv p1 p2)), .val (.int (own_eq p1 p2 p1 p2)), .val (.int (0 : Int32))]) rfl kon) ?_
          show own_Wp _ _ _ _ (T9.setTop (mkF m 124 #[.val (.int p1), .val (.int p2), .val (.int p3), .val (.int p4), .val (.int p5), .val (.int jv), .val (.int tv), .val (.ref b1), .val (.ref b3), .val (.int ex), .val (.ref bi5), .val (.int (own_eq p1 p2 jv tv)), .val (.int (own_eq jv tv p1 p2)), .val (.int (own_eq p1 p2 p1 p2)), .val (.int (0 : Int32))] []))
          refine own_of (fun tgt kon => XS.iload X9.here hx rfl (hb hby at_124) rfl kon) ?_
          show own_Wp _ _ _ _ (T9.setTop (mkF m 126 #[.val (.int p1), .val (.int p2), .val (.int p3), .val (.int p4), .val (.int p5), .val (.int jv), .val (.int tv), .val (.ref b1), .val (.ref b3), .val (.int ex), .val (.ref bi5), .val (.int (own_eq p1 p2 jv tv)), .val (.int (own_eq jv tv p1 p2)), .val (.int (own_eq p1 p2 p1 p2)), .val (.int (0 : Int32))] [(.int (own_eq p1 p2 jv tv))]))
          refine own_of (fun tgt kon => XS.iload X9.here hx rfl (hb hby at_126) rfl kon) ?_
          show own_Wp _ _ _ _ (T9.setTop (mkF m 128 #[.val (.int p1), .val (.int p2), .val (.int p3), .val (.int p4), .val (.int p5), .val (.int jv), .val (.int tv), .val (.ref b1), .val (.ref b3), .val (.int ex), .val (.ref bi5), .val (.int (own_eq p1 p2 jv tv)), .val (.int (own_eq jv tv p1 p2)), .val (.int (own_eq p1 p2 p1 p2)), .val (.int (0 : Int32))] [(.int ex), (.int (own_eq p1 p2 jv tv))]))
          have hc128 : (own_eq p1 p2 jv tv) = ex := h_ex.symm
          refine own_of (fun tgt kon => XS.icmpNo X9.here hx rfl (hb hby at_128) rfl (teq hc128).2 kon) ?_
          show own_Wp _ _ _ _ (T9.setTop (mkF m 131 #[.val (.int p1), .val (.int p2), .val (.int p3), .val (.int p4), .val (.int p5), .val (.int jv), .val (.int tv), .val (.ref b1), .val (.ref b3), .val (.int ex), .val (.ref bi5), .val (.int (own_eq p1 p2 jv tv)), .val (.int (own_eq jv tv p1 p2)), .val (.int (own_eq p1 p2 p1 p2)), .val (.int (0 : Int32))] []))
          refine own_of (fun tgt kon => XS.iload X9.here hx rfl (hb hby at_131) rfl kon) ?_
          show own_Wp _ _ _ _ (T9.setTop (mkF m 133 #[.val (.int p1), .val (.int p2), .val (.int p3), .val (.int p4), .val (.int p5), .val (.int jv), .val (.int tv), .val (.ref b1), .val (.ref b3), .val (.int ex), .val (.ref bi5), .val (.int (own_eq p1 p2 jv tv)), .val (.int (own_eq jv tv p1 p2)), .val (.int (own_eq p1 p2 p1 p2)), .val (.int (0 : Int32))] [(.int (own_eq jv tv p1 p2))]))
          refine own_of (fun tgt kon => XS.iload X9.here hx rfl (hb hby at_133) rfl kon) ?_
          show own_Wp _ _ _ _ (T9.setTop (mkF m 135 #[.val (.int p1), .val (.int p2), .val (.int p3), .val (.int p4), .val (.int p5), .val (.int jv), .val (.int tv), .val (.ref b1), .val (.ref b3), .val (.int ex), .val (.ref bi5), .val (.int (own_eq p1 p2 jv tv)), .val (.int (own_eq jv tv p1 p2)), .val (.int (own_eq p1 p2 p1 p2)), .val (.int (0 : Int32))] [(.int ex), (.int (own_eq jv tv p1 p2))]))
          have hc135 : (own_eq jv tv p1 p2) = ex := (own_eq_comm _ _ _ _).trans h_ex.symm
          refine own_of (fun tgt kon => XS.icmpNo X9.here hx rfl (hb hby at_135) rfl (teq hc135).2 kon) ?_
          show own_Wp _ _ _ _ (T9.setTop (mkF m 138 #[.val (.int p1), .val (.int p2), .val (.int p3), .val (.int p4), .val (.int p5), .val (.int jv), .val (.int tv), .val (.ref b1), .val (.ref b3), .val (.int ex), .val (.ref bi5), .val (.int (own_eq p1 p2 jv tv)), .val (.int (own_eq jv tv p1 p2)), .val (.int (own_eq p1 p2 p1 p2)), .val (.int (0 : Int32))] []))
          refine own_of (fun tgt kon => XS.iload X9.here hx rfl (hb hby at_138) rfl kon) ?_
          show own_Wp _ _ _ _ (T9.setTop (mkF m 140 #[.val (.int p1), .val (.int p2), .val (.int p3), .val (.int p4), .val (.int p5), .val (.int jv), .val (.int tv), .val (.ref b1), .val (.ref b3), .val (.int ex), .val (.ref bi5), .val (.int (own_eq p1 p2 jv tv)), .val (.int (own_eq jv tv p1 p2)), .val (.int (own_eq p1 p2 p1 p2)), .val (.int (0 : Int32))] [(.int (own_eq p1 p2 p1 p2))]))
          have hc140 : ¬ ((own_eq p1 p2 p1 p2) = (0 : Int32)) := by rw [own_eq_self]; decide
          refine own_of (fun tgt kon => XS.ifNo X9.here hx rfl (hb hby at_140) rfl ((if0 _ _).trans (feq hc140).1) kon) ?_
          show own_Wp _ _ _ _ (T9.setTop (mkF m 143 #[.val (.int p1), .val (.int p2), .val (.int p3), .val (.int p4), .val (.int p5), .val (.int jv), .val (.int tv), .val (.ref b1), .val (.ref b3), .val (.int ex), .val (.ref bi5), .val (.int (own_eq p1 p2 jv tv)), .val (.int (own_eq jv tv p1 p2)), .val (.int (own_eq p1 p2 p1 p2)), .val (.int (0 : Int32))] []))
          refine own_of (fun tgt kon => XS.iload X9.here hx rfl (hb hby at_143) rfl kon) ?_
          show own_Wp _ _ _ _ (T9.setTop (mkF m 145 #[.val (.int p1), .val (.int p2), .val (.int p3), .val (.int p4), .val (.int p5), .val (.int jv), .val (.int tv), .val (.ref b1), .val (.ref b3), .val (.int ex), .val (.ref bi5), .val (.int (own_eq p1 p2 jv tv)), .val (.int (own_eq jv tv p1 p2)), .val (.int (own_eq p1 p2 p1 p2)), .val (.int (0 : Int32))] [(.int (0 : Int32))]))
          have hc145 : (0 : Int32) = (0 : Int32) := rfl
          refine own_of (fun tgt kon => XS.ifNo X9.here hx rfl (hb hby at_145) rfl ((if0 _ _).trans (teq hc145).2) kon) ?_
          show own_Wp _ _ _ _ (T9.setTop (mkF m 148 #[.val (.int p1), .val (.int p2), .val (.int p3), .val (.int p4), .val (.int p5), .val (.int jv), .val (.int tv), .val (.ref b1), .val (.ref b3), .val (.int ex), .val (.ref bi5), .val (.int (own_eq p1 p2 jv tv)), .val (.int (own_eq jv tv p1 p2)), .val (.int (own_eq p1 p2 p1 p2)), .val (.int (0 : Int32))] []))
          refine own_of (fun tgt kon => XS.iconst X9.here hx rfl (hb hby at_148) kon) ?_
          show own_Wp _ _ _ _ (T9.setTop (mkF m 149 #[.val (.int p1), .val (.int p2), .val (.int p3), .val (.int p4), .val (.int p5), .val (.int jv), .val (.int tv), .val (.ref b1), .val (.ref b3), .val (.int ex), .val (.ref bi5), .val (.int (own_eq p1 p2 jv tv)), .val (.int (own_eq jv tv p1 p2)), .val (.int (own_eq p1 p2 p1 p2)), .val (.int (0 : Int32))] [(.int (1 : Int32))]))
          refine own_of (fun tgt kon => XS.goto X9.here hx rfl (pc0 := 149) (pc' := 153) rfl (hb hby at_149) (by decide) (by decide) kon) ?_
          show own_Wp _ _ _ _ (T9.setTop (mkF m 153 #[.val (.int p1), .val (.int p2), .val (.int p3), .val (.int p4), .val (.int p5), .val (.int jv), .val (.int tv), .val (.ref b1), .val (.ref b3), .val (.int ex), .val (.ref bi5), .val (.int (own_eq p1 p2 jv tv)), .val (.int (own_eq jv tv p1 p2)), .val (.int (own_eq p1 p2 p1 p2)), .val (.int (0 : Int32))] [(.int (1 : Int32))]))
          refine own_ret X9 hlk (some (.int (1 : Int32))) (own_rtI hrt) (fun fs hr => retN X9 hx (t := .boolean) hrt (by simp) (hb hby at_153) hr) ?_ (by decide) (by decide)
          rw [e9]
          exact ⟨rfl, N9⟩
        · skip
          refine own_of (fun tgt kon => XS.ifNo X4.here hx rfl (hb hby at_75) rfl ((if0 _ _).trans (feq hc75).1) kon) ?_
          show own_Wp _ _ _ _ (T4.setTop (mkF m 78 #[.val (.int p1), .val (.int p2), .val (.int p3), .val (.int p4), .val (.int p5), .val (.int jv), .val (.int tv), .val (.ref b1), .val (.ref b3), .val (.int ex), .unset, .unset, .unset, .unset, .unset] []))
          refine own_of (fun tgt kon => XS.aconstNull X4.here hx rfl (hb hby at_78) kon) ?_
          show own_Wp _ _ _ _ (T4.setTop (mkF m 79 #[.val (.int p1), .val (.int p2), .val (.int p3), .val (.int p4), .val (.int p5), .val (.int jv), .val (.int tv), .val (.ref b1), .val (.ref b3), .val (.int ex), .unset, .unset, .unset, .unset, .unset] [.null]))
          refine own_of (fun tgt kon => XS.goto X4.here hx rfl (pc0 := 79) (pc' := 86) rfl (hb hby at_79) (by decide) (by decide) kon) ?_
          show own_Wp _ _ _ _ (T4.setTop (mkF m 86 #[.val (.int p1), .val (.int p2), .val (.int p3), .val (.int p4), .val (.int p5), .val (.int jv), .val (.int tv), .val (.ref b1), .val (.ref b3), .val (.int ex), .unset, .unset, .unset, .unset, .unset] [.null]))
          refine own_of (fun tgt kon => XS.astore X4.here hx rfl (hb hby at_86) rfl rfl (l' := #[.val (.int p1), .val (.int p2), .val (.int p3), .val (.int p4), .val (.int p5), .val (.int jv), .val (.int tv), .val (.ref b1), .val (.ref b3), .val (.int ex), .val .null, .unset, .unset, .unset, .unset]) rfl kon) ?_
          show own_Wp _ _ _ _ (T4.setTop (mkF m 88 #[.val (.int p1), .val (.int p2), .val (.int p3), .val (.int p4), .val (.int p5), .val (.int jv), .val (.int tv), .val (.ref b1), .val (.ref b3), .val (.int ex), .val .null, .unset, .unset, .unset, .unset] []))
          refine own_of (fun tgt kon => XS.aload X4.here hx rfl (hb hby at_88) rfl rfl kon) ?_
          show own_Wp _ _ _ _ (T4.setTop (mkF m 90 #[.val (.int p1), .val (.int p2), .val (.int p3), .val (.int p4), .val (.int p5), .val (.int jv), .val (.int tv), .val (.ref b1), .val (.ref b3), .val (.int ex), .val .null, .unset, .unset, .unset, .unset] [(.ref b1)]))
          refine own_of (fun tgt kon => XS.aload X4.here hx rfl (hb hby at_90) rfl rfl kon) ?_
          show own_Wp _ _ _ _ (T4.setTop (mkF m 92 #[.val (.int p1), .val (.int p2), .val (.int p3), .val (.int p4), .val (.int p5), .val (.int jv), .val (.int tv), .val (.ref b1), .val (.ref b3), .val (.int ex), .val .null, .unset, .unset, .unset, .unset] [(.ref b3), (.ref b1)]))
          refine own_callV X4 hx hZ (C := "com/example/ply2/ply2/metadata/ScramCredential$Shape") (y := (⟨"com/example/ply2/ply2/metadata/ScramCredential$Shape", "equals", "(Ljava/lang/Object;)Z"⟩ : MethodName)) (a := b1) (argsL := [(.ref b3)]) (rest := []) (W := 0) hown (hw _ (List.mem_of_getElem? (i := 20) rfl)) (hw _ (List.mem_of_getElem? (i := 21) rfl)) (hw _ (List.mem_of_getElem? (i := 23) rfl)) (hw _ (List.mem_of_getElem? (i := 22) rfl)) (hw _ (List.mem_of_getElem? (i := 2) rfl)) (hw _ (List.mem_of_getElem? (i := 24) rfl)) (by decide) rfl E_b1 (rmeqs l Z a0 hw [] b1 b3 p1 p2 jv tv T4.heap n0 Zs F_iterations_b1 F_saltLength_b1 E_b3 F_iterations_b3 F_saltLength_b3) (by decide) (by decide) (by decide) (by decide) (g := (mkF m 92 #[.val (.int p1), .val (.int p2), .val (.int p3), .val (.int p4), .val (.int p5), .val (.int jv), .val (.int tv), .val (.ref b1), .val (.ref b3), .val (.int ex), .val .null, .unset, .unset, .unset, .unset] [(.ref b3), (.ref b1)])) rfl (by rw [hml]; rfl) (lenOf own_pd4 rfl) rfl (by show 2 * 0 + _ ≤ _; exact Nat.le_of_eq rfl) (hb hby at_92) ?_
          rintro T10 L10 _ X10 ⟨rfl, N10q, e10⟩
          have N10 := Fr.app N4 N10q
          show own_Wp _ _ _ _ (T10.setTop (mkF m 95 #[.val (.int p1), .val (.int p2), .val (.int p3), .val (.int p4), .val (.int p5), .val (.int jv), .val (.int tv), .val (.ref b1), .val (.ref b3), .val (.int ex), .val .null, .unset, .unset, .unset, .unset] [(.int (own_eq p1 p2 jv tv))]))
          refine own_of (fun tgt kon => XS.istore X10.here hx rfl (hb hby at_95) rfl (l' := #[.val (.int p1), .val (.int p2), .val (.int p3), .val (.int p4), .val (.int p5), .val (.int jv), .val (.int tv), .val (.ref b1), .val (.ref b3), .val (.int ex), .val .null, .val (.int (own_eq p1 p2 jv tv)), .unset, .unset, .unset]) rfl kon) ?_
          show own_Wp _ _ _ _ (T10.setTop (mkF m 97 #[.val (.int p1), .val (.int p2), .val (.int p3), .val (.int p4), .val (.int p5), .val (.int jv), .val (.int tv), .val (.ref b1), .val (.ref b3), .val (.int ex), .val .null, .val (.int (own_eq p1 p2 jv tv)), .unset, .unset, .unset] []))
          refine own_of (fun tgt kon => XS.aload X10.here hx rfl (hb hby at_97) rfl rfl kon) ?_
          show own_Wp _ _ _ _ (T10.setTop (mkF m 99 #[.val (.int p1), .val (.int p2), .val (.int p3), .val (.int p4), .val (.int p5), .val (.int jv), .val (.int tv), .val (.ref b1), .val (.ref b3), .val (.int ex), .val .null, .val (.int (own_eq p1 p2 jv tv)), .unset, .unset, .unset] [(.ref b3)]))
          refine own_of (fun tgt kon => XS.aload X10.here hx rfl (hb hby at_99) rfl rfl kon) ?_
          show own_Wp _ _ _ _ (T10.setTop (mkF m 101 #[.val (.int p1), .val (.int p2), .val (.int p3), .val (.int p4), .val (.int p5), .val (.int jv), .val (.int tv), .val (.ref b1), .val (.ref b3), .val (.int ex), .val .null, .val (.int (own_eq p1 p2 jv tv)), .unset, .unset, .unset] [(.ref b1), (.ref b3)]))
          refine own_callV X10 hx hZ (C := "com/example/ply2/ply2/metadata/ScramCredential$Shape") (y := (⟨"com/example/ply2/ply2/metadata/ScramCredential$Shape", "equals", "(Ljava/lang/Object;)Z"⟩ : MethodName)) (a := b3) (argsL := [(.ref b1)]) (rest := []) (W := 0) hown (hw _ (List.mem_of_getElem? (i := 20) rfl)) (hw _ (List.mem_of_getElem? (i := 21) rfl)) (hw _ (List.mem_of_getElem? (i := 23) rfl)) (hw _ (List.mem_of_getElem? (i := 22) rfl)) (hw _ (List.mem_of_getElem? (i := 2) rfl)) (hw _ (List.mem_of_getElem? (i := 24) rfl)) (by decide) e10 E_b3 (rmeqs l Z a0 hw [] b3 b1 jv tv p1 p2 T4.heap n0 Zs F_iterations_b3 F_saltLength_b3 E_b1 F_iterations_b1 F_saltLength_b1) (by decide) (by decide) (by decide) (by decide) (g := (mkF m 101 #[.val (.int p1), .val (.int p2), .val (.int p3), .val (.int p4), .val (.int p5), .val (.int jv), .val (.int tv), .val (.ref b1), .val (.ref b3), .val (.int ex), .val .null, .val (.int (own_eq p1 p2 jv tv)), .unset, .unset, .unset] [(.ref b1), (.ref b3)])) rfl (by rw [hml]; rfl) (lenOf own_pd4 rfl) rfl (by show 2 * 0 + _ ≤ _; exact Nat.le_of_eq rfl) (hb hby at_101) ?_
          rintro T11 L11 _ X11 ⟨rfl, N11q, e11⟩
          have N11 := Fr.app N10 N11q
          show own_Wp _ _ _ _ (T11.setTop (mkF m 104 #[.val (.int p1), .val (.int p2), .val (.int p3), .val (.int p4), .val (.int p5), .val (.int jv), .val (.int tv), .val (.ref b1), .val (.ref b3), .val (.int ex), .val .null, .val (.int (own_eq p1 p2 jv tv)), .unset, .unset, .unset] [(.int (own_eq jv tv p1 p2))]))
          refine own_of (fun tgt kon => XS.istore X11.here hx rfl (hb hby at_104) rfl (l' := #[.val (.int p1), .val (.int p2), .val (.int p3), .val (.int p4), .val (.int p5), .val (.int jv), .val (.int tv), .val (.ref b1), .val (.ref b3), .val (.int ex), .val .null, .val (.int (own_eq p1 p2 jv tv)), .val (.int (own_eq jv tv p1 p2)), .unset, .unset]) rfl kon) ?_
          show own_Wp _ _ _ _ (T11.setTop (mkF m 106 #[.val (.int p1), .val (.int p2), .val (.int p3), .val (.int p4), .val (.int p5), .val (.int jv), .val (.int tv), .val (.ref b1), .val (.ref b3), .val (.int ex), .val .null, .val (.int (own_eq p1 p2 jv tv)), .val (.int (own_eq jv tv p1 p2)), .unset, .unset] []))
          refine own_of (fun tgt kon => XS.aload X11.here hx rfl (hb hby at_106) rfl rfl kon) ?_
          show own_Wp _ _ _ _ (T11.setTop (mkF m 108 #[.val (.int p1), .val (.int p2), .val (.int p3), .val (.int p4), .val (.int p5), .val (.int jv), .val (.int tv), .val (.ref b1), .val (.ref b3), .val (.int ex), .val .null, .val (.int (own_eq p1 p2 jv tv)), .val (.int (own_eq jv tv p1 p2)), .unset, .unset] [(.ref b1)]))
          refine own_of (fun tgt kon => XS.aload X11.here hx rfl (hb hby at_108) rfl rfl kon) ?_
          show own_Wp _ _ _ _ (T11.setTop (mkF m 110 #[.val (.int p1), .val (.int p2), .val (.int p3), .val (.int p4), .val (.int p5), .val (.int jv), .val (.int tv), .val (.ref b1), .val (.ref b3), .val (.int ex), .val .null, .val (.int (own_eq p1 p2 jv tv)), .val (.int (own_eq jv tv p1 p2)), .unset, .unset] [(.ref b1), (.ref b1)]))
          refine own_callV X11 hx hZ (C := "com/example/ply2/ply2/metadata/ScramCredential$Shape") (y := (⟨"com/example/ply2/ply2/metadata/ScramCredential$Shape", "equals", "(Ljava/lang/Object;)Z"⟩ : MethodName)) (a := b1) (argsL := [(.ref b1)]) (rest := []) (W := 0) hown (hw _ (List.mem_of_getElem? (i := 20) rfl)) (hw _ (List.mem_of_getElem? (i := 21) rfl)) (hw _ (List.mem_of_getElem? (i := 23) rfl)) (hw _ (List.mem_of_getElem? (i := 22) rfl)) (hw _ (List.mem_of_getElem? (i := 2) rfl)) (hw _ (List.mem_of_getElem? (i := 24) rfl)) (by decide) e11 E_b1 (rmeqs l Z a0 hw [] b1 b1 p1 p2 p1 p2 T4.heap n0 Zs F_iterations_b1 F_saltLength_b1 E_b1 F_iterations_b1 F_saltLength_b1) (by decide) (by decide) (by decide) (by decide) (g := (mkF m 110 #[.val (.int p1), .val (.int p2), .val (.int p3), .val (.int p4), .val (.int p5), .val (.int jv), .val (.int tv), .val (.ref b1), .val (.ref b3), .val (.int ex), .val .null, .val (.int (own_eq p1 p2 jv tv)), .val (.int (own_eq jv tv p1 p2)), .unset, .unset] [(.ref b1), (.ref b1)])) rfl (by rw [hml]; rfl) (lenOf own_pd4 rfl) rfl (by show 2 * 0 + _ ≤ _; exact Nat.le_of_eq rfl) (hb hby at_110) ?_
          rintro T12 L12 _ X12 ⟨rfl, N12q, e12⟩
          have N12 := Fr.app N11 N12q
          show own_Wp _ _ _ _ (T12.setTop (mkF m 113 #[.val (.int p1), .val (.int p2), .val (.int p3), .val (.int p4), .val (.int p5), .val (.int jv), .val (.int tv), .val (.ref b1), .val (.ref b3), .val (.int ex), .val .null, .val (.int (own_eq p1 p2 jv tv)), .val (.int (own_eq jv tv p1 p2)), .unset, .unset] [(.int (own_eq p1 p2 p1 p2))]))
          refine own_of (fun tgt kon => XS.istore X12.here hx rfl (hb hby at_113) rfl (l' := #[.val (.int p1), .val (.int p2), .val (.int p3), .val (.int p4), .val (.int p5), .val (.int jv), .val (.int tv), .val (.ref b1), .val (.ref b3), .val (.int ex), .val .null, .val (.int (own_eq p1 p2 jv tv)), .val (.int (own_eq jv tv p1 p2)), .val (.int (own_eq p1 p2 p1 p2)), .unset]) rfl kon) ?_
          show own_Wp _ _ _ _ (T12.setTop (mkF m 115 #[.val (.int p1), .val (.int p2), .val (.int p3), .val (.int p4), .val (.int p5), .val (.int jv), .val (.int tv), .val (.ref b1), .val (.ref b3), .val (.int ex), .val .null, .val (.int (own_eq p1 p2 jv tv)), .val (.int (own_eq jv tv p1 p2)), .val (.int (own_eq p1 p2 p1 p2)), .unset] []))
          refine own_of (fun tgt kon => XS.aload X12.here hx rfl (hb hby at_115) rfl rfl kon) ?_
          show own_Wp _ _ _ _ (T12.setTop (mkF m 117 #[.val (.int p1), .val (.int p2), .val (.int p3), .val (.int p4), .val (.int p5), .val (.int jv), .val (.int tv), .val (.ref b1), .val (.ref b3), .val (.int ex), .val .null, .val (.int (own_eq p1 p2 jv tv)), .val (.int (own_eq jv tv p1 p2)), .val (.int (own_eq p1 p2 p1 p2)), .unset] [(.ref b1)]))
          refine own_of (fun tgt kon => XS.aload X12.here hx rfl (hb hby at_117) rfl rfl kon) ?_
          show own_Wp _ _ _ _ (T12.setTop (mkF m 119 #[.val (.int p1), .val (.int p2), .val (.int p3), .val (.int p4), .val (.int p5), .val (.int jv), .val (.int tv), .val (.ref b1), .val (.ref b3), .val (.int ex), .val .null, .val (.int (own_eq p1 p2 jv tv)), .val (.int (own_eq jv tv p1 p2)), .val (.int (own_eq p1 p2 p1 p2)), .unset] [.null, (.ref b1)]))
          refine own_callV X12 hx hZ (C := "com/example/ply2/ply2/metadata/ScramCredential$Shape") (y := (⟨"com/example/ply2/ply2/metadata/ScramCredential$Shape", "equals", "(Ljava/lang/Object;)Z"⟩ : MethodName)) (a := b1) (argsL := [.null]) (rest := []) (W := 0) hown (hw _ (List.mem_of_getElem? (i := 20) rfl)) (hw _ (List.mem_of_getElem? (i := 21) rfl)) (hw _ (List.mem_of_getElem? (i := 23) rfl)) (hw _ (List.mem_of_getElem? (i := 22) rfl)) (hw _ (List.mem_of_getElem? (i := 2) rfl)) (hw _ (List.mem_of_getElem? (i := 24) rfl)) (by decide) e12 E_b1 (rmeqn l Z a0 hw [] b1 T4.heap n0 Zs) (by decide) (by decide) (by decide) (by decide) (g := (mkF m 119 #[.val (.int p1), .val (.int p2), .val (.int p3), .val (.int p4), .val (.int p5), .val (.int jv), .val (.int tv), .val (.ref b1), .val (.ref b3), .val (.int ex), .val .null, .val (.int (own_eq p1 p2 jv tv)), .val (.int (own_eq jv tv p1 p2)), .val (.int (own_eq p1 p2 p1 p2)), .unset] [.null, (.ref b1)])) rfl (by rw [hml]; rfl) (lenOf own_pd4 rfl) rfl (by show 2 * 0 + _ ≤ _; exact Nat.le_of_eq rfl) (hb hby at_119) ?_
          rintro T13 L13 _ X13 ⟨rfl, N13q, e13⟩
          have N13 := Fr.app N12 N13q
          show own_Wp _ _ _ _ (T13.setTop (mkF m 122 #[.val (.int p1), .val (.int p2), .val (.int p3), .val (.int p4), .val (.int p5), .val (.int jv), .val (.int tv), .val (.ref b1), .val (.ref b3), .val (.int ex), .val .null, .val (.int (own_eq p1 p2 jv tv)), .val (.int (own_eq jv tv p1 p2)), .val (.int (own_eq p1 p2 p1 p2)), .unset] [(.int (0 : Int32))]))
          refine own_of (fun tgt kon => XS.istore X13.here hx rfl (hb hby at_122) rfl (l' := #[.val (.int p1), .val (.int p2), .val (.int p3), .val (.int p4), .val (.int p5), .val (.int jv), .val (.int tv), .val (.ref b1), .val (.ref b3), .val (.int ex), .val .null, .val (.int (own_eq p1 p2 jv tv)), .val (.int (own_eq jv tv p1 p2)), .val (.int (own_eq p1 p2 p1 p2)), .val (.int (0 : Int32))]) rfl kon) ?_
          show own_Wp _ _ _ _ (T13.setTop (mkF m 124 #[.val (.int p1), .val (.int p2), .val (.int p3), .val (.int p4), .val (.int p5), .val (.int jv), .val (.int tv), .val (.ref b1), .val (.ref b3), .val (.int ex), .val .null, .val (.int (own_eq p1 p2 jv tv)), .val (.int (own_eq jv tv p1 p2)), .val (.int (own_eq p1 p2 p1 p2)), .val (.int (0 : Int32))] []))
          refine own_of (fun tgt kon => XS.iload X13.here hx rfl (hb hby at_124) rfl kon) ?_
          show own_Wp _ _ _ _ (T13.setTop (mkF m 126 #[.val (.int p1), .val (.int p2), .val (.int p3), .val (.int p4), .val (.int p5), .val (.int jv), .val (.int tv), .val (.ref b1), .val (.ref b3), .val (.int ex), .val .null, .val (.int (own_eq p1 p2 jv tv)), .val (.int (own_eq jv tv p1 p2)), .val (.int (own_eq p1 p2 p1 p2)), .val (.int (0 : Int32))] [(.int (own_eq p1 p2 jv tv))]))
          refine own_of (fun tgt kon => XS.iload X13.here hx rfl (hb hby at_126) rfl kon) ?_
          show own_Wp _ _ _ _ (T13.setTop (mkF m 128 #[.val (.int p1), .val (.int p2), .val (.int p3), .val (.int p4), .val (.int p5), .val (.int jv), .val (.int tv), .val (.ref b1), .val (.ref b3), .val (.int ex), .val .null, .val (.int (own_eq p1 p2 jv tv)), .val (.int (own_eq jv tv p1 p2)), .val (.int (own_eq p1 p2 p1 p2)), .val (.int (0 : Int32))] [(.int ex), (.int (own_eq p1 p2 jv tv))]))
          have hc128 : (own_eq p1 p2 jv tv) = ex := h_ex.symm
          refine own_of (fun tgt kon => XS.icmpNo X13.here hx rfl (hb hby at_128) rfl (teq hc128).2 kon) ?_
          show own_Wp _ _ _ _ (T13.setTop (mkF m 131 #[.val (.int p1), .val (.int p2), .val (.int p3), .val (.int p4), .val (.int p5), .val (.int jv), .val (.int tv), .val (.ref b1), .val (.ref b3), .val (.int ex), .val .null, .val (.int (own_eq p1 p2 jv tv)), .val (.int (own_eq jv tv p1 p2)), .val (.int (own_eq p1 p2 p1 p2)), .val (.int (0 : Int32))] []))
          refine own_of (fun tgt kon => XS.iload X13.here hx rfl (hb hby at_131) rfl kon) ?_
          show own_Wp _ _ _ _ (T13.setTop (mkF m 133 #[.val (.int p1), .val (.int p2), .val (.int p3), .val (.int p4), .val (.int p5), .val (.int jv), .val (.int tv), .val (.ref b1), .val (.ref b3), .val (.int ex), .val .null, .val (.int (own_eq p1 p2 jv tv)), .val (.int (own_eq jv tv p1 p2)), .val (.int (own_eq p1 p2 p1 p2)), .val (.int (0 : Int32))] [(.int (own_eq jv tv p1 p2))]))
          refine own_of (fun tgt kon => XS.iload X13.here hx rfl (hb hby at_133) rfl kon) ?_
          show own_Wp _ _ _ _ (T13.setTop (mkF m 135 #[.val (.int p1), .val (.int p2), .val (.int p3), .val (.int p4), .val (.int p5), .val (.int jv), .val (.int tv), .val (.ref b1), .val (.ref b3), .val (.int ex), .val .null, .val (.int (own_eq p1 p2 jv tv)), .val (.int (own_eq jv tv p1 p2)), .val (.int (own_eq p1 p2 p1 p2)), .val (.int (0 : Int32))] [(.int ex), (.int (own_eq jv tv p1 p2))]))
          have hc135 : (own_eq jv tv p1 p2) = ex := (own_eq_comm _ _ _ _).trans h_ex.symm
          refine own_of (fun tgt kon => XS.icmpNo X13.here hx rfl (hb hby at_135) rfl (teq hc135).2 kon) ?_
          show own_Wp _ _ _ _ (T13.setTop (mkF m 138 #[.val (.int p1), .val (.int p2), .val (.int p3), .val (.int p4), .val (.int p5), .val (.int jv), .val (.int tv), .val (.ref b1), .val (.ref b3), .val (.int ex), .val .null, .val (.int (own_eq p1 p2 jv tv)), .val (.int (own_eq jv tv p1 p2)), .val (.int (own_eq p1 p2 p1 p2)), .val (.int (0 : Int32))] []))
          refine own_of (fun tgt kon => XS.iload X13.here hx rfl (hb hby at_138) rfl kon) ?_
          show own_Wp _ _ _ _ (T13.setTop (mkF m 140 #[.val (.int p1), .val (.int p2), .val (.int p3), .val (.int p4), .val (.int p5), .val (.int jv), .val (.int tv), .val (.ref b1), .val (.ref b3), .val (.int ex), .val .null, .val (.int (own_eq p1 p2 jv tv)), .val (.int (own_eq jv tv p1 p2)), .val (.int (own_eq p1 p2 p1 p2)), .val (.int (0 : Int32))] [(.int (own_eq p1 p2 p1 p2))]))
          have hc140 : ¬ ((own_eq p1 p2 p1 p2) = (0 : Int32)) := by rw [own_eq_self]; decide
          refine own_of (fun tgt kon => XS.ifNo X13.here hx rfl (hb hby at_140) rfl ((if0 _ _).trans (feq hc140).1) kon) ?_
          show own_Wp _ _ _ _ (T13.setTop (mkF m 143 #[.val (.int p1), .val (.int p2), .val (.int p3), .val (.int p4), .val (.int p5), .val (.int jv), .val (.int tv), .val (.ref b1), .val (.ref b3), .val (.int ex), .val .null, .val (.int (own_eq p1 p2 jv tv)), .val (.int (own_eq jv tv p1 p2)), .val (.int (own_eq p1 p2 p1 p2)), .val (.int (0 : Int32))] []))
          refine own_of (fun tgt kon => XS.iload X13.here hx rfl (hb hby at_143) rfl kon) ?_
          show own_Wp _ _ _ _ (T13.setTop (mkF m 145 #[.val (.int p1), .val (.int p2), .val (.int p3), .val (.int p4), .val (.int p5), .val (.int jv), .val (.int tv), .val (.ref b1), .val (.ref b3), .val (.int ex), .val .null, .val (.int (own_eq p1 p2 jv tv)), .val (.int (own_eq jv tv p1 p2)), .val (.int (own_eq p1 p2 p1 p2)), .val (.int (0 : Int32))] [(.int (0 : Int32))]))
          have hc145 : (0 : Int32) = (0 : Int32) := rfl
          refine own_of (fun tgt kon => XS.ifNo X13.here hx rfl (hb hby at_145) rfl ((if0 _ _).trans (teq hc145).2) kon) ?_
          show own_Wp _ _ _ _ (T13.setTop (mkF m 148 #[.val (.int p1), .val (.int p2), .val (.int p3), .val (.int p4), .val (.int p5), .val (.int jv), .val (.int tv), .val (.ref b1), .val (.ref b3), .val (.int ex), .val .null, .val (.int (own_eq p1 p2 jv tv)), .val (.int (own_eq jv tv p1 p2)), .val (.int (own_eq p1 p2 p1 p2)), .val (.int (0 : Int32))] []))
          refine own_of (fun tgt kon => XS.iconst X13.here hx rfl (hb hby at_148) kon) ?_
          show own_Wp _ _ _ _ (T13.setTop (mkF m 149 #[.val (.int p1), .val (.int p2), .val (.int p3), .val (.int p4), .val (.int p5), .val (.int jv), .val (.int tv), .val (.ref b1), .val (.ref b3), .val (.int ex), .val .null, .val (.int (own_eq p1 p2 jv tv)), .val (.int (own_eq jv tv p1 p2)), .val (.int (own_eq p1 p2 p1 p2)), .val (.int (0 : Int32))] [(.int (1 : Int32))]))
          refine own_of (fun tgt kon => XS.goto X13.here hx rfl (pc0 := 149) (pc' := 153) rfl (hb hby at_149) (by decide) (by decide) kon) ?_
          show own_Wp _ _ _ _ (T13.setTop (mkF m 153 #[.val (.int p1), .val (.int p2), .val (.int p3), .val (.int p4), .val (.int p5), .val (.int jv), .val (.int tv), .val (.ref b1), .val (.ref b3), .val (.int ex), .val .null, .val (.int (own_eq p1 p2 jv tv)), .val (.int (own_eq jv tv p1 p2)), .val (.int (own_eq p1 p2 p1 p2)), .val (.int (0 : Int32))] [(.int (1 : Int32))]))
          refine own_ret X13 hlk (some (.int (1 : Int32))) (own_rtI hrt) (fun fs hr => retN X13 hx (t := .boolean) hrt (by simp) (hb hby at_153) hr) ?_ (by decide) (by decide)
          rw [e13]
          exact ⟨rfl, N13⟩
      show own_Wp _ _ _ _ (T4.setTop (mkF m 55 #[.val (.int p1), .val (.int p2), .val (.int p3), .val (.int p4), .val (.int p5), .val (.int jv), .val (.int tv), .val (.ref b1), .val (.ref b3), .unset, .unset, .unset, .unset, .unset, .unset] [(.int jv), (.int p1)]))
      by_cases hc55 : p1 = jv
      · skip
        refine own_of (fun tgt kon => XS.icmpNo X4.here hx rfl (hb hby at_55) rfl (teq hc55).2 kon) ?_
        show own_Wp _ _ _ _ (T4.setTop (mkF m 58 #[.val (.int p1), .val (.int p2), .val (.int p3), .val (.int p4), .val (.int p5), .val (.int jv), .val (.int tv), .val (.ref b1), .val (.ref b3), .unset, .unset, .unset, .unset, .unset, .unset] []))
        refine own_of (fun tgt kon => XS.iloadN X4.here hx rfl (hb hby at_58) rfl kon) ?_
        show own_Wp _ _ _ _ (T4.setTop (mkF m 59 #[.val (.int p1), .val (.int p2), .val (.int p3), .val (.int p4), .val (.int p5), .val (.int jv), .val (.int tv), .val (.ref b1), .val (.ref b3), .unset, .unset, .unset, .unset, .unset, .unset] [(.int p2)]))
        refine own_of (fun tgt kon => XS.iload X4.here hx rfl (hb hby at_59) rfl kon) ?_
        show own_Wp _ _ _ _ (T4.setTop (mkF m 61 #[.val (.int p1), .val (.int p2), .val (.int p3), .val (.int p4), .val (.int p5), .val (.int jv), .val (.int tv), .val (.ref b1), .val (.ref b3), .unset, .unset, .unset, .unset, .unset, .unset] [(.int tv), (.int p2)]))
        by_cases hc61 : p2 = tv
        · skip
          refine own_of (fun tgt kon => XS.icmpNo X4.here hx rfl (hb hby at_61) rfl (teq hc61).2 kon) ?_
          show own_Wp _ _ _ _ (T4.setTop (mkF m 64 #[.val (.int p1), .val (.int p2), .val (.int p3), .val (.int p4), .val (.int p5), .val (.int jv), .val (.int tv), .val (.ref b1), .val (.ref b3), .unset, .unset, .unset, .unset, .unset, .unset] []))
          refine own_of (fun tgt kon => XS.iconst X4.here hx rfl (hb hby at_64) kon) ?_
          show own_Wp _ _ _ _ (T4.setTop (mkF m 65 #[.val (.int p1), .val (.int p2), .val (.int p3), .val (.int p4), .val (.int p5), .val (.int jv), .val (.int tv), .val (.ref b1), .val (.ref b3), .unset, .unset, .unset, .unset, .unset, .unset] [(.int (1 : Int32))]))
          refine own_of (fun tgt kon => XS.goto X4.here hx rfl (pc0 := 65) (pc' := 69) rfl (hb hby at_65) (by decide) (by decide) kon) ?_
          show own_Wp _ _ _ _ (T4.setTop (mkF m 69 #[.val (.int p1), .val (.int p2), .val (.int p3), .val (.int p4), .val (.int p5), .val (.int jv), .val (.int tv), .val (.ref b1), .val (.ref b3), .unset, .unset, .unset, .unset, .unset, .unset] [(.int (1 : Int32))]))
          exact J69 ((1 : Int32)) (by exact (if_pos (And.intro hc55 hc61)).symm)
        · skip
          refine own_of (fun tgt kon => XS.icmpYes X4.here hx rfl (pc0 := 61) (pc' := 68) rfl (hb hby at_61) rfl (feq hc61).2 (by decide) (by decide) kon) ?_
          show own_Wp _ _ _ _ (T4.setTop (mkF m 68 #[.val (.int p1), .val (.int p2), .val (.int p3), .val (.int p4), .val (.int p5), .val (.int jv), .val (.int tv), .val (.ref b1), .val (.ref b3), .unset, .unset, .unset, .unset, .unset, .unset] []))
          refine own_of (fun tgt kon => XS.iconst X4.here hx rfl (hb hby at_68) kon) ?_
          show own_Wp _ _ _ _ (T4.setTop (mkF m 69 #[.val (.int p1), .val (.int p2), .val (.int p3), .val (.int p4), .val (.int p5), .val (.int jv), .val (.int tv), .val (.ref b1), .val (.ref b3), .unset, .unset, .unset, .unset, .unset, .unset] [(.int (0 : Int32))]))
          exact J69 ((0 : Int32)) (by exact (if_neg (fun q => hc61 q.2)).symm)
      · skip
        refine own_of (fun tgt kon => XS.icmpYes X4.here hx rfl (pc0 := 55) (pc' := 68) rfl (hb hby at_55) rfl (feq hc55).2 (by decide) (by decide) kon) ?_
        show own_Wp _ _ _ _ (T4.setTop (mkF m 68 #[.val (.int p1), .val (.int p2), .val (.int p3), .val (.int p4), .val (.int p5), .val (.int jv), .val (.int tv), .val (.ref b1), .val (.ref b3), .unset, .unset, .unset, .unset, .unset, .unset] []))
        refine own_of (fun tgt kon => XS.iconst X4.here hx rfl (hb hby at_68) kon) ?_
        show own_Wp _ _ _ _ (T4.setTop (mkF m 69 #[.val (.int p1), .val (.int p2), .val (.int p3), .val (.int p4), .val (.int p5), .val (.int jv), .val (.int tv), .val (.ref b1), .val (.ref b3), .unset, .unset, .unset, .unset, .unset, .unset] [(.int (0 : Int32))]))
        exact J69 ((0 : Int32)) (by exact (if_neg (fun q => hc55 q.1)).symm)
    show own_Wp _ _ _ _ (s₁.setTop (mkF m 18 #[.val (.int p1), .val (.int p2), .val (.int p3), .val (.int p4), .val (.int p5), .val (.int jv), .unset, .unset, .unset, .unset, .unset, .unset, .unset, .unset, .unset] [(.int (p5 &&& (2 : Int32)))]))
    by_cases hc18 : (p5 &&& (2 : Int32)) = (0 : Int32)
    · skip
      refine own_of (fun tgt kon => XS.ifYes X0.here hx rfl (pc0 := 18) (pc' := 25) rfl (hb hby at_18) rfl ((if0 _ _).trans (teq hc18).1) (by decide) (by decide) kon) ?_
      show own_Wp _ _ _ _ (s₁.setTop (mkF m 25 #[.val (.int p1), .val (.int p2), .val (.int p3), .val (.int p4), .val (.int p5), .val (.int jv), .unset, .unset, .unset, .unset, .unset, .unset, .unset, .unset, .unset] []))
      refine own_of (fun tgt kon => XS.iloadN X0.here hx rfl (hb hby at_25) rfl kon) ?_
      show own_Wp _ _ _ _ (s₁.setTop (mkF m 26 #[.val (.int p1), .val (.int p2), .val (.int p3), .val (.int p4), .val (.int p5), .val (.int jv), .unset, .unset, .unset, .unset, .unset, .unset, .unset, .unset, .unset] [(.int p4)]))
      exact J26 (p4) (by exact (if_pos hc18).symm)
    · skip
      refine own_of (fun tgt kon => XS.ifNo X0.here hx rfl (hb hby at_18) rfl ((if0 _ _).trans (feq hc18).1) kon) ?_
      show own_Wp _ _ _ _ (s₁.setTop (mkF m 21 #[.val (.int p1), .val (.int p2), .val (.int p3), .val (.int p4), .val (.int p5), .val (.int jv), .unset, .unset, .unset, .unset, .unset, .unset, .unset, .unset, .unset] []))
      refine own_of (fun tgt kon => XS.iloadN X0.here hx rfl (hb hby at_21) rfl kon) ?_
      show own_Wp _ _ _ _ (s₁.setTop (mkF m 22 #[.val (.int p1), .val (.int p2), .val (.int p3), .val (.int p4), .val (.int p5), .val (.int jv), .unset, .unset, .unset, .unset, .unset, .unset, .unset, .unset, .unset] [(.int p2)]))
      refine own_of (fun tgt kon => XS.goto X0.here hx rfl (pc0 := 22) (pc' := 26) rfl (hb hby at_22) (by decide) (by decide) kon) ?_
      show own_Wp _ _ _ _ (s₁.setTop (mkF m 26 #[.val (.int p1), .val (.int p2), .val (.int p3), .val (.int p4), .val (.int p5), .val (.int jv), .unset, .unset, .unset, .unset, .unset, .unset, .unset, .unset, .unset] [(.int p2)]))
      exact J26 (p2) (by exact (if_neg hc18).symm)
  show own_Wp _ _ _ _ (s₁.setTop (mkF m 4 #[.val (.int p1), .val (.int p2), .val (.int p3), .val (.int p4), .val (.int p5), .unset, .unset, .unset, .unset, .unset, .unset, .unset, .unset, .unset, .unset] [(.int (p5 &&& (1 : Int32)))]))
  by_cases hc4 : (p5 &&& (1 : Int32)) = (0 : Int32)
  · skip
    refine own_of (fun tgt kon => XS.ifYes X0.here hx rfl (pc0 := 4) (pc' := 11) rfl (hb hby at_4) rfl ((if0 _ _).trans (teq hc4).1) (by decide) (by decide) kon) ?_
    show own_Wp _ _ _ _ (s₁.setTop (mkF m 11 #[.val (.int p1), .val (.int p2), .val (.int p3), .val (.int p4), .val (.int p5), .unset, .unset, .unset, .unset, .unset, .unset, .unset, .unset, .unset, .unset] []))
    refine own_of (fun tgt kon => XS.iloadN X0.here hx rfl (hb hby at_11) rfl kon) ?_
    show own_Wp _ _ _ _ (s₁.setTop (mkF m 12 #[.val (.int p1), .val (.int p2), .val (.int p3), .val (.int p4), .val (.int p5), .unset, .unset, .unset, .unset, .unset, .unset, .unset, .unset, .unset, .unset] [(.int p3)]))
    exact J12 (p3) (by exact (if_pos hc4).symm)
  · skip
    refine own_of (fun tgt kon => XS.ifNo X0.here hx rfl (hb hby at_4) rfl ((if0 _ _).trans (feq hc4).1) kon) ?_
    show own_Wp _ _ _ _ (s₁.setTop (mkF m 7 #[.val (.int p1), .val (.int p2), .val (.int p3), .val (.int p4), .val (.int p5), .unset, .unset, .unset, .unset, .unset, .unset, .unset, .unset, .unset, .unset] []))
    refine own_of (fun tgt kon => XS.iloadN X0.here hx rfl (hb hby at_7) rfl kon) ?_
    show own_Wp _ _ _ _ (s₁.setTop (mkF m 8 #[.val (.int p1), .val (.int p2), .val (.int p3), .val (.int p4), .val (.int p5), .unset, .unset, .unset, .unset, .unset, .unset, .unset, .unset, .unset, .unset] [(.int p1)]))
    refine own_of (fun tgt kon => XS.goto X0.here hx rfl (pc0 := 8) (pc' := 12) rfl (hb hby at_8) (by decide) (by decide) kon) ?_
    show own_Wp _ _ _ _ (s₁.setTop (mkF m 12 #[.val (.int p1), .val (.int p2), .val (.int p3), .val (.int p4), .val (.int p5), .unset, .unset, .unset, .unset, .unset, .unset, .unset, .unset, .unset, .unset] [(.int p1)]))
    exact J12 (p1) (by exact (if_neg hc4).symm)
set_option maxRecDepth 65536 in
set_option maxHeartbeats 40000000 in
theorem comes_1 {Post : Tables → Env → Array Value → State → Outcome → State → Prop} (hpost : ∀ tb e args s v u, (limb_1_1.after args s (.returned v) u = true ∧ limb_1_2.after args s (.returned v) u = true ∧ True) → FrameEnd s (.returned v) u (Jvm.fieldLocs frame_1_writes args s ++ Jvm.arrayLocs frame_1_arrays args s ++ Jvm.staticLocs frame_1_statics s) 16 128 → Post tb e args s (.returned v) u) :
    ArmFor flags0 classFile x code maxLocals ret World_1 tables_1 room_1 Calls_1 rest_1 Pre_1 Post := by
  intro l hfl _ _ p e ha hc hk s m args below hf hA hF happ hP
  obtain ⟨hcalls, hrest, hpre⟩ := hP
  obtain ⟨-, -, -, hnamed, -, -, -, hat⟩ := (Spec.applies_iff hf).mp happ
  obtain ⟨hg, hn⟩ := and_e (Cond.before_iff.mp (show (Jvm.Cond.and given_1 narrow_1).before args s = true from hpre))
  obtain ⟨g1, g2⟩ := and_e hg
  obtain ⟨g3, g4⟩ := and_e g2
  obtain ⟨g5, g6⟩ := and_e g4
  obtain ⟨g7, g8⟩ := and_e g6
  obtain ⟨g9, g10⟩ := and_e g8
  obtain ⟨w0, w1, w2, w3, w4, rfl⟩ : ∃ w0 w1 w2 w3 w4 : Value, args = #[w0, w1, w2, w3, w4] := by
    have hs : args.size = 5 := by simpa [Cond.value, given_1] using g1
    obtain ⟨L⟩ := args
    match L, hs with
    | [w0, w1, w2, w3, w4], _ => exact ⟨w0, w1, w2, w3, w4, rfl⟩
  have hw := fun d (hd : d ∈ tables_1) => atoms_spec (ws := Jvm.Cond.code x code maxLocals ret :: tables_1) hat d (List.mem_cons_of_mem _ hd)
  have hfit : Fit s := fun {y c} hc i hi => by
    obtain ⟨ha, rfl⟩ := Array.getElem?_eq_some_iff.mp hc
    have q := List.all_eq_true.mp ((Array.all_eq_true_iff_forall_mem.mp hF) _ (Array.getElem_mem ha)) i (List.mem_range.mpr hi)
    simpa [Array.getElem?_eq_getElem hi] using q
  obtain ⟨hsets, hown0⟩ := atoms_of _ (rest_1_c_eq ▸ (show rest_1_c.before _ s = true from hrest))
  have hr0 := Cond.before_iff.mp hown0
  obtain ⟨i0, ei0⟩ := is_v g3
  obtain rfl : w0 = (.int i0) := Option.some.inj ei0
  obtain ⟨i1, ei1⟩ := is_v g5
  obtain rfl : w1 = (.int i1) := Option.some.inj ei1
  obtain ⟨i2, ei2⟩ := is_v g7
  obtain rfl : w2 = (.int i2) := Option.some.inj ei2
  obtain ⟨i3, ei3⟩ := is_v g9
  obtain rfl : w3 = (.int i3) := Option.some.inj ei3
  obtain ⟨i4, ei4⟩ := is_v g10
  obtain rfl : w4 = (.int i4) := Option.some.inj ei4
  have evh := own_eqI (Cond.before_iff.mp (hsets _ (List.mem_of_getElem? (i := 3) rfl)))
  have S_H := Sta.start evh (Or.inl (hsets _ (List.mem_of_getElem? (i := 1) rfl)))
  obtain ⟨ah, cl, S_K, A1, hat1, ev1⟩ := own_staArr (hw _ (List.mem_of_getElem? (i := 18) rfl)) (hsets _ (List.mem_of_getElem? (i := 2) rfl)) (Cond.before_iff.mp (hsets _ (List.mem_of_getElem? (i := 4) rfl)))
  have evs : ∀ idx, (Term.static "java/lang/Integer$IntegerCache" "cache" "[Ljava/lang/Integer;").eval #[(.int i0), (.int i1), (.int i2), (.int i3), (.int i4)] s none idx s = some (.ref ah) := fun _ => ev1
  have hlen := own_lenEq ev1 hat1 (Cond.before_iff.mp (hsets _ (List.mem_of_getElem? (i := 6) rfl)))
  have l256 : (256 : Int32).toInt = 256 := by decide
  have hsz : cl.slots.size = 256 := by omega
  have hel : ∀ k, k < 256 → ∃ b, cl.slots[k]? = some (.ref b) ∧ Exa s s.heap b "java/lang/Integer" := fun k hk => own_exaElem evs hat1 (by omega) (and_e (Cond.all_elim (evs _) hat1 (Cond.before_iff.mp (hsets _ (List.mem_of_getElem? (i := 7) rfl))) k (by omega))).1
  obtain ⟨ic, hic⟩ : ∃ ic : Nat → Addr, ∀ k, k < 256 → cl.slots[k]? = some (.ref (ic k)) ∧ Exa s s.heap (ic k) "java/lang/Integer" :=
    ⟨fun k => if hk : k < 256 then (hel k hk).choose else 0, fun k hk => by simp only [dif_pos hk]; exact (hel k hk).choose_spec⟩
  have A_K : own_Ar s s.heap ah (.object "java/lang/Integer") 256 (fun k => .ref (ic k)) := by
    rw [← hsz]
    exact own_Ar.start A1 (by omega) (fun i hi => (hic i (by omega)).1)
  obtain ⟨n, o, h1, h2, h3, _, L, rfl, ⟨rfl, N⟩, hq⟩ := rm0 l s _ hw tables_1 i0 i1 i2 i3 i4 ah ic s.heap s.heap.size (Nat.le_refl _) S_H S_K A_K (fun k hk => (hic k hk).2) (Old.start s) p e ha hc hk s m _ below hf ((Spec.applies_iff_loose hf).mp happ).1 ⟨rfl, State.Warmed39.refl s, rfl⟩ trivial
  refine ⟨n, _, h1, h2, h3, hpost _ _ _ _ _ _ ⟨Cond.after_iff.mpr rfl, Cond.after_iff.mpr (eq_i res_at (Term.int_eval (1)) rfl), trivial⟩ ⟨hq.1, hq.2.1, (hq.2.2.sift fun y hy => Or.inr (N y hy)).mono (by decide) (by decide)⟩⟩
theorem main_1_1 : Claimed_1_1 := comes_1 fun _ _ _ _ _ _ h hF => ⟨h.1, hF⟩
theorem main_1_2 : Claimed_1_2 := comes_1 fun _ _ _ _ _ _ h hF => ⟨h.2.1, hF⟩
end Jvm.Pilot.@@N@@
namespace Jvm.Pilot.@@N@@
open Jvm Jvm.ClassFile Sem Op Lib Jvm.Free Jvm.Stand Jvm.Pilot.@@N@@.Jvm.D
/-! MADE BY PROGRAM (witnessworld.py) out of the Statement's table words and the real class files: 16 classes; the members and pool entries that the words name. The judged class is class 1, her method 1. -/
namespace start1
open Jvm.ClassFile
def u (s : String) : CpInfo := .utf8 (stringToUtf16 s)
/-- a pool by its gaps: so many unusable entries, then the entry; so many at the end -/
def gap : Nat → List CpInfo → List CpInfo
  | 0, r => r
  | n + 1, r => .unusable :: gap n r
def poolList (es : List (Nat × CpInfo)) (last : Nat) : List CpInfo := es.foldr (fun e r => gap e.1 (e.2 :: r)) (gap last [])
def pool (es : List (Nat × CpInfo)) (last : Nat) : Array CpInfo := ⟨poolList es last⟩
def fileOf (pool : Array CpInfo) (this : Nat) (attrs : Array Attribute := #[]) (ms : Array MethodInfo := #[]) (fl : Nat := 33) (sup : Nat := 0) (ifs : Array Nat := #[]) (fds : Array FieldInfo := #[]) : ClassFile where
  minorVersion := 0
  majorVersion := 65
  constantPool := pool
  accessFlags := fl
  thisClass := this
  superClass := sup
  interfaces := ifs
  fields := fds
  methods := ms
  attributes := attrs
def plain (name : String) (sup : Option ClassId) : Class where
  name := name
  kind := .ordinary
  loader := none
  accessFlags := 33
  super := sup
  interfaces := #[]
  cf := none
  fields := #[]
  methods := #[]
  instanceTypes := #[]
  staticTypes := #[]
  resolved := #[]
  callSites := []
  init := .initialized
  statics := none
  mirror := none

def pool0 : Array CpInfo := pool [(5, u "<init>"), (0, u "()V"), (1, .class_ 10), (1, u "java/lang/Object")] 113

def k0c0 : Code := { maxStack := 0, maxLocals := 1, code := object_method_1_code, exceptionTable := #[], attributes := #[] }
def k0m0 : Method := { name := "<init>", desc := "()V", sig := { parameters := [], returnType := none }, accessFlags := 1, code := some k0c0 }
/-- java/lang/Object -/
def k0 : Class := { plain "java/lang/Object" none with
  accessFlags := 33
  interfaces := #[]
  cf := some (fileOf pool0 8 #[] #[{ accessFlags := 1, nameIndex := 5, descriptorIndex := 6, attributes := #[] }] 33 0 #[] #[])
  fields := #[]
  methods := #[k0m0]
  instanceTypes := #[]
  staticTypes := #[]
  resolved := Array.replicate 124 none
  statics := none }

def pool1 : Array CpInfo := pool [(2, .class_ 4), (1, u "java/lang/Object"), (0, u "<init>"), (0, u "()V"), (0, .class_ 8), (0, u "com/example/ply2/ply2/metadata/ScramCredential$Shape"), (0, .methodref 7 10), (0, .nameAndType 5 11), (0, u "(II)V"), (0, .methodref 13 14), (0, .class_ 15), (0, .nameAndType 16 17), (0, u "java/lang/Integer"), (0, u "valueOf"), (0, u "(I)Ljava/lang/Integer;"), (0, .methodref 7 19), (0, .nameAndType 20 21), (0, u "equals"), (0, u "(Ljava/lang/Object;)Z"), (0, .class_ 23), (0, u "com/example/ply2/ply2/metadata/ShapeEqualsPinLaw"), (2, u "law"), (0, u "(IIIII)Z")] 7

def k1m0 : Method := { name := "<init>", desc := "()V", sig := { parameters := [], returnType := none }, accessFlags := 2, code := none }
def k1c1 : Code := { maxStack := 4, maxLocals := 15, code := code, exceptionTable := #[], attributes := #[] }
def k1m1 : Method := { name := "law", desc := "(IIIII)Z", sig := { parameters := [.int, .int, .int, .int, .int], returnType := some .boolean }, accessFlags := 9, code := some k1c1 }
/-- com/example/ply2/ply2/metadata/ShapeEqualsPinLaw -/
def k1 : Class := { plain "com/example/ply2/ply2/metadata/ShapeEqualsPinLaw" (some 0) with
  accessFlags := 49
  interfaces := #[]
  cf := some (fileOf pool1 22 #[] #[{ accessFlags := 2, nameIndex := 5, descriptorIndex := 6, attributes := #[] }, { accessFlags := 9, nameIndex := 26, descriptorIndex := 27, attributes := #[] }] 49 2 #[] #[])
  fields := #[]
  methods := #[k1m0, k1m1]
  instanceTypes := #[]
  staticTypes := #[]
  resolved := Array.replicate 35 none
  statics := none }

def pool2 : Array CpInfo := pool [(1, .class_ 2), (0, u "java/lang/Comparable"), (0, .class_ 4), (0, u "java/lang/Object")] 7

/-- java/lang/Comparable -/
def k2 : Class := { plain "java/lang/Comparable" (some 0) with
  accessFlags := 1537
  interfaces := #[]
  cf := some (fileOf pool2 1 #[] #[] 1537 3 #[] #[])
  fields := #[]
  methods := #[]
  instanceTypes := #[]
  staticTypes := #[]
  resolved := Array.replicate 12 none
  statics := none }

def pool3 : Array CpInfo := pool [(1, .methodref 2 3), (0, .class_ 4), (0, .nameAndType 5 6), (0, u "java/lang/Object"), (0, u "<init>"), (0, u "()V"), (0, .fieldref 8 9), (0, .class_ 10), (0, .nameAndType 11 12), (0, u "com/example/ply2/ply2/metadata/ScramCredential$Shape"), (0, u "iterations"), (0, u "I"), (0, .fieldref 8 14), (0, .nameAndType 15 12), (0, u "saltLength"), (20, .class_ 37), (0, u "java/lang/Comparable"), (0, u "(II)V"), (4, u "equals"), (0, u "(Ljava/lang/Object;)Z"), (8, .class_ 54), (0, u "com/example/ply2/ply2/metadata/ScramCredential")] 2

def k3c0 : Code := { maxStack := 2, maxLocals := 3, code := prog_209_method_1_code, exceptionTable := #[], attributes := #[] }
def k3m0 : Method := { name := "<init>", desc := "(II)V", sig := { parameters := [.int, .int], returnType := none }, accessFlags := 1, code := some k3c0 }
def k3c1 : Code := { maxStack := 2, maxLocals := 3, code := prog_209_method_5_code, exceptionTable := #[], attributes := #[] }
def k3m1 : Method := { name := "equals", desc := "(Ljava/lang/Object;)Z", sig := { parameters := [(.object "java/lang/Object")], returnType := some .boolean }, accessFlags := 1, code := some k3c1 }
/-- com/example/ply2/ply2/metadata/ScramCredential$Shape -/
def k3 : Class := { plain "com/example/ply2/ply2/metadata/ScramCredential$Shape" (some 0) with
  accessFlags := 49
  interfaces := #[2]
  cf := some (fileOf pool3 8 #[.nestHost 53] #[{ accessFlags := 1, nameIndex := 5, descriptorIndex := 38, attributes := #[] }, { accessFlags := 1, nameIndex := 43, descriptorIndex := 44, attributes := #[] }] 49 2 #[36] #[{ accessFlags := 18, nameIndex := 11, descriptorIndex := 12, attributes := #[] }, { accessFlags := 18, nameIndex := 15, descriptorIndex := 12, attributes := #[] }])
  fields := #[{ name := "iterations", type := .int, accessFlags := 18, slot := 0, constantValue := 0 }, { name := "saltLength", type := .int, accessFlags := 18, slot := 1, constantValue := 0 }]
  methods := #[k3m0, k3m1]
  instanceTypes := #[.int, .int]
  staticTypes := #[]
  resolved := Array.replicate 57 none
  statics := none }

def pool4 : Array CpInfo := pool [(1, .class_ 2), (0, u "java/io/Serializable"), (0, .class_ 4), (0, u "java/lang/Object")] 2

/-- java/io/Serializable -/
def k4 : Class := { plain "java/io/Serializable" (some 0) with
  accessFlags := 1537
  interfaces := #[]
  cf := some (fileOf pool4 1 #[] #[] 1537 3 #[] #[])
  fields := #[]
  methods := #[]
  instanceTypes := #[]
  staticTypes := #[]
  resolved := Array.replicate 7 none
  statics := none }

def pool5 : Array CpInfo := pool [(1, .methodref 2 3), (0, .class_ 4), (0, .nameAndType 5 6), (0, u "java/lang/Object"), (0, u "<init>"), (0, u "()V"), (1, .class_ 10), (1, u "java/lang/Number"), (2, .class_ 14), (0, u "java/io/Serializable"), (0, u "serialVersionUID"), (0, u "J")] 20

def k5c0 : Code := { maxStack := 1, maxLocals := 1, code := jdk_18_method_1_code, exceptionTable := #[], attributes := #[] }
def k5m0 : Method := { name := "<init>", desc := "()V", sig := { parameters := [], returnType := none }, accessFlags := 1, code := some k5c0 }
/-- java/lang/Number -/
def k5 : Class := { plain "java/lang/Number" (some 0) with
  accessFlags := 1057
  interfaces := #[4]
  cf := some (fileOf pool5 8 #[] #[{ accessFlags := 1, nameIndex := 5, descriptorIndex := 6, attributes := #[] }] 1057 2 #[13] #[{ accessFlags := 26, nameIndex := 15, descriptorIndex := 16, attributes := #[] }])
  fields := #[{ name := "serialVersionUID", type := .long, accessFlags := 26, slot := 0, constantValue := 0 }]
  methods := #[k5m0]
  instanceTypes := #[]
  staticTypes := #[.long]
  resolved := Array.replicate 37 none
  statics := none }

def pool6 : Array CpInfo := pool [(1, .class_ 2), (0, u "java/lang/constant/Constable"), (0, .class_ 4), (0, u "java/lang/Object")] 6

/-- java/lang/constant/Constable -/
def k6 : Class := { plain "java/lang/constant/Constable" (some 0) with
  accessFlags := 1537
  interfaces := #[]
  cf := some (fileOf pool6 1 #[] #[] 1537 3 #[] #[])
  fields := #[]
  methods := #[]
  instanceTypes := #[]
  staticTypes := #[]
  resolved := Array.replicate 11 none
  statics := none }

def pool7 : Array CpInfo := pool [(1, .class_ 2), (0, u "java/lang/constant/ConstantDesc"), (0, .class_ 4), (0, u "java/lang/Object")] 32

/-- java/lang/constant/ConstantDesc -/
def k7 : Class := { plain "java/lang/constant/ConstantDesc" (some 0) with
  accessFlags := 1537
  interfaces := #[]
  cf := some (fileOf pool7 1 #[] #[] 1537 3 #[] #[])
  fields := #[]
  methods := #[]
  instanceTypes := #[]
  staticTypes := #[]
  resolved := Array.replicate 37 none
  statics := none }

def pool8 : Array CpInfo := pool [(1, .class_ 2), (0, u "java/lang/Integer"), (16, u "digits"), (0, u "[C"), (46, u "<init>"), (17, u "DigitOnes"), (0, u "[B"), (2, u "DigitTens"), (10, .nameAndType 67 101), (0, u "()V"), (85, u "valueOf"), (0, u "(I)Ljava/lang/Integer;"), (0, .class_ 190), (0, u "java/lang/Integer$IntegerCache"), (0, .fieldref 189 192), (0, .nameAndType 193 194), (0, u "high"), (0, u "I"), (0, .fieldref 189 196), (0, .nameAndType 197 198), (0, u "cache"), (0, u "[Ljava/lang/Integer;"), (0, .methodref 1 200), (0, .nameAndType 67 201), (0, u "(I)V"), (0, .methodref 203 100), (0, .class_ 204), (0, u "java/lang/Number"), (0, .fieldref 1 206), (0, .nameAndType 207 194), (0, u "value"), (94, u "TYPE"), (0, u "Ljava/lang/Class;"), (0, .class_ 305), (0, u "java/lang/Comparable"), (0, .class_ 307), (0, u "java/lang/constant/Constable"), (0, .class_ 309), (0, u "java/lang/constant/ConstantDesc"), (0, u "MIN_VALUE"), (1, u "MAX_VALUE"), (3, u "SIZE"), (1, u "BYTES"), (1, u "serialVersionUID"), (0, u "J")] 131

def k8c0 : Code := { maxStack := 3, maxLocals := 1, code := jdk_33_method_22_code, exceptionTable := #[], attributes := #[] }
def k8m0 : Method := { name := "valueOf", desc := "(I)Ljava/lang/Integer;", sig := { parameters := [.int], returnType := some (.object "java/lang/Integer") }, accessFlags := 9, code := some k8c0 }
def k8c1 : Code := { maxStack := 2, maxLocals := 2, code := jdk_33_method_23_code, exceptionTable := #[], attributes := #[] }
def k8m1 : Method := { name := "<init>", desc := "(I)V", sig := { parameters := [.int], returnType := none }, accessFlags := 1, code := some k8c1 }
/-- java/lang/Integer -/
def k8 : Class := { plain "java/lang/Integer" (some 5) with
  accessFlags := 49
  interfaces := #[2, 6, 7]
  cf := some (fileOf pool8 1 #[.nestMembers #[189]] #[{ accessFlags := 9, nameIndex := 187, descriptorIndex := 188, attributes := #[] }, { accessFlags := 1, nameIndex := 67, descriptorIndex := 201, attributes := #[] }] 49 203 #[304, 306, 308] #[{ accessFlags := 25, nameIndex := 310, descriptorIndex := 194, attributes := #[] }, { accessFlags := 25, nameIndex := 312, descriptorIndex := 194, attributes := #[] }, { accessFlags := 25, nameIndex := 302, descriptorIndex := 303, attributes := #[] }, { accessFlags := 24, nameIndex := 19, descriptorIndex := 20, attributes := #[] }, { accessFlags := 24, nameIndex := 89, descriptorIndex := 86, attributes := #[] }, { accessFlags := 24, nameIndex := 85, descriptorIndex := 86, attributes := #[] }, { accessFlags := 18, nameIndex := 207, descriptorIndex := 194, attributes := #[] }, { accessFlags := 25, nameIndex := 316, descriptorIndex := 194, attributes := #[] }, { accessFlags := 25, nameIndex := 318, descriptorIndex := 194, attributes := #[] }, { accessFlags := 26, nameIndex := 320, descriptorIndex := 321, attributes := #[] }])
  fields := #[{ name := "MIN_VALUE", type := .int, accessFlags := 25, slot := 0, constantValue := 0 }, { name := "MAX_VALUE", type := .int, accessFlags := 25, slot := 1, constantValue := 0 }, { name := "TYPE", type := (.object "java/lang/Class"), accessFlags := 25, slot := 2, constantValue := 0 }, { name := "digits", type := (.array .char), accessFlags := 24, slot := 3, constantValue := 0 }, { name := "DigitTens", type := (.array .byte), accessFlags := 24, slot := 4, constantValue := 0 }, { name := "DigitOnes", type := (.array .byte), accessFlags := 24, slot := 5, constantValue := 0 }, { name := "value", type := .int, accessFlags := 18, slot := 0, constantValue := 0 }, { name := "SIZE", type := .int, accessFlags := 25, slot := 6, constantValue := 0 }, { name := "BYTES", type := .int, accessFlags := 25, slot := 7, constantValue := 0 }, { name := "serialVersionUID", type := .long, accessFlags := 26, slot := 8, constantValue := 0 }]
  methods := #[k8m0, k8m1]
  instanceTypes := #[.int]
  staticTypes := #[.int, .int, (.object "java/lang/Class"), (.array .char), (.array .byte), (.array .byte), .int, .int, .long]
  resolved := Array.replicate 453 none
  statics := none }

def pool9 : Array CpInfo := pool [(2, .class_ 4), (1, u "java/lang/Object"), (0, u "<init>"), (0, u "()V"), (0, .class_ 8), (0, u "java/lang/Integer"), (7, .class_ 18), (1, u "java/lang/Integer$IntegerCache"), (0, u "$assertionsDisabled"), (0, u "Z"), (26, u "high"), (0, u "I"), (8, u "archivedCache"), (0, u "[Ljava/lang/Integer;"), (12, u "cache"), (0, u "low")] 27

def k9m0 : Method := { name := "<init>", desc := "()V", sig := { parameters := [], returnType := none }, accessFlags := 2, code := none }
/-- java/lang/Integer$IntegerCache -/
def k9 : Class := { plain "java/lang/Integer$IntegerCache" (some 0) with
  accessFlags := 48
  interfaces := #[]
  cf := some (fileOf pool9 16 #[.nestHost 7] #[{ accessFlags := 2, nameIndex := 5, descriptorIndex := 6, attributes := #[] }] 48 2 #[] #[{ accessFlags := 24, nameIndex := 72, descriptorIndex := 48, attributes := #[] }, { accessFlags := 24, nameIndex := 47, descriptorIndex := 48, attributes := #[] }, { accessFlags := 24, nameIndex := 71, descriptorIndex := 58, attributes := #[] }, { accessFlags := 8, nameIndex := 57, descriptorIndex := 58, attributes := #[] }, { accessFlags := 4120, nameIndex := 19, descriptorIndex := 20, attributes := #[] }])
  fields := #[{ name := "low", type := .int, accessFlags := 24, slot := 0, constantValue := 0 }, { name := "high", type := .int, accessFlags := 24, slot := 1, constantValue := 0 }, { name := "cache", type := (.array (.object "java/lang/Integer")), accessFlags := 24, slot := 2, constantValue := 0 }, { name := "archivedCache", type := (.array (.object "java/lang/Integer")), accessFlags := 8, slot := 3, constantValue := 0 }, { name := "$assertionsDisabled", type := .boolean, accessFlags := 4120, slot := 4, constantValue := 0 }]
  methods := #[k9m0]
  instanceTypes := #[]
  staticTypes := #[.int, .int, (.array (.object "java/lang/Integer")), (.array (.object "java/lang/Integer")), .boolean]
  resolved := Array.replicate 100 none
  statics := some 0 }

def pool10 : Array CpInfo := pool [(1, u "java/lang/Cloneable"), (0, .class_ 1), (0, u "java/lang/Object"), (0, .class_ 3)] 3

/-- java/lang/Cloneable -/
def k10 : Class := { plain "java/lang/Cloneable" (some 0) with
  accessFlags := 1537
  interfaces := #[]
  cf := some (fileOf pool10 2 #[] #[] 1537 4 #[] #[])
  fields := #[]
  methods := #[]
  instanceTypes := #[]
  staticTypes := #[]
  resolved := Array.replicate 8 none
  statics := none }

/-- the primitive byte -/
def k11 : Class := { plain "byte" none with kind := .primitive 'B', accessFlags := 0x411 }
/-- [B -/
def k12 : Class := { plain "[B" (some 0) with kind := .array 11 .byte, interfaces := #[10, 4], accessFlags := 1041 }

/-- the primitive int -/
def k13 : Class := { plain "int" none with kind := .primitive 'I', accessFlags := 0x411 }
/-- [I -/
def k14 : Class := { plain "[I" (some 0) with kind := .array 13 .int, interfaces := #[10, 4], accessFlags := 1041 }

/-- [Ljava/lang/Integer; -/
def k15 : Class := { plain "[Ljava/lang/Integer;" (some 0) with kind := .array 8 (.object "java/lang/Integer"), interfaces := #[10, 4], accessFlags := 1041 }

def heap : Heap := #[{ cls := 9, slots := #[.int 0, .int 127, .ref 1, .null, .int 0], vm := .statics 9 },
  { cls := 15, slots := #[.ref 2, .ref 3, .ref 4, .ref 5, .ref 6, .ref 7, .ref 8, .ref 9, .ref 10, .ref 11, .ref 12, .ref 13, .ref 14, .ref 15, .ref 16, .ref 17, .ref 18, .ref 19, .ref 20, .ref 21, .ref 22, .ref 23, .ref 24, .ref 25, .ref 26, .ref 27, .ref 28, .ref 29, .ref 30, .ref 31, .ref 32, .ref 33, .ref 34, .ref 35, .ref 36, .ref 37, .ref 38, .ref 39, .ref 40, .ref 41, .ref 42, .ref 43, .ref 44, .ref 45, .ref 46, .ref 47, .ref 48, .ref 49, .ref 50, .ref 51, .ref 52, .ref 53, .ref 54, .ref 55, .ref 56, .ref 57, .ref 58, .ref 59, .ref 60, .ref 61, .ref 62, .ref 63, .ref 64, .ref 65, .ref 66, .ref 67, .ref 68, .ref 69, .ref 70, .ref 71, .ref 72, .ref 73, .ref 74, .ref 75, .ref 76, .ref 77, .ref 78, .ref 79, .ref 80, .ref 81, .ref 82, .ref 83, .ref 84, .ref 85, .ref 86, .ref 87, .ref 88, .ref 89, .ref 90, .ref 91, .ref 92, .ref 93, .ref 94, .ref 95, .ref 96, .ref 97, .ref 98, .ref 99, .ref 100, .ref 101, .ref 102, .ref 103, .ref 104, .ref 105, .ref 106, .ref 107, .ref 108, .ref 109, .ref 110, .ref 111, .ref 112, .ref 113, .ref 114, .ref 115, .ref 116, .ref 117, .ref 118, .ref 119, .ref 120, .ref 121, .ref 122, .ref 123, .ref 124, .ref 125, .ref 126, .ref 127, .ref 128, .ref 129, .ref 130, .ref 131, .ref 132, .ref 133, .ref 134, .ref 135, .ref 136, .ref 137, .ref 138, .ref 139, .ref 140, .ref 141, .ref 142, .ref 143, .ref 144, .ref 145, .ref 146, .ref 147, .ref 148, .ref 149, .ref 150, .ref 151, .ref 152, .ref 153, .ref 154, .ref 155, .ref 156, .ref 157, .ref 158, .ref 159, .ref 160, .ref 161, .ref 162, .ref 163, .ref 164, .ref 165, .ref 166, .ref 167, .ref 168, .ref 169, .ref 170, .ref 171, .ref 172, .ref 173, .ref 174, .ref 175, .ref 176, .ref 177, .ref 178, .ref 179, .ref 180, .ref 181, .ref 182, .ref 183, .ref 184, .ref 185, .ref 186, .ref 187, .ref 188, .ref 189, .ref 190, .ref 191, .ref 192, .ref 193, .ref 194, .ref 195, .ref 196, .ref 197, .ref 198, .ref 199, .ref 200, .ref 201, .ref 202, .ref 203, .ref 204, .ref 205, .ref 206, .ref 207, .ref 208, .ref 209, .ref 210, .ref 211, .ref 212, .ref 213, .ref 214, .ref 215, .ref 216, .ref 217, .ref 218, .ref 219, .ref 220, .ref 221, .ref 222, .ref 223, .ref 224, .ref 225, .ref 226, .ref 227, .ref 228, .ref 229, .ref 230, .ref 231, .ref 232, .ref 233, .ref 234, .ref 235, .ref 236, .ref 237, .ref 238, .ref 239, .ref 240, .ref 241, .ref 242, .ref 243, .ref 244, .ref 245, .ref 246, .ref 247, .ref 248, .ref 249, .ref 250, .ref 251, .ref 252, .ref 253, .ref 254, .ref 255, .ref 256, .ref 257], vm := .none },
  { cls := 8, slots := #[.int (-128)], vm := .none },
  { cls := 8, slots := #[.int (-127)], vm := .none },
  { cls := 8, slots := #[.int (-126)], vm := .none },
  { cls := 8, slots := #[.int (-125)], vm := .none },
  { cls := 8, slots := #[.int (-124)], vm := .none },
  { cls := 8, slots := #[.int (-123)], vm := .none },
  { cls := 8, slots := #[.int (-122)], vm := .none },
  { cls := 8, slots := #[.int (-121)], vm := .none },
  { cls := 8, slots := #[.int (-120)], vm := .none },
  { cls := 8, slots := #[.int (-119)], vm := .none },
  { cls := 8, slots := #[.int (-118)], vm := .none },
  { cls := 8, slots := #[.int (-117)], vm := .none },
  { cls := 8, slots := #[.int (-116)], vm := .none },
  { cls := 8, slots := #[.int (-115)], vm := .none },
  { cls := 8, slots := #[.int (-114)], vm := .none },
  { cls := 8, slots := #[.int (-113)], vm := .none },
  { cls := 8, slots := #[.int (-112)], vm := .none },
  { cls := 8, slots := #[.int (-111)], vm := .none },
  { cls := 8, slots := #[.int (-110)], vm := .none },
  { cls := 8, slots := #[.int (-109)], vm := .none },
  { cls := 8, slots := #[.int (-108)], vm := .none },
  { cls := 8, slots := #[.int (-107)], vm := .none },
  { cls := 8, slots := #[.int (-106)], vm := .none },
  { cls := 8, slots := #[.int (-105)], vm := .none },
  { cls := 8, slots := #[.int (-104)], vm := .none },
  { cls := 8, slots := #[.int (-103)], vm := .none },
  { cls := 8, slots := #[.int (-102)], vm := .none },
  { cls := 8, slots := #[.int (-101)], vm := .none },
  { cls := 8, slots := #[.int (-100)], vm := .none },
  { cls := 8, slots := #[.int (-99)], vm := .none },
  { cls := 8, slots := #[.int (-98)], vm := .none },
  { cls := 8, slots := #[.int (-97)], vm := .none },
  { cls := 8, slots := #[.int (-96)], vm := .none },
  { cls := 8, slots := #[.int (-95)], vm := .none },
  { cls := 8, slots := #[.int (-94)], vm := .none },
  { cls := 8, slots := #[.int (-93)], vm := .none },
  { cls := 8, slots := #[.int (-92)], vm := .none },
  { cls := 8, slots := #[.int (-91)], vm := .none },
  { cls := 8, slots := #[.int (-90)], vm := .none },
  { cls := 8, slots := #[.int (-89)], vm := .none },
  { cls := 8, slots := #[.int (-88)], vm := .none },
  { cls := 8, slots := #[.int (-87)], vm := .none },
  { cls := 8, slots := #[.int (-86)], vm := .none },
  { cls := 8, slots := #[.int (-85)], vm := .none },
  { cls := 8, slots := #[.int (-84)], vm := .none },
  { cls := 8, slots := #[.int (-83)], vm := .none },
  { cls := 8, slots := #[.int (-82)], vm := .none },
  { cls := 8, slots := #[.int (-81)], vm := .none },
  { cls := 8, slots := #[.int (-80)], vm := .none },
  { cls := 8, slots := #[.int (-79)], vm := .none },
  { cls := 8, slots := #[.int (-78)], vm := .none },
  { cls := 8, slots := #[.int (-77)], vm := .none },
  { cls := 8, slots := #[.int (-76)], vm := .none },
  { cls := 8, slots := #[.int (-75)], vm := .none },
  { cls := 8, slots := #[.int (-74)], vm := .none },
  { cls := 8, slots := #[.int (-73)], vm := .none },
  { cls := 8, slots := #[.int (-72)], vm := .none },
  { cls := 8, slots := #[.int (-71)], vm := .none },
  { cls := 8, slots := #[.int (-70)], vm := .none },
  { cls := 8, slots := #[.int (-69)], vm := .none },
  { cls := 8, slots := #[.int (-68)], vm := .none },
  { cls := 8, slots := #[.int (-67)], vm := .none },
  { cls := 8, slots := #[.int (-66)], vm := .none },
  { cls := 8, slots := #[.int (-65)], vm := .none },
  { cls := 8, slots := #[.int (-64)], vm := .none },
  { cls := 8, slots := #[.int (-63)], vm := .none },
  { cls := 8, slots := #[.int (-62)], vm := .none },
  { cls := 8, slots := #[.int (-61)], vm := .none },
  { cls := 8, slots := #[.int (-60)], vm := .none },
  { cls := 8, slots := #[.int (-59)], vm := .none },
  { cls := 8, slots := #[.int (-58)], vm := .none },
  { cls := 8, slots := #[.int (-57)], vm := .none },
  { cls := 8, slots := #[.int (-56)], vm := .none },
  { cls := 8, slots := #[.int (-55)], vm := .none },
  { cls := 8, slots := #[.int (-54)], vm := .none },
  { cls := 8, slots := #[.int (-53)], vm := .none },
  { cls := 8, slots := #[.int (-52)], vm := .none },
  { cls := 8, slots := #[.int (-51)], vm := .none },
  { cls := 8, slots := #[.int (-50)], vm := .none },
  { cls := 8, slots := #[.int (-49)], vm := .none },
  { cls := 8, slots := #[.int (-48)], vm := .none },
  { cls := 8, slots := #[.int (-47)], vm := .none },
  { cls := 8, slots := #[.int (-46)], vm := .none },
  { cls := 8, slots := #[.int (-45)], vm := .none },
  { cls := 8, slots := #[.int (-44)], vm := .none },
  { cls := 8, slots := #[.int (-43)], vm := .none },
  { cls := 8, slots := #[.int (-42)], vm := .none },
  { cls := 8, slots := #[.int (-41)], vm := .none },
  { cls := 8, slots := #[.int (-40)], vm := .none },
  { cls := 8, slots := #[.int (-39)], vm := .none },
  { cls := 8, slots := #[.int (-38)], vm := .none },
  { cls := 8, slots := #[.int (-37)], vm := .none },
  { cls := 8, slots := #[.int (-36)], vm := .none },
  { cls := 8, slots := #[.int (-35)], vm := .none },
  { cls := 8, slots := #[.int (-34)], vm := .none },
  { cls := 8, slots := #[.int (-33)], vm := .none },
  { cls := 8, slots := #[.int (-32)], vm := .none },
  { cls := 8, slots := #[.int (-31)], vm := .none },
  { cls := 8, slots := #[.int (-30)], vm := .none },
  { cls := 8, slots := #[.int (-29)], vm := .none },
  { cls := 8, slots := #[.int (-28)], vm := .none },
  { cls := 8, slots := #[.int (-27)], vm := .none },
  { cls := 8, slots := #[.int (-26)], vm := .none },
  { cls := 8, slots := #[.int (-25)], vm := .none },
  { cls := 8, slots := #[.int (-24)], vm := .none },
  { cls := 8, slots := #[.int (-23)], vm := .none },
  { cls := 8, slots := #[.int (-22)], vm := .none },
  { cls := 8, slots := #[.int (-21)], vm := .none },
  { cls := 8, slots := #[.int (-20)], vm := .none },
  { cls := 8, slots := #[.int (-19)], vm := .none },
  { cls := 8, slots := #[.int (-18)], vm := .none },
  { cls := 8, slots := #[.int (-17)], vm := .none },
  { cls := 8, slots := #[.int (-16)], vm := .none },
  { cls := 8, slots := #[.int (-15)], vm := .none },
  { cls := 8, slots := #[.int (-14)], vm := .none },
  { cls := 8, slots := #[.int (-13)], vm := .none },
  { cls := 8, slots := #[.int (-12)], vm := .none },
  { cls := 8, slots := #[.int (-11)], vm := .none },
  { cls := 8, slots := #[.int (-10)], vm := .none },
  { cls := 8, slots := #[.int (-9)], vm := .none },
  { cls := 8, slots := #[.int (-8)], vm := .none },
  { cls := 8, slots := #[.int (-7)], vm := .none },
  { cls := 8, slots := #[.int (-6)], vm := .none },
  { cls := 8, slots := #[.int (-5)], vm := .none },
  { cls := 8, slots := #[.int (-4)], vm := .none },
  { cls := 8, slots := #[.int (-3)], vm := .none },
  { cls := 8, slots := #[.int (-2)], vm := .none },
  { cls := 8, slots := #[.int (-1)], vm := .none },
  { cls := 8, slots := #[.int 0], vm := .none },
  { cls := 8, slots := #[.int 1], vm := .none },
  { cls := 8, slots := #[.int 2], vm := .none },
  { cls := 8, slots := #[.int 3], vm := .none },
  { cls := 8, slots := #[.int 4], vm := .none },
  { cls := 8, slots := #[.int 5], vm := .none },
  { cls := 8, slots := #[.int 6], vm := .none },
  { cls := 8, slots := #[.int 7], vm := .none },
  { cls := 8, slots := #[.int 8], vm := .none },
  { cls := 8, slots := #[.int 9], vm := .none },
  { cls := 8, slots := #[.int 10], vm := .none },
  { cls := 8, slots := #[.int 11], vm := .none },
  { cls := 8, slots := #[.int 12], vm := .none },
  { cls := 8, slots := #[.int 13], vm := .none },
  { cls := 8, slots := #[.int 14], vm := .none },
  { cls := 8, slots := #[.int 15], vm := .none },
  { cls := 8, slots := #[.int 16], vm := .none },
  { cls := 8, slots := #[.int 17], vm := .none },
  { cls := 8, slots := #[.int 18], vm := .none },
  { cls := 8, slots := #[.int 19], vm := .none },
  { cls := 8, slots := #[.int 20], vm := .none },
  { cls := 8, slots := #[.int 21], vm := .none },
  { cls := 8, slots := #[.int 22], vm := .none },
  { cls := 8, slots := #[.int 23], vm := .none },
  { cls := 8, slots := #[.int 24], vm := .none },
  { cls := 8, slots := #[.int 25], vm := .none },
  { cls := 8, slots := #[.int 26], vm := .none },
  { cls := 8, slots := #[.int 27], vm := .none },
  { cls := 8, slots := #[.int 28], vm := .none },
  { cls := 8, slots := #[.int 29], vm := .none },
  { cls := 8, slots := #[.int 30], vm := .none },
  { cls := 8, slots := #[.int 31], vm := .none },
  { cls := 8, slots := #[.int 32], vm := .none },
  { cls := 8, slots := #[.int 33], vm := .none },
  { cls := 8, slots := #[.int 34], vm := .none },
  { cls := 8, slots := #[.int 35], vm := .none },
  { cls := 8, slots := #[.int 36], vm := .none },
  { cls := 8, slots := #[.int 37], vm := .none },
  { cls := 8, slots := #[.int 38], vm := .none },
  { cls := 8, slots := #[.int 39], vm := .none },
  { cls := 8, slots := #[.int 40], vm := .none },
  { cls := 8, slots := #[.int 41], vm := .none },
  { cls := 8, slots := #[.int 42], vm := .none },
  { cls := 8, slots := #[.int 43], vm := .none },
  { cls := 8, slots := #[.int 44], vm := .none },
  { cls := 8, slots := #[.int 45], vm := .none },
  { cls := 8, slots := #[.int 46], vm := .none },
  { cls := 8, slots := #[.int 47], vm := .none },
  { cls := 8, slots := #[.int 48], vm := .none },
  { cls := 8, slots := #[.int 49], vm := .none },
  { cls := 8, slots := #[.int 50], vm := .none },
  { cls := 8, slots := #[.int 51], vm := .none },
  { cls := 8, slots := #[.int 52], vm := .none },
  { cls := 8, slots := #[.int 53], vm := .none },
  { cls := 8, slots := #[.int 54], vm := .none },
  { cls := 8, slots := #[.int 55], vm := .none },
  { cls := 8, slots := #[.int 56], vm := .none },
  { cls := 8, slots := #[.int 57], vm := .none },
  { cls := 8, slots := #[.int 58], vm := .none },
  { cls := 8, slots := #[.int 59], vm := .none },
  { cls := 8, slots := #[.int 60], vm := .none },
  { cls := 8, slots := #[.int 61], vm := .none },
  { cls := 8, slots := #[.int 62], vm := .none },
  { cls := 8, slots := #[.int 63], vm := .none },
  { cls := 8, slots := #[.int 64], vm := .none },
  { cls := 8, slots := #[.int 65], vm := .none },
  { cls := 8, slots := #[.int 66], vm := .none },
  { cls := 8, slots := #[.int 67], vm := .none },
  { cls := 8, slots := #[.int 68], vm := .none },
  { cls := 8, slots := #[.int 69], vm := .none },
  { cls := 8, slots := #[.int 70], vm := .none },
  { cls := 8, slots := #[.int 71], vm := .none },
  { cls := 8, slots := #[.int 72], vm := .none },
  { cls := 8, slots := #[.int 73], vm := .none },
  { cls := 8, slots := #[.int 74], vm := .none },
  { cls := 8, slots := #[.int 75], vm := .none },
  { cls := 8, slots := #[.int 76], vm := .none },
  { cls := 8, slots := #[.int 77], vm := .none },
  { cls := 8, slots := #[.int 78], vm := .none },
  { cls := 8, slots := #[.int 79], vm := .none },
  { cls := 8, slots := #[.int 80], vm := .none },
  { cls := 8, slots := #[.int 81], vm := .none },
  { cls := 8, slots := #[.int 82], vm := .none },
  { cls := 8, slots := #[.int 83], vm := .none },
  { cls := 8, slots := #[.int 84], vm := .none },
  { cls := 8, slots := #[.int 85], vm := .none },
  { cls := 8, slots := #[.int 86], vm := .none },
  { cls := 8, slots := #[.int 87], vm := .none },
  { cls := 8, slots := #[.int 88], vm := .none },
  { cls := 8, slots := #[.int 89], vm := .none },
  { cls := 8, slots := #[.int 90], vm := .none },
  { cls := 8, slots := #[.int 91], vm := .none },
  { cls := 8, slots := #[.int 92], vm := .none },
  { cls := 8, slots := #[.int 93], vm := .none },
  { cls := 8, slots := #[.int 94], vm := .none },
  { cls := 8, slots := #[.int 95], vm := .none },
  { cls := 8, slots := #[.int 96], vm := .none },
  { cls := 8, slots := #[.int 97], vm := .none },
  { cls := 8, slots := #[.int 98], vm := .none },
  { cls := 8, slots := #[.int 99], vm := .none },
  { cls := 8, slots := #[.int 100], vm := .none },
  { cls := 8, slots := #[.int 101], vm := .none },
  { cls := 8, slots := #[.int 102], vm := .none },
  { cls := 8, slots := #[.int 103], vm := .none },
  { cls := 8, slots := #[.int 104], vm := .none },
  { cls := 8, slots := #[.int 105], vm := .none },
  { cls := 8, slots := #[.int 106], vm := .none },
  { cls := 8, slots := #[.int 107], vm := .none },
  { cls := 8, slots := #[.int 108], vm := .none },
  { cls := 8, slots := #[.int 109], vm := .none },
  { cls := 8, slots := #[.int 110], vm := .none },
  { cls := 8, slots := #[.int 111], vm := .none },
  { cls := 8, slots := #[.int 112], vm := .none },
  { cls := 8, slots := #[.int 113], vm := .none },
  { cls := 8, slots := #[.int 114], vm := .none },
  { cls := 8, slots := #[.int 115], vm := .none },
  { cls := 8, slots := #[.int 116], vm := .none },
  { cls := 8, slots := #[.int 117], vm := .none },
  { cls := 8, slots := #[.int 118], vm := .none },
  { cls := 8, slots := #[.int 119], vm := .none },
  { cls := 8, slots := #[.int 120], vm := .none },
  { cls := 8, slots := #[.int 121], vm := .none },
  { cls := 8, slots := #[.int 122], vm := .none },
  { cls := 8, slots := #[.int 123], vm := .none },
  { cls := 8, slots := #[.int 124], vm := .none },
  { cls := 8, slots := #[.int 125], vm := .none },
  { cls := 8, slots := #[.int 126], vm := .none },
  { cls := 8, slots := #[.int 127], vm := .none }]
def classes : Array Class := #[k0, k1, k2, k3, k4, k5, k6, k7, k8, k9, k10, k11, k12, k13, k14, k15]
def interned : List (Array UInt16 × Addr) := []
def slotsUsed : Nat := 517
def theMethod : MethodId := ⟨1, 1⟩
def args0 : Array Value := #[.int 1, .int 2, .int 3, .int 4, .int 5]
def aboutOver (below : List Frame) : State where
  vm := { classes := classes, interned := interned.toArray }
  heap := heap
  slotsUsed := slotsUsed
  threads := #[{ frames := .invoking theMethod args0 :: below }]
def below0 : List Frame := [.native { method := ⟨0, 0⟩, args := #[] }]
def about1 : State := aboutOver below0
def p0 : Program := .bare "" "" ""
def e0 : Env := launch0.env 0 0 0
theorem w_frames : about1.frames = Frame.invoking theMethod args0 :: below0 := rfl
set_option maxRecDepth 65536 in
theorem w_args : argsFit about1.vm theMethod args0 = true := by decide +kernel
set_option maxRecDepth 65536 in
theorem w_heap : heapFits about1 = true := by decide +kernel
set_option maxRecDepth 65536 in
theorem w_runnable : about1.curStatus? = some .runnable := by decide +kernel
set_option maxRecDepth 65536 in
theorem w_alone : about1.alone = true := by decide +kernel
set_option maxRecDepth 65536 in
theorem w_named : about1.methodNamed? x = some theMethod := by decide +kernel
set_option maxRecDepth 65536 in
theorem w_hears : about1.hears theMethod below0 = true := by decide +kernel
set_option maxRecDepth 65536 in
theorem w_ripe : about1.ripe theMethod args0 below0 = true := by decide +kernel
theorem w_running : about1.status = .running := rfl
set_option maxRecDepth 65536 in
theorem w_room : about1.hasRoom e0.platform room_1 = true :=
  launch0.hasRoom_least _ room_1 (by decide +kernel) (by decide +kernel) (by decide +kernel) (by decide +kernel) (by decide +kernel) (by decide +kernel)
theorem allAtoms_all (ts : List Jvm.Cond) (a : Array Jvm.Value) (st : Jvm.State) : (allAtoms ts).before a st = ts.all (fun c => c.before a st) := by
  induction ts with
  | nil => rfl
  | cons c t ih =>
    show (Jvm.Cond.and c (allAtoms t)).before a st = _
    rw [Jvm.Cond.before_and, ih, List.all_cons]
def words1 : List Jvm.Cond := Jvm.Cond.code x code maxLocals ret :: tables_1
/-- a 'code' word, met by the world's own term for the bytes: nothing is compared byte by byte -/
theorem code_word {y : MethodName} {bytes : ByteArray} {mx : Nat} {rt : Option FieldType} {a : Array Value} {s : State} {m : MethodId} {meth : Method} {c : Code} (h1 : s.methodNamed? y = some m) (h2 : s.vm.method? m = some meth) (h3 : meth.code = some c) (h4 : c.code = bytes)
    (h5 : (c.maxLocals == mx && c.exceptionTable.isEmpty && decide (c.maxStack ≤ mostOperands) && decide (meth.sig.returnType = rt) && !meth.locks && decide (parseMethodDescriptor y.desc = some meth.sig)) = true) : (Jvm.Cond.code y bytes mx rt).before a s = true := by
  simp only [Bool.and_eq_true, beq_iff_eq, Bool.not_eq_true', decide_eq_true_eq] at h5
  obtain ⟨⟨⟨⟨⟨g1, g2⟩, g3⟩, g4⟩, g5⟩, g6⟩ := h5
  simp [Cond.before, Cond.holds, Cond.value, h1, h2, h3, h4, g1, g2, g3, g4, g5, g6]
def isCode : Jvm.Cond → Bool
  | .code _ _ _ _ => true
  | _ => false
theorem all_split {L : List Jvm.Cond} {P : Jvm.Cond → Bool} (h1 : L.all (fun c => isCode c || P c) = true) (h2 : ∀ c ∈ L.filter isCode, P c = true) : L.all P = true := by
  refine List.all_eq_true.mpr fun c hc => ?_
  have h := List.all_eq_true.mp h1 c hc
  rcases Bool.eq_false_or_eq_true (isCode c) with hi | hi
  · exact h2 c (List.mem_filter.mpr ⟨hc, hi⟩)
  · simpa [hi] using h
set_option maxRecDepth 65536 in
theorem w_c0 : (Jvm.Cond.code x code maxLocals ret).before args0 about1 = true := code_word (m := ⟨1, 1⟩) (meth := k1m1) (c := k1c1) (by decide +kernel) rfl rfl rfl (by decide +kernel)
set_option maxRecDepth 65536 in
theorem w_c1 : (Jvm.Cond.code ({ cls := "com/example/ply2/ply2/metadata/ScramCredential$Shape", name := "<init>", desc := "(II)V" } : Jvm.MethodName) prog_209_method_1_code (3 : Nat) (Option.none : Option Jvm.ClassFile.FieldType)).before args0 about1 = true := code_word (m := ⟨3, 0⟩) (meth := k3m0) (c := k3c0) (by decide +kernel) rfl rfl rfl (by decide +kernel)
set_option maxRecDepth 65536 in
theorem w_c2 : (Jvm.Cond.code ({ cls := "java/lang/Object", name := "<init>", desc := "()V" } : Jvm.MethodName) object_method_1_code (1 : Nat) (Option.none : Option Jvm.ClassFile.FieldType)).before args0 about1 = true := code_word (m := ⟨0, 0⟩) (meth := k0m0) (c := k0c0) (by decide +kernel) rfl rfl rfl (by decide +kernel)
set_option maxRecDepth 65536 in
theorem w_c3 : (Jvm.Cond.code ({ cls := "java/lang/Integer", name := "valueOf", desc := "(I)Ljava/lang/Integer;" } : Jvm.MethodName) jdk_33_method_22_code (1 : Nat) (Option.some (Jvm.ClassFile.FieldType.object "java/lang/Integer"))).before args0 about1 = true := code_word (m := ⟨8, 0⟩) (meth := k8m0) (c := k8c0) (by decide +kernel) rfl rfl rfl (by decide +kernel)
set_option maxRecDepth 65536 in
theorem w_c4 : (Jvm.Cond.code ({ cls := "com/example/ply2/ply2/metadata/ScramCredential$Shape", name := "equals", desc := "(Ljava/lang/Object;)Z" } : Jvm.MethodName) prog_209_method_5_code (3 : Nat) (Option.some Jvm.ClassFile.FieldType.boolean)).before args0 about1 = true := code_word (m := ⟨3, 1⟩) (meth := k3m1) (c := k3c1) (by decide +kernel) rfl rfl rfl (by decide +kernel)
set_option maxRecDepth 65536 in
theorem w_c5 : (Jvm.Cond.code ({ cls := "java/lang/Integer", name := "<init>", desc := "(I)V" } : Jvm.MethodName) jdk_33_method_23_code (2 : Nat) (Option.none : Option Jvm.ClassFile.FieldType)).before args0 about1 = true := code_word (m := ⟨8, 1⟩) (meth := k8m1) (c := k8c1) (by decide +kernel) rfl rfl rfl (by decide +kernel)
set_option maxRecDepth 65536 in
theorem w_c6 : (Jvm.Cond.code ({ cls := "java/lang/Number", name := "<init>", desc := "()V" } : Jvm.MethodName) jdk_18_method_1_code (1 : Nat) (Option.none : Option Jvm.ClassFile.FieldType)).before args0 about1 = true := code_word (m := ⟨5, 0⟩) (meth := k5m0) (c := k5c0) (by decide +kernel) rfl rfl rfl (by decide +kernel)
def codes1 : List Jvm.Cond := [Jvm.Cond.code x code maxLocals ret, Jvm.Cond.code ({ cls := "com/example/ply2/ply2/metadata/ScramCredential$Shape", name := "<init>", desc := "(II)V" } : Jvm.MethodName) prog_209_method_1_code (3 : Nat) (Option.none : Option Jvm.ClassFile.FieldType), Jvm.Cond.code ({ cls := "java/lang/Object", name := "<init>", desc := "()V" } : Jvm.MethodName) object_method_1_code (1 : Nat) (Option.none : Option Jvm.ClassFile.FieldType), Jvm.Cond.code ({ cls := "java/lang/Integer", name := "valueOf", desc := "(I)Ljava/lang/Integer;" } : Jvm.MethodName) jdk_33_method_22_code (1 : Nat) (Option.some (Jvm.ClassFile.FieldType.object "java/lang/Integer")), Jvm.Cond.code ({ cls := "com/example/ply2/ply2/metadata/ScramCredential$Shape", name := "equals", desc := "(Ljava/lang/Object;)Z" } : Jvm.MethodName) prog_209_method_5_code (3 : Nat) (Option.some Jvm.ClassFile.FieldType.boolean), Jvm.Cond.code ({ cls := "java/lang/Integer", name := "<init>", desc := "(I)V" } : Jvm.MethodName) jdk_33_method_23_code (2 : Nat) (Option.none : Option Jvm.ClassFile.FieldType), Jvm.Cond.code ({ cls := "java/lang/Number", name := "<init>", desc := "()V" } : Jvm.MethodName) jdk_18_method_1_code (1 : Nat) (Option.none : Option Jvm.ClassFile.FieldType)]
set_option maxRecDepth 65536 in
theorem codes_eq : words1.filter isCode = codes1 := rfl
theorem w_codes : ∀ c ∈ words1.filter isCode, c.before args0 about1 = true := by
  rw [codes_eq]
  intro c hc
  simp only [codes1, List.mem_cons, List.not_mem_nil, or_false] at hc
  rcases hc with rfl | rfl | rfl | rfl | rfl | rfl | rfl
  · exact w_c0
  · exact w_c1
  · exact w_c2
  · exact w_c3
  · exact w_c4
  · exact w_c5
  · exact w_c6
set_option maxRecDepth 65536 in
theorem w_t1 : (words1.take 24).all (fun c => isCode c || c.before args0 about1) = true := by decide +kernel
set_option maxRecDepth 65536 in
theorem w_t2 : (words1.drop 24).all (fun c => isCode c || c.before args0 about1) = true := by decide +kernel
theorem w_tables : (allAtoms (Jvm.Cond.code x code maxLocals ret :: tables_1)).before args0 about1 = true := by
  rw [allAtoms_all]
  show words1.all (fun c => c.before args0 about1) = true
  refine all_split ?_ w_codes
  rw [← List.take_append_drop 24 words1, List.all_append, w_t1, w_t2]
  rfl
set_option maxRecDepth 65536 in
theorem w_rest : rest_1_c.before args0 about1 = true := by decide +kernel
set_option maxRecDepth 65536 in
theorem w_case : (Jvm.Cond.and given_1 narrow_1).before args0 about1 = true := by decide +kernel
theorem w_applies : (headSpec (Jvm.Cond.code x code maxLocals ret :: tables_1) room_1).applies x e0.platform about1 = true :=
  (Spec.applies_iff w_frames).mpr ⟨w_running, w_runnable, w_alone, w_named, w_hears, w_ripe, w_room, w_tables⟩
theorem atStart : AtStart classFile x code maxLocals ret World_1 tables_1 room_1 Calls_1 rest_1 Pre_1 launch0 p0 e0 about1 theMethod args0 below0 :=
  ⟨lists_1, trivial, launch0.admits_env _ _ _, launch0.least_env, fairChoices_fair.cas, fairChoices_fair.clock, w_frames, w_args, w_heap, w_applies, trivial, w_rest, w_case⟩
end start1
theorem witness_1 : WitnessClaimed_1 := ⟨start1.p0, start1.e0, start1.about1, start1.theMethod, start1.args0, start1.below0, start1.atStart⟩
end Jvm.Pilot.@@N@@
