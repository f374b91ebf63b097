import JvmDerived
import JvmDerived.Pilot.@@N@@Statement
import JvmDerived.Pilot.@@N@@Code
set_option linter.unusedVariables false
set_option linter.unusedSimpArgs false
@@BLOCK:NumsL.lean.txt@@
namespace Jvm.Pilot.@@N@@
open Jvm Jvm.ClassFile Sem Op Lib Jvm.Free Jvm.Stand Jvm.LawKit Jvm.RoadKit Bundle Jvm.Pilot.@@N@@.Jvm.D
section OwnKit
variable {p : Program} {l : Launch} {e : Env} {R : Room} {s : State} {m : MethodId} {args : Array Value} {below : List Frame} {meth : Method} {c : Code} {T : State} {locs : List Loc} {cells slots : Nat} {Z : State} {a0 : Array Value} {h h' : Heap} {K : State → Outcome → Prop}
/-- from here the run comes to an end that K takes -/
def own_Wp (tb : Tables) (e : Env) (below : List Frame) (K : State → Outcome → Prop) (st : State) : Prop := ∃ s₂ o, Steps tb e below st s₂ ∧ K s₂ o
theorem own_of {tb : Tables} {A B : State} (h : ∀ t, Steps tb e below B t → Steps tb e below A t) (w : own_Wp tb e below K B) : own_Wp tb e below K A := by
  obtain ⟨s₂, o, h1, h2⟩ := w
  exact ⟨s₂, o, h _ h1, h2⟩
def own_K (R : Room) (s : State) (below : List Frame) (Q : Option Value → Heap → List Loc → Prop) (s₂ : State) (o : Outcome) : Prop :=
  s₂.status = .running ∧ Ended s₂ below o ∧ ∃ v L, o = .returned v ∧ Q v s₂.heap L ∧ FrameEnd s o s₂ L R.cells R.slots
theorem own_ret {Q : Option Value → Heap → List Loc → Prop} (X : Stand p l e R s m args below meth c T locs cells slots) (hlk : meth.locks = false) (v : Option Value) (hv : meth.sig.returnType = none → v = none) {f : JFrame}
    (hs : ∀ fs, (∀ (f : JFrame) (acts : List Action), f.method = m → f.locked = none → f.entered = [] → (doReturn e (T.setTop f) acts v).1 = T.setFrames fs) → Steps p.tables e below (T.setTop f) (T.setFrames fs))
    (hQ : Q v T.heap locs) (hc : cells ≤ R.cells) (hsl : slots ≤ R.slots) : own_Wp p.tables e below (own_K R s below Q) (T.setTop f) := by
  obtain ⟨fs, hr, hrun, hended, hW, hsame⟩ := X.leave (v := v) hv hlk
  exact ⟨_, _, hs fs hr, hrun, hended, _, _, rfl, hQ, ⟨_, rfl⟩, hW, hsame.mono hc hsl⟩
theorem own_rtI {i : FieldType} {v : Option Value} {r : Option FieldType} (h1 : r = some i) : r = none → v = none := fun h => by rw [h1] at h; cases h
theorem own_retI (X : Stand p l e R s m args below meth c T locs cells slots) (hx : p.tables.exec = Jvm.exec) {pc : Nat} {Ls : Array Slot} {z : Int32} {rest : List Value} (hret : meth.sig.returnType = some .int) (hd : decode c.code pc = .ok (.ireturn, 1)) {fs : List Frame}
    (hl : ∀ (f : JFrame) (acts : List Action), f.method = m → f.locked = none → f.entered = [] → (doReturn e (T.setTop f) acts (some (.int z))).1 = T.setFrames fs) : Steps p.tables e below (T.setTop (mkF m pc Ls (.int z :: rest))) (T.setFrames fs) :=
  retOut X hx hret rfl (Or.inl ⟨rfl, Or.inl rfl, z, rfl⟩) hd hl
theorem own_retJ (X : Stand p l e R s m args below meth c T locs cells slots) (hx : p.tables.exec = Jvm.exec) {pc : Nat} {Ls : Array Slot} {z : Int64} {rest : List Value} (hret : meth.sig.returnType = some .long) (hd : decode c.code pc = .ok (.lreturn, 1)) {fs : List Frame}
    (hl : ∀ (f : JFrame) (acts : List Action), f.method = m → f.locked = none → f.entered = [] → (doReturn e (T.setTop f) acts (some (.long z))).1 = T.setFrames fs) : Steps p.tables e below (T.setTop (mkF m pc Ls (.long z :: rest))) (T.setFrames fs) :=
  retOut X hx hret rfl (Or.inr (Or.inl ⟨rfl, rfl, z, rfl⟩)) hd hl
theorem own_retR (X : Stand p l e R s m args below meth c T locs cells slots) (hx : p.tables.exec = Jvm.exec) {pc : Nat} {Ls : Array Slot} {w : Value} {t : FieldType} {rest : List Value} (hret : meth.sig.returnType = some t) (hw : w.isRef = true) (ht : t.isReference = true) (hn : narrow t w = w) (hd : decode c.code pc = .ok (.areturn, 1)) {fs : List Frame}
    (hl : ∀ (f : JFrame) (acts : List Action), f.method = m → f.locked = none → f.entered = [] → (doReturn e (T.setTop f) acts (some w)).1 = T.setFrames fs) : Steps p.tables e below (T.setTop (mkF m pc Ls (w :: rest))) (T.setFrames fs) :=
  retOut X hx hret hn (Or.inr (Or.inr (Or.inr (Or.inr ⟨rfl, ht, hw⟩)))) hd hl
/-- a method's contract: called so, at the heap h0, it returns as Q says -/
abbrev own_Ctr (l : Launch) (Z : State) (y : MethodName) (bytes : ByteArray) (maxL : Nat) (ret : Option FieldType) (ws : List Jvm.Cond) (rm : Room) (as' : Array Value) (h0 : Heap) (Q : Option Value → Heap → List Loc → Prop) : Prop :=
  MetFree l y (head1 (Jvm.Cond.code y bytes maxL ret :: ws) rm) (fun a U => a = as' ∧ Z.Warmed39 U.vm ∧ U.heap = h0) (fun _ _ _ _ _ => True) (fun _ U o U' => ∃ v L, o = .returned v ∧ Q v U'.heap L ∧ FrameEnd U o U' L rm.cells rm.slots)
theorem own_enter {y : MethodName} {bytes : ByteArray} {maxL : Nat} {ret : Option FieldType} {ws : List Jvm.Cond} {rm : Room} {as' : Array Value} {h0 : Heap} {Q : Option Value → Heap → List Loc → Prop} (hpl : plainFor y = true)
    (body : ∀ (p : Program) (e : Env) (s : State) (m : MethodId) (below : List Frame) (meth : Method) (c : Code) (s₁ : State), Stand p l e rm s m as' below meth c s₁ [] 0 0 → p.tables.exec = Jvm.exec → c.code = bytes → c.maxLocals = maxL → meth.sig.returnType = ret → meth.locks = false → Z.Warmed39 s.vm → s.vm.findClass y.cls = some m.cls → meth.name = y.name → s₁.heap = h0 → own_Wp p.tables e below (own_K rm s below Q) (s₁.setTop (entryFrame m as' maxL))) :
    own_Ctr l Z y bytes maxL ret ws rm as' h0 Q := by
  refine MetFree.of_bodySF hpl hisR ?_
  intro p e s m args below meth c s₁ Bd hml0 hP hK
  obtain ⟨rfl, hZ, hh⟩ := hP
  obtain ⟨s₂, o, h1, h2, h3, h4⟩ := body p e s m below meth c s₁ (Stand.of_body Bd) Bd.exec Bd.bytes hml0 Bd.returns Bd.notSynchronized hZ (findClass_of_methodNamed Bd.named) (name_of_methodNamed Bd.named Bd.method).1 (by rw [← hh, Bd.state]; rfl)
  exact ⟨s₂, o, h1, h2, h3, h4⟩
section Calls
variable {own C : String} {index maxL W : Nat} {y z : MethodName} {bytes : ByteArray} {ret : Option FieldType} {rm : Room} {Q : Option Value → Heap → List Loc → Prop} {argsL rest : List Value} {g : JFrame} {a : Addr}
theorem own_callS (X : Stand p l e R s m args below meth c T locs cells slots) (hx : p.tables.exec = Jvm.exec) (hZ : Z.Warmed39 s.vm) (hown : s.vm.findClass own = some m.cls)
    (w1 : (Jvm.Cond.methodLink own index y).before a0 Z = true) (w2 : (Jvm.Cond.static y).before a0 Z = true) (w3 : (Jvm.Cond.initialized y.cls).before a0 Z = true) (w4 : (Jvm.Cond.code y bytes maxL ret).before a0 Z = true)
    (hy : y.cls ≠ "java/lang/invoke/MethodHandle" ∧ y.cls ≠ "java/lang/invoke/VarHandle") (eT : T.heap = h) (hM : own_Ctr l Z y bytes maxL ret [] rm argsL.toArray h Q)
    (hf : rm.frames + 1 ≤ R.frames) (hl : W + (maxL + 11) + rm.locals ≤ R.locals) (hc : cells + rm.cells ≤ R.cells) (hs : slots + rm.slots ≤ R.slots)
    (hg : g.method = m) (hsize : g.locals.size = c.maxLocals) (hlen : ∀ sig, parseMethodDescriptor y.desc = some sig → argsL.length = sig.parameters.length) (hstack : g.stack = argsL.reverse ++ rest) (hW : 2 * g.monitorRoom + (rest.map fun v => v.category).sum ≤ W) (hdg : decode c.code g.pc = .ok (.invokestatic index, 3))
    (k : ∀ (T' : State) (L : List Loc) (v : Option Value), Stand p l e R s m args below meth c T' (locs ++ L) (cells + rm.cells) (slots + rm.slots) → Q v T'.heap L → own_Wp p.tables e below K (T'.setTop { g with pc := g.pc + 3, stack := v.toList ++ rest })) :
    own_Wp p.tables e below K (T.setTop g) := by
  obtain ⟨v, _, ⟨T', L', k', n'⟩, -, X', ⟨Lc, hQ, l1, y1, z1⟩, st⟩ := Jvm.LawKit.callS X hx hown (mvT hZ w1) (mvT hZ w2) (mvT hZ w3) (mvT hZ w4) hy (backOf (W := W) hM hZ w4 w3 hf hl) hg hsize hlen hstack hW hdg (fun _ _ => ⟨rfl, eT, hc, hs⟩)
  dsimp only [Pt.U, Pt.locs, Pt.cells, Pt.slots] at X' l1 y1 z1 st hQ
  subst l1 y1 z1
  exact own_of st (k _ _ _ X' hQ)
theorem own_callI (X : Stand p l e R s m args below meth c T locs cells slots) (hx : p.tables.exec = Jvm.exec) (hZ : Z.Warmed39 s.vm) (hy1 : y.name = "<init>") (hown : s.vm.findClass own = some m.cls)
    (w1 : (Jvm.Cond.methodLink own index y).before a0 Z = true) (w2 : (Jvm.Cond.instanceMethod y).before a0 Z = true) (w3 : (Jvm.Cond.initialized y.cls).before a0 Z = true) (w4 : (Jvm.Cond.code y bytes maxL none).before a0 Z = true)
    (hy : y.cls ≠ "java/lang/invoke/MethodHandle" ∧ y.cls ≠ "java/lang/invoke/VarHandle") (eT : T.heap = h) (hM : own_Ctr l Z y bytes maxL none [] rm (.ref a :: argsL).toArray h Q)
    (hf : rm.frames + 1 ≤ R.frames) (hl : W + (maxL + 11) + rm.locals ≤ R.locals) (hc : cells + rm.cells ≤ R.cells) (hs : slots + rm.slots ≤ R.slots)
    (hg : g.method = m) (hsize : g.locals.size = c.maxLocals) (hlen : ∀ sig, parseMethodDescriptor y.desc = some sig → argsL.length = sig.parameters.length) (hstack : g.stack = argsL.reverse ++ .ref a :: rest) (hW : 2 * g.monitorRoom + (rest.map fun v => v.category).sum ≤ W) (hdg : decode c.code g.pc = .ok (.invokespecial index, 3))
    (k : ∀ (T' : State) (L : List Loc) (v : Option Value), Stand p l e R s m args below meth c T' (locs ++ L) (cells + rm.cells) (slots + rm.slots) → Q v T'.heap L → own_Wp p.tables e below K (T'.setTop { g with pc := g.pc + 3, stack := v.toList ++ rest })) :
    own_Wp p.tables e below K (T.setTop g) := by
  obtain ⟨v, _, ⟨T', L', k', n'⟩, -, X', ⟨Lc, hQ, l1, y1, z1⟩, st⟩ := X.specialBack hx hy1 hown (mvT hZ w1) (mvT hZ w2) (mvT hZ w4) hy (backOf (W := W) hM hZ w4 w3 hf hl) hg hsize (Steps.refl _) hlen hstack hW hdg (fun _ _ => ⟨rfl, eT, hc, hs⟩)
  dsimp only [Pt.U, Pt.locs, Pt.cells, Pt.slots] at X' l1 y1 z1 st hQ
  subst l1 y1 z1
  exact own_of (fun t q => st.trans q) (k _ _ _ X' hQ)
theorem own_callV (X : Stand p l e R s m args below meth c T locs cells slots) (hx : p.tables.exec = Jvm.exec) (hZ : Z.Warmed39 s.vm) (hown : s.vm.findClass own = some m.cls)
    (w1 : (Jvm.Cond.methodLink own index y).before a0 Z = true) (w2 : (Jvm.Cond.declares y).before a0 Z = true) (w5 : (Jvm.Cond.selects C y y).before a0 Z = true) (w6 : (Jvm.Cond.instanceMethod y).before a0 Z = true) (w3 : (Jvm.Cond.initialized y.cls).before a0 Z = true) (w4 : (Jvm.Cond.code y bytes maxL ret).before a0 Z = true)
    (hy : y.cls ≠ "java/lang/invoke/MethodHandle" ∧ y.cls ≠ "java/lang/invoke/VarHandle") (eT : T.heap = h) (E : Exa Z h a C) (hM : own_Ctr l Z y bytes maxL ret [] rm (.ref a :: argsL).toArray h Q)
    (hf : rm.frames + 1 ≤ R.frames) (hl : W + (maxL + 11) + rm.locals ≤ R.locals) (hc : cells + rm.cells ≤ R.cells) (hs : slots + rm.slots ≤ R.slots)
    (hg : g.method = m) (hsize : g.locals.size = c.maxLocals) (hlen : ∀ sig, parseMethodDescriptor y.desc = some sig → argsL.length = sig.parameters.length) (hstack : g.stack = argsL.reverse ++ .ref a :: rest) (hW : 2 * g.monitorRoom + (rest.map fun v => v.category).sum ≤ W) (hdg : decode c.code g.pc = .ok (.invokevirtual index, 3))
    (k : ∀ (T' : State) (L : List Loc) (v : Option Value), Stand p l e R s m args below meth c T' (locs ++ L) (cells + rm.cells) (slots + rm.slots) → Q v T'.heap L → own_Wp p.tables e below K (T'.setTop { g with pc := g.pc + 3, stack := v.toList ++ rest })) :
    own_Wp p.tables e below K (T.setTop g) := by
  obtain ⟨cq, kq, qa, qb, qc⟩ := isOf hZ eT E
  obtain ⟨v, _, ⟨T', L', k', n'⟩, -, X', ⟨Lc, hQ, l1, y1, z1⟩, st⟩ := X.virtualBack hx hown (mvT hZ w1) (mvT hZ w2) (notFace_of_selects (args := #[]) (mvT hZ w5)) (mvT hZ w5) (mvT hZ w6) hy (backOf (W := W) hM hZ w4 w3 hf hl) qa qc hg hsize (Steps.refl _) hlen hstack hW hdg (fun _ _ => ⟨rfl, eT, hc, hs⟩)
  dsimp only [Pt.U, Pt.locs, Pt.cells, Pt.slots] at X' l1 y1 z1 st hQ
  subst l1 y1 z1
  exact own_of (fun t q => st.trans q) (k _ _ _ X' hQ)
theorem own_callP {nI : Nat} {C0 : String} (X : Stand p l e R s m args below meth c T locs cells slots) (hx : p.tables.exec = Jvm.exec) (hZ : Z.Warmed39 s.vm) (hown : s.vm.findClass own = some m.cls)
    (w1 : (Jvm.Cond.methodLink own index y).before a0 Z = true) (w2 : (Jvm.Cond.instanceMethod y).before a0 Z = true) (wi : (Jvm.Cond.instantiable y.cls nI).before a0 Z = true) (wp : (Jvm.Cond.privateMethod y).before a0 Z = true) (w3 : (Jvm.Cond.initialized y.cls).before a0 Z = true) (w4 : (Jvm.Cond.code y bytes maxL ret).before a0 Z = true)
    (hy : y.cls ≠ "java/lang/invoke/MethodHandle" ∧ y.cls ≠ "java/lang/invoke/VarHandle") (eT : T.heap = h) (E : Exa Z h a C0) (hM : own_Ctr l Z y bytes maxL ret [] rm (.ref a :: argsL).toArray h Q)
    (hf : rm.frames + 1 ≤ R.frames) (hl : W + (maxL + 11) + rm.locals ≤ R.locals) (hc : cells + rm.cells ≤ R.cells) (hs : slots + rm.slots ≤ R.slots)
    (hg : g.method = m) (hsize : g.locals.size = c.maxLocals) (hlen : ∀ sig, parseMethodDescriptor y.desc = some sig → argsL.length = sig.parameters.length) (hstack : g.stack = argsL.reverse ++ .ref a :: rest) (hW : 2 * g.monitorRoom + (rest.map fun v => v.category).sum ≤ W) (hdg : decode c.code g.pc = .ok (.invokevirtual index, 3))
    (k : ∀ (T' : State) (L : List Loc) (v : Option Value), Stand p l e R s m args below meth c T' (locs ++ L) (cells + rm.cells) (slots + rm.slots) → Q v T'.heap L → own_Wp p.tables e below K (T'.setTop { g with pc := g.pc + 3, stack := v.toList ++ rest })) :
    own_Wp p.tables e below K (T.setTop g) := by
  obtain ⟨cq, q1, q2⟩ := E.cell
  obtain ⟨ci, ki, i1, i2, -, i4, -⟩ := Cond.instantiable_spec (mvT (args := args) hZ wi)
  simp only [Bool.or_eq_false_iff] at i4
  have hpr : s.PrivateAt y := Cond.privateMethod_at (mvP hZ wp (args := #[]))
  have hsel : (Jvm.Cond.selects y.cls y y).before args s = true := selects_self_of_private i1 i2 i4.1 hpr (mvT hZ w2) hy
  obtain ⟨v, _, ⟨T', L', k', n'⟩, -, X', ⟨Lc, hQ, l1, y1, z1⟩, st⟩ := X.privateBack hx hown (mvT hZ w1) (mvT hZ w2) hsel hpr (mvT hZ w4) hy (backOf (W := W) hM hZ w4 w3 hf hl) hg hsize (Steps.refl _) (by rw [eT]; exact q1) q2 hlen hstack hW hdg (fun _ _ => ⟨rfl, eT, hc, hs⟩)
  dsimp only [Pt.U, Pt.locs, Pt.cells, Pt.slots] at X' l1 y1 z1 st hQ
  subst l1 y1 z1
  exact own_of (fun t q => st.trans q) (k _ _ _ X' hQ)
end Calls
end OwnKit
section OwnArr
variable {p : Program} {l : Launch} {e : Env} {R : Room} {s : State} {m : MethodId} {args : Array Value} {below : List Frame} {meth : Method} {c : Code} {T : State} {locs : List Loc} {cells slots : Nat} {Z : State} {a0 : Array Value} {h h' : Heap} {K : State → Outcome → Prop}
variable {a b : Addr} {ty : FieldType} {n sl : Nat} {f : Nat → Value} {v : Value} {ws : List Addr}
theorem own_nat {j : Int32} {i : Nat} (hj : j.toInt = (i : Int)) : j.toNatClampNeg = i := by
  show j.toInt.toNat = i
  rw [hj]; exact Int.toNat_natCast i
theorem own_nneg {j : Int32} {i : Nat} (hj : j.toInt = (i : Int)) : ¬ j < 0 := by
  rw [Int32.lt_iff_toInt_lt, hj]
  show ¬ ((i : Int) < 0)
  omega
/-- the array at a: its kind, its length, its elements -/
def own_Ar (Z : State) (h : Heap) (a : Addr) (ty : FieldType) (n : Nat) (f : Nat → Value) : Prop := n < 2147483648 ∧ ∃ c : Cell, Arr Z h a c ty ∧ c.slots.size = n ∧ ∀ i, i < n → c.slots[i]? = some (f i)
def own_set (f : Nat → Value) (i : Nat) (v : Value) : Nat → Value := fun k => if k = i then v else f k
theorem own_set_eq (f : Nat → Value) (i : Nat) (v : Value) : own_set f i v i = v := if_pos rfl
theorem own_set_ne {f : Nat → Value} {i k : Nat} {v : Value} (q : k ≠ i) : own_set f i v k = f k := if_neg q
theorem own_Ar.lt (F : own_Ar Z h a ty n f) : a < h.size := by obtain ⟨_, c, A, -⟩ := F; exact A.lt
theorem own_Ar.ext (F : own_Ar Z h a ty n f) (E : Ext h h') : own_Ar Z h' a ty n f := by obtain ⟨q, c, A, r⟩ := F; exact ⟨q, c, A.ext E, r⟩
theorem own_Ar.other (F : own_Ar Z h a ty n f) (W : Wr h h' b sl v) (q : a ≠ b) : own_Ar Z h' a ty n f := by obtain ⟨q0, c, A, r⟩ := F; exact ⟨q0, c, A.other W q, r⟩
theorem own_Ar.keep (F : own_Ar Z h a ty n f) (K : Keep h h' ws) (q : a ∉ ws) : own_Ar Z h' a ty n f := by obtain ⟨q0, c, A, r⟩ := F; exact ⟨q0, c, ⟨K.2.1 a c A.1 q, A.2⟩, r⟩
theorem own_Ar.fn {f' : Nat → Value} (F : own_Ar Z h a ty n f) (q : ∀ i, i < n → f i = f' i) : own_Ar Z h a ty n f' := by obtain ⟨q0, c, A, r1, r2⟩ := F; exact ⟨q0, c, A, r1, fun i hi => by rw [← q i hi]; exact r2 i hi⟩
theorem own_Ar.new {k : ClassId} {z : Int32} (A : Arr Z h a (newA k ty z) ty) (q : ¬ z < 0) (e : z.toNatClampNeg = n) : own_Ar Z h a ty n (fun _ => defaultValue ty) := by
  refine ⟨by rw [← e]; exact (back32 q).2, _, A, by rw [sz_new, e], fun i hi => ?_⟩
  simp [newA, e, hi]
theorem own_Ar.start (A : Arr Z h a c' ty) (hs : c'.slots.size < 2147483648) (H : ∀ i, i < c'.slots.size → c'.slots[i]? = some (f i)) : own_Ar Z h a ty c'.slots.size f := ⟨hs, _, A, rfl, H⟩
section Steps
variable {j : Int32} {i : Nat} {g : JFrame} {rest : List Value}
theorem own_in {cl : Cell} (hj : j.toInt = (i : Int)) (hi : i < n) (hsz : cl.slots.size = n) : ¬ (j < 0 ∨ cl.slots.size ≤ j.toNatClampNeg) := by
  rw [own_nat hj, hsz]
  rintro (q | q)
  · exact own_nneg hj q
  · omega
theorem own_iaload {v : Int32} (X : Stand p l e R s m args below meth c T locs cells slots) (hx : p.tables.exec = Jvm.exec) (hZ : Z.Warmed39 s.vm) (eT : T.heap = h) (A : own_Ar Z h a .int n f) (hj : j.toInt = (i : Int)) (hi : i < n) (hv : f i = .int v)
    (hg : g.method = m) (hs : g.stack = .int j :: .ref a :: rest) (hd : decode c.code g.pc = .ok (.iaload, 1)) (k : own_Wp p.tables e below K (T.setTop { g with pc := g.pc + 1, stack := .int v :: rest })) : own_Wp p.tables e below K (T.setTop g) := by
  obtain ⟨-, cl, A, hsz, H⟩ := A
  exact own_of (X.iaload hx (by rw [eT]; exact A.1) (State.isArrayOf_alike hZ.alike A.2.1) A.2.2 (own_in hj hi hsz) (by rw [own_nat hj, H i hi, hv]) hg hs hd) k
theorem own_laload {v : Int64} (X : Stand p l e R s m args below meth c T locs cells slots) (hx : p.tables.exec = Jvm.exec) (hZ : Z.Warmed39 s.vm) (eT : T.heap = h) (A : own_Ar Z h a .long n f) (hj : j.toInt = (i : Int)) (hi : i < n) (hv : f i = .long v)
    (hg : g.method = m) (hs : g.stack = .int j :: .ref a :: rest) (hd : decode c.code g.pc = .ok (.laload, 1)) (k : own_Wp p.tables e below K (T.setTop { g with pc := g.pc + 1, stack := .long v :: rest })) : own_Wp p.tables e below K (T.setTop g) := by
  obtain ⟨-, cl, A, hsz, H⟩ := A
  exact own_of (X.laload hx (by rw [eT]; exact A.1) (State.isArrayOf_alike hZ.alike A.2.1) A.2.2 (own_in hj hi hsz) (by rw [own_nat hj, H i hi, hv]) hg hs hd) k
theorem own_baload {v : Int32} (X : Stand p l e R s m args below meth c T locs cells slots) (hx : p.tables.exec = Jvm.exec) (hZ : Z.Warmed39 s.vm) (eT : T.heap = h) (A : own_Ar Z h a .byte n f) (hj : j.toInt = (i : Int)) (hi : i < n) (hv : f i = .int v)
    (hg : g.method = m) (hs : g.stack = .int j :: .ref a :: rest) (hd : decode c.code g.pc = .ok (.baload, 1)) (k : own_Wp p.tables e below K (T.setTop { g with pc := g.pc + 1, stack := .int v :: rest })) : own_Wp p.tables e below K (T.setTop g) := by
  obtain ⟨-, cl, A, hsz, H⟩ := A
  exact own_of (X.baloadBytes hx (by rw [eT]; exact A.1) (State.isArrayOf_alike hZ.alike A.2.1) A.2.2 (own_in hj hi hsz) (by rw [own_nat hj, H i hi, hv]) hg hs hd) k
theorem own_zaload {v : Int32} (X : Stand p l e R s m args below meth c T locs cells slots) (hx : p.tables.exec = Jvm.exec) (hZ : Z.Warmed39 s.vm) (eT : T.heap = h) (A : own_Ar Z h a .boolean n f) (hj : j.toInt = (i : Int)) (hi : i < n) (hv : f i = .int v)
    (hg : g.method = m) (hs : g.stack = .int j :: .ref a :: rest) (hd : decode c.code g.pc = .ok (.baload, 1)) (k : own_Wp p.tables e below K (T.setTop { g with pc := g.pc + 1, stack := .int v :: rest })) : own_Wp p.tables e below K (T.setTop g) := by
  obtain ⟨-, cl, A, hsz, H⟩ := A
  exact own_of (X.baloadBooleans hx (by rw [eT]; exact A.1) (State.isArrayOf_alike hZ.alike A.2.1) A.2.2 (own_in hj hi hsz) (by rw [own_nat hj, H i hi, hv]) hg hs hd) k
theorem own_aaload {C : String} {v : Value} (X : Stand p l e R s m args below meth c T locs cells slots) (hx : p.tables.exec = Jvm.exec) (hZ : Z.Warmed39 s.vm) (eT : T.heap = h) (A : own_Ar Z h a (.object C) n f) (hj : j.toInt = (i : Int)) (hi : i < n) (hv : f i = v)
    (hg : g.method = m) (hs : g.stack = .int j :: .ref a :: rest) (hd : decode c.code g.pc = .ok (.aaload, 1)) (k : own_Wp p.tables e below K (T.setTop { g with pc := g.pc + 1, stack := v :: rest })) : own_Wp p.tables e below K (T.setTop g) := by
  obtain ⟨-, cl, A, hsz, H⟩ := A
  exact own_of (X.aaload hx (by rw [eT]; exact A.1) (State.isArrayOf_alike hZ.alike A.2.1) rfl A.2.2 (own_in hj hi hsz) (by rw [own_nat hj, H i hi, hv]) hg hs hd) k
theorem own_len {z : Int32} (X : Stand p l e R s m args below meth c T locs cells slots) (hx : p.tables.exec = Jvm.exec) (hZ : Z.Warmed39 s.vm) (eT : T.heap = h) (A : own_Ar Z h a ty n f) (hz : z.toInt = (n : Int))
    (hg : g.method = m) (hs : g.stack = .ref a :: rest) (hd : decode c.code g.pc = .ok (.arraylength, 1)) (k : own_Wp p.tables e below K (T.setTop { g with pc := g.pc + 1, stack := .int z :: rest })) : own_Wp p.tables e below K (T.setTop g) := by
  obtain ⟨-, cl, A, hsz, H⟩ := A
  have q : cl.slots.size.toInt32 = z := by rw [hsz, ← own_nat hz]; exact (back32 (own_nneg hz)).1
  rw [← q] at k
  exact own_of (X.arraylength hx (by rw [eT]; exact A.1) (State.isArrayOf_alike hZ.alike A.2.1) hg hs hd) k
theorem own_Ar.set {cl : Cell} {hn : n < 2147483648} (A : Arr Z h a cl ty) (hsz : cl.slots.size = n) (H : ∀ i, i < n → cl.slots[i]? = some (f i)) (hi : i < n) (W : Wr h h' a i v) : own_Ar Z h' a ty n (own_set f i v) := by
  refine ⟨hn, _, A.same W, by rw [sz_set]; exact hsz, fun q hq => ?_⟩
  by_cases e : q = i
  · subst e; rw [own_set_eq]; simp [Cell.setSlot, hsz, hq]
  · rw [own_set_ne e, ← H q hq]; exact Array.getElem?_setIfInBounds_ne (Ne.symm e)
theorem own_stI {x : Int32} (X : Stand p l e R s m args below meth c T locs cells slots) (hx : p.tables.exec = Jvm.exec) (hZ : Z.Warmed39 s.vm) (eT : T.heap = h) (A : own_Ar Z h a .int n f) (hj : j.toInt = (i : Int)) (hi : i < n)
    (hg : g.method = m) (hs : g.stack = .int x :: .int j :: .ref a :: rest) (hd : decode c.code g.pc = .ok (.iastore, 1)) :
    ∃ T' h', Stand p l e R s m args below meth c T' (locs ++ [⟨a, i⟩]) cells slots ∧ T'.heap = h' ∧ Wr h h' a i (.int x) ∧ own_Ar Z h' a .int n (own_set f i (.int x)) ∧ ∀ target, Steps p.tables e below (T'.setTop { g with pc := g.pc + 1, stack := rest }) target → Steps p.tables e below (T.setTop g) target := by
  obtain ⟨hn, cl, A, hsz, H⟩ := A
  obtain ⟨T', h', X', e', W, st⟩ := stI X hx hZ eT A (own_in hj hi hsz) hg hs hd
  rw [own_nat hj] at X' W
  exact ⟨T', h', X', e', W, own_Ar.set (hn := hn) A hsz H hi W, st⟩
theorem own_stJ {x : Int64} (X : Stand p l e R s m args below meth c T locs cells slots) (hx : p.tables.exec = Jvm.exec) (hZ : Z.Warmed39 s.vm) (eT : T.heap = h) (A : own_Ar Z h a .long n f) (hj : j.toInt = (i : Int)) (hi : i < n)
    (hg : g.method = m) (hs : g.stack = .long x :: .int j :: .ref a :: rest) (hd : decode c.code g.pc = .ok (.lastore, 1)) :
    ∃ T' h', Stand p l e R s m args below meth c T' (locs ++ [⟨a, i⟩]) cells slots ∧ T'.heap = h' ∧ Wr h h' a i (.long x) ∧ own_Ar Z h' a .long n (own_set f i (.long x)) ∧ ∀ target, Steps p.tables e below (T'.setTop { g with pc := g.pc + 1, stack := rest }) target → Steps p.tables e below (T.setTop g) target := by
  obtain ⟨hn, cl, A, hsz, H⟩ := A
  obtain ⟨T', h', X', e', W, st⟩ := stJ X hx hZ eT A (own_in hj hi hsz) hg hs hd
  rw [own_nat hj] at X' W
  exact ⟨T', h', X', e', W, own_Ar.set (hn := hn) A hsz H hi W, st⟩
theorem own_stB {x : Int32} (X : Stand p l e R s m args below meth c T locs cells slots) (hx : p.tables.exec = Jvm.exec) (hZ : Z.Warmed39 s.vm) (eT : T.heap = h) (A : own_Ar Z h a .byte n f) (hj : j.toInt = (i : Int)) (hi : i < n)
    (hg : g.method = m) (hs : g.stack = .int x :: .int j :: .ref a :: rest) (hd : decode c.code g.pc = .ok (.bastore, 1)) :
    ∃ T' h', Stand p l e R s m args below meth c T' (locs ++ [⟨a, i⟩]) cells slots ∧ T'.heap = h' ∧ Wr h h' a i (.int x.toInt8.toInt32) ∧ own_Ar Z h' a .byte n (own_set f i (.int x.toInt8.toInt32)) ∧ ∀ target, Steps p.tables e below (T'.setTop { g with pc := g.pc + 1, stack := rest }) target → Steps p.tables e below (T.setTop g) target := by
  obtain ⟨hn, cl, A, hsz, H⟩ := A
  obtain ⟨T', h', X', e', W, st⟩ := stB X hx hZ eT A (own_in hj hi hsz) hg hs hd
  rw [own_nat hj] at X' W
  exact ⟨T', h', X', e', W, own_Ar.set (hn := hn) A hsz H hi W, st⟩
end Steps
theorem own_more {cells' slots' : Nat} (X : Stand p l e R s m args below meth c T locs cells slots) (h1 : cells ≤ cells') (h2 : slots ≤ slots') : Stand p l e R s m args below meth c T locs cells' slots' := { X with same := X.same.mono h1 h2 }
section Start
variable {C nm d : String}
theorem own_refArr {t : Term} (ha : (Jvm.Cond.arrayOf t ty).value args s none s [] = some true) : ∃ (a : Addr) (cl : Cell), Arr s s.heap a cl ty ∧ s.arrayAt? a = some cl ∧ t.eval args s none [] s = some (.ref a) := by
  obtain ⟨a, ev⟩ : ∃ a, t.eval args s none [] s = some (.ref a) := by
    simp only [Cond.value] at ha
    split at ha
    · cases ha
    · split at ha
      · exact ⟨_, by assumption⟩
      · cases ha
      · cases ha
  obtain ⟨cl, A⟩ := Arr.start ev ha
  exact ⟨a, cl, A, IntBox.arrayAt_of A.1 A.2.1 A.2.2, ev⟩
theorem own_exaRef {t : Term} {K : String} (h : (Jvm.Cond.exactly t K).value args s none s [] = some true) : ∃ a, Exa s s.heap a K ∧ t.eval args s none [] s = some (.ref a) := by
  obtain ⟨a', c', cell, k, e1, -⟩ := Cond.exactly_spec (Cond.before_iff.mpr h)
  exact ⟨a', Exa.start e1 h, e1⟩
theorem own_fldOf {t : Term} {v : Value} {O : String} (ev : t.eval args s none [] s = some (.ref a)) (e : (Term.field t O nm d).eval args s none [] s = some v) : Fld s s.heap a O nm d v := by
  simp only [Term.eval, ev, Option.bind_eq_bind, Option.bind_some] at e
  exact Fld.start e
theorem own_fldI {t : Term} {x : Int32} {O : String} (ev : t.eval args s none [] s = some (.ref a)) (h : (Jvm.Cond.eq (.field t O nm d) (.int x)).value args s none s [] = some true) : Fld s s.heap a O nm d (.int x) := by
  cases he : (Term.field t O nm d).eval args s none [] s with
  | none => simp [Cond.value, he] at h
  | some w =>
    have : w = .int x := by
      simp only [Cond.value, he] at h
      rw [show (Term.int x).eval args s none [] s = some (.int x) from rfl] at h
      cases w <;> simp at h
      subst h; rfl
    subst this
    exact own_fldOf ev he
theorem own_isRef {t : Term} (h : (Jvm.Cond.isRef t).value args s none s [] = some true) : ∃ v, t.eval args s none [] s = some v ∧ (v = .null ∨ ∃ b, v = .ref b) := by
  simp only [Cond.value] at h
  cases he : t.eval args s none [] s with
  | none => simp [he] at h
  | some w => rw [he] at h; cases w <;> simp at h <;> simp
theorem own_notZero {t : Term} {x : Int32} (ev : t.eval args s none [] s = some (.int x)) (h : (Jvm.Cond.not (Jvm.Cond.eq t (.int 0))).value args s none s [] = some true) : ¬ x = 0 := by
  intro q
  subst q
  simp [Cond.value, ev, Term.eval] at h
theorem own_ltOf {x y : Int32} {i k : Nat} (h1 : x.toInt = (i : Int)) (h2 : y.toInt = (k : Int)) (h : i < k) : x < y := by
  rw [Int32.lt_iff_toInt_lt, h1, h2]; omega
theorem own_Ar.some {cl : Cell} (A : Arr Z h a cl ty) (hs : cl.slots.size < 2147483648) : own_Ar Z h a ty cl.slots.size (fun k => (cl.slots[k]?).getD .null) :=
  ⟨hs, _, A, rfl, fun i hi => by simp [Array.getElem?_eq_getElem hi]⟩
/-- a static that holds an array, at the start -/
theorem own_staArr (hi : (Jvm.Cond.initialized C).before args s = true) (hl : (Jvm.Cond.laysStatic C nm d).before args s = true) (ha : (Jvm.Cond.arrayOf (.static C nm d) ty).value args s none s [] = some true) :
    ∃ (a : Addr) (cl : Cell), Sta s s.heap C nm d (.ref a) ∧ Arr s s.heap a cl ty ∧ s.arrayAt? a = some cl ∧ (Term.static C nm d).eval args s none [] s = some (.ref a) := by
  obtain ⟨a, ev⟩ : ∃ a, (Term.static C nm d).eval args s none [] s = some (.ref a) := by
    simp only [Cond.value] at ha
    split at ha
    · cases ha
    · split at ha
      · exact ⟨_, by assumption⟩
      · cases ha
      · cases ha
  obtain ⟨cl, A⟩ := Arr.start ev ha
  exact ⟨a, cl, Sta.start ev (Or.inr ⟨hi, hl⟩), A, IntBox.arrayAt_of A.1 A.2.1 A.2.2, ev⟩
/-- an element that the case names -/
theorem own_elemEq {t i b : Term} {x : Int32} {cl : Cell} {jj : Int32} {idx : List Nat} (ev : t.eval args s none idx s = some (.ref a)) (hat : s.arrayAt? a = some cl) (hi : i.eval args s none idx s = some (.int jj)) (hb : b.eval args s none idx s = some (.int x)) (h : (Jvm.Cond.eq (.elem t i) b).value args s none s idx = some true) : ¬ jj < 0 ∧ cl.slots[jj.toNatClampNeg]? = some (.int x) := by
  simp only [Cond.value, hb] at h
  cases he : (Term.elem t i).eval args s none idx s with
  | none => simp [he] at h
  | some w =>
    obtain ⟨a', j', cl', q1, q2, q3, q4, q5⟩ := Term.elem_spec he
    cases ev.symm.trans q1
    cases hi.symm.trans q2
    cases hat.symm.trans q3
    rw [he] at h
    cases w <;> simp at h
    subst h
    exact ⟨fun z => q4 (Or.inl z), q5⟩
theorem own_lenEq {t : Term} {x : Int32} {cl : Cell} (ev : t.eval args s none [] s = some (.ref a)) (hat : s.arrayAt? a = some cl) (h : (Jvm.Cond.eq (.length t) (.int x)).value args s none s [] = some true) : (cl.slots.size : Int) = x.toInt := by
  simp only [Cond.value, Term.eval, ev, hat, Option.bind_eq_bind, Option.bind_some] at h
  by_cases q : cl.slots.size < 2147483648
  · simp [q] at h
    rw [← h]
    exact (Int32.toInt_ofNat_of_lt q).symm
  · simp [q] at h
theorem own_or {A B : Jvm.Cond} {idx : List Nat} (h : (Jvm.Cond.or A B).value args s none s idx = some true) : A.value args s none s idx = some true ∨ B.value args s none s idx = some true := by
  simp only [Cond.value] at h
  split at h
  · exact Or.inr h
  · exact Or.inl h
theorem own_leV {A B : Term} {x y : Int32} {idx : List Nat} (ha : A.eval args s none idx s = some (.int x)) (hb : B.eval args s none idx s = some (.int y)) (h : (Jvm.Cond.le A B).value args s none s idx = some true) : x.toInt ≤ y.toInt := by
  rw [Cond.le_ints ha hb] at h
  exact Int32.le_iff_toInt_le.mp (by simpa using h)
theorem own_ltV {A B : Term} {x y : Int32} {idx : List Nat} (ha : A.eval args s none idx s = some (.int x)) (hb : B.eval args s none idx s = some (.int y)) (h : (Jvm.Cond.lt A B).value args s none s idx = some true) : x.toInt < y.toInt := by
  simp only [Cond.value, ha, hb] at h
  exact Int32.lt_iff_toInt_lt.mp (by simpa using h)
theorem own_idx {k : Nat} (hk : k < 2147483648) : (k.toInt32).toInt = (k : Int) := Int32.toInt_ofNat_of_lt hk
section Elems
variable {t b : Term} {cl : Cell} {x lo hi : Int32} {k : Nat}
theorem own_elemK (ev : ∀ idx, t.eval args s none idx s = some (.ref a)) (hat : s.arrayAt? a = some cl) (hk : k < 2147483648) (hb : b.eval args s none [k] s = some (.int x)) (h : (Jvm.Cond.eq (.elem t (.index 0)) b).value args s none s [k] = some true) : cl.slots[k]? = some (.int x) := by
  have q := (own_elemEq (ev _) hat (Term.index_eval k) hb h).2
  rwa [own_nat (own_idx hk)] at q
theorem own_all1 (ev : ∀ idx, t.eval args s none idx s = some (.ref a)) (hat : s.arrayAt? a = some cl) (hn : cl.slots.size < 2147483648) (h : (Jvm.Cond.all t (.or (.le (.int lo) (.index 0)) (.eq (.elem t (.index 0)) b))).value args s none s [] = some true) (hk : k < cl.slots.size) (h1 : (k : Int) < lo.toInt) (hb : b.eval args s none [k] s = some (.int x)) : cl.slots[k]? = some (.int x) := by
  rcases own_or (Cond.all_elim (ev _) hat h k hk) with q | q
  · have := own_leV rfl (Term.index_eval k) q; rw [own_idx (by omega)] at this; omega
  · exact own_elemK ev hat (by omega) hb q
theorem own_all2 (ev : ∀ idx, t.eval args s none idx s = some (.ref a)) (hat : s.arrayAt? a = some cl) (hn : cl.slots.size < 2147483648) (h : (Jvm.Cond.all t (.or (.lt (.index 0) (.int lo)) (.or (.le (.int hi) (.index 0)) (.eq (.elem t (.index 0)) b)))).value args s none s [] = some true) (hk : k < cl.slots.size) (h1 : lo.toInt ≤ (k : Int)) (h2 : (k : Int) < hi.toInt) (hb : b.eval args s none [k] s = some (.int x)) : cl.slots[k]? = some (.int x) := by
  rcases own_or (Cond.all_elim (ev _) hat h k hk) with q | q
  · have := own_ltV (Term.index_eval k) rfl q; rw [own_idx (by omega)] at this; omega
  · rcases own_or q with q | q
    · have := own_leV rfl (Term.index_eval k) q; rw [own_idx (by omega)] at this; omega
    · exact own_elemK ev hat (by omega) hb q
theorem own_all3 (ev : ∀ idx, t.eval args s none idx s = some (.ref a)) (hat : s.arrayAt? a = some cl) (hn : cl.slots.size < 2147483648) (h : (Jvm.Cond.all t (.or (.lt (.index 0) (.int lo)) (.eq (.elem t (.index 0)) b))).value args s none s [] = some true) (hk : k < cl.slots.size) (h1 : lo.toInt ≤ (k : Int)) (hb : b.eval args s none [k] s = some (.int x)) : cl.slots[k]? = some (.int x) := by
  rcases own_or (Cond.all_elim (ev _) hat h k hk) with q | q
  · have := own_ltV (Term.index_eval k) rfl q; rw [own_idx (by omega)] at this; omega
  · exact own_elemK ev hat (by omega) hb q
theorem own_one (ev : ∀ idx, t.eval args s none idx s = some (.ref a)) (hat : s.arrayAt? a = some cl) (h : (Jvm.Cond.eq (.elem t (.int lo)) (.int x)).value args s none s [] = some true) (hk : lo.toInt = (k : Int)) : cl.slots[k]? = some (.int x) := by
  have q := (own_elemEq (ev _) hat rfl rfl h).2
  rwa [own_nat hk] at q
end Elems
end Start
end OwnArr
def own_u (x : Int32) : Nat := x.toBitVec.toNat
def own_nb (u : Nat) : Int32 := if u < 128 then 1 else if u < 16384 then 2 else if u < 2097152 then 3 else if u < 268435456 then 4 else 5
theorem own_u_lt (x : Int32) : own_u x < 4294967296 := x.toBitVec.isLt
theorem own_u0 (x : Int32) : x = 0 ↔ own_u x = 0 := by
  constructor
  · intro h; subst h; rfl
  · intro h
    apply Int32.toBitVec_inj.mp
    apply BitVec.eq_of_toNat_eq
    exact h
theorem own_u_mod (x : Int32) : (own_u x : Int) = x.toInt % 4294967296 := by
  unfold own_u
  have h1 : x.toInt = x.toBitVec.toInt := rfl
  rw [h1, BitVec.toInt_eq_toNat_cond]
  have := x.toBitVec.isLt
  split <;> omega
theorem own_ush (x : Int32) : own_u ((x.toUInt32 >>> ((7 : Int32) &&& 31).toUInt32).toInt32) = own_u x / 128 := by
  unfold own_u
  have e : (((7 : Int32) &&& 31).toUInt32).toNat = 7 := by decide
  simp only [UInt32.toBitVec_toInt32, UInt32.toBitVec_shiftRight, Int32.toBitVec_toUInt32]
  simp [BitVec.toNat_ushiftRight, Nat.shiftRight_eq_div_pow]
theorem own_dist (x a b : Int32) : x &&& (a ||| b) = (x &&& a) ||| (x &&& b) := by
  apply Int32.toBitVec_inj.mp
  simp only [Int32.toBitVec_and, Int32.toBitVec_or]
  ext i
  simp [Bool.and_or_distrib_left]
theorem own_m128 (x : Int32) : (x &&& (-128 : Int32)) = 0 ↔ own_u x < 128 := by
  have hm := Jvm.Kit.i32_mask x 127 (k := 7) (by decide) (by decide)
  have hu := own_u_mod x
  constructor
  · intro h
    have e : x = x &&& 127 := by
      have q : x &&& ((-128 : Int32) ||| 127) = x := by rw [show ((-128 : Int32) ||| 127) = -1 from by decide]; exact Int32.and_neg_one
      rw [own_dist, h, Int32.zero_or] at q
      exact q.symm
    rw [← e] at hm
    have := Int32.le_toInt x
    have := Int32.toInt_lt x
    omega
  · intro h
    have e : x = x &&& 127 := by
      apply Int32.toInt_inj.mp
      have := Int32.le_toInt x
      have := Int32.toInt_lt x
      rw [hm]; omega
    rw [e, Int32.and_assoc, show ((127 : Int32) &&& -128) = 0 from by decide, Int32.and_zero]
theorem own_big (p : Int32) : ((p.toInt64 + (1 : Int64)) &&& (4294967295 : Int64)).toInt = (own_u (p + 1) : Int) := by
  rw [Jvm.Kit.i64_mask _ 4294967295 (k := 32) (by decide) (by decide), Jvm.Kit.i64_add (by rw [Int32.toInt_toInt64]; have := Int32.le_toInt p; have h1 : (1 : Int64).toInt = 1 := (by decide); omega) (by rw [Int32.toInt_toInt64]; have := Int32.toInt_lt p; have h1 : (1 : Int64).toInt = 1 := (by decide); omega), Int32.toInt_toInt64, own_u_mod, Int32.toInt_add]
  have h1 : (1 : Int64).toInt = 1 := by decide
  have h2 : (1 : Int32).toInt = 1 := by decide
  rw [h1, h2]
  rw [Int.bmod_def]
  split <;> omega
theorem own_lcM (x y : Int64) : (lcmpW x y < (0 : Int32)) ↔ x.toInt < y.toInt := by
  unfold lcmpW
  rw [← Int64.lt_iff_toInt_lt]
  by_cases h1 : y < x
  · have h3 : ¬ x < y := by rw [Int64.lt_iff_toInt_lt] at h1 ⊢; omega
    rw [if_pos h1]; simp [h3]
  · rw [if_neg h1]
    by_cases h2 : x = y
    · simp [h2]
    · have hne : x.toInt ≠ y.toInt := fun q => h2 (Int64.toInt_inj.mp q)
      have h3 : x < y := by rw [Int64.lt_iff_toInt_lt] at h1 ⊢; omega
      simp [h2, h3]
theorem own_pn0 : plainName "com/example/ply2/ply2/protocol/ProtocolWriter" = true := by first | (simp [plainName, overriddenIn]; done) | decide +kernel
theorem d1_0 : decode prog_229_method_22_code 0 = .ok (.iconst 4, 1) := by decide +kernel
theorem d1_1 : decode prog_229_method_22_code 1 = .ok (.istore_n 2, 1) := by decide +kernel
theorem d1_2 : decode prog_229_method_22_code 2 = .ok (.iload_n 0, 1) := by decide +kernel
theorem d1_3 : decode prog_229_method_22_code 3 = .ok (.ifCond .eq 27, 3) := by decide +kernel
theorem d1_30 : decode prog_229_method_22_code 30 = .ok (.iload_n 2, 1) := by decide +kernel
theorem d1_31 : decode prog_229_method_22_code 31 = .ok (.ireturn, 1) := by decide +kernel
def Q_rmlb0 (Z : State) (p2 : Int32) (h0 : Heap) (n0 : Nat) (v : Option Value) (h : Heap) (L : List Loc) : Prop := v = some (.int (4 : Int32)) ∧ Fr n0 L ∧ h = h0
set_option maxRecDepth 65536 in
set_option maxHeartbeats 40000000 in
theorem rmlb0 (l : Launch) (Z : State) (a0 : Array Value) (hw : ∀ d ∈ tables_1, d.before a0 Z = true) (ws : List Jvm.Cond) (p2 : Int32) (h0 : Heap) (n0 : Nat) (Z0 : n0 ≤ h0.size)  :
    own_Ctr l Z (⟨"com/example/ply2/ply2/protocol/ProtocolWriter", "lengthBytes", "(ZI)I"⟩ : MethodName) prog_229_method_22_code 4 (some .int) ws ({ frames := 0, cells := 0, slots := 0, locals := 0 } : Room) #[(.int (0 : Int32)), (.int p2)] h0 (Q_rmlb0 Z p2 h0 n0) := by
  refine own_enter (plainFor_of_name own_pn0) ?_
  intro p e s m below meth c s₁ X0 hx hby hml hrt hlk hZ hown hnm e0
  have N0 := Fr.nil n0
  have Zs := Z0
  rw [show entryFrame m #[(.int (0 : Int32)), (.int p2)] 4 = mkF m 0 #[.val (.int (0 : Int32)), .val (.int p2), .unset, .unset] [] from by first | (simp [entryFrame, mkF, argsToLocals, Value.category]; done) | rfl]
  show own_Wp _ _ _ _ (s₁.setTop (mkF m 0 #[.val (.int (0 : Int32)), .val (.int p2), .unset, .unset] []))
  refine own_of (fun tgt kon => XS.iconst X0.here hx rfl (hb hby d1_0) kon) ?_
  show own_Wp _ _ _ _ (s₁.setTop (mkF m 1 #[.val (.int (0 : Int32)), .val (.int p2), .unset, .unset] [(.int (4 : Int32))]))
  refine own_of (fun tgt kon => XS.istoreN X0.here hx rfl (hb hby d1_1) rfl (l' := #[.val (.int (0 : Int32)), .val (.int p2), .val (.int (4 : Int32)), .unset]) rfl kon) ?_
  show own_Wp _ _ _ _ (s₁.setTop (mkF m 2 #[.val (.int (0 : Int32)), .val (.int p2), .val (.int (4 : Int32)), .unset] []))
  refine own_of (fun tgt kon => XS.iloadN X0.here hx rfl (hb hby d1_2) rfl kon) ?_
  show own_Wp _ _ _ _ (s₁.setTop (mkF m 3 #[.val (.int (0 : Int32)), .val (.int p2), .val (.int (4 : Int32)), .unset] [(.int (0 : Int32))]))
  have hc3 : (0 : Int32) = (0 : Int32) := by decide
  refine own_of (fun tgt kon => XS.ifYes X0.here hx rfl (pc0 := 3) (pc' := 30) rfl (hb hby d1_3) rfl ((if0 _ _).trans (teq hc3).1) (by decide) (by decide) kon) ?_
  show own_Wp _ _ _ _ (s₁.setTop (mkF m 30 #[.val (.int (0 : Int32)), .val (.int p2), .val (.int (4 : Int32)), .unset] []))
  refine own_of (fun tgt kon => XS.iloadN X0.here hx rfl (hb hby d1_30) rfl kon) ?_
  show own_Wp _ _ _ _ (s₁.setTop (mkF m 31 #[.val (.int (0 : Int32)), .val (.int p2), .val (.int (4 : Int32)), .unset] [(.int (4 : Int32))]))
  refine own_ret X0 hlk (some (.int (4 : Int32))) (own_rtI hrt) (fun fs hr => own_retI X0 hx hrt (hb hby d1_31) hr) ?_ (by decide) (by decide)
  rw [e0]
  exact ⟨rfl, N0, rfl⟩
theorem own_pn1 : plainName "com/example/ply2/ply2/protocol/ProtocolWriterLengthBytesPinLaw" = true := by first | (simp [plainName, overriddenIn]; done) | decide +kernel
theorem d2_0 : decode method_3_code 0 = .ok (.iload_n 0, 1) := by decide +kernel
theorem d2_1 : decode method_3_code 1 = .ok (.ifCond .ne 5, 3) := by decide +kernel
theorem d2_4 : decode method_3_code 4 = .ok (.iconst 4, 1) := by decide +kernel
theorem d2_5 : decode method_3_code 5 = .ok (.ireturn, 1) := by decide +kernel
def Q_rmex0 (Z : State) (p2 : Int32) (h0 : Heap) (n0 : Nat) (v : Option Value) (h : Heap) (L : List Loc) : Prop := v = some (.int (4 : Int32)) ∧ Fr n0 L ∧ h = h0
set_option maxRecDepth 65536 in
set_option maxHeartbeats 40000000 in
theorem rmex0 (l : Launch) (Z : State) (a0 : Array Value) (hw : ∀ d ∈ tables_1, d.before a0 Z = true) (ws : List Jvm.Cond) (p2 : Int32) (h0 : Heap) (n0 : Nat) (Z0 : n0 ≤ h0.size)  :
    own_Ctr l Z (⟨"com/example/ply2/ply2/protocol/ProtocolWriterLengthBytesPinLaw", "expected", "(ZI)I"⟩ : MethodName) method_3_code 4 (some .int) ws ({ frames := 0, cells := 0, slots := 0, locals := 0 } : Room) #[(.int (0 : Int32)), (.int p2)] h0 (Q_rmex0 Z p2 h0 n0) := by
  refine own_enter (plainFor_of_name own_pn1) ?_
  intro p e s m below meth c s₁ X0 hx hby hml hrt hlk hZ hown hnm e0
  have N0 := Fr.nil n0
  have Zs := Z0
  rw [show entryFrame m #[(.int (0 : Int32)), (.int p2)] 4 = mkF m 0 #[.val (.int (0 : Int32)), .val (.int p2), .unset, .unset] [] from by first | (simp [entryFrame, mkF, argsToLocals, Value.category]; done) | rfl]
  show own_Wp _ _ _ _ (s₁.setTop (mkF m 0 #[.val (.int (0 : Int32)), .val (.int p2), .unset, .unset] []))
  refine own_of (fun tgt kon => XS.iloadN X0.here hx rfl (hb hby d2_0) rfl kon) ?_
  show own_Wp _ _ _ _ (s₁.setTop (mkF m 1 #[.val (.int (0 : Int32)), .val (.int p2), .unset, .unset] [(.int (0 : Int32))]))
  have hc1 : (0 : Int32) = (0 : Int32) := by decide
  refine own_of (fun tgt kon => XS.ifNo X0.here hx rfl (hb hby d2_1) rfl ((if0 _ _).trans (teq hc1).2) kon) ?_
  show own_Wp _ _ _ _ (s₁.setTop (mkF m 4 #[.val (.int (0 : Int32)), .val (.int p2), .unset, .unset] []))
  refine own_of (fun tgt kon => XS.iconst X0.here hx rfl (hb hby d2_4) kon) ?_
  show own_Wp _ _ _ _ (s₁.setTop (mkF m 5 #[.val (.int (0 : Int32)), .val (.int p2), .unset, .unset] [(.int (4 : Int32))]))
  refine own_ret X0 hlk (some (.int (4 : Int32))) (own_rtI hrt) (fun fs hr => own_retI X0 hx hrt (hb hby d2_5) hr) ?_ (by decide) (by decide)
  rw [e0]
  exact ⟨rfl, N0, rfl⟩
theorem d1_6 : decode prog_229_method_22_code 6 = .ok (.iconst 1, 1) := by decide +kernel
theorem d1_7 : decode prog_229_method_22_code 7 = .ok (.istore_n 2, 1) := by decide +kernel
theorem d1_8 : decode prog_229_method_22_code 8 = .ok (.iload_n 1, 1) := by decide +kernel
theorem d1_9 : decode prog_229_method_22_code 9 = .ok (.iconst 1, 1) := by decide +kernel
theorem d1_10 : decode prog_229_method_22_code 10 = .ok (.iadd, 1) := by decide +kernel
theorem d1_11 : decode prog_229_method_22_code 11 = .ok (.bipush 7, 2) := by decide +kernel
theorem d1_13 : decode prog_229_method_22_code 13 = .ok (.iushr, 1) := by decide +kernel
theorem d1_14 : decode prog_229_method_22_code 14 = .ok (.istore_n 3, 1) := by decide +kernel
theorem d1_15 : decode prog_229_method_22_code 15 = .ok (.iload_n 3, 1) := by decide +kernel
theorem d1_16 : decode prog_229_method_22_code 16 = .ok (.ifCond .eq 14, 3) := by decide +kernel
theorem d1_19 : decode prog_229_method_22_code 19 = .ok (.iinc 2 1, 3) := by decide +kernel
theorem d1_22 : decode prog_229_method_22_code 22 = .ok (.iload_n 3, 1) := by decide +kernel
theorem d1_23 : decode prog_229_method_22_code 23 = .ok (.bipush 7, 2) := by decide +kernel
theorem d1_25 : decode prog_229_method_22_code 25 = .ok (.iushr, 1) := by decide +kernel
theorem d1_26 : decode prog_229_method_22_code 26 = .ok (.istore_n 3, 1) := by decide +kernel
theorem d1_27 : decode prog_229_method_22_code 27 = .ok (.goto (-12), 3) := by decide +kernel
def Q_rmlb1 (Z : State) (p2 : Int32) (h0 : Heap) (n0 : Nat) (v : Option Value) (h : Heap) (L : List Loc) : Prop := v = some (.int (own_nb (own_u (p2 + 1)))) ∧ Fr n0 L ∧ h = h0
set_option maxRecDepth 65536 in
set_option maxHeartbeats 40000000 in
theorem rmlb1 (l : Launch) (Z : State) (a0 : Array Value) (hw : ∀ d ∈ tables_1, d.before a0 Z = true) (ws : List Jvm.Cond) (p2 : Int32) (h0 : Heap) (n0 : Nat) (Z0 : n0 ≤ h0.size)  :
    own_Ctr l Z (⟨"com/example/ply2/ply2/protocol/ProtocolWriter", "lengthBytes", "(ZI)I"⟩ : MethodName) prog_229_method_22_code 4 (some .int) ws ({ frames := 0, cells := 0, slots := 0, locals := 0 } : Room) #[(.int (1 : Int32)), (.int p2)] h0 (Q_rmlb1 Z p2 h0 n0) := by
  refine own_enter (plainFor_of_name own_pn0) ?_
  intro p e s m below meth c s₁ X0 hx hby hml hrt hlk hZ hown hnm e0
  have N0 := Fr.nil n0
  have Zs := Z0
  rw [show entryFrame m #[(.int (1 : Int32)), (.int p2)] 4 = mkF m 0 #[.val (.int (1 : Int32)), .val (.int p2), .unset, .unset] [] from by first | (simp [entryFrame, mkF, argsToLocals, Value.category]; done) | rfl]
  show own_Wp _ _ _ _ (s₁.setTop (mkF m 0 #[.val (.int (1 : Int32)), .val (.int p2), .unset, .unset] []))
  refine own_of (fun tgt kon => XS.iconst X0.here hx rfl (hb hby d1_0) kon) ?_
  show own_Wp _ _ _ _ (s₁.setTop (mkF m 1 #[.val (.int (1 : Int32)), .val (.int p2), .unset, .unset] [(.int (4 : Int32))]))
  refine own_of (fun tgt kon => XS.istoreN X0.here hx rfl (hb hby d1_1) rfl (l' := #[.val (.int (1 : Int32)), .val (.int p2), .val (.int (4 : Int32)), .unset]) rfl kon) ?_
  show own_Wp _ _ _ _ (s₁.setTop (mkF m 2 #[.val (.int (1 : Int32)), .val (.int p2), .val (.int (4 : Int32)), .unset] []))
  refine own_of (fun tgt kon => XS.iloadN X0.here hx rfl (hb hby d1_2) rfl kon) ?_
  show own_Wp _ _ _ _ (s₁.setTop (mkF m 3 #[.val (.int (1 : Int32)), .val (.int p2), .val (.int (4 : Int32)), .unset] [(.int (1 : Int32))]))
  have hc3 : ¬ ((1 : Int32) = (0 : Int32)) := by decide
  refine own_of (fun tgt kon => XS.ifNo X0.here hx rfl (hb hby d1_3) rfl ((if0 _ _).trans (feq hc3).1) kon) ?_
  show own_Wp _ _ _ _ (s₁.setTop (mkF m 6 #[.val (.int (1 : Int32)), .val (.int p2), .val (.int (4 : Int32)), .unset] []))
  refine own_of (fun tgt kon => XS.iconst X0.here hx rfl (hb hby d1_6) kon) ?_
  show own_Wp _ _ _ _ (s₁.setTop (mkF m 7 #[.val (.int (1 : Int32)), .val (.int p2), .val (.int (4 : Int32)), .unset] [(.int (1 : Int32))]))
  refine own_of (fun tgt kon => XS.istoreN X0.here hx rfl (hb hby d1_7) rfl (l' := #[.val (.int (1 : Int32)), .val (.int p2), .val (.int (1 : Int32)), .unset]) rfl kon) ?_
  show own_Wp _ _ _ _ (s₁.setTop (mkF m 8 #[.val (.int (1 : Int32)), .val (.int p2), .val (.int (1 : Int32)), .unset] []))
  refine own_of (fun tgt kon => XS.iloadN X0.here hx rfl (hb hby d1_8) rfl kon) ?_
  show own_Wp _ _ _ _ (s₁.setTop (mkF m 9 #[.val (.int (1 : Int32)), .val (.int p2), .val (.int (1 : Int32)), .unset] [(.int p2)]))
  refine own_of (fun tgt kon => XS.iconst X0.here hx rfl (hb hby d1_9) kon) ?_
  show own_Wp _ _ _ _ (s₁.setTop (mkF m 10 #[.val (.int (1 : Int32)), .val (.int p2), .val (.int (1 : Int32)), .unset] [(.int (1 : Int32)), (.int p2)]))
  refine own_of (fun tgt kon => XS.iadd X0.here hx rfl (hb hby d1_10) rfl kon) ?_
  show own_Wp _ _ _ _ (s₁.setTop (mkF m 11 #[.val (.int (1 : Int32)), .val (.int p2), .val (.int (1 : Int32)), .unset] [(.int (p2 + (1 : Int32)))]))
  refine own_of (fun tgt kon => XS.bipush X0.here hx rfl (hb hby d1_11) kon) ?_
  show own_Wp _ _ _ _ (s₁.setTop (mkF m 13 #[.val (.int (1 : Int32)), .val (.int p2), .val (.int (1 : Int32)), .unset] [(.int (7 : Int32)), (.int (p2 + (1 : Int32)))]))
  refine own_of (fun tgt kon => XS.iushr X0.here hx rfl (hb hby d1_13) rfl kon) ?_
  show own_Wp _ _ _ _ (s₁.setTop (mkF m 14 #[.val (.int (1 : Int32)), .val (.int p2), .val (.int (1 : Int32)), .unset] [(.int (((p2 + (1 : Int32)).toUInt32 >>> ((7 : Int32) &&& 31).toUInt32).toInt32))]))
  obtain ⟨r, h_r⟩ : ∃ q : Int32, q = (((p2 + (1 : Int32)).toUInt32 >>> ((7 : Int32) &&& 31).toUInt32).toInt32) := ⟨_, rfl⟩
  rw [← h_r]
  refine own_of (fun tgt kon => XS.istoreN X0.here hx rfl (hb hby d1_14) rfl (l' := #[.val (.int (1 : Int32)), .val (.int p2), .val (.int (1 : Int32)), .val (.int r)]) rfl kon) ?_
  show own_Wp _ _ _ _ (s₁.setTop (mkF m 15 #[.val (.int (1 : Int32)), .val (.int p2), .val (.int (1 : Int32)), .val (.int r)] []))
  refine own_of (fun tgt kon => XS.iloadN X0.here hx rfl (hb hby d1_15) rfl kon) ?_
  show own_Wp _ _ _ _ (s₁.setTop (mkF m 16 #[.val (.int (1 : Int32)), .val (.int p2), .val (.int (1 : Int32)), .val (.int r)] [(.int r)]))
  have u1 : own_u r = own_u (p2 + 1) / 128 := by rw [h_r]; exact own_ush _
  have ul := own_u_lt (p2 + 1)
  by_cases hc16 : r = (0 : Int32)
  · skip
    refine own_of (fun tgt kon => XS.ifYes X0.here hx rfl (pc0 := 16) (pc' := 30) rfl (hb hby d1_16) rfl ((if0 _ _).trans (teq hc16).1) (by decide) (by decide) kon) ?_
    show own_Wp _ _ _ _ (s₁.setTop (mkF m 30 #[.val (.int (1 : Int32)), .val (.int p2), .val (.int (1 : Int32)), .val (.int r)] []))
    refine own_of (fun tgt kon => XS.iloadN X0.here hx rfl (hb hby d1_30) rfl kon) ?_
    show own_Wp _ _ _ _ (s₁.setTop (mkF m 31 #[.val (.int (1 : Int32)), .val (.int p2), .val (.int (1 : Int32)), .val (.int r)] [(.int (1 : Int32))]))
    refine own_ret X0 hlk (some (.int (1 : Int32))) (own_rtI hrt) (fun fs hr => own_retI X0 hx hrt (hb hby d1_31) hr) ?_ (by decide) (by decide)
    rw [e0]
    rw [own_u0] at hc16
    refine ⟨?_, N0, rfl⟩
    rw [show own_nb (own_u (p2 + 1)) = (1 : Int32) from by unfold own_nb; rw [if_pos (by omega)]]
    try rfl
  · skip
    refine own_of (fun tgt kon => XS.ifNo X0.here hx rfl (hb hby d1_16) rfl ((if0 _ _).trans (feq hc16).1) kon) ?_
    show own_Wp _ _ _ _ (s₁.setTop (mkF m 19 #[.val (.int (1 : Int32)), .val (.int p2), .val (.int (1 : Int32)), .val (.int r)] []))
    refine own_of (fun tgt kon => XS.iinc X0.here hx rfl (hb hby d1_19) rfl (l' := #[.val (.int (1 : Int32)), .val (.int p2), .val (.int ((1 : Int32) + (1 : Int32))), .val (.int r)]) rfl kon) ?_
    show own_Wp _ _ _ _ (s₁.setTop (mkF m 22 #[.val (.int (1 : Int32)), .val (.int p2), .val (.int ((1 : Int32) + (1 : Int32))), .val (.int r)] []))
    refine own_of (fun tgt kon => XS.iloadN X0.here hx rfl (hb hby d1_22) rfl kon) ?_
    show own_Wp _ _ _ _ (s₁.setTop (mkF m 23 #[.val (.int (1 : Int32)), .val (.int p2), .val (.int ((1 : Int32) + (1 : Int32))), .val (.int r)] [(.int r)]))
    refine own_of (fun tgt kon => XS.bipush X0.here hx rfl (hb hby d1_23) kon) ?_
    show own_Wp _ _ _ _ (s₁.setTop (mkF m 25 #[.val (.int (1 : Int32)), .val (.int p2), .val (.int ((1 : Int32) + (1 : Int32))), .val (.int r)] [(.int (7 : Int32)), (.int r)]))
    refine own_of (fun tgt kon => XS.iushr X0.here hx rfl (hb hby d1_25) rfl kon) ?_
    show own_Wp _ _ _ _ (s₁.setTop (mkF m 26 #[.val (.int (1 : Int32)), .val (.int p2), .val (.int ((1 : Int32) + (1 : Int32))), .val (.int r)] [(.int ((r.toUInt32 >>> ((7 : Int32) &&& 31).toUInt32).toInt32))]))
    obtain ⟨s, h_s⟩ : ∃ q : Int32, q = ((r.toUInt32 >>> ((7 : Int32) &&& 31).toUInt32).toInt32) := ⟨_, rfl⟩
    rw [← h_s]
    refine own_of (fun tgt kon => XS.istoreN X0.here hx rfl (hb hby d1_26) rfl (l' := #[.val (.int (1 : Int32)), .val (.int p2), .val (.int ((1 : Int32) + (1 : Int32))), .val (.int s)]) rfl kon) ?_
    show own_Wp _ _ _ _ (s₁.setTop (mkF m 27 #[.val (.int (1 : Int32)), .val (.int p2), .val (.int ((1 : Int32) + (1 : Int32))), .val (.int s)] []))
    refine own_of (fun tgt kon => XS.goto X0.here hx rfl (pc0 := 27) (pc' := 15) rfl (hb hby d1_27) (by decide) (by decide) kon) ?_
    show own_Wp _ _ _ _ (s₁.setTop (mkF m 15 #[.val (.int (1 : Int32)), .val (.int p2), .val (.int ((1 : Int32) + (1 : Int32))), .val (.int s)] []))
    refine own_of (fun tgt kon => XS.iloadN X0.here hx rfl (hb hby d1_15) rfl kon) ?_
    show own_Wp _ _ _ _ (s₁.setTop (mkF m 16 #[.val (.int (1 : Int32)), .val (.int p2), .val (.int ((1 : Int32) + (1 : Int32))), .val (.int s)] [(.int s)]))
    have u2 : own_u s = own_u r / 128 := by rw [h_s]; exact own_ush _
    have ul := own_u_lt (p2 + 1)
    by_cases hc16_2 : s = (0 : Int32)
    · skip
      refine own_of (fun tgt kon => XS.ifYes X0.here hx rfl (pc0 := 16) (pc' := 30) rfl (hb hby d1_16) rfl ((if0 _ _).trans (teq hc16_2).1) (by decide) (by decide) kon) ?_
      show own_Wp _ _ _ _ (s₁.setTop (mkF m 30 #[.val (.int (1 : Int32)), .val (.int p2), .val (.int ((1 : Int32) + (1 : Int32))), .val (.int s)] []))
      refine own_of (fun tgt kon => XS.iloadN X0.here hx rfl (hb hby d1_30) rfl kon) ?_
      show own_Wp _ _ _ _ (s₁.setTop (mkF m 31 #[.val (.int (1 : Int32)), .val (.int p2), .val (.int ((1 : Int32) + (1 : Int32))), .val (.int s)] [(.int ((1 : Int32) + (1 : Int32)))]))
      refine own_ret X0 hlk (some (.int ((1 : Int32) + (1 : Int32)))) (own_rtI hrt) (fun fs hr => own_retI X0 hx hrt (hb hby d1_31) hr) ?_ (by decide) (by decide)
      rw [e0]
      rw [own_u0] at hc16 hc16_2
      refine ⟨?_, N0, rfl⟩
      rw [show own_nb (own_u (p2 + 1)) = (2 : Int32) from by unfold own_nb; rw [if_neg (by omega), if_pos (by omega)]]
      try rfl
    · skip
      refine own_of (fun tgt kon => XS.ifNo X0.here hx rfl (hb hby d1_16) rfl ((if0 _ _).trans (feq hc16_2).1) kon) ?_
      show own_Wp _ _ _ _ (s₁.setTop (mkF m 19 #[.val (.int (1 : Int32)), .val (.int p2), .val (.int ((1 : Int32) + (1 : Int32))), .val (.int s)] []))
      refine own_of (fun tgt kon => XS.iinc X0.here hx rfl (hb hby d1_19) rfl (l' := #[.val (.int (1 : Int32)), .val (.int p2), .val (.int (((1 : Int32) + (1 : Int32)) + (1 : Int32))), .val (.int s)]) rfl kon) ?_
      show own_Wp _ _ _ _ (s₁.setTop (mkF m 22 #[.val (.int (1 : Int32)), .val (.int p2), .val (.int (((1 : Int32) + (1 : Int32)) + (1 : Int32))), .val (.int s)] []))
      refine own_of (fun tgt kon => XS.iloadN X0.here hx rfl (hb hby d1_22) rfl kon) ?_
      show own_Wp _ _ _ _ (s₁.setTop (mkF m 23 #[.val (.int (1 : Int32)), .val (.int p2), .val (.int (((1 : Int32) + (1 : Int32)) + (1 : Int32))), .val (.int s)] [(.int s)]))
      refine own_of (fun tgt kon => XS.bipush X0.here hx rfl (hb hby d1_23) kon) ?_
      show own_Wp _ _ _ _ (s₁.setTop (mkF m 25 #[.val (.int (1 : Int32)), .val (.int p2), .val (.int (((1 : Int32) + (1 : Int32)) + (1 : Int32))), .val (.int s)] [(.int (7 : Int32)), (.int s)]))
      refine own_of (fun tgt kon => XS.iushr X0.here hx rfl (hb hby d1_25) rfl kon) ?_
      show own_Wp _ _ _ _ (s₁.setTop (mkF m 26 #[.val (.int (1 : Int32)), .val (.int p2), .val (.int (((1 : Int32) + (1 : Int32)) + (1 : Int32))), .val (.int s)] [(.int ((s.toUInt32 >>> ((7 : Int32) &&& 31).toUInt32).toInt32))]))
      obtain ⟨s_2, h_s_2⟩ : ∃ q : Int32, q = ((s.toUInt32 >>> ((7 : Int32) &&& 31).toUInt32).toInt32) := ⟨_, rfl⟩
      rw [← h_s_2]
      refine own_of (fun tgt kon => XS.istoreN X0.here hx rfl (hb hby d1_26) rfl (l' := #[.val (.int (1 : Int32)), .val (.int p2), .val (.int (((1 : Int32) + (1 : Int32)) + (1 : Int32))), .val (.int s_2)]) rfl kon) ?_
      show own_Wp _ _ _ _ (s₁.setTop (mkF m 27 #[.val (.int (1 : Int32)), .val (.int p2), .val (.int (((1 : Int32) + (1 : Int32)) + (1 : Int32))), .val (.int s_2)] []))
      refine own_of (fun tgt kon => XS.goto X0.here hx rfl (pc0 := 27) (pc' := 15) rfl (hb hby d1_27) (by decide) (by decide) kon) ?_
      show own_Wp _ _ _ _ (s₁.setTop (mkF m 15 #[.val (.int (1 : Int32)), .val (.int p2), .val (.int (((1 : Int32) + (1 : Int32)) + (1 : Int32))), .val (.int s_2)] []))
      refine own_of (fun tgt kon => XS.iloadN X0.here hx rfl (hb hby d1_15) rfl kon) ?_
      show own_Wp _ _ _ _ (s₁.setTop (mkF m 16 #[.val (.int (1 : Int32)), .val (.int p2), .val (.int (((1 : Int32) + (1 : Int32)) + (1 : Int32))), .val (.int s_2)] [(.int s_2)]))
      have u3 : own_u s_2 = own_u s / 128 := by rw [h_s_2]; exact own_ush _
      have ul := own_u_lt (p2 + 1)
      by_cases hc16_3 : s_2 = (0 : Int32)
      · skip
        refine own_of (fun tgt kon => XS.ifYes X0.here hx rfl (pc0 := 16) (pc' := 30) rfl (hb hby d1_16) rfl ((if0 _ _).trans (teq hc16_3).1) (by decide) (by decide) kon) ?_
        show own_Wp _ _ _ _ (s₁.setTop (mkF m 30 #[.val (.int (1 : Int32)), .val (.int p2), .val (.int (((1 : Int32) + (1 : Int32)) + (1 : Int32))), .val (.int s_2)] []))
        refine own_of (fun tgt kon => XS.iloadN X0.here hx rfl (hb hby d1_30) rfl kon) ?_
        show own_Wp _ _ _ _ (s₁.setTop (mkF m 31 #[.val (.int (1 : Int32)), .val (.int p2), .val (.int (((1 : Int32) + (1 : Int32)) + (1 : Int32))), .val (.int s_2)] [(.int (((1 : Int32) + (1 : Int32)) + (1 : Int32)))]))
        refine own_ret X0 hlk (some (.int (((1 : Int32) + (1 : Int32)) + (1 : Int32)))) (own_rtI hrt) (fun fs hr => own_retI X0 hx hrt (hb hby d1_31) hr) ?_ (by decide) (by decide)
        rw [e0]
        rw [own_u0] at hc16 hc16_2 hc16_3
        refine ⟨?_, N0, rfl⟩
        rw [show own_nb (own_u (p2 + 1)) = (3 : Int32) from by unfold own_nb; rw [if_neg (by omega), if_neg (by omega), if_pos (by omega)]]
        try rfl
      · skip
        refine own_of (fun tgt kon => XS.ifNo X0.here hx rfl (hb hby d1_16) rfl ((if0 _ _).trans (feq hc16_3).1) kon) ?_
        show own_Wp _ _ _ _ (s₁.setTop (mkF m 19 #[.val (.int (1 : Int32)), .val (.int p2), .val (.int (((1 : Int32) + (1 : Int32)) + (1 : Int32))), .val (.int s_2)] []))
        refine own_of (fun tgt kon => XS.iinc X0.here hx rfl (hb hby d1_19) rfl (l' := #[.val (.int (1 : Int32)), .val (.int p2), .val (.int ((((1 : Int32) + (1 : Int32)) + (1 : Int32)) + (1 : Int32))), .val (.int s_2)]) rfl kon) ?_
        show own_Wp _ _ _ _ (s₁.setTop (mkF m 22 #[.val (.int (1 : Int32)), .val (.int p2), .val (.int ((((1 : Int32) + (1 : Int32)) + (1 : Int32)) + (1 : Int32))), .val (.int s_2)] []))
        refine own_of (fun tgt kon => XS.iloadN X0.here hx rfl (hb hby d1_22) rfl kon) ?_
        show own_Wp _ _ _ _ (s₁.setTop (mkF m 23 #[.val (.int (1 : Int32)), .val (.int p2), .val (.int ((((1 : Int32) + (1 : Int32)) + (1 : Int32)) + (1 : Int32))), .val (.int s_2)] [(.int s_2)]))
        refine own_of (fun tgt kon => XS.bipush X0.here hx rfl (hb hby d1_23) kon) ?_
        show own_Wp _ _ _ _ (s₁.setTop (mkF m 25 #[.val (.int (1 : Int32)), .val (.int p2), .val (.int ((((1 : Int32) + (1 : Int32)) + (1 : Int32)) + (1 : Int32))), .val (.int s_2)] [(.int (7 : Int32)), (.int s_2)]))
        refine own_of (fun tgt kon => XS.iushr X0.here hx rfl (hb hby d1_25) rfl kon) ?_
        show own_Wp _ _ _ _ (s₁.setTop (mkF m 26 #[.val (.int (1 : Int32)), .val (.int p2), .val (.int ((((1 : Int32) + (1 : Int32)) + (1 : Int32)) + (1 : Int32))), .val (.int s_2)] [(.int ((s_2.toUInt32 >>> ((7 : Int32) &&& 31).toUInt32).toInt32))]))
        obtain ⟨s_3, h_s_3⟩ : ∃ q : Int32, q = ((s_2.toUInt32 >>> ((7 : Int32) &&& 31).toUInt32).toInt32) := ⟨_, rfl⟩
        rw [← h_s_3]
        refine own_of (fun tgt kon => XS.istoreN X0.here hx rfl (hb hby d1_26) rfl (l' := #[.val (.int (1 : Int32)), .val (.int p2), .val (.int ((((1 : Int32) + (1 : Int32)) + (1 : Int32)) + (1 : Int32))), .val (.int s_3)]) rfl kon) ?_
        show own_Wp _ _ _ _ (s₁.setTop (mkF m 27 #[.val (.int (1 : Int32)), .val (.int p2), .val (.int ((((1 : Int32) + (1 : Int32)) + (1 : Int32)) + (1 : Int32))), .val (.int s_3)] []))
        refine own_of (fun tgt kon => XS.goto X0.here hx rfl (pc0 := 27) (pc' := 15) rfl (hb hby d1_27) (by decide) (by decide) kon) ?_
        show own_Wp _ _ _ _ (s₁.setTop (mkF m 15 #[.val (.int (1 : Int32)), .val (.int p2), .val (.int ((((1 : Int32) + (1 : Int32)) + (1 : Int32)) + (1 : Int32))), .val (.int s_3)] []))
        refine own_of (fun tgt kon => XS.iloadN X0.here hx rfl (hb hby d1_15) rfl kon) ?_
        show own_Wp _ _ _ _ (s₁.setTop (mkF m 16 #[.val (.int (1 : Int32)), .val (.int p2), .val (.int ((((1 : Int32) + (1 : Int32)) + (1 : Int32)) + (1 : Int32))), .val (.int s_3)] [(.int s_3)]))
        have u4 : own_u s_3 = own_u s_2 / 128 := by rw [h_s_3]; exact own_ush _
        have ul := own_u_lt (p2 + 1)
        by_cases hc16_4 : s_3 = (0 : Int32)
        · skip
          refine own_of (fun tgt kon => XS.ifYes X0.here hx rfl (pc0 := 16) (pc' := 30) rfl (hb hby d1_16) rfl ((if0 _ _).trans (teq hc16_4).1) (by decide) (by decide) kon) ?_
          show own_Wp _ _ _ _ (s₁.setTop (mkF m 30 #[.val (.int (1 : Int32)), .val (.int p2), .val (.int ((((1 : Int32) + (1 : Int32)) + (1 : Int32)) + (1 : Int32))), .val (.int s_3)] []))
          refine own_of (fun tgt kon => XS.iloadN X0.here hx rfl (hb hby d1_30) rfl kon) ?_
          show own_Wp _ _ _ _ (s₁.setTop (mkF m 31 #[.val (.int (1 : Int32)), .val (.int p2), .val (.int ((((1 : Int32) + (1 : Int32)) + (1 : Int32)) + (1 : Int32))), .val (.int s_3)] [(.int ((((1 : Int32) + (1 : Int32)) + (1 : Int32)) + (1 : Int32)))]))
          refine own_ret X0 hlk (some (.int ((((1 : Int32) + (1 : Int32)) + (1 : Int32)) + (1 : Int32)))) (own_rtI hrt) (fun fs hr => own_retI X0 hx hrt (hb hby d1_31) hr) ?_ (by decide) (by decide)
          rw [e0]
          rw [own_u0] at hc16 hc16_2 hc16_3 hc16_4
          refine ⟨?_, N0, rfl⟩
          rw [show own_nb (own_u (p2 + 1)) = (4 : Int32) from by unfold own_nb; rw [if_neg (by omega), if_neg (by omega), if_neg (by omega), if_pos (by omega)]]
          try rfl
        · skip
          refine own_of (fun tgt kon => XS.ifNo X0.here hx rfl (hb hby d1_16) rfl ((if0 _ _).trans (feq hc16_4).1) kon) ?_
          show own_Wp _ _ _ _ (s₁.setTop (mkF m 19 #[.val (.int (1 : Int32)), .val (.int p2), .val (.int ((((1 : Int32) + (1 : Int32)) + (1 : Int32)) + (1 : Int32))), .val (.int s_3)] []))
          refine own_of (fun tgt kon => XS.iinc X0.here hx rfl (hb hby d1_19) rfl (l' := #[.val (.int (1 : Int32)), .val (.int p2), .val (.int (((((1 : Int32) + (1 : Int32)) + (1 : Int32)) + (1 : Int32)) + (1 : Int32))), .val (.int s_3)]) rfl kon) ?_
          show own_Wp _ _ _ _ (s₁.setTop (mkF m 22 #[.val (.int (1 : Int32)), .val (.int p2), .val (.int (((((1 : Int32) + (1 : Int32)) + (1 : Int32)) + (1 : Int32)) + (1 : Int32))), .val (.int s_3)] []))
          refine own_of (fun tgt kon => XS.iloadN X0.here hx rfl (hb hby d1_22) rfl kon) ?_
          show own_Wp _ _ _ _ (s₁.setTop (mkF m 23 #[.val (.int (1 : Int32)), .val (.int p2), .val (.int (((((1 : Int32) + (1 : Int32)) + (1 : Int32)) + (1 : Int32)) + (1 : Int32))), .val (.int s_3)] [(.int s_3)]))
          refine own_of (fun tgt kon => XS.bipush X0.here hx rfl (hb hby d1_23) kon) ?_
          show own_Wp _ _ _ _ (s₁.setTop (mkF m 25 #[.val (.int (1 : Int32)), .val (.int p2), .val (.int (((((1 : Int32) + (1 : Int32)) + (1 : Int32)) + (1 : Int32)) + (1 : Int32))), .val (.int s_3)] [(.int (7 : Int32)), (.int s_3)]))
          refine own_of (fun tgt kon => XS.iushr X0.here hx rfl (hb hby d1_25) rfl kon) ?_
          show own_Wp _ _ _ _ (s₁.setTop (mkF m 26 #[.val (.int (1 : Int32)), .val (.int p2), .val (.int (((((1 : Int32) + (1 : Int32)) + (1 : Int32)) + (1 : Int32)) + (1 : Int32))), .val (.int s_3)] [(.int ((s_3.toUInt32 >>> ((7 : Int32) &&& 31).toUInt32).toInt32))]))
          obtain ⟨s_4, h_s_4⟩ : ∃ q : Int32, q = ((s_3.toUInt32 >>> ((7 : Int32) &&& 31).toUInt32).toInt32) := ⟨_, rfl⟩
          rw [← h_s_4]
          refine own_of (fun tgt kon => XS.istoreN X0.here hx rfl (hb hby d1_26) rfl (l' := #[.val (.int (1 : Int32)), .val (.int p2), .val (.int (((((1 : Int32) + (1 : Int32)) + (1 : Int32)) + (1 : Int32)) + (1 : Int32))), .val (.int s_4)]) rfl kon) ?_
          show own_Wp _ _ _ _ (s₁.setTop (mkF m 27 #[.val (.int (1 : Int32)), .val (.int p2), .val (.int (((((1 : Int32) + (1 : Int32)) + (1 : Int32)) + (1 : Int32)) + (1 : Int32))), .val (.int s_4)] []))
          refine own_of (fun tgt kon => XS.goto X0.here hx rfl (pc0 := 27) (pc' := 15) rfl (hb hby d1_27) (by decide) (by decide) kon) ?_
          show own_Wp _ _ _ _ (s₁.setTop (mkF m 15 #[.val (.int (1 : Int32)), .val (.int p2), .val (.int (((((1 : Int32) + (1 : Int32)) + (1 : Int32)) + (1 : Int32)) + (1 : Int32))), .val (.int s_4)] []))
          refine own_of (fun tgt kon => XS.iloadN X0.here hx rfl (hb hby d1_15) rfl kon) ?_
          show own_Wp _ _ _ _ (s₁.setTop (mkF m 16 #[.val (.int (1 : Int32)), .val (.int p2), .val (.int (((((1 : Int32) + (1 : Int32)) + (1 : Int32)) + (1 : Int32)) + (1 : Int32))), .val (.int s_4)] [(.int s_4)]))
          have u5 : own_u s_4 = own_u s_3 / 128 := by rw [h_s_4]; exact own_ush _
          have ul := own_u_lt (p2 + 1)
          have hc16_5 : s_4 = (0 : Int32) := (own_u0 _).mpr (by omega)
          refine own_of (fun tgt kon => XS.ifYes X0.here hx rfl (pc0 := 16) (pc' := 30) rfl (hb hby d1_16) rfl ((if0 _ _).trans (teq hc16_5).1) (by decide) (by decide) kon) ?_
          show own_Wp _ _ _ _ (s₁.setTop (mkF m 30 #[.val (.int (1 : Int32)), .val (.int p2), .val (.int (((((1 : Int32) + (1 : Int32)) + (1 : Int32)) + (1 : Int32)) + (1 : Int32))), .val (.int s_4)] []))
          refine own_of (fun tgt kon => XS.iloadN X0.here hx rfl (hb hby d1_30) rfl kon) ?_
          show own_Wp _ _ _ _ (s₁.setTop (mkF m 31 #[.val (.int (1 : Int32)), .val (.int p2), .val (.int (((((1 : Int32) + (1 : Int32)) + (1 : Int32)) + (1 : Int32)) + (1 : Int32))), .val (.int s_4)] [(.int (((((1 : Int32) + (1 : Int32)) + (1 : Int32)) + (1 : Int32)) + (1 : Int32)))]))
          refine own_ret X0 hlk (some (.int (((((1 : Int32) + (1 : Int32)) + (1 : Int32)) + (1 : Int32)) + (1 : Int32)))) (own_rtI hrt) (fun fs hr => own_retI X0 hx hrt (hb hby d1_31) hr) ?_ (by decide) (by decide)
          rw [e0]
          rw [own_u0] at hc16 hc16_2 hc16_3 hc16_4 hc16_5
          refine ⟨?_, N0, rfl⟩
          rw [show own_nb (own_u (p2 + 1)) = (5 : Int32) from by unfold own_nb; rw [if_neg (by omega), if_neg (by omega), if_neg (by omega), if_neg (by omega)]]
          try rfl
theorem d2_6 : decode method_3_code 6 = .ok (.iload_n 1, 1) := by decide +kernel
theorem d2_7 : decode method_3_code 7 = .ok (.i2l, 1) := by decide +kernel
theorem d2_8 : decode method_3_code 8 = .ok (.lconst 1, 1) := by decide +kernel
theorem d2_9 : decode method_3_code 9 = .ok (.ladd, 1) := by decide +kernel
theorem d2_10 : decode method_3_code 10 = .ok (.ldc2_w 30, 3) := by decide +kernel
theorem d2_13 : decode method_3_code 13 = .ok (.land, 1) := by decide +kernel
theorem d2_14 : decode method_3_code 14 = .ok (.lstore_n 2, 1) := by decide +kernel
theorem d2_15 : decode method_3_code 15 = .ok (.lload_n 2, 1) := by decide +kernel
theorem d2_16 : decode method_3_code 16 = .ok (.ldc2_w 32, 3) := by decide +kernel
theorem d2_19 : decode method_3_code 19 = .ok (.lcmp, 1) := by decide +kernel
theorem d2_20 : decode method_3_code 20 = .ok (.ifCond .ge 5, 3) := by decide +kernel
theorem d2_23 : decode method_3_code 23 = .ok (.iconst 1, 1) := by decide +kernel
theorem d2_24 : decode method_3_code 24 = .ok (.ireturn, 1) := by decide +kernel
theorem d2_25 : decode method_3_code 25 = .ok (.lload_n 2, 1) := by decide +kernel
theorem d2_26 : decode method_3_code 26 = .ok (.ldc2_w 34, 3) := by decide +kernel
theorem d2_29 : decode method_3_code 29 = .ok (.lcmp, 1) := by decide +kernel
theorem d2_30 : decode method_3_code 30 = .ok (.ifCond .ge 5, 3) := by decide +kernel
theorem d2_33 : decode method_3_code 33 = .ok (.iconst 2, 1) := by decide +kernel
theorem d2_34 : decode method_3_code 34 = .ok (.ireturn, 1) := by decide +kernel
theorem d2_35 : decode method_3_code 35 = .ok (.lload_n 2, 1) := by decide +kernel
theorem d2_36 : decode method_3_code 36 = .ok (.ldc2_w 36, 3) := by decide +kernel
theorem d2_39 : decode method_3_code 39 = .ok (.lcmp, 1) := by decide +kernel
theorem d2_40 : decode method_3_code 40 = .ok (.ifCond .ge 5, 3) := by decide +kernel
theorem d2_43 : decode method_3_code 43 = .ok (.iconst 3, 1) := by decide +kernel
theorem d2_44 : decode method_3_code 44 = .ok (.ireturn, 1) := by decide +kernel
theorem d2_45 : decode method_3_code 45 = .ok (.lload_n 2, 1) := by decide +kernel
theorem d2_46 : decode method_3_code 46 = .ok (.ldc2_w 38, 3) := by decide +kernel
theorem d2_49 : decode method_3_code 49 = .ok (.lcmp, 1) := by decide +kernel
theorem d2_50 : decode method_3_code 50 = .ok (.ifCond .ge 5, 3) := by decide +kernel
theorem d2_53 : decode method_3_code 53 = .ok (.iconst 4, 1) := by decide +kernel
theorem d2_54 : decode method_3_code 54 = .ok (.ireturn, 1) := by decide +kernel
theorem d2_55 : decode method_3_code 55 = .ok (.iconst 5, 1) := by decide +kernel
theorem d2_56 : decode method_3_code 56 = .ok (.ireturn, 1) := by decide +kernel
def Q_rmex1 (Z : State) (p2 : Int32) (h0 : Heap) (n0 : Nat) (v : Option Value) (h : Heap) (L : List Loc) : Prop := v = some (.int (own_nb (own_u (p2 + 1)))) ∧ Fr n0 L ∧ h = h0
set_option maxRecDepth 65536 in
set_option maxHeartbeats 40000000 in
theorem rmex1 (l : Launch) (Z : State) (a0 : Array Value) (hw : ∀ d ∈ tables_1, d.before a0 Z = true) (ws : List Jvm.Cond) (p2 : Int32) (h0 : Heap) (n0 : Nat) (Z0 : n0 ≤ h0.size)  :
    own_Ctr l Z (⟨"com/example/ply2/ply2/protocol/ProtocolWriterLengthBytesPinLaw", "expected", "(ZI)I"⟩ : MethodName) method_3_code 4 (some .int) ws ({ frames := 0, cells := 0, slots := 0, locals := 0 } : Room) #[(.int (1 : Int32)), (.int p2)] h0 (Q_rmex1 Z p2 h0 n0) := by
  refine own_enter (plainFor_of_name own_pn1) ?_
  intro p e s m below meth c s₁ X0 hx hby hml hrt hlk hZ hown hnm e0
  have N0 := Fr.nil n0
  have Zs := Z0
  rw [show entryFrame m #[(.int (1 : Int32)), (.int p2)] 4 = mkF m 0 #[.val (.int (1 : Int32)), .val (.int p2), .unset, .unset] [] from by first | (simp [entryFrame, mkF, argsToLocals, Value.category]; done) | rfl]
  show own_Wp _ _ _ _ (s₁.setTop (mkF m 0 #[.val (.int (1 : Int32)), .val (.int p2), .unset, .unset] []))
  refine own_of (fun tgt kon => XS.iloadN X0.here hx rfl (hb hby d2_0) rfl kon) ?_
  show own_Wp _ _ _ _ (s₁.setTop (mkF m 1 #[.val (.int (1 : Int32)), .val (.int p2), .unset, .unset] [(.int (1 : Int32))]))
  have hc1 : ¬ ((1 : Int32) = (0 : Int32)) := by decide
  refine own_of (fun tgt kon => XS.ifYes X0.here hx rfl (pc0 := 1) (pc' := 6) rfl (hb hby d2_1) rfl ((if0 _ _).trans (feq hc1).2) (by decide) (by decide) kon) ?_
  show own_Wp _ _ _ _ (s₁.setTop (mkF m 6 #[.val (.int (1 : Int32)), .val (.int p2), .unset, .unset] []))
  refine own_of (fun tgt kon => XS.iloadN X0.here hx rfl (hb hby d2_6) rfl kon) ?_
  show own_Wp _ _ _ _ (s₁.setTop (mkF m 7 #[.val (.int (1 : Int32)), .val (.int p2), .unset, .unset] [(.int p2)]))
  refine own_of (fun tgt kon => XS.i2l X0.here hx rfl (hb hby d2_7) rfl kon) ?_
  show own_Wp _ _ _ _ (s₁.setTop (mkF m 8 #[.val (.int (1 : Int32)), .val (.int p2), .unset, .unset] [(.long (p2.toInt64))]))
  refine own_of (fun tgt kon => XS.lconst X0.here hx rfl (hb hby d2_8) kon) ?_
  show own_Wp _ _ _ _ (s₁.setTop (mkF m 9 #[.val (.int (1 : Int32)), .val (.int p2), .unset, .unset] [(.long (1 : Int64)), (.long (p2.toInt64))]))
  refine own_of (fun tgt kon => XS.ladd X0.here hx rfl (hb hby d2_9) rfl kon) ?_
  show own_Wp _ _ _ _ (s₁.setTop (mkF m 10 #[.val (.int (1 : Int32)), .val (.int p2), .unset, .unset] [(.long ((p2.toInt64) + (1 : Int64)))]))
  refine own_of (X0.ldc2Long hx hown (mvT hZ (hw _ (List.mem_of_getElem? (i := 53) rfl))) (g := (mkF m 10 #[.val (.int (1 : Int32)), .val (.int p2), .unset, .unset] [(.long ((p2.toInt64) + (1 : Int64)))])) rfl (hb hby d2_10)) ?_
  show own_Wp _ _ _ _ (s₁.setTop (mkF m 13 #[.val (.int (1 : Int32)), .val (.int p2), .unset, .unset] [(.long (4294967295 : Int64)), (.long ((p2.toInt64) + (1 : Int64)))]))
  refine own_of (fun tgt kon => XS.land X0.here hx rfl (hb hby d2_13) rfl kon) ?_
  show own_Wp _ _ _ _ (s₁.setTop (mkF m 14 #[.val (.int (1 : Int32)), .val (.int p2), .unset, .unset] [(.long (((p2.toInt64) + (1 : Int64)) &&& (4294967295 : Int64)))]))
  obtain ⟨w, h_w⟩ : ∃ q : Int64, q = (((p2.toInt64) + (1 : Int64)) &&& (4294967295 : Int64)) := ⟨_, rfl⟩
  rw [← h_w]
  refine own_of (fun tgt kon => XS.lstoreN X0.here hx rfl (hb hby d2_14) rfl (l' := #[.val (.int (1 : Int32)), .val (.int p2), .val (.long w), .second]) rfl kon) ?_
  show own_Wp _ _ _ _ (s₁.setTop (mkF m 15 #[.val (.int (1 : Int32)), .val (.int p2), .val (.long w), .second] []))
  refine own_of (fun tgt kon => XS.lloadN X0.here hx rfl (hb hby d2_15) rfl kon) ?_
  show own_Wp _ _ _ _ (s₁.setTop (mkF m 16 #[.val (.int (1 : Int32)), .val (.int p2), .val (.long w), .second] [(.long w)]))
  refine own_of (X0.ldc2Long hx hown (mvT hZ (hw _ (List.mem_of_getElem? (i := 54) rfl))) (g := (mkF m 16 #[.val (.int (1 : Int32)), .val (.int p2), .val (.long w), .second] [(.long w)])) rfl (hb hby d2_16)) ?_
  show own_Wp _ _ _ _ (s₁.setTop (mkF m 19 #[.val (.int (1 : Int32)), .val (.int p2), .val (.long w), .second] [(.long (128 : Int64)), (.long w)]))
  refine own_of (fun tgt kon => XS.lcmp X0.here hx rfl (hb hby d2_19) rfl kon) ?_
  show own_Wp _ _ _ _ (s₁.setTop (mkF m 20 #[.val (.int (1 : Int32)), .val (.int p2), .val (.long w), .second] [(.int (lcmpW w (128 : Int64)))]))
  by_cases hc20 : (lcmpW w (128 : Int64)) < (0 : Int32)
  · skip
    refine own_of (fun tgt kon => XS.ifNo X0.here hx rfl (hb hby d2_20) rfl ((if0 _ _).trans (tlt hc20).2.1) kon) ?_
    show own_Wp _ _ _ _ (s₁.setTop (mkF m 23 #[.val (.int (1 : Int32)), .val (.int p2), .val (.long w), .second] []))
    refine own_of (fun tgt kon => XS.iconst X0.here hx rfl (hb hby d2_23) kon) ?_
    show own_Wp _ _ _ _ (s₁.setTop (mkF m 24 #[.val (.int (1 : Int32)), .val (.int p2), .val (.long w), .second] [(.int (1 : Int32))]))
    refine own_ret X0 hlk (some (.int (1 : Int32))) (own_rtI hrt) (fun fs hr => own_retI X0 hx hrt (hb hby d2_24) hr) ?_ (by decide) (by decide)
    rw [e0]
    have hb_ := own_big p2
    rw [← h_w] at hb_
    have q20 := hc20; rw [own_lcM, hb_] at q20
    have l128 : (128 : Int64).toInt = 128 := by decide
    refine ⟨?_, N0, rfl⟩
    rw [show own_nb (own_u (p2 + 1)) = (1 : Int32) from by unfold own_nb; rw [if_pos (by omega)]]
  · skip
    refine own_of (fun tgt kon => XS.ifYes X0.here hx rfl (pc0 := 20) (pc' := 25) rfl (hb hby d2_20) rfl ((if0 _ _).trans (flt hc20).2.1) (by decide) (by decide) kon) ?_
    show own_Wp _ _ _ _ (s₁.setTop (mkF m 25 #[.val (.int (1 : Int32)), .val (.int p2), .val (.long w), .second] []))
    refine own_of (fun tgt kon => XS.lloadN X0.here hx rfl (hb hby d2_25) rfl kon) ?_
    show own_Wp _ _ _ _ (s₁.setTop (mkF m 26 #[.val (.int (1 : Int32)), .val (.int p2), .val (.long w), .second] [(.long w)]))
    refine own_of (X0.ldc2Long hx hown (mvT hZ (hw _ (List.mem_of_getElem? (i := 64) rfl))) (g := (mkF m 26 #[.val (.int (1 : Int32)), .val (.int p2), .val (.long w), .second] [(.long w)])) rfl (hb hby d2_26)) ?_
    show own_Wp _ _ _ _ (s₁.setTop (mkF m 29 #[.val (.int (1 : Int32)), .val (.int p2), .val (.long w), .second] [(.long (16384 : Int64)), (.long w)]))
    refine own_of (fun tgt kon => XS.lcmp X0.here hx rfl (hb hby d2_29) rfl kon) ?_
    show own_Wp _ _ _ _ (s₁.setTop (mkF m 30 #[.val (.int (1 : Int32)), .val (.int p2), .val (.long w), .second] [(.int (lcmpW w (16384 : Int64)))]))
    by_cases hc30 : (lcmpW w (16384 : Int64)) < (0 : Int32)
    · skip
      refine own_of (fun tgt kon => XS.ifNo X0.here hx rfl (hb hby d2_30) rfl ((if0 _ _).trans (tlt hc30).2.1) kon) ?_
      show own_Wp _ _ _ _ (s₁.setTop (mkF m 33 #[.val (.int (1 : Int32)), .val (.int p2), .val (.long w), .second] []))
      refine own_of (fun tgt kon => XS.iconst X0.here hx rfl (hb hby d2_33) kon) ?_
      show own_Wp _ _ _ _ (s₁.setTop (mkF m 34 #[.val (.int (1 : Int32)), .val (.int p2), .val (.long w), .second] [(.int (2 : Int32))]))
      refine own_ret X0 hlk (some (.int (2 : Int32))) (own_rtI hrt) (fun fs hr => own_retI X0 hx hrt (hb hby d2_34) hr) ?_ (by decide) (by decide)
      rw [e0]
      have hb_ := own_big p2
      rw [← h_w] at hb_
      have q20 := hc20; rw [own_lcM, hb_] at q20
      have q30 := hc30; rw [own_lcM, hb_] at q30
      have l128 : (128 : Int64).toInt = 128 := by decide
      have l16384 : (16384 : Int64).toInt = 16384 := by decide
      refine ⟨?_, N0, rfl⟩
      rw [show own_nb (own_u (p2 + 1)) = (2 : Int32) from by unfold own_nb; rw [if_neg (by omega), if_pos (by omega)]]
    · skip
      refine own_of (fun tgt kon => XS.ifYes X0.here hx rfl (pc0 := 30) (pc' := 35) rfl (hb hby d2_30) rfl ((if0 _ _).trans (flt hc30).2.1) (by decide) (by decide) kon) ?_
      show own_Wp _ _ _ _ (s₁.setTop (mkF m 35 #[.val (.int (1 : Int32)), .val (.int p2), .val (.long w), .second] []))
      refine own_of (fun tgt kon => XS.lloadN X0.here hx rfl (hb hby d2_35) rfl kon) ?_
      show own_Wp _ _ _ _ (s₁.setTop (mkF m 36 #[.val (.int (1 : Int32)), .val (.int p2), .val (.long w), .second] [(.long w)]))
      refine own_of (X0.ldc2Long hx hown (mvT hZ (hw _ (List.mem_of_getElem? (i := 65) rfl))) (g := (mkF m 36 #[.val (.int (1 : Int32)), .val (.int p2), .val (.long w), .second] [(.long w)])) rfl (hb hby d2_36)) ?_
      show own_Wp _ _ _ _ (s₁.setTop (mkF m 39 #[.val (.int (1 : Int32)), .val (.int p2), .val (.long w), .second] [(.long (2097152 : Int64)), (.long w)]))
      refine own_of (fun tgt kon => XS.lcmp X0.here hx rfl (hb hby d2_39) rfl kon) ?_
      show own_Wp _ _ _ _ (s₁.setTop (mkF m 40 #[.val (.int (1 : Int32)), .val (.int p2), .val (.long w), .second] [(.int (lcmpW w (2097152 : Int64)))]))
      by_cases hc40 : (lcmpW w (2097152 : Int64)) < (0 : Int32)
      · skip
        refine own_of (fun tgt kon => XS.ifNo X0.here hx rfl (hb hby d2_40) rfl ((if0 _ _).trans (tlt hc40).2.1) kon) ?_
        show own_Wp _ _ _ _ (s₁.setTop (mkF m 43 #[.val (.int (1 : Int32)), .val (.int p2), .val (.long w), .second] []))
        refine own_of (fun tgt kon => XS.iconst X0.here hx rfl (hb hby d2_43) kon) ?_
        show own_Wp _ _ _ _ (s₁.setTop (mkF m 44 #[.val (.int (1 : Int32)), .val (.int p2), .val (.long w), .second] [(.int (3 : Int32))]))
        refine own_ret X0 hlk (some (.int (3 : Int32))) (own_rtI hrt) (fun fs hr => own_retI X0 hx hrt (hb hby d2_44) hr) ?_ (by decide) (by decide)
        rw [e0]
        have hb_ := own_big p2
        rw [← h_w] at hb_
        have q20 := hc20; rw [own_lcM, hb_] at q20
        have q30 := hc30; rw [own_lcM, hb_] at q30
        have q40 := hc40; rw [own_lcM, hb_] at q40
        have l128 : (128 : Int64).toInt = 128 := by decide
        have l16384 : (16384 : Int64).toInt = 16384 := by decide
        have l2097152 : (2097152 : Int64).toInt = 2097152 := by decide
        refine ⟨?_, N0, rfl⟩
        rw [show own_nb (own_u (p2 + 1)) = (3 : Int32) from by unfold own_nb; rw [if_neg (by omega), if_neg (by omega), if_pos (by omega)]]
      · skip
        refine own_of (fun tgt kon => XS.ifYes X0.here hx rfl (pc0 := 40) (pc' := 45) rfl (hb hby d2_40) rfl ((if0 _ _).trans (flt hc40).2.1) (by decide) (by decide) kon) ?_
        show own_Wp _ _ _ _ (s₁.setTop (mkF m 45 #[.val (.int (1 : Int32)), .val (.int p2), .val (.long w), .second] []))
        refine own_of (fun tgt kon => XS.lloadN X0.here hx rfl (hb hby d2_45) rfl kon) ?_
        show own_Wp _ _ _ _ (s₁.setTop (mkF m 46 #[.val (.int (1 : Int32)), .val (.int p2), .val (.long w), .second] [(.long w)]))
        refine own_of (X0.ldc2Long hx hown (mvT hZ (hw _ (List.mem_of_getElem? (i := 66) rfl))) (g := (mkF m 46 #[.val (.int (1 : Int32)), .val (.int p2), .val (.long w), .second] [(.long w)])) rfl (hb hby d2_46)) ?_
        show own_Wp _ _ _ _ (s₁.setTop (mkF m 49 #[.val (.int (1 : Int32)), .val (.int p2), .val (.long w), .second] [(.long (268435456 : Int64)), (.long w)]))
        refine own_of (fun tgt kon => XS.lcmp X0.here hx rfl (hb hby d2_49) rfl kon) ?_
        show own_Wp _ _ _ _ (s₁.setTop (mkF m 50 #[.val (.int (1 : Int32)), .val (.int p2), .val (.long w), .second] [(.int (lcmpW w (268435456 : Int64)))]))
        by_cases hc50 : (lcmpW w (268435456 : Int64)) < (0 : Int32)
        · skip
          refine own_of (fun tgt kon => XS.ifNo X0.here hx rfl (hb hby d2_50) rfl ((if0 _ _).trans (tlt hc50).2.1) kon) ?_
          show own_Wp _ _ _ _ (s₁.setTop (mkF m 53 #[.val (.int (1 : Int32)), .val (.int p2), .val (.long w), .second] []))
          refine own_of (fun tgt kon => XS.iconst X0.here hx rfl (hb hby d2_53) kon) ?_
          show own_Wp _ _ _ _ (s₁.setTop (mkF m 54 #[.val (.int (1 : Int32)), .val (.int p2), .val (.long w), .second] [(.int (4 : Int32))]))
          refine own_ret X0 hlk (some (.int (4 : Int32))) (own_rtI hrt) (fun fs hr => own_retI X0 hx hrt (hb hby d2_54) hr) ?_ (by decide) (by decide)
          rw [e0]
          have hb_ := own_big p2
          rw [← h_w] at hb_
          have q20 := hc20; rw [own_lcM, hb_] at q20
          have q30 := hc30; rw [own_lcM, hb_] at q30
          have q40 := hc40; rw [own_lcM, hb_] at q40
          have q50 := hc50; rw [own_lcM, hb_] at q50
          have l128 : (128 : Int64).toInt = 128 := by decide
          have l16384 : (16384 : Int64).toInt = 16384 := by decide
          have l2097152 : (2097152 : Int64).toInt = 2097152 := by decide
          have l268435456 : (268435456 : Int64).toInt = 268435456 := by decide
          refine ⟨?_, N0, rfl⟩
          rw [show own_nb (own_u (p2 + 1)) = (4 : Int32) from by unfold own_nb; rw [if_neg (by omega), if_neg (by omega), if_neg (by omega), if_pos (by omega)]]
        · skip
          refine own_of (fun tgt kon => XS.ifYes X0.here hx rfl (pc0 := 50) (pc' := 55) rfl (hb hby d2_50) rfl ((if0 _ _).trans (flt hc50).2.1) (by decide) (by decide) kon) ?_
          show own_Wp _ _ _ _ (s₁.setTop (mkF m 55 #[.val (.int (1 : Int32)), .val (.int p2), .val (.long w), .second] []))
          refine own_of (fun tgt kon => XS.iconst X0.here hx rfl (hb hby d2_55) kon) ?_
          show own_Wp _ _ _ _ (s₁.setTop (mkF m 56 #[.val (.int (1 : Int32)), .val (.int p2), .val (.long w), .second] [(.int (5 : Int32))]))
          refine own_ret X0 hlk (some (.int (5 : Int32))) (own_rtI hrt) (fun fs hr => own_retI X0 hx hrt (hb hby d2_56) hr) ?_ (by decide) (by decide)
          rw [e0]
          have hb_ := own_big p2
          rw [← h_w] at hb_
          have q20 := hc20; rw [own_lcM, hb_] at q20
          have q30 := hc30; rw [own_lcM, hb_] at q30
          have q40 := hc40; rw [own_lcM, hb_] at q40
          have q50 := hc50; rw [own_lcM, hb_] at q50
          have l128 : (128 : Int64).toInt = 128 := by decide
          have l16384 : (16384 : Int64).toInt = 16384 := by decide
          have l2097152 : (2097152 : Int64).toInt = 2097152 := by decide
          have l268435456 : (268435456 : Int64).toInt = 268435456 := by decide
          refine ⟨?_, N0, rfl⟩
          rw [show own_nb (own_u (p2 + 1)) = (5 : Int32) from by unfold own_nb; rw [if_neg (by omega), if_neg (by omega), if_neg (by omega), if_neg (by omega)]]
theorem own_en1 {p z : Int32} (h1 : 0 ≤ z.toInt) (h2 : z.toInt ≤ 8) (h3 : p.toInt ≤ 4) (k : Int32) (hk : 256 ≤ k.toInt) : ¬ (k - z) < p := by
  have := Int32.toInt_lt k
  rw [Int32.lt_iff_toInt_lt, Jvm.Kit.i32_sub (by omega) (by omega)]
  omega
theorem d9_0 : decode prog_229_method_25_code 0 = .ok (.iload_n 1, 1) := by decide +kernel
theorem d9_1 : decode prog_229_method_25_code 1 = .ok (.aload_n 0, 1) := by decide +kernel
theorem d9_2 : decode prog_229_method_25_code 2 = .ok (.getfield 23, 3) := by decide +kernel
theorem d9_5 : decode prog_229_method_25_code 5 = .ok (.aload_n 0, 1) := by decide +kernel
theorem d9_6 : decode prog_229_method_25_code 6 = .ok (.getfield 31, 3) := by decide +kernel
theorem d9_9 : decode prog_229_method_25_code 9 = .ok (.isub, 1) := by decide +kernel
theorem d9_10 : decode prog_229_method_25_code 10 = .ok (.if_icmp .le 20, 3) := by decide +kernel
theorem d9_30 : decode prog_229_method_25_code 30 = .ok (.aload_n 0, 1) := by decide +kernel
theorem d9_31 : decode prog_229_method_25_code 31 = .ok (.getfield 15, 3) := by decide +kernel
theorem d9_34 : decode prog_229_method_25_code 34 = .ok (.arraylength, 1) := by decide +kernel
theorem d9_35 : decode prog_229_method_25_code 35 = .ok (.aload_n 0, 1) := by decide +kernel
theorem d9_36 : decode prog_229_method_25_code 36 = .ok (.getfield 31, 3) := by decide +kernel
theorem d9_39 : decode prog_229_method_25_code 39 = .ok (.isub, 1) := by decide +kernel
theorem d9_40 : decode prog_229_method_25_code 40 = .ok (.iload_n 1, 1) := by decide +kernel
theorem d9_41 : decode prog_229_method_25_code 41 = .ok (.if_icmp .ge 46, 3) := by decide +kernel
theorem d9_87 : decode prog_229_method_25_code 87 = .ok (.return_, 1) := by decide +kernel
def Q_rmen (Z : State) (a1 : Addr) (a2 : Addr) (p2 : Int32) (fl : Int32) (sz : Int32) (f : Nat → Value) (h0 : Heap) (n0 : Nat) (v : Option Value) (h : Heap) (L : List Loc) : Prop := v = none ∧ Fr n0 L ∧ h = h0
set_option maxRecDepth 65536 in
set_option maxHeartbeats 40000000 in
theorem rmen (l : Launch) (Z : State) (a0 : Array Value) (hw : ∀ d ∈ tables_1, d.before a0 Z = true) (ws : List Jvm.Cond) (a1 : Addr) (a2 : Addr) (p2 : Int32) (fl : Int32) (sz : Int32) (f : Nat → Value) (h0 : Heap) (n0 : Nat) (Z0 : n0 ≤ h0.size) (E_a1 : Exa Z h0 a1 "com/example/ply2/ply2/protocol/ProtocolWriter") (F_bytes_a1 : Fld Z h0 a1 "com/example/ply2/ply2/protocol/ProtocolWriter" "bytes" "[B" (.ref a2)) (F_flexible_a1 : Fld Z h0 a1 "com/example/ply2/ply2/protocol/ProtocolWriter" "flexible" "Z" (.int fl)) (F_maxBytes_a1 : Fld Z h0 a1 "com/example/ply2/ply2/protocol/ProtocolWriter" "maxBytes" "I" (.int (2147483647 : Int32))) (F_size_a1 : Fld Z h0 a1 "com/example/ply2/ply2/protocol/ProtocolWriter" "size" "I" (.int sz)) (V_a2 : own_Ar Z h0 a2 .byte 256 f) (hz0 : 0 ≤ sz.toInt) (hz1 : sz.toInt ≤ 8) (hp : p2.toInt ≤ 4) :
    own_Ctr l Z (⟨"com/example/ply2/ply2/protocol/ProtocolWriter", "ensure", "(I)V"⟩ : MethodName) prog_229_method_25_code 4 none ws ({ frames := 0, cells := 0, slots := 0, locals := 0 } : Room) #[(.ref a1), (.int p2)] h0 (Q_rmen Z a1 a2 p2 fl sz f h0 n0) := by
  refine own_enter (plainFor_of_name own_pn0) ?_
  intro p e s m below meth c s₁ X0 hx hby hml hrt hlk hZ hown hnm e0
  have N0 := Fr.nil n0
  have Zs := Z0
  rw [show entryFrame m #[(.ref a1), (.int p2)] 4 = mkF m 0 #[.val (.ref a1), .val (.int p2), .unset, .unset] [] from by first | (simp [entryFrame, mkF, argsToLocals, Value.category]; done) | rfl]
  show own_Wp _ _ _ _ (s₁.setTop (mkF m 0 #[.val (.ref a1), .val (.int p2), .unset, .unset] []))
  refine own_of (fun tgt kon => XS.iloadN X0.here hx rfl (hb hby d9_0) rfl kon) ?_
  show own_Wp _ _ _ _ (s₁.setTop (mkF m 1 #[.val (.ref a1), .val (.int p2), .unset, .unset] [(.int p2)]))
  refine own_of (fun tgt kon => XS.aloadN X0.here hx rfl (hb hby d9_1) rfl rfl kon) ?_
  show own_Wp _ _ _ _ (s₁.setTop (mkF m 2 #[.val (.ref a1), .val (.int p2), .unset, .unset] [(.ref a1), (.int p2)]))
  obtain ⟨T1, X1, e1, st1⟩ := getF X0 hx hZ hown (host := "") (Or.inl (hw _ (List.mem_of_getElem? (i := 26) rfl))) Via.refl e0 F_maxBytes_a1 (g := (mkF m 2 #[.val (.ref a1), .val (.int p2), .unset, .unset] [(.ref a1), (.int p2)])) rfl rfl (hb hby d9_2)
  refine own_of st1 ?_
  show own_Wp _ _ _ _ (T1.setTop (mkF m 5 #[.val (.ref a1), .val (.int p2), .unset, .unset] [(.int (2147483647 : Int32)), (.int p2)]))
  refine own_of (fun tgt kon => XS.aloadN X1.here hx rfl (hb hby d9_5) rfl rfl kon) ?_
  show own_Wp _ _ _ _ (T1.setTop (mkF m 6 #[.val (.ref a1), .val (.int p2), .unset, .unset] [(.ref a1), (.int (2147483647 : Int32)), (.int p2)]))
  obtain ⟨T2, X2, e2, st2⟩ := getF X1 hx hZ hown (host := "") (Or.inl (hw _ (List.mem_of_getElem? (i := 46) rfl))) Via.refl e1 F_size_a1 (g := (mkF m 6 #[.val (.ref a1), .val (.int p2), .unset, .unset] [(.ref a1), (.int (2147483647 : Int32)), (.int p2)])) rfl rfl (hb hby d9_6)
  refine own_of st2 ?_
  show own_Wp _ _ _ _ (T2.setTop (mkF m 9 #[.val (.ref a1), .val (.int p2), .unset, .unset] [(.int sz), (.int (2147483647 : Int32)), (.int p2)]))
  refine own_of (fun tgt kon => XS.isub X2.here hx rfl (hb hby d9_9) rfl kon) ?_
  show own_Wp _ _ _ _ (T2.setTop (mkF m 10 #[.val (.ref a1), .val (.int p2), .unset, .unset] [(.int ((2147483647 : Int32) - sz)), (.int p2)]))
  have hc10 : ¬ (((2147483647 : Int32) - sz) < p2) := own_en1 hz0 hz1 hp _ (by decide)
  refine own_of (fun tgt kon => XS.icmpYes X2.here hx rfl (pc0 := 10) (pc' := 30) rfl (hb hby d9_10) rfl (flt hc10).2.2.2 (by decide) (by decide) kon) ?_
  show own_Wp _ _ _ _ (T2.setTop (mkF m 30 #[.val (.ref a1), .val (.int p2), .unset, .unset] []))
  refine own_of (fun tgt kon => XS.aloadN X2.here hx rfl (hb hby d9_30) rfl rfl kon) ?_
  show own_Wp _ _ _ _ (T2.setTop (mkF m 31 #[.val (.ref a1), .val (.int p2), .unset, .unset] [(.ref a1)]))
  obtain ⟨T3, X3, e3, st3⟩ := getF X2 hx hZ hown (host := "") (Or.inl (hw _ (List.mem_of_getElem? (i := 22) rfl))) Via.refl e2 F_bytes_a1 (g := (mkF m 31 #[.val (.ref a1), .val (.int p2), .unset, .unset] [(.ref a1)])) rfl rfl (hb hby d9_31)
  refine own_of st3 ?_
  show own_Wp _ _ _ _ (T3.setTop (mkF m 34 #[.val (.ref a1), .val (.int p2), .unset, .unset] [(.ref a2)]))
  refine own_len X3 hx hZ e3 V_a2 (z := (256 : Int32)) (by decide) (g := (mkF m 34 #[.val (.ref a1), .val (.int p2), .unset, .unset] [(.ref a2)])) rfl rfl (hb hby d9_34) ?_
  show own_Wp _ _ _ _ (T3.setTop (mkF m 35 #[.val (.ref a1), .val (.int p2), .unset, .unset] [(.int (256 : Int32))]))
  refine own_of (fun tgt kon => XS.aloadN X3.here hx rfl (hb hby d9_35) rfl rfl kon) ?_
  show own_Wp _ _ _ _ (T3.setTop (mkF m 36 #[.val (.ref a1), .val (.int p2), .unset, .unset] [(.ref a1), (.int (256 : Int32))]))
  obtain ⟨T4, X4, e4, st4⟩ := getF X3 hx hZ hown (host := "") (Or.inl (hw _ (List.mem_of_getElem? (i := 46) rfl))) Via.refl e3 F_size_a1 (g := (mkF m 36 #[.val (.ref a1), .val (.int p2), .unset, .unset] [(.ref a1), (.int (256 : Int32))])) rfl rfl (hb hby d9_36)
  refine own_of st4 ?_
  show own_Wp _ _ _ _ (T4.setTop (mkF m 39 #[.val (.ref a1), .val (.int p2), .unset, .unset] [(.int sz), (.int (256 : Int32))]))
  refine own_of (fun tgt kon => XS.isub X4.here hx rfl (hb hby d9_39) rfl kon) ?_
  show own_Wp _ _ _ _ (T4.setTop (mkF m 40 #[.val (.ref a1), .val (.int p2), .unset, .unset] [(.int ((256 : Int32) - sz))]))
  refine own_of (fun tgt kon => XS.iloadN X4.here hx rfl (hb hby d9_40) rfl kon) ?_
  show own_Wp _ _ _ _ (T4.setTop (mkF m 41 #[.val (.ref a1), .val (.int p2), .unset, .unset] [(.int p2), (.int ((256 : Int32) - sz))]))
  have hc41 : ¬ (((256 : Int32) - sz) < p2) := own_en1 hz0 hz1 hp _ (by decide)
  refine own_of (fun tgt kon => XS.icmpYes X4.here hx rfl (pc0 := 41) (pc' := 87) rfl (hb hby d9_41) rfl (flt hc41).2.1 (by decide) (by decide) kon) ?_
  show own_Wp _ _ _ _ (T4.setTop (mkF m 87 #[.val (.ref a1), .val (.int p2), .unset, .unset] []))
  refine own_ret X4 hlk none (fun _ => rfl) (fun fs hr => X4.returnOut hx hrt (hb hby d9_87) hr) ?_ (by decide) (by decide)
  rw [e4]
  exact ⟨rfl, N0, rfl⟩
theorem d12_0 : decode prog_229_method_3_code 0 = .ok (.aload_n 0, 1) := by decide +kernel
theorem d12_1 : decode prog_229_method_3_code 1 = .ok (.iconst 1, 1) := by decide +kernel
theorem d12_2 : decode prog_229_method_3_code 2 = .ok (.invokevirtual 27, 3) := by decide +kernel
theorem own_pd0 : parseMethodDescriptor "(I)V" = some ⟨[.int], none⟩ := by decide +kernel
theorem d12_5 : decode prog_229_method_3_code 5 = .ok (.aload_n 0, 1) := by decide +kernel
theorem d12_6 : decode prog_229_method_3_code 6 = .ok (.getfield 15, 3) := by decide +kernel
theorem d12_9 : decode prog_229_method_3_code 9 = .ok (.aload_n 0, 1) := by decide +kernel
theorem d12_10 : decode prog_229_method_3_code 10 = .ok (.dup, 1) := by decide +kernel
theorem d12_11 : decode prog_229_method_3_code 11 = .ok (.getfield 31, 3) := by decide +kernel
theorem d12_14 : decode prog_229_method_3_code 14 = .ok (.dup_x1, 1) := by decide +kernel
theorem d12_15 : decode prog_229_method_3_code 15 = .ok (.iconst 1, 1) := by decide +kernel
theorem d12_16 : decode prog_229_method_3_code 16 = .ok (.iadd, 1) := by decide +kernel
theorem d12_17 : decode prog_229_method_3_code 17 = .ok (.putfield 31, 3) := by decide +kernel
theorem d12_20 : decode prog_229_method_3_code 20 = .ok (.iload_n 1, 1) := by decide +kernel
theorem d12_21 : decode prog_229_method_3_code 21 = .ok (.bastore, 1) := by decide +kernel
theorem d12_22 : decode prog_229_method_3_code 22 = .ok (.return_, 1) := by decide +kernel
def Q_rmw8 (Z : State) (a1 : Addr) (a2 : Addr) (p2 : Int32) (fl : Int32) (sz : Int32) (f : Nat → Value) (k : Nat) (h0 : Heap) (n0 : Nat) (v : Option Value) (h : Heap) (L : List Loc) : Prop := v = none ∧ Fr n0 L ∧ Keep h0 h [a1, a2] ∧ Exa Z h a1 "com/example/ply2/ply2/protocol/ProtocolWriter" ∧ Fld Z h a1 "com/example/ply2/ply2/protocol/ProtocolWriter" "bytes" "[B" (.ref a2) ∧ Fld Z h a1 "com/example/ply2/ply2/protocol/ProtocolWriter" "flexible" "Z" (.int fl) ∧ Fld Z h a1 "com/example/ply2/ply2/protocol/ProtocolWriter" "maxBytes" "I" (.int (2147483647 : Int32)) ∧ Fld Z h a1 "com/example/ply2/ply2/protocol/ProtocolWriter" "size" "I" (.int (sz + (1 : Int32))) ∧ ∃ f', own_Ar Z h a2 .byte 256 f'
set_option maxRecDepth 65536 in
set_option maxHeartbeats 40000000 in
theorem rmw8 (l : Launch) (Z : State) (a0 : Array Value) (hw : ∀ d ∈ tables_1, d.before a0 Z = true) (ws : List Jvm.Cond) (a1 : Addr) (a2 : Addr) (p2 : Int32) (fl : Int32) (sz : Int32) (f : Nat → Value) (k : Nat) (h0 : Heap) (n0 : Nat) (Z0 : n0 ≤ h0.size) (E_a1 : Exa Z h0 a1 "com/example/ply2/ply2/protocol/ProtocolWriter") (F_bytes_a1 : Fld Z h0 a1 "com/example/ply2/ply2/protocol/ProtocolWriter" "bytes" "[B" (.ref a2)) (F_flexible_a1 : Fld Z h0 a1 "com/example/ply2/ply2/protocol/ProtocolWriter" "flexible" "Z" (.int fl)) (F_maxBytes_a1 : Fld Z h0 a1 "com/example/ply2/ply2/protocol/ProtocolWriter" "maxBytes" "I" (.int (2147483647 : Int32))) (F_size_a1 : Fld Z h0 a1 "com/example/ply2/ply2/protocol/ProtocolWriter" "size" "I" (.int sz)) (V_a2 : own_Ar Z h0 a2 .byte 256 f) (ne12 : a1 ≠ a2) (g_a1 : n0 ≤ a1) (g_a2 : n0 ≤ a2) (hk : sz.toInt = (k : Int)) (hk8 : k ≤ 8) :
    own_Ctr l Z (⟨"com/example/ply2/ply2/protocol/ProtocolWriter", "writeInt8", "(B)V"⟩ : MethodName) prog_229_method_3_code 2 none ws ({ frames := 1, cells := 0, slots := 0, locals := 15 } : Room) #[(.ref a1), (.int p2)] h0 (Q_rmw8 Z a1 a2 p2 fl sz f k h0 n0) := by
  refine own_enter (plainFor_of_name own_pn0) ?_
  intro p e s m below meth c s₁ X0 hx hby hml hrt hlk hZ hown hnm e0
  have N0 := Fr.nil n0
  have Zs := Z0
  have K0 := Keep.refl h0 [a1, a2]
  rw [show entryFrame m #[(.ref a1), (.int p2)] 2 = mkF m 0 #[.val (.ref a1), .val (.int p2)] [] from by first | (simp [entryFrame, mkF, argsToLocals, Value.category]; done) | rfl]
  show own_Wp _ _ _ _ (s₁.setTop (mkF m 0 #[.val (.ref a1), .val (.int p2)] []))
  refine own_of (fun tgt kon => XS.aloadN X0.here hx rfl (hb hby d12_0) rfl rfl kon) ?_
  show own_Wp _ _ _ _ (s₁.setTop (mkF m 1 #[.val (.ref a1), .val (.int p2)] [(.ref a1)]))
  refine own_of (fun tgt kon => XS.iconst X0.here hx rfl (hb hby d12_1) kon) ?_
  show own_Wp _ _ _ _ (s₁.setTop (mkF m 2 #[.val (.ref a1), .val (.int p2)] [(.int (1 : Int32)), (.ref a1)]))
  refine own_callP X0 hx hZ (y := (⟨"com/example/ply2/ply2/protocol/ProtocolWriter", "ensure", "(I)V"⟩ : MethodName)) (a := a1) (argsL := [(.int (1 : Int32))]) (rest := []) (W := 0) hown (hw _ (List.mem_of_getElem? (i := 42) rfl)) (hw _ (List.mem_of_getElem? (i := 43) rfl)) (hw _ (List.mem_of_getElem? (i := 10) rfl)) (hw _ (List.mem_of_getElem? (i := 44) rfl)) (hw _ (List.mem_of_getElem? (i := 2) rfl)) (hw _ (List.mem_of_getElem? (i := 45) rfl)) (by decide) e0 E_a1 (rmen l Z a0 hw [] a1 a2 (1 : Int32) fl sz f h0 n0 Zs E_a1 F_bytes_a1 F_flexible_a1 F_maxBytes_a1 F_size_a1 V_a2 (by omega) (by omega) (by decide)) (by decide) (by decide) (by decide) (by decide) (g := (mkF m 2 #[.val (.ref a1), .val (.int p2)] [(.int (1 : Int32)), (.ref a1)])) rfl (by rw [hml]; rfl) (lenOf own_pd0 rfl) rfl (by show 2 * 0 + _ ≤ _; exact Nat.le_of_eq rfl) (hb hby d12_2) ?_
  rintro T1 L1 _ X1 ⟨rfl, N1q, e1⟩
  have N1 := Fr.app N0 N1q
  show own_Wp _ _ _ _ (T1.setTop (mkF m 5 #[.val (.ref a1), .val (.int p2)] []))
  refine own_of (fun tgt kon => XS.aloadN X1.here hx rfl (hb hby d12_5) rfl rfl kon) ?_
  show own_Wp _ _ _ _ (T1.setTop (mkF m 6 #[.val (.ref a1), .val (.int p2)] [(.ref a1)]))
  obtain ⟨T2, X2, e2, st2⟩ := getF X1 hx hZ hown (host := "") (Or.inl (hw _ (List.mem_of_getElem? (i := 22) rfl))) Via.refl e1 F_bytes_a1 (g := (mkF m 6 #[.val (.ref a1), .val (.int p2)] [(.ref a1)])) rfl rfl (hb hby d12_6)
  refine own_of st2 ?_
  show own_Wp _ _ _ _ (T2.setTop (mkF m 9 #[.val (.ref a1), .val (.int p2)] [(.ref a2)]))
  refine own_of (fun tgt kon => XS.aloadN X2.here hx rfl (hb hby d12_9) rfl rfl kon) ?_
  show own_Wp _ _ _ _ (T2.setTop (mkF m 10 #[.val (.ref a1), .val (.int p2)] [(.ref a1), (.ref a2)]))
  refine own_of (fun tgt kon => XS.dup X2.here hx rfl (hb hby d12_10) rfl rfl kon) ?_
  show own_Wp _ _ _ _ (T2.setTop (mkF m 11 #[.val (.ref a1), .val (.int p2)] [(.ref a1), (.ref a1), (.ref a2)]))
  obtain ⟨T3, X3, e3, st3⟩ := getF X2 hx hZ hown (host := "") (Or.inl (hw _ (List.mem_of_getElem? (i := 46) rfl))) Via.refl e2 F_size_a1 (g := (mkF m 11 #[.val (.ref a1), .val (.int p2)] [(.ref a1), (.ref a1), (.ref a2)])) rfl rfl (hb hby d12_11)
  refine own_of st3 ?_
  show own_Wp _ _ _ _ (T3.setTop (mkF m 14 #[.val (.ref a1), .val (.int p2)] [(.int sz), (.ref a1), (.ref a2)]))
  refine own_of (fun tgt kon => XS.dupX1 X3.here hx rfl (hb hby d12_14) rfl rfl rfl kon) ?_
  show own_Wp _ _ _ _ (T3.setTop (mkF m 15 #[.val (.ref a1), .val (.int p2)] [(.int sz), (.ref a1), (.int sz), (.ref a2)]))
  refine own_of (fun tgt kon => XS.iconst X3.here hx rfl (hb hby d12_15) kon) ?_
  show own_Wp _ _ _ _ (T3.setTop (mkF m 16 #[.val (.ref a1), .val (.int p2)] [(.int (1 : Int32)), (.int sz), (.ref a1), (.int sz), (.ref a2)]))
  refine own_of (fun tgt kon => XS.iadd X3.here hx rfl (hb hby d12_16) rfl kon) ?_
  show own_Wp _ _ _ _ (T3.setTop (mkF m 17 #[.val (.ref a1), .val (.int p2)] [(.int (sz + (1 : Int32))), (.ref a1), (.int sz), (.ref a2)]))
  obtain ⟨T4, h4, X4, e4, W4, st4⟩ := putF X3 hx hZ hown (host := "") (Or.inl (hw _ (List.mem_of_getElem? (i := 46) rfl))) Via.refl e3 F_size_a1 E_a1 (Or.inl (hw _ (List.mem_of_getElem? (i := 47) rfl))) (hw _ (List.mem_of_getElem? (i := 10) rfl)) (ty := .int) (by decide) rfl rfl (g := (mkF m 17 #[.val (.ref a1), .val (.int p2)] [(.int (sz + (1 : Int32))), (.ref a1), (.int sz), (.ref a2)])) rfl rfl (hb hby d12_17)
  refine own_of st4 ?_
  have Fq4 := Fld.same W4 F_size_a1
  have Zs := Nat.le_trans Zs (Keep.of_wr W4).1
  have K0 := K0.wr W4 (Or.inl (List.mem_of_getElem? (i := 0) rfl))
  have E_a1 := E_a1.wr W4
  have F_bytes_a1 := F_bytes_a1.other W4 (Or.inr (slot_ne (Or.inl (hw _ (List.mem_of_getElem? (i := 23) rfl))) (Or.inl (hw _ (List.mem_of_getElem? (i := 47) rfl))) (by decide) (t := (.array .byte)) (t' := .int) (by decide) (by decide)))
  have F_flexible_a1 := F_flexible_a1.other W4 (Or.inr (slot_ne (Or.inr (hw _ (List.mem_of_getElem? (i := 25) rfl))) (Or.inl (hw _ (List.mem_of_getElem? (i := 47) rfl))) (by decide) (t := .boolean) (t' := .int) (by decide) (by decide)))
  have F_maxBytes_a1 := F_maxBytes_a1.other W4 (Or.inr (slot_ne (Or.inr (hw _ (List.mem_of_getElem? (i := 27) rfl))) (Or.inl (hw _ (List.mem_of_getElem? (i := 47) rfl))) (by decide) (t := .int) (t' := .int) (by decide) (by decide)))
  have V_a2 := V_a2.other W4 (Ne.symm ne12)
  have F_size_a1 := Fq4
  have N4 := Fr.snoc X4 N1 g_a1
  show own_Wp _ _ _ _ (T4.setTop (mkF m 20 #[.val (.ref a1), .val (.int p2)] [(.int sz), (.ref a2)]))
  refine own_of (fun tgt kon => XS.iloadN X4.here hx rfl (hb hby d12_20) rfl kon) ?_
  show own_Wp _ _ _ _ (T4.setTop (mkF m 21 #[.val (.ref a1), .val (.int p2)] [(.int p2), (.int sz), (.ref a2)]))
  obtain ⟨T5, h5, X5, e5, W5, Aq5, st5⟩ := own_stB X4 hx hZ e4 V_a2 (j := sz) (i := k) (x := p2) hk (by omega) (g := (mkF m 21 #[.val (.ref a1), .val (.int p2)] [(.int p2), (.int sz), (.ref a2)])) rfl rfl (hb hby d12_21)
  refine own_of st5 ?_
  have Zs := Nat.le_trans Zs (Keep.of_wr W5).1
  have K0 := K0.wr W5 (Or.inl (List.mem_of_getElem? (i := 1) rfl))
  have E_a1 := E_a1.wr W5
  have F_bytes_a1 := F_bytes_a1.other W5 (Or.inl ne12)
  have F_flexible_a1 := F_flexible_a1.other W5 (Or.inl ne12)
  have F_maxBytes_a1 := F_maxBytes_a1.other W5 (Or.inl ne12)
  have F_size_a1 := F_size_a1.other W5 (Or.inl ne12)
  have V_a2 := Aq5
  have N5 := Fr.snoc X5 N4 g_a2
  show own_Wp _ _ _ _ (T5.setTop (mkF m 22 #[.val (.ref a1), .val (.int p2)] []))
  refine own_ret X5 hlk none (fun _ => rfl) (fun fs hr => X5.returnOut hx hrt (hb hby d12_22) hr) ?_ (by decide) (by decide)
  rw [e5]
  exact ⟨rfl, N5, K0, E_a1, F_bytes_a1, F_flexible_a1, F_maxBytes_a1, F_size_a1, _, V_a2⟩
theorem d8_0 : decode prog_229_method_5_code 0 = .ok (.aload_n 0, 1) := by decide +kernel
theorem d8_1 : decode prog_229_method_5_code 1 = .ok (.iconst 4, 1) := by decide +kernel
theorem d8_2 : decode prog_229_method_5_code 2 = .ok (.invokevirtual 27, 3) := by decide +kernel
theorem d8_5 : decode prog_229_method_5_code 5 = .ok (.aload_n 0, 1) := by decide +kernel
theorem d8_6 : decode prog_229_method_5_code 6 = .ok (.getfield 15, 3) := by decide +kernel
theorem d8_9 : decode prog_229_method_5_code 9 = .ok (.aload_n 0, 1) := by decide +kernel
theorem d8_10 : decode prog_229_method_5_code 10 = .ok (.dup, 1) := by decide +kernel
theorem d8_11 : decode prog_229_method_5_code 11 = .ok (.getfield 31, 3) := by decide +kernel
theorem d8_14 : decode prog_229_method_5_code 14 = .ok (.dup_x1, 1) := by decide +kernel
theorem d8_15 : decode prog_229_method_5_code 15 = .ok (.iconst 1, 1) := by decide +kernel
theorem d8_16 : decode prog_229_method_5_code 16 = .ok (.iadd, 1) := by decide +kernel
theorem d8_17 : decode prog_229_method_5_code 17 = .ok (.putfield 31, 3) := by decide +kernel
theorem d8_20 : decode prog_229_method_5_code 20 = .ok (.iload_n 1, 1) := by decide +kernel
theorem d8_21 : decode prog_229_method_5_code 21 = .ok (.bipush 24, 2) := by decide +kernel
theorem d8_23 : decode prog_229_method_5_code 23 = .ok (.ishr, 1) := by decide +kernel
theorem d8_24 : decode prog_229_method_5_code 24 = .ok (.i2b, 1) := by decide +kernel
theorem d8_25 : decode prog_229_method_5_code 25 = .ok (.bastore, 1) := by decide +kernel
theorem d8_26 : decode prog_229_method_5_code 26 = .ok (.aload_n 0, 1) := by decide +kernel
theorem d8_27 : decode prog_229_method_5_code 27 = .ok (.getfield 15, 3) := by decide +kernel
theorem d8_30 : decode prog_229_method_5_code 30 = .ok (.aload_n 0, 1) := by decide +kernel
theorem d8_31 : decode prog_229_method_5_code 31 = .ok (.dup, 1) := by decide +kernel
theorem d8_32 : decode prog_229_method_5_code 32 = .ok (.getfield 31, 3) := by decide +kernel
theorem d8_35 : decode prog_229_method_5_code 35 = .ok (.dup_x1, 1) := by decide +kernel
theorem d8_36 : decode prog_229_method_5_code 36 = .ok (.iconst 1, 1) := by decide +kernel
theorem d8_37 : decode prog_229_method_5_code 37 = .ok (.iadd, 1) := by decide +kernel
theorem d8_38 : decode prog_229_method_5_code 38 = .ok (.putfield 31, 3) := by decide +kernel
theorem d8_41 : decode prog_229_method_5_code 41 = .ok (.iload_n 1, 1) := by decide +kernel
theorem d8_42 : decode prog_229_method_5_code 42 = .ok (.bipush 16, 2) := by decide +kernel
theorem d8_44 : decode prog_229_method_5_code 44 = .ok (.ishr, 1) := by decide +kernel
theorem d8_45 : decode prog_229_method_5_code 45 = .ok (.i2b, 1) := by decide +kernel
theorem d8_46 : decode prog_229_method_5_code 46 = .ok (.bastore, 1) := by decide +kernel
theorem d8_47 : decode prog_229_method_5_code 47 = .ok (.aload_n 0, 1) := by decide +kernel
theorem d8_48 : decode prog_229_method_5_code 48 = .ok (.getfield 15, 3) := by decide +kernel
theorem d8_51 : decode prog_229_method_5_code 51 = .ok (.aload_n 0, 1) := by decide +kernel
theorem d8_52 : decode prog_229_method_5_code 52 = .ok (.dup, 1) := by decide +kernel
theorem d8_53 : decode prog_229_method_5_code 53 = .ok (.getfield 31, 3) := by decide +kernel
theorem d8_56 : decode prog_229_method_5_code 56 = .ok (.dup_x1, 1) := by decide +kernel
theorem d8_57 : decode prog_229_method_5_code 57 = .ok (.iconst 1, 1) := by decide +kernel
theorem d8_58 : decode prog_229_method_5_code 58 = .ok (.iadd, 1) := by decide +kernel
theorem d8_59 : decode prog_229_method_5_code 59 = .ok (.putfield 31, 3) := by decide +kernel
theorem d8_62 : decode prog_229_method_5_code 62 = .ok (.iload_n 1, 1) := by decide +kernel
theorem d8_63 : decode prog_229_method_5_code 63 = .ok (.bipush 8, 2) := by decide +kernel
theorem d8_65 : decode prog_229_method_5_code 65 = .ok (.ishr, 1) := by decide +kernel
theorem d8_66 : decode prog_229_method_5_code 66 = .ok (.i2b, 1) := by decide +kernel
theorem d8_67 : decode prog_229_method_5_code 67 = .ok (.bastore, 1) := by decide +kernel
theorem d8_68 : decode prog_229_method_5_code 68 = .ok (.aload_n 0, 1) := by decide +kernel
theorem d8_69 : decode prog_229_method_5_code 69 = .ok (.getfield 15, 3) := by decide +kernel
theorem d8_72 : decode prog_229_method_5_code 72 = .ok (.aload_n 0, 1) := by decide +kernel
theorem d8_73 : decode prog_229_method_5_code 73 = .ok (.dup, 1) := by decide +kernel
theorem d8_74 : decode prog_229_method_5_code 74 = .ok (.getfield 31, 3) := by decide +kernel
theorem d8_77 : decode prog_229_method_5_code 77 = .ok (.dup_x1, 1) := by decide +kernel
theorem d8_78 : decode prog_229_method_5_code 78 = .ok (.iconst 1, 1) := by decide +kernel
theorem d8_79 : decode prog_229_method_5_code 79 = .ok (.iadd, 1) := by decide +kernel
theorem d8_80 : decode prog_229_method_5_code 80 = .ok (.putfield 31, 3) := by decide +kernel
theorem d8_83 : decode prog_229_method_5_code 83 = .ok (.iload_n 1, 1) := by decide +kernel
theorem d8_84 : decode prog_229_method_5_code 84 = .ok (.i2b, 1) := by decide +kernel
theorem d8_85 : decode prog_229_method_5_code 85 = .ok (.bastore, 1) := by decide +kernel
theorem d8_86 : decode prog_229_method_5_code 86 = .ok (.return_, 1) := by decide +kernel
def Q_rmw32 (Z : State) (a1 : Addr) (a2 : Addr) (p2 : Int32) (fl : Int32) (f : Nat → Value) (h0 : Heap) (n0 : Nat) (v : Option Value) (h : Heap) (L : List Loc) : Prop := v = none ∧ Fr n0 L ∧ Keep h0 h [a1, a2] ∧ Exa Z h a1 "com/example/ply2/ply2/protocol/ProtocolWriter" ∧ Fld Z h a1 "com/example/ply2/ply2/protocol/ProtocolWriter" "bytes" "[B" (.ref a2) ∧ Fld Z h a1 "com/example/ply2/ply2/protocol/ProtocolWriter" "flexible" "Z" (.int fl) ∧ Fld Z h a1 "com/example/ply2/ply2/protocol/ProtocolWriter" "maxBytes" "I" (.int (2147483647 : Int32)) ∧ Fld Z h a1 "com/example/ply2/ply2/protocol/ProtocolWriter" "size" "I" (.int (((((0 : Int32) + (1 : Int32)) + (1 : Int32)) + (1 : Int32)) + (1 : Int32))) ∧ ∃ f', own_Ar Z h a2 .byte 256 f'
set_option maxRecDepth 65536 in
set_option maxHeartbeats 40000000 in
theorem rmw32 (l : Launch) (Z : State) (a0 : Array Value) (hw : ∀ d ∈ tables_1, d.before a0 Z = true) (ws : List Jvm.Cond) (a1 : Addr) (a2 : Addr) (p2 : Int32) (fl : Int32) (f : Nat → Value) (h0 : Heap) (n0 : Nat) (Z0 : n0 ≤ h0.size) (E_a1 : Exa Z h0 a1 "com/example/ply2/ply2/protocol/ProtocolWriter") (F_bytes_a1 : Fld Z h0 a1 "com/example/ply2/ply2/protocol/ProtocolWriter" "bytes" "[B" (.ref a2)) (F_flexible_a1 : Fld Z h0 a1 "com/example/ply2/ply2/protocol/ProtocolWriter" "flexible" "Z" (.int fl)) (F_maxBytes_a1 : Fld Z h0 a1 "com/example/ply2/ply2/protocol/ProtocolWriter" "maxBytes" "I" (.int (2147483647 : Int32))) (F_size_a1 : Fld Z h0 a1 "com/example/ply2/ply2/protocol/ProtocolWriter" "size" "I" (.int (0 : Int32))) (V_a2 : own_Ar Z h0 a2 .byte 256 f) (ne12 : a1 ≠ a2) (g_a1 : n0 ≤ a1) (g_a2 : n0 ≤ a2) :
    own_Ctr l Z (⟨"com/example/ply2/ply2/protocol/ProtocolWriter", "writeInt32", "(I)V"⟩ : MethodName) prog_229_method_5_code 2 none ws ({ frames := 1, cells := 0, slots := 0, locals := 15 } : Room) #[(.ref a1), (.int p2)] h0 (Q_rmw32 Z a1 a2 p2 fl f h0 n0) := by
  refine own_enter (plainFor_of_name own_pn0) ?_
  intro p e s m below meth c s₁ X0 hx hby hml hrt hlk hZ hown hnm e0
  have N0 := Fr.nil n0
  have Zs := Z0
  have K0 := Keep.refl h0 [a1, a2]
  rw [show entryFrame m #[(.ref a1), (.int p2)] 2 = mkF m 0 #[.val (.ref a1), .val (.int p2)] [] from by first | (simp [entryFrame, mkF, argsToLocals, Value.category]; done) | rfl]
  show own_Wp _ _ _ _ (s₁.setTop (mkF m 0 #[.val (.ref a1), .val (.int p2)] []))
  refine own_of (fun tgt kon => XS.aloadN X0.here hx rfl (hb hby d8_0) rfl rfl kon) ?_
  show own_Wp _ _ _ _ (s₁.setTop (mkF m 1 #[.val (.ref a1), .val (.int p2)] [(.ref a1)]))
  refine own_of (fun tgt kon => XS.iconst X0.here hx rfl (hb hby d8_1) kon) ?_
  show own_Wp _ _ _ _ (s₁.setTop (mkF m 2 #[.val (.ref a1), .val (.int p2)] [(.int (4 : Int32)), (.ref a1)]))
  refine own_callP X0 hx hZ (y := (⟨"com/example/ply2/ply2/protocol/ProtocolWriter", "ensure", "(I)V"⟩ : MethodName)) (a := a1) (argsL := [(.int (4 : Int32))]) (rest := []) (W := 0) hown (hw _ (List.mem_of_getElem? (i := 42) rfl)) (hw _ (List.mem_of_getElem? (i := 43) rfl)) (hw _ (List.mem_of_getElem? (i := 10) rfl)) (hw _ (List.mem_of_getElem? (i := 44) rfl)) (hw _ (List.mem_of_getElem? (i := 2) rfl)) (hw _ (List.mem_of_getElem? (i := 45) rfl)) (by decide) e0 E_a1 (rmen l Z a0 hw [] a1 a2 (4 : Int32) fl (0 : Int32) f h0 n0 Zs E_a1 F_bytes_a1 F_flexible_a1 F_maxBytes_a1 F_size_a1 V_a2 (by decide) (by decide) (by decide)) (by decide) (by decide) (by decide) (by decide) (g := (mkF m 2 #[.val (.ref a1), .val (.int p2)] [(.int (4 : Int32)), (.ref a1)])) rfl (by rw [hml]; rfl) (lenOf own_pd0 rfl) rfl (by show 2 * 0 + _ ≤ _; exact Nat.le_of_eq rfl) (hb hby d8_2) ?_
  rintro T1 L1 _ X1 ⟨rfl, N1q, e1⟩
  have N1 := Fr.app N0 N1q
  show own_Wp _ _ _ _ (T1.setTop (mkF m 5 #[.val (.ref a1), .val (.int p2)] []))
  refine own_of (fun tgt kon => XS.aloadN X1.here hx rfl (hb hby d8_5) rfl rfl kon) ?_
  show own_Wp _ _ _ _ (T1.setTop (mkF m 6 #[.val (.ref a1), .val (.int p2)] [(.ref a1)]))
  obtain ⟨T2, X2, e2, st2⟩ := getF X1 hx hZ hown (host := "") (Or.inl (hw _ (List.mem_of_getElem? (i := 22) rfl))) Via.refl e1 F_bytes_a1 (g := (mkF m 6 #[.val (.ref a1), .val (.int p2)] [(.ref a1)])) rfl rfl (hb hby d8_6)
  refine own_of st2 ?_
  show own_Wp _ _ _ _ (T2.setTop (mkF m 9 #[.val (.ref a1), .val (.int p2)] [(.ref a2)]))
  refine own_of (fun tgt kon => XS.aloadN X2.here hx rfl (hb hby d8_9) rfl rfl kon) ?_
  show own_Wp _ _ _ _ (T2.setTop (mkF m 10 #[.val (.ref a1), .val (.int p2)] [(.ref a1), (.ref a2)]))
  refine own_of (fun tgt kon => XS.dup X2.here hx rfl (hb hby d8_10) rfl rfl kon) ?_
  show own_Wp _ _ _ _ (T2.setTop (mkF m 11 #[.val (.ref a1), .val (.int p2)] [(.ref a1), (.ref a1), (.ref a2)]))
  obtain ⟨T3, X3, e3, st3⟩ := getF X2 hx hZ hown (host := "") (Or.inl (hw _ (List.mem_of_getElem? (i := 46) rfl))) Via.refl e2 F_size_a1 (g := (mkF m 11 #[.val (.ref a1), .val (.int p2)] [(.ref a1), (.ref a1), (.ref a2)])) rfl rfl (hb hby d8_11)
  refine own_of st3 ?_
  show own_Wp _ _ _ _ (T3.setTop (mkF m 14 #[.val (.ref a1), .val (.int p2)] [(.int (0 : Int32)), (.ref a1), (.ref a2)]))
  refine own_of (fun tgt kon => XS.dupX1 X3.here hx rfl (hb hby d8_14) rfl rfl rfl kon) ?_
  show own_Wp _ _ _ _ (T3.setTop (mkF m 15 #[.val (.ref a1), .val (.int p2)] [(.int (0 : Int32)), (.ref a1), (.int (0 : Int32)), (.ref a2)]))
  refine own_of (fun tgt kon => XS.iconst X3.here hx rfl (hb hby d8_15) kon) ?_
  show own_Wp _ _ _ _ (T3.setTop (mkF m 16 #[.val (.ref a1), .val (.int p2)] [(.int (1 : Int32)), (.int (0 : Int32)), (.ref a1), (.int (0 : Int32)), (.ref a2)]))
  refine own_of (fun tgt kon => XS.iadd X3.here hx rfl (hb hby d8_16) rfl kon) ?_
  show own_Wp _ _ _ _ (T3.setTop (mkF m 17 #[.val (.ref a1), .val (.int p2)] [(.int ((0 : Int32) + (1 : Int32))), (.ref a1), (.int (0 : Int32)), (.ref a2)]))
  obtain ⟨T4, h4, X4, e4, W4, st4⟩ := putF X3 hx hZ hown (host := "") (Or.inl (hw _ (List.mem_of_getElem? (i := 46) rfl))) Via.refl e3 F_size_a1 E_a1 (Or.inl (hw _ (List.mem_of_getElem? (i := 47) rfl))) (hw _ (List.mem_of_getElem? (i := 10) rfl)) (ty := .int) (by decide) rfl rfl (g := (mkF m 17 #[.val (.ref a1), .val (.int p2)] [(.int ((0 : Int32) + (1 : Int32))), (.ref a1), (.int (0 : Int32)), (.ref a2)])) rfl rfl (hb hby d8_17)
  refine own_of st4 ?_
  have Fq4 := Fld.same W4 F_size_a1
  have Zs := Nat.le_trans Zs (Keep.of_wr W4).1
  have K0 := K0.wr W4 (Or.inl (List.mem_of_getElem? (i := 0) rfl))
  have E_a1 := E_a1.wr W4
  have F_bytes_a1 := F_bytes_a1.other W4 (Or.inr (slot_ne (Or.inl (hw _ (List.mem_of_getElem? (i := 23) rfl))) (Or.inl (hw _ (List.mem_of_getElem? (i := 47) rfl))) (by decide) (t := (.array .byte)) (t' := .int) (by decide) (by decide)))
  have F_flexible_a1 := F_flexible_a1.other W4 (Or.inr (slot_ne (Or.inr (hw _ (List.mem_of_getElem? (i := 25) rfl))) (Or.inl (hw _ (List.mem_of_getElem? (i := 47) rfl))) (by decide) (t := .boolean) (t' := .int) (by decide) (by decide)))
  have F_maxBytes_a1 := F_maxBytes_a1.other W4 (Or.inr (slot_ne (Or.inr (hw _ (List.mem_of_getElem? (i := 27) rfl))) (Or.inl (hw _ (List.mem_of_getElem? (i := 47) rfl))) (by decide) (t := .int) (t' := .int) (by decide) (by decide)))
  have V_a2 := V_a2.other W4 (Ne.symm ne12)
  have F_size_a1 := Fq4
  have N4 := Fr.snoc X4 N1 g_a1
  show own_Wp _ _ _ _ (T4.setTop (mkF m 20 #[.val (.ref a1), .val (.int p2)] [(.int (0 : Int32)), (.ref a2)]))
  refine own_of (fun tgt kon => XS.iloadN X4.here hx rfl (hb hby d8_20) rfl kon) ?_
  show own_Wp _ _ _ _ (T4.setTop (mkF m 21 #[.val (.ref a1), .val (.int p2)] [(.int p2), (.int (0 : Int32)), (.ref a2)]))
  refine own_of (fun tgt kon => XS.bipush X4.here hx rfl (hb hby d8_21) kon) ?_
  show own_Wp _ _ _ _ (T4.setTop (mkF m 23 #[.val (.ref a1), .val (.int p2)] [(.int (24 : Int32)), (.int p2), (.int (0 : Int32)), (.ref a2)]))
  refine own_of (fun tgt kon => XS.ishr X4.here hx rfl (hb hby d8_23) rfl kon) ?_
  show own_Wp _ _ _ _ (T4.setTop (mkF m 24 #[.val (.ref a1), .val (.int p2)] [(.int (p2 >>> ((24 : Int32) &&& 31))), (.int (0 : Int32)), (.ref a2)]))
  refine own_of (fun tgt kon => XS.i2b X4.here hx rfl (hb hby d8_24) rfl kon) ?_
  show own_Wp _ _ _ _ (T4.setTop (mkF m 25 #[.val (.ref a1), .val (.int p2)] [(.int ((p2 >>> ((24 : Int32) &&& 31)).toInt8.toInt32)), (.int (0 : Int32)), (.ref a2)]))
  obtain ⟨T5, h5, X5, e5, W5, Aq5, st5⟩ := own_stB X4 hx hZ e4 V_a2 (j := (0 : Int32)) (i := 0) (x := ((p2 >>> ((24 : Int32) &&& 31)).toInt8.toInt32)) (by decide) (by decide) (g := (mkF m 25 #[.val (.ref a1), .val (.int p2)] [(.int ((p2 >>> ((24 : Int32) &&& 31)).toInt8.toInt32)), (.int (0 : Int32)), (.ref a2)])) rfl rfl (hb hby d8_25)
  refine own_of st5 ?_
  have Zs := Nat.le_trans Zs (Keep.of_wr W5).1
  have K0 := K0.wr W5 (Or.inl (List.mem_of_getElem? (i := 1) rfl))
  have E_a1 := E_a1.wr W5
  have F_bytes_a1 := F_bytes_a1.other W5 (Or.inl ne12)
  have F_flexible_a1 := F_flexible_a1.other W5 (Or.inl ne12)
  have F_maxBytes_a1 := F_maxBytes_a1.other W5 (Or.inl ne12)
  have F_size_a1 := F_size_a1.other W5 (Or.inl ne12)
  have V_a2 := Aq5
  have N5 := Fr.snoc X5 N4 g_a2
  show own_Wp _ _ _ _ (T5.setTop (mkF m 26 #[.val (.ref a1), .val (.int p2)] []))
  refine own_of (fun tgt kon => XS.aloadN X5.here hx rfl (hb hby d8_26) rfl rfl kon) ?_
  show own_Wp _ _ _ _ (T5.setTop (mkF m 27 #[.val (.ref a1), .val (.int p2)] [(.ref a1)]))
  obtain ⟨T6, X6, e6, st6⟩ := getF X5 hx hZ hown (host := "") (Or.inl (hw _ (List.mem_of_getElem? (i := 22) rfl))) Via.refl e5 F_bytes_a1 (g := (mkF m 27 #[.val (.ref a1), .val (.int p2)] [(.ref a1)])) rfl rfl (hb hby d8_27)
  refine own_of st6 ?_
  show own_Wp _ _ _ _ (T6.setTop (mkF m 30 #[.val (.ref a1), .val (.int p2)] [(.ref a2)]))
  refine own_of (fun tgt kon => XS.aloadN X6.here hx rfl (hb hby d8_30) rfl rfl kon) ?_
  show own_Wp _ _ _ _ (T6.setTop (mkF m 31 #[.val (.ref a1), .val (.int p2)] [(.ref a1), (.ref a2)]))
  refine own_of (fun tgt kon => XS.dup X6.here hx rfl (hb hby d8_31) rfl rfl kon) ?_
  show own_Wp _ _ _ _ (T6.setTop (mkF m 32 #[.val (.ref a1), .val (.int p2)] [(.ref a1), (.ref a1), (.ref a2)]))
  obtain ⟨T7, X7, e7, st7⟩ := getF X6 hx hZ hown (host := "") (Or.inl (hw _ (List.mem_of_getElem? (i := 46) rfl))) Via.refl e6 F_size_a1 (g := (mkF m 32 #[.val (.ref a1), .val (.int p2)] [(.ref a1), (.ref a1), (.ref a2)])) rfl rfl (hb hby d8_32)
  refine own_of st7 ?_
  show own_Wp _ _ _ _ (T7.setTop (mkF m 35 #[.val (.ref a1), .val (.int p2)] [(.int ((0 : Int32) + (1 : Int32))), (.ref a1), (.ref a2)]))
  refine own_of (fun tgt kon => XS.dupX1 X7.here hx rfl (hb hby d8_35) rfl rfl rfl kon) ?_
  show own_Wp _ _ _ _ (T7.setTop (mkF m 36 #[.val (.ref a1), .val (.int p2)] [(.int ((0 : Int32) + (1 : Int32))), (.ref a1), (.int ((0 : Int32) + (1 : Int32))), (.ref a2)]))
  refine own_of (fun tgt kon => XS.iconst X7.here hx rfl (hb hby d8_36) kon) ?_
  show own_Wp _ _ _ _ (T7.setTop (mkF m 37 #[.val (.ref a1), .val (.int p2)] [(.int (1 : Int32)), (.int ((0 : Int32) + (1 : Int32))), (.ref a1), (.int ((0 : Int32) + (1 : Int32))), (.ref a2)]))
  refine own_of (fun tgt kon => XS.iadd X7.here hx rfl (hb hby d8_37) rfl kon) ?_
  show own_Wp _ _ _ _ (T7.setTop (mkF m 38 #[.val (.ref a1), .val (.int p2)] [(.int (((0 : Int32) + (1 : Int32)) + (1 : Int32))), (.ref a1), (.int ((0 : Int32) + (1 : Int32))), (.ref a2)]))
  obtain ⟨T8, h8, X8, e8, W8, st8⟩ := putF X7 hx hZ hown (host := "") (Or.inl (hw _ (List.mem_of_getElem? (i := 46) rfl))) Via.refl e7 F_size_a1 E_a1 (Or.inl (hw _ (List.mem_of_getElem? (i := 47) rfl))) (hw _ (List.mem_of_getElem? (i := 10) rfl)) (ty := .int) (by decide) rfl rfl (g := (mkF m 38 #[.val (.ref a1), .val (.int p2)] [(.int (((0 : Int32) + (1 : Int32)) + (1 : Int32))), (.ref a1), (.int ((0 : Int32) + (1 : Int32))), (.ref a2)])) rfl rfl (hb hby d8_38)
  refine own_of st8 ?_
  have Fq8 := Fld.same W8 F_size_a1
  have Zs := Nat.le_trans Zs (Keep.of_wr W8).1
  have K0 := K0.wr W8 (Or.inl (List.mem_of_getElem? (i := 0) rfl))
  have E_a1 := E_a1.wr W8
  have F_bytes_a1 := F_bytes_a1.other W8 (Or.inr (slot_ne (Or.inl (hw _ (List.mem_of_getElem? (i := 23) rfl))) (Or.inl (hw _ (List.mem_of_getElem? (i := 47) rfl))) (by decide) (t := (.array .byte)) (t' := .int) (by decide) (by decide)))
  have F_flexible_a1 := F_flexible_a1.other W8 (Or.inr (slot_ne (Or.inr (hw _ (List.mem_of_getElem? (i := 25) rfl))) (Or.inl (hw _ (List.mem_of_getElem? (i := 47) rfl))) (by decide) (t := .boolean) (t' := .int) (by decide) (by decide)))
  have F_maxBytes_a1 := F_maxBytes_a1.other W8 (Or.inr (slot_ne (Or.inr (hw _ (List.mem_of_getElem? (i := 27) rfl))) (Or.inl (hw _ (List.mem_of_getElem? (i := 47) rfl))) (by decide) (t := .int) (t' := .int) (by decide) (by decide)))
  have V_a2 := V_a2.other W8 (Ne.symm ne12)
  have F_size_a1 := Fq8
  have N8 := Fr.snoc X8 N5 g_a1
  show own_Wp _ _ _ _ (T8.setTop (mkF m 41 #[.val (.ref a1), .val (.int p2)] [(.int ((0 : Int32) + (1 : Int32))), (.ref a2)]))
  refine own_of (fun tgt kon => XS.iloadN X8.here hx rfl (hb hby d8_41) rfl kon) ?_
  show own_Wp _ _ _ _ (T8.setTop (mkF m 42 #[.val (.ref a1), .val (.int p2)] [(.int p2), (.int ((0 : Int32) + (1 : Int32))), (.ref a2)]))
  refine own_of (fun tgt kon => XS.bipush X8.here hx rfl (hb hby d8_42) kon) ?_
  show own_Wp _ _ _ _ (T8.setTop (mkF m 44 #[.val (.ref a1), .val (.int p2)] [(.int (16 : Int32)), (.int p2), (.int ((0 : Int32) + (1 : Int32))), (.ref a2)]))
  refine own_of (fun tgt kon => XS.ishr X8.here hx rfl (hb hby d8_44) rfl kon) ?_
  show own_Wp _ _ _ _ (T8.setTop (mkF m 45 #[.val (.ref a1), .val (.int p2)] [(.int (p2 >>> ((16 : Int32) &&& 31))), (.int ((0 : Int32) + (1 : Int32))), (.ref a2)]))
  refine own_of (fun tgt kon => XS.i2b X8.here hx rfl (hb hby d8_45) rfl kon) ?_
  show own_Wp _ _ _ _ (T8.setTop (mkF m 46 #[.val (.ref a1), .val (.int p2)] [(.int ((p2 >>> ((16 : Int32) &&& 31)).toInt8.toInt32)), (.int ((0 : Int32) + (1 : Int32))), (.ref a2)]))
  obtain ⟨T9, h9, X9, e9, W9, Aq9, st9⟩ := own_stB X8 hx hZ e8 V_a2 (j := ((0 : Int32) + (1 : Int32))) (i := 1) (x := ((p2 >>> ((16 : Int32) &&& 31)).toInt8.toInt32)) (by decide) (by decide) (g := (mkF m 46 #[.val (.ref a1), .val (.int p2)] [(.int ((p2 >>> ((16 : Int32) &&& 31)).toInt8.toInt32)), (.int ((0 : Int32) + (1 : Int32))), (.ref a2)])) rfl rfl (hb hby d8_46)
  refine own_of st9 ?_
  have Zs := Nat.le_trans Zs (Keep.of_wr W9).1
  have K0 := K0.wr W9 (Or.inl (List.mem_of_getElem? (i := 1) rfl))
  have E_a1 := E_a1.wr W9
  have F_bytes_a1 := F_bytes_a1.other W9 (Or.inl ne12)
  have F_flexible_a1 := F_flexible_a1.other W9 (Or.inl ne12)
  have F_maxBytes_a1 := F_maxBytes_a1.other W9 (Or.inl ne12)
  have F_size_a1 := F_size_a1.other W9 (Or.inl ne12)
  have V_a2 := Aq9
  have N9 := Fr.snoc X9 N8 g_a2
  show own_Wp _ _ _ _ (T9.setTop (mkF m 47 #[.val (.ref a1), .val (.int p2)] []))
  refine own_of (fun tgt kon => XS.aloadN X9.here hx rfl (hb hby d8_47) rfl rfl kon) ?_
  show own_Wp _ _ _ _ (T9.setTop (mkF m 48 #[.val (.ref a1), .val (.int p2)] [(.ref a1)]))
  obtain ⟨T10, X10, e10, st10⟩ := getF X9 hx hZ hown (host := "") (Or.inl (hw _ (List.mem_of_getElem? (i := 22) rfl))) Via.refl e9 F_bytes_a1 (g := (mkF m 48 #[.val (.ref a1), .val (.int p2)] [(.ref a1)])) rfl rfl (hb hby d8_48)
  refine own_of st10 ?_
  show own_Wp _ _ _ _ (T10.setTop (mkF m 51 #[.val (.ref a1), .val (.int p2)] [(.ref a2)]))
  refine own_of (fun tgt kon => XS.aloadN X10.here hx rfl (hb hby d8_51) rfl rfl kon) ?_
  show own_Wp _ _ _ _ (T10.setTop (mkF m 52 #[.val (.ref a1), .val (.int p2)] [(.ref a1), (.ref a2)]))
  refine own_of (fun tgt kon => XS.dup X10.here hx rfl (hb hby d8_52) rfl rfl kon) ?_
  show own_Wp _ _ _ _ (T10.setTop (mkF m 53 #[.val (.ref a1), .val (.int p2)] [(.ref a1), (.ref a1), (.ref a2)]))
  obtain ⟨T11, X11, e11, st11⟩ := getF X10 hx hZ hown (host := "") (Or.inl (hw _ (List.mem_of_getElem? (i := 46) rfl))) Via.refl e10 F_size_a1 (g := (mkF m 53 #[.val (.ref a1), .val (.int p2)] [(.ref a1), (.ref a1), (.ref a2)])) rfl rfl (hb hby d8_53)
  refine own_of st11 ?_
  show own_Wp _ _ _ _ (T11.setTop (mkF m 56 #[.val (.ref a1), .val (.int p2)] [(.int (((0 : Int32) + (1 : Int32)) + (1 : Int32))), (.ref a1), (.ref a2)]))
  refine own_of (fun tgt kon => XS.dupX1 X11.here hx rfl (hb hby d8_56) rfl rfl rfl kon) ?_
  show own_Wp _ _ _ _ (T11.setTop (mkF m 57 #[.val (.ref a1), .val (.int p2)] [(.int (((0 : Int32) + (1 : Int32)) + (1 : Int32))), (.ref a1), (.int (((0 : Int32) + (1 : Int32)) + (1 : Int32))), (.ref a2)]))
  refine own_of (fun tgt kon => XS.iconst X11.here hx rfl (hb hby d8_57) kon) ?_
  show own_Wp _ _ _ _ (T11.setTop (mkF m 58 #[.val (.ref a1), .val (.int p2)] [(.int (1 : Int32)), (.int (((0 : Int32) + (1 : Int32)) + (1 : Int32))), (.ref a1), (.int (((0 : Int32) + (1 : Int32)) + (1 : Int32))), (.ref a2)]))
  refine own_of (fun tgt kon => XS.iadd X11.here hx rfl (hb hby d8_58) rfl kon) ?_
  show own_Wp _ _ _ _ (T11.setTop (mkF m 59 #[.val (.ref a1), .val (.int p2)] [(.int ((((0 : Int32) + (1 : Int32)) + (1 : Int32)) + (1 : Int32))), (.ref a1), (.int (((0 : Int32) + (1 : Int32)) + (1 : Int32))), (.ref a2)]))
  obtain ⟨T12, h12, X12, e12, W12, st12⟩ := putF X11 hx hZ hown (host := "") (Or.inl (hw _ (List.mem_of_getElem? (i := 46) rfl))) Via.refl e11 F_size_a1 E_a1 (Or.inl (hw _ (List.mem_of_getElem? (i := 47) rfl))) (hw _ (List.mem_of_getElem? (i := 10) rfl)) (ty := .int) (by decide) rfl rfl (g := (mkF m 59 #[.val (.ref a1), .val (.int p2)] [(.int ((((0 : Int32) + (1 : Int32)) + (1 : Int32)) + (1 : Int32))), (.ref a1), (.int (((0 : Int32) + (1 : Int32)) + (1 : Int32))), (.ref a2)])) rfl rfl (hb hby d8_59)
  refine own_of st12 ?_
  have Fq12 := Fld.same W12 F_size_a1
  have Zs := Nat.le_trans Zs (Keep.of_wr W12).1
  have K0 := K0.wr W12 (Or.inl (List.mem_of_getElem? (i := 0) rfl))
  have E_a1 := E_a1.wr W12
  have F_bytes_a1 := F_bytes_a1.other W12 (Or.inr (slot_ne (Or.inl (hw _ (List.mem_of_getElem? (i := 23) rfl))) (Or.inl (hw _ (List.mem_of_getElem? (i := 47) rfl))) (by decide) (t := (.array .byte)) (t' := .int) (by decide) (by decide)))
  have F_flexible_a1 := F_flexible_a1.other W12 (Or.inr (slot_ne (Or.inr (hw _ (List.mem_of_getElem? (i := 25) rfl))) (Or.inl (hw _ (List.mem_of_getElem? (i := 47) rfl))) (by decide) (t := .boolean) (t' := .int) (by decide) (by decide)))
  have F_maxBytes_a1 := F_maxBytes_a1.other W12 (Or.inr (slot_ne (Or.inr (hw _ (List.mem_of_getElem? (i := 27) rfl))) (Or.inl (hw _ (List.mem_of_getElem? (i := 47) rfl))) (by decide) (t := .int) (t' := .int) (by decide) (by decide)))
  have V_a2 := V_a2.other W12 (Ne.symm ne12)
  have F_size_a1 := Fq12
  have N12 := Fr.snoc X12 N9 g_a1
  show own_Wp _ _ _ _ (T12.setTop (mkF m 62 #[.val (.ref a1), .val (.int p2)] [(.int (((0 : Int32) + (1 : Int32)) + (1 : Int32))), (.ref a2)]))
  refine own_of (fun tgt kon => XS.iloadN X12.here hx rfl (hb hby d8_62) rfl kon) ?_
  show own_Wp _ _ _ _ (T12.setTop (mkF m 63 #[.val (.ref a1), .val (.int p2)] [(.int p2), (.int (((0 : Int32) + (1 : Int32)) + (1 : Int32))), (.ref a2)]))
  refine own_of (fun tgt kon => XS.bipush X12.here hx rfl (hb hby d8_63) kon) ?_
  show own_Wp _ _ _ _ (T12.setTop (mkF m 65 #[.val (.ref a1), .val (.int p2)] [(.int (8 : Int32)), (.int p2), (.int (((0 : Int32) + (1 : Int32)) + (1 : Int32))), (.ref a2)]))
  refine own_of (fun tgt kon => XS.ishr X12.here hx rfl (hb hby d8_65) rfl kon) ?_
  show own_Wp _ _ _ _ (T12.setTop (mkF m 66 #[.val (.ref a1), .val (.int p2)] [(.int (p2 >>> ((8 : Int32) &&& 31))), (.int (((0 : Int32) + (1 : Int32)) + (1 : Int32))), (.ref a2)]))
  refine own_of (fun tgt kon => XS.i2b X12.here hx rfl (hb hby d8_66) rfl kon) ?_
  show own_Wp _ _ _ _ (T12.setTop (mkF m 67 #[.val (.ref a1), .val (.int p2)] [(.int ((p2 >>> ((8 : Int32) &&& 31)).toInt8.toInt32)), (.int (((0 : Int32) + (1 : Int32)) + (1 : Int32))), (.ref a2)]))
  obtain ⟨T13, h13, X13, e13, W13, Aq13, st13⟩ := own_stB X12 hx hZ e12 V_a2 (j := (((0 : Int32) + (1 : Int32)) + (1 : Int32))) (i := 2) (x := ((p2 >>> ((8 : Int32) &&& 31)).toInt8.toInt32)) (by decide) (by decide) (g := (mkF m 67 #[.val (.ref a1), .val (.int p2)] [(.int ((p2 >>> ((8 : Int32) &&& 31)).toInt8.toInt32)), (.int (((0 : Int32) + (1 : Int32)) + (1 : Int32))), (.ref a2)])) rfl rfl (hb hby d8_67)
  refine own_of st13 ?_
  have Zs := Nat.le_trans Zs (Keep.of_wr W13).1
  have K0 := K0.wr W13 (Or.inl (List.mem_of_getElem? (i := 1) rfl))
  have E_a1 := E_a1.wr W13
  have F_bytes_a1 := F_bytes_a1.other W13 (Or.inl ne12)
  have F_flexible_a1 := F_flexible_a1.other W13 (Or.inl ne12)
  have F_maxBytes_a1 := F_maxBytes_a1.other W13 (Or.inl ne12)
  have F_size_a1 := F_size_a1.other W13 (Or.inl ne12)
  have V_a2 := Aq13
  have N13 := Fr.snoc X13 N12 g_a2
  show own_Wp _ _ _ _ (T13.setTop (mkF m 68 #[.val (.ref a1), .val (.int p2)] []))
  refine own_of (fun tgt kon => XS.aloadN X13.here hx rfl (hb hby d8_68) rfl rfl kon) ?_
  show own_Wp _ _ _ _ (T13.setTop (mkF m 69 #[.val (.ref a1), .val (.int p2)] [(.ref a1)]))
  obtain ⟨T14, X14, e14, st14⟩ := getF X13 hx hZ hown (host := "") (Or.inl (hw _ (List.mem_of_getElem? (i := 22) rfl))) Via.refl e13 F_bytes_a1 (g := (mkF m 69 #[.val (.ref a1), .val (.int p2)] [(.ref a1)])) rfl rfl (hb hby d8_69)
  refine own_of st14 ?_
  show own_Wp _ _ _ _ (T14.setTop (mkF m 72 #[.val (.ref a1), .val (.int p2)] [(.ref a2)]))
  refine own_of (fun tgt kon => XS.aloadN X14.here hx rfl (hb hby d8_72) rfl rfl kon) ?_
  show own_Wp _ _ _ _ (T14.setTop (mkF m 73 #[.val (.ref a1), .val (.int p2)] [(.ref a1), (.ref a2)]))
  refine own_of (fun tgt kon => XS.dup X14.here hx rfl (hb hby d8_73) rfl rfl kon) ?_
  show own_Wp _ _ _ _ (T14.setTop (mkF m 74 #[.val (.ref a1), .val (.int p2)] [(.ref a1), (.ref a1), (.ref a2)]))
  obtain ⟨T15, X15, e15, st15⟩ := getF X14 hx hZ hown (host := "") (Or.inl (hw _ (List.mem_of_getElem? (i := 46) rfl))) Via.refl e14 F_size_a1 (g := (mkF m 74 #[.val (.ref a1), .val (.int p2)] [(.ref a1), (.ref a1), (.ref a2)])) rfl rfl (hb hby d8_74)
  refine own_of st15 ?_
  show own_Wp _ _ _ _ (T15.setTop (mkF m 77 #[.val (.ref a1), .val (.int p2)] [(.int ((((0 : Int32) + (1 : Int32)) + (1 : Int32)) + (1 : Int32))), (.ref a1), (.ref a2)]))
  refine own_of (fun tgt kon => XS.dupX1 X15.here hx rfl (hb hby d8_77) rfl rfl rfl kon) ?_
  show own_Wp _ _ _ _ (T15.setTop (mkF m 78 #[.val (.ref a1), .val (.int p2)] [(.int ((((0 : Int32) + (1 : Int32)) + (1 : Int32)) + (1 : Int32))), (.ref a1), (.int ((((0 : Int32) + (1 : Int32)) + (1 : Int32)) + (1 : Int32))), (.ref a2)]))
  refine own_of (fun tgt kon => XS.iconst X15.here hx rfl (hb hby d8_78) kon) ?_
  show own_Wp _ _ _ _ (T15.setTop (mkF m 79 #[.val (.ref a1), .val (.int p2)] [(.int (1 : Int32)), (.int ((((0 : Int32) + (1 : Int32)) + (1 : Int32)) + (1 : Int32))), (.ref a1), (.int ((((0 : Int32) + (1 : Int32)) + (1 : Int32)) + (1 : Int32))), (.ref a2)]))
  refine own_of (fun tgt kon => XS.iadd X15.here hx rfl (hb hby d8_79) rfl kon) ?_
  show own_Wp _ _ _ _ (T15.setTop (mkF m 80 #[.val (.ref a1), .val (.int p2)] [(.int (((((0 : Int32) + (1 : Int32)) + (1 : Int32)) + (1 : Int32)) + (1 : Int32))), (.ref a1), (.int ((((0 : Int32) + (1 : Int32)) + (1 : Int32)) + (1 : Int32))), (.ref a2)]))
  obtain ⟨T16, h16, X16, e16, W16, st16⟩ := putF X15 hx hZ hown (host := "") (Or.inl (hw _ (List.mem_of_getElem? (i := 46) rfl))) Via.refl e15 F_size_a1 E_a1 (Or.inl (hw _ (List.mem_of_getElem? (i := 47) rfl))) (hw _ (List.mem_of_getElem? (i := 10) rfl)) (ty := .int) (by decide) rfl rfl (g := (mkF m 80 #[.val (.ref a1), .val (.int p2)] [(.int (((((0 : Int32) + (1 : Int32)) + (1 : Int32)) + (1 : Int32)) + (1 : Int32))), (.ref a1), (.int ((((0 : Int32) + (1 : Int32)) + (1 : Int32)) + (1 : Int32))), (.ref a2)])) rfl rfl (hb hby d8_80)
  refine own_of st16 ?_
  have Fq16 := Fld.same W16 F_size_a1
  have Zs := Nat.le_trans Zs (Keep.of_wr W16).1
  have K0 := K0.wr W16 (Or.inl (List.mem_of_getElem? (i := 0) rfl))
  have E_a1 := E_a1.wr W16
  have F_bytes_a1 := F_bytes_a1.other W16 (Or.inr (slot_ne (Or.inl (hw _ (List.mem_of_getElem? (i := 23) rfl))) (Or.inl (hw _ (List.mem_of_getElem? (i := 47) rfl))) (by decide) (t := (.array .byte)) (t' := .int) (by decide) (by decide)))
  have F_flexible_a1 := F_flexible_a1.other W16 (Or.inr (slot_ne (Or.inr (hw _ (List.mem_of_getElem? (i := 25) rfl))) (Or.inl (hw _ (List.mem_of_getElem? (i := 47) rfl))) (by decide) (t := .boolean) (t' := .int) (by decide) (by decide)))
  have F_maxBytes_a1 := F_maxBytes_a1.other W16 (Or.inr (slot_ne (Or.inr (hw _ (List.mem_of_getElem? (i := 27) rfl))) (Or.inl (hw _ (List.mem_of_getElem? (i := 47) rfl))) (by decide) (t := .int) (t' := .int) (by decide) (by decide)))
  have V_a2 := V_a2.other W16 (Ne.symm ne12)
  have F_size_a1 := Fq16
  have N16 := Fr.snoc X16 N13 g_a1
  show own_Wp _ _ _ _ (T16.setTop (mkF m 83 #[.val (.ref a1), .val (.int p2)] [(.int ((((0 : Int32) + (1 : Int32)) + (1 : Int32)) + (1 : Int32))), (.ref a2)]))
  refine own_of (fun tgt kon => XS.iloadN X16.here hx rfl (hb hby d8_83) rfl kon) ?_
  show own_Wp _ _ _ _ (T16.setTop (mkF m 84 #[.val (.ref a1), .val (.int p2)] [(.int p2), (.int ((((0 : Int32) + (1 : Int32)) + (1 : Int32)) + (1 : Int32))), (.ref a2)]))
  refine own_of (fun tgt kon => XS.i2b X16.here hx rfl (hb hby d8_84) rfl kon) ?_
  show own_Wp _ _ _ _ (T16.setTop (mkF m 85 #[.val (.ref a1), .val (.int p2)] [(.int (p2.toInt8.toInt32)), (.int ((((0 : Int32) + (1 : Int32)) + (1 : Int32)) + (1 : Int32))), (.ref a2)]))
  obtain ⟨T17, h17, X17, e17, W17, Aq17, st17⟩ := own_stB X16 hx hZ e16 V_a2 (j := ((((0 : Int32) + (1 : Int32)) + (1 : Int32)) + (1 : Int32))) (i := 3) (x := (p2.toInt8.toInt32)) (by decide) (by decide) (g := (mkF m 85 #[.val (.ref a1), .val (.int p2)] [(.int (p2.toInt8.toInt32)), (.int ((((0 : Int32) + (1 : Int32)) + (1 : Int32)) + (1 : Int32))), (.ref a2)])) rfl rfl (hb hby d8_85)
  refine own_of st17 ?_
  have Zs := Nat.le_trans Zs (Keep.of_wr W17).1
  have K0 := K0.wr W17 (Or.inl (List.mem_of_getElem? (i := 1) rfl))
  have E_a1 := E_a1.wr W17
  have F_bytes_a1 := F_bytes_a1.other W17 (Or.inl ne12)
  have F_flexible_a1 := F_flexible_a1.other W17 (Or.inl ne12)
  have F_maxBytes_a1 := F_maxBytes_a1.other W17 (Or.inl ne12)
  have F_size_a1 := F_size_a1.other W17 (Or.inl ne12)
  have V_a2 := Aq17
  have N17 := Fr.snoc X17 N16 g_a2
  show own_Wp _ _ _ _ (T17.setTop (mkF m 86 #[.val (.ref a1), .val (.int p2)] []))
  refine own_ret X17 hlk none (fun _ => rfl) (fun fs hr => X17.returnOut hx hrt (hb hby d8_86) hr) ?_ (by decide) (by decide)
  rw [e17]
  exact ⟨rfl, N17, K0, E_a1, F_bytes_a1, F_flexible_a1, F_maxBytes_a1, F_size_a1, _, V_a2⟩
theorem d11_0 : decode prog_229_method_24_code 0 = .ok (.iload_n 1, 1) := by decide +kernel
theorem d11_1 : decode prog_229_method_24_code 1 = .ok (.istore_n 2, 1) := by decide +kernel
theorem d11_2 : decode prog_229_method_24_code 2 = .ok (.iload_n 2, 1) := by decide +kernel
theorem d11_3 : decode prog_229_method_24_code 3 = .ok (.bipush (-128), 2) := by decide +kernel
theorem d11_5 : decode prog_229_method_24_code 5 = .ok (.iand, 1) := by decide +kernel
theorem d11_6 : decode prog_229_method_24_code 6 = .ok (.ifCond .eq 24, 3) := by decide +kernel
theorem d11_30 : decode prog_229_method_24_code 30 = .ok (.aload_n 0, 1) := by decide +kernel
theorem d11_31 : decode prog_229_method_24_code 31 = .ok (.iload_n 2, 1) := by decide +kernel
theorem d11_32 : decode prog_229_method_24_code 32 = .ok (.i2b, 1) := by decide +kernel
theorem d11_33 : decode prog_229_method_24_code 33 = .ok (.invokevirtual 58, 3) := by decide +kernel
theorem own_pd1 : parseMethodDescriptor "(B)V" = some ⟨[.byte], none⟩ := by decide +kernel
theorem d11_36 : decode prog_229_method_24_code 36 = .ok (.return_, 1) := by decide +kernel
theorem d11_9 : decode prog_229_method_24_code 9 = .ok (.aload_n 0, 1) := by decide +kernel
theorem d11_10 : decode prog_229_method_24_code 10 = .ok (.iload_n 2, 1) := by decide +kernel
theorem d11_11 : decode prog_229_method_24_code 11 = .ok (.bipush 127, 2) := by decide +kernel
theorem d11_13 : decode prog_229_method_24_code 13 = .ok (.iand, 1) := by decide +kernel
theorem d11_14 : decode prog_229_method_24_code 14 = .ok (.sipush 128, 3) := by decide +kernel
theorem d11_17 : decode prog_229_method_24_code 17 = .ok (.ior, 1) := by decide +kernel
theorem d11_18 : decode prog_229_method_24_code 18 = .ok (.i2b, 1) := by decide +kernel
theorem d11_19 : decode prog_229_method_24_code 19 = .ok (.invokevirtual 58, 3) := by decide +kernel
theorem d11_22 : decode prog_229_method_24_code 22 = .ok (.iload_n 2, 1) := by decide +kernel
theorem d11_23 : decode prog_229_method_24_code 23 = .ok (.bipush 7, 2) := by decide +kernel
theorem d11_25 : decode prog_229_method_24_code 25 = .ok (.iushr, 1) := by decide +kernel
theorem d11_26 : decode prog_229_method_24_code 26 = .ok (.istore_n 2, 1) := by decide +kernel
theorem d11_27 : decode prog_229_method_24_code 27 = .ok (.goto (-25), 3) := by decide +kernel
def Q_rmwv (Z : State) (a1 : Addr) (a2 : Addr) (p2 : Int32) (fl : Int32) (f : Nat → Value) (h0 : Heap) (n0 : Nat) (v : Option Value) (h : Heap) (L : List Loc) : Prop := v = none ∧ Fr n0 L ∧ Keep h0 h [a1, a2] ∧ Exa Z h a1 "com/example/ply2/ply2/protocol/ProtocolWriter" ∧ Fld Z h a1 "com/example/ply2/ply2/protocol/ProtocolWriter" "bytes" "[B" (.ref a2) ∧ Fld Z h a1 "com/example/ply2/ply2/protocol/ProtocolWriter" "flexible" "Z" (.int fl) ∧ Fld Z h a1 "com/example/ply2/ply2/protocol/ProtocolWriter" "maxBytes" "I" (.int (2147483647 : Int32)) ∧ Fld Z h a1 "com/example/ply2/ply2/protocol/ProtocolWriter" "size" "I" (.int (own_nb (own_u p2))) ∧ ∃ f', own_Ar Z h a2 .byte 256 f'
set_option maxRecDepth 65536 in
set_option maxHeartbeats 40000000 in
theorem rmwv (l : Launch) (Z : State) (a0 : Array Value) (hw : ∀ d ∈ tables_1, d.before a0 Z = true) (ws : List Jvm.Cond) (a1 : Addr) (a2 : Addr) (p2 : Int32) (fl : Int32) (f : Nat → Value) (h0 : Heap) (n0 : Nat) (Z0 : n0 ≤ h0.size) (E_a1 : Exa Z h0 a1 "com/example/ply2/ply2/protocol/ProtocolWriter") (F_bytes_a1 : Fld Z h0 a1 "com/example/ply2/ply2/protocol/ProtocolWriter" "bytes" "[B" (.ref a2)) (F_flexible_a1 : Fld Z h0 a1 "com/example/ply2/ply2/protocol/ProtocolWriter" "flexible" "Z" (.int fl)) (F_maxBytes_a1 : Fld Z h0 a1 "com/example/ply2/ply2/protocol/ProtocolWriter" "maxBytes" "I" (.int (2147483647 : Int32))) (F_size_a1 : Fld Z h0 a1 "com/example/ply2/ply2/protocol/ProtocolWriter" "size" "I" (.int (0 : Int32))) (V_a2 : own_Ar Z h0 a2 .byte 256 f) (ne12 : a1 ≠ a2) (g_a1 : n0 ≤ a1) (g_a2 : n0 ≤ a2) :
    own_Ctr l Z (⟨"com/example/ply2/ply2/protocol/ProtocolWriter", "writeUnsignedVarint", "(I)V"⟩ : MethodName) prog_229_method_24_code 3 none ws ({ frames := 2, cells := 0, slots := 0, locals := 28 } : Room) #[(.ref a1), (.int p2)] h0 (Q_rmwv Z a1 a2 p2 fl f h0 n0) := by
  refine own_enter (plainFor_of_name own_pn0) ?_
  intro p e s m below meth c s₁ X0 hx hby hml hrt hlk hZ hown hnm e0
  have N0 := Fr.nil n0
  have Zs := Z0
  have K0 := Keep.refl h0 [a1, a2]
  rw [show entryFrame m #[(.ref a1), (.int p2)] 3 = mkF m 0 #[.val (.ref a1), .val (.int p2), .unset] [] from by first | (simp [entryFrame, mkF, argsToLocals, Value.category]; done) | rfl]
  show own_Wp _ _ _ _ (s₁.setTop (mkF m 0 #[.val (.ref a1), .val (.int p2), .unset] []))
  refine own_of (fun tgt kon => XS.iloadN X0.here hx rfl (hb hby d11_0) rfl kon) ?_
  show own_Wp _ _ _ _ (s₁.setTop (mkF m 1 #[.val (.ref a1), .val (.int p2), .unset] [(.int p2)]))
  refine own_of (fun tgt kon => XS.istoreN X0.here hx rfl (hb hby d11_1) rfl (l' := #[.val (.ref a1), .val (.int p2), .val (.int p2)]) rfl kon) ?_
  show own_Wp _ _ _ _ (s₁.setTop (mkF m 2 #[.val (.ref a1), .val (.int p2), .val (.int p2)] []))
  refine own_of (fun tgt kon => XS.iloadN X0.here hx rfl (hb hby d11_2) rfl kon) ?_
  show own_Wp _ _ _ _ (s₁.setTop (mkF m 3 #[.val (.ref a1), .val (.int p2), .val (.int p2)] [(.int p2)]))
  refine own_of (fun tgt kon => XS.bipush X0.here hx rfl (hb hby d11_3) kon) ?_
  show own_Wp _ _ _ _ (s₁.setTop (mkF m 5 #[.val (.ref a1), .val (.int p2), .val (.int p2)] [(.int (-128 : Int32)), (.int p2)]))
  refine own_of (fun tgt kon => XS.iand X0.here hx rfl (hb hby d11_5) rfl kon) ?_
  show own_Wp _ _ _ _ (s₁.setTop (mkF m 6 #[.val (.ref a1), .val (.int p2), .val (.int p2)] [(.int (p2 &&& (-128 : Int32)))]))
  have ul := own_u_lt p2
  by_cases hc6 : (p2 &&& (-128 : Int32)) = (0 : Int32)
  · skip
    refine own_of (fun tgt kon => XS.ifYes X0.here hx rfl (pc0 := 6) (pc' := 30) rfl (hb hby d11_6) rfl ((if0 _ _).trans (teq hc6).1) (by decide) (by decide) kon) ?_
    show own_Wp _ _ _ _ (s₁.setTop (mkF m 30 #[.val (.ref a1), .val (.int p2), .val (.int p2)] []))
    refine own_of (fun tgt kon => XS.aloadN X0.here hx rfl (hb hby d11_30) rfl rfl kon) ?_
    show own_Wp _ _ _ _ (s₁.setTop (mkF m 31 #[.val (.ref a1), .val (.int p2), .val (.int p2)] [(.ref a1)]))
    refine own_of (fun tgt kon => XS.iloadN X0.here hx rfl (hb hby d11_31) rfl kon) ?_
    show own_Wp _ _ _ _ (s₁.setTop (mkF m 32 #[.val (.ref a1), .val (.int p2), .val (.int p2)] [(.int p2), (.ref a1)]))
    refine own_of (fun tgt kon => XS.i2b X0.here hx rfl (hb hby d11_32) rfl kon) ?_
    show own_Wp _ _ _ _ (s₁.setTop (mkF m 33 #[.val (.ref a1), .val (.int p2), .val (.int p2)] [(.int (p2.toInt8.toInt32)), (.ref a1)]))
    refine own_callV X0 hx hZ (C := "com/example/ply2/ply2/protocol/ProtocolWriter") (y := (⟨"com/example/ply2/ply2/protocol/ProtocolWriter", "writeInt8", "(B)V"⟩ : MethodName)) (a := a1) (argsL := [(.int (p2.toInt8.toInt32))]) (rest := []) (W := 0) hown (hw _ (List.mem_of_getElem? (i := 59) rfl)) (hw _ (List.mem_of_getElem? (i := 60) rfl)) (hw _ (List.mem_of_getElem? (i := 62) rfl)) (hw _ (List.mem_of_getElem? (i := 61) rfl)) (hw _ (List.mem_of_getElem? (i := 2) rfl)) (hw _ (List.mem_of_getElem? (i := 63) rfl)) (by decide) e0 E_a1 (rmw8 l Z a0 hw [] a1 a2 (p2.toInt8.toInt32) fl (0 : Int32) f 0 h0 n0 Zs E_a1 F_bytes_a1 F_flexible_a1 F_maxBytes_a1 F_size_a1 V_a2 ne12 g_a1 g_a2 (by decide) (by decide)) (by decide) (by decide) (by decide) (by decide) (g := (mkF m 33 #[.val (.ref a1), .val (.int p2), .val (.int p2)] [(.int (p2.toInt8.toInt32)), (.ref a1)])) rfl (by rw [hml]; rfl) (lenOf own_pd1 rfl) rfl (by show 2 * 0 + _ ≤ _; exact Nat.le_of_eq rfl) (hb hby d11_33) ?_
    rintro T1 L1 _ X1 ⟨rfl, N1q, Kq1, E_1_q, F_bytes_1_q, F_flexible_1_q, F_maxBytes_1_q, F_size_1_q, f1, V_1q⟩
    have N1 := Fr.app N0 N1q
    show own_Wp _ _ _ _ (T1.setTop (mkF m 36 #[.val (.ref a1), .val (.int p2), .val (.int p2)] []))
    have Zs := Nat.le_trans Zs Kq1.1
    have K0 := K0.trans Kq1 (allS (P := fun z => z ∈ _ ∨ _ ≤ z) (Or.inl (List.mem_of_getElem? (i := 0) rfl)) (allS (P := fun z => z ∈ _ ∨ _ ≤ z) (Or.inl (List.mem_of_getElem? (i := 1) rfl)) all0))
    have E_a1 := E_a1.keep Kq1
    have E_a1 := E_1_q
    have F_bytes_a1 := F_bytes_1_q
    have F_flexible_a1 := F_flexible_1_q
    have F_maxBytes_a1 := F_maxBytes_1_q
    have F_size_a1 := F_size_1_q
    have V_a2 := V_1q
    refine own_ret X1 hlk none (fun _ => rfl) (fun fs hr => X1.returnOut hx hrt (hb hby d11_36) hr) ?_ (by decide) (by decide)
    rw [own_m128] at hc6
    have hnb : own_nb (own_u p2) = ((0 : Int32) + (1 : Int32)) := by
      rw [show own_nb (own_u p2) = (1 : Int32) from by unfold own_nb; rw [if_pos (by omega)]]
      rfl
    refine ⟨rfl, N1, K0, E_a1, F_bytes_a1, F_flexible_a1, F_maxBytes_a1, ?_, _, V_a2⟩
    rw [hnb]; exact F_size_a1
  · skip
    refine own_of (fun tgt kon => XS.ifNo X0.here hx rfl (hb hby d11_6) rfl ((if0 _ _).trans (feq hc6).1) kon) ?_
    show own_Wp _ _ _ _ (s₁.setTop (mkF m 9 #[.val (.ref a1), .val (.int p2), .val (.int p2)] []))
    refine own_of (fun tgt kon => XS.aloadN X0.here hx rfl (hb hby d11_9) rfl rfl kon) ?_
    show own_Wp _ _ _ _ (s₁.setTop (mkF m 10 #[.val (.ref a1), .val (.int p2), .val (.int p2)] [(.ref a1)]))
    refine own_of (fun tgt kon => XS.iloadN X0.here hx rfl (hb hby d11_10) rfl kon) ?_
    show own_Wp _ _ _ _ (s₁.setTop (mkF m 11 #[.val (.ref a1), .val (.int p2), .val (.int p2)] [(.int p2), (.ref a1)]))
    refine own_of (fun tgt kon => XS.bipush X0.here hx rfl (hb hby d11_11) kon) ?_
    show own_Wp _ _ _ _ (s₁.setTop (mkF m 13 #[.val (.ref a1), .val (.int p2), .val (.int p2)] [(.int (127 : Int32)), (.int p2), (.ref a1)]))
    refine own_of (fun tgt kon => XS.iand X0.here hx rfl (hb hby d11_13) rfl kon) ?_
    show own_Wp _ _ _ _ (s₁.setTop (mkF m 14 #[.val (.ref a1), .val (.int p2), .val (.int p2)] [(.int (p2 &&& (127 : Int32))), (.ref a1)]))
    refine own_of (fun tgt kon => XS.sipush X0.here hx rfl (hb hby d11_14) kon) ?_
    show own_Wp _ _ _ _ (s₁.setTop (mkF m 17 #[.val (.ref a1), .val (.int p2), .val (.int p2)] [(.int (128 : Int32)), (.int (p2 &&& (127 : Int32))), (.ref a1)]))
    refine own_of (fun tgt kon => XS.ior X0.here hx rfl (hb hby d11_17) rfl kon) ?_
    show own_Wp _ _ _ _ (s₁.setTop (mkF m 18 #[.val (.ref a1), .val (.int p2), .val (.int p2)] [(.int ((p2 &&& (127 : Int32)) ||| (128 : Int32))), (.ref a1)]))
    refine own_of (fun tgt kon => XS.i2b X0.here hx rfl (hb hby d11_18) rfl kon) ?_
    show own_Wp _ _ _ _ (s₁.setTop (mkF m 19 #[.val (.ref a1), .val (.int p2), .val (.int p2)] [(.int (((p2 &&& (127 : Int32)) ||| (128 : Int32)).toInt8.toInt32)), (.ref a1)]))
    refine own_callV X0 hx hZ (C := "com/example/ply2/ply2/protocol/ProtocolWriter") (y := (⟨"com/example/ply2/ply2/protocol/ProtocolWriter", "writeInt8", "(B)V"⟩ : MethodName)) (a := a1) (argsL := [(.int (((p2 &&& (127 : Int32)) ||| (128 : Int32)).toInt8.toInt32))]) (rest := []) (W := 0) hown (hw _ (List.mem_of_getElem? (i := 59) rfl)) (hw _ (List.mem_of_getElem? (i := 60) rfl)) (hw _ (List.mem_of_getElem? (i := 62) rfl)) (hw _ (List.mem_of_getElem? (i := 61) rfl)) (hw _ (List.mem_of_getElem? (i := 2) rfl)) (hw _ (List.mem_of_getElem? (i := 63) rfl)) (by decide) e0 E_a1 (rmw8 l Z a0 hw [] a1 a2 (((p2 &&& (127 : Int32)) ||| (128 : Int32)).toInt8.toInt32) fl (0 : Int32) f 0 h0 n0 Zs E_a1 F_bytes_a1 F_flexible_a1 F_maxBytes_a1 F_size_a1 V_a2 ne12 g_a1 g_a2 (by decide) (by decide)) (by decide) (by decide) (by decide) (by decide) (g := (mkF m 19 #[.val (.ref a1), .val (.int p2), .val (.int p2)] [(.int (((p2 &&& (127 : Int32)) ||| (128 : Int32)).toInt8.toInt32)), (.ref a1)])) rfl (by rw [hml]; rfl) (lenOf own_pd1 rfl) rfl (by show 2 * 0 + _ ≤ _; exact Nat.le_of_eq rfl) (hb hby d11_19) ?_
    rintro T2 L2 _ X2 ⟨rfl, N2q, Kq2, E_2_q, F_bytes_2_q, F_flexible_2_q, F_maxBytes_2_q, F_size_2_q, f2, V_2q⟩
    have N2 := Fr.app N0 N2q
    show own_Wp _ _ _ _ (T2.setTop (mkF m 22 #[.val (.ref a1), .val (.int p2), .val (.int p2)] []))
    have Zs := Nat.le_trans Zs Kq2.1
    have K0 := K0.trans Kq2 (allS (P := fun z => z ∈ _ ∨ _ ≤ z) (Or.inl (List.mem_of_getElem? (i := 0) rfl)) (allS (P := fun z => z ∈ _ ∨ _ ≤ z) (Or.inl (List.mem_of_getElem? (i := 1) rfl)) all0))
    have E_a1 := E_a1.keep Kq2
    have E_a1 := E_2_q
    have F_bytes_a1 := F_bytes_2_q
    have F_flexible_a1 := F_flexible_2_q
    have F_maxBytes_a1 := F_maxBytes_2_q
    have F_size_a1 := F_size_2_q
    have V_a2 := V_2q
    refine own_of (fun tgt kon => XS.iloadN X2.here hx rfl (hb hby d11_22) rfl kon) ?_
    show own_Wp _ _ _ _ (T2.setTop (mkF m 23 #[.val (.ref a1), .val (.int p2), .val (.int p2)] [(.int p2)]))
    refine own_of (fun tgt kon => XS.bipush X2.here hx rfl (hb hby d11_23) kon) ?_
    show own_Wp _ _ _ _ (T2.setTop (mkF m 25 #[.val (.ref a1), .val (.int p2), .val (.int p2)] [(.int (7 : Int32)), (.int p2)]))
    refine own_of (fun tgt kon => XS.iushr X2.here hx rfl (hb hby d11_25) rfl kon) ?_
    show own_Wp _ _ _ _ (T2.setTop (mkF m 26 #[.val (.ref a1), .val (.int p2), .val (.int p2)] [(.int ((p2.toUInt32 >>> ((7 : Int32) &&& 31).toUInt32).toInt32))]))
    obtain ⟨r, h_r⟩ : ∃ q : Int32, q = ((p2.toUInt32 >>> ((7 : Int32) &&& 31).toUInt32).toInt32) := ⟨_, rfl⟩
    rw [← h_r]
    refine own_of (fun tgt kon => XS.istoreN X2.here hx rfl (hb hby d11_26) rfl (l' := #[.val (.ref a1), .val (.int p2), .val (.int r)]) rfl kon) ?_
    show own_Wp _ _ _ _ (T2.setTop (mkF m 27 #[.val (.ref a1), .val (.int p2), .val (.int r)] []))
    refine own_of (fun tgt kon => XS.goto X2.here hx rfl (pc0 := 27) (pc' := 2) rfl (hb hby d11_27) (by decide) (by decide) kon) ?_
    show own_Wp _ _ _ _ (T2.setTop (mkF m 2 #[.val (.ref a1), .val (.int p2), .val (.int r)] []))
    refine own_of (fun tgt kon => XS.iloadN X2.here hx rfl (hb hby d11_2) rfl kon) ?_
    show own_Wp _ _ _ _ (T2.setTop (mkF m 3 #[.val (.ref a1), .val (.int p2), .val (.int r)] [(.int r)]))
    refine own_of (fun tgt kon => XS.bipush X2.here hx rfl (hb hby d11_3) kon) ?_
    show own_Wp _ _ _ _ (T2.setTop (mkF m 5 #[.val (.ref a1), .val (.int p2), .val (.int r)] [(.int (-128 : Int32)), (.int r)]))
    refine own_of (fun tgt kon => XS.iand X2.here hx rfl (hb hby d11_5) rfl kon) ?_
    show own_Wp _ _ _ _ (T2.setTop (mkF m 6 #[.val (.ref a1), .val (.int p2), .val (.int r)] [(.int (r &&& (-128 : Int32)))]))
    have u1 : own_u r = own_u p2 / 128 := by rw [h_r]; exact own_ush _
    have ul := own_u_lt p2
    by_cases hc6_2 : (r &&& (-128 : Int32)) = (0 : Int32)
    · skip
      refine own_of (fun tgt kon => XS.ifYes X2.here hx rfl (pc0 := 6) (pc' := 30) rfl (hb hby d11_6) rfl ((if0 _ _).trans (teq hc6_2).1) (by decide) (by decide) kon) ?_
      show own_Wp _ _ _ _ (T2.setTop (mkF m 30 #[.val (.ref a1), .val (.int p2), .val (.int r)] []))
      refine own_of (fun tgt kon => XS.aloadN X2.here hx rfl (hb hby d11_30) rfl rfl kon) ?_
      show own_Wp _ _ _ _ (T2.setTop (mkF m 31 #[.val (.ref a1), .val (.int p2), .val (.int r)] [(.ref a1)]))
      refine own_of (fun tgt kon => XS.iloadN X2.here hx rfl (hb hby d11_31) rfl kon) ?_
      show own_Wp _ _ _ _ (T2.setTop (mkF m 32 #[.val (.ref a1), .val (.int p2), .val (.int r)] [(.int r), (.ref a1)]))
      refine own_of (fun tgt kon => XS.i2b X2.here hx rfl (hb hby d11_32) rfl kon) ?_
      show own_Wp _ _ _ _ (T2.setTop (mkF m 33 #[.val (.ref a1), .val (.int p2), .val (.int r)] [(.int (r.toInt8.toInt32)), (.ref a1)]))
      refine own_callV X2 hx hZ (C := "com/example/ply2/ply2/protocol/ProtocolWriter") (y := (⟨"com/example/ply2/ply2/protocol/ProtocolWriter", "writeInt8", "(B)V"⟩ : MethodName)) (a := a1) (argsL := [(.int (r.toInt8.toInt32))]) (rest := []) (W := 0) hown (hw _ (List.mem_of_getElem? (i := 59) rfl)) (hw _ (List.mem_of_getElem? (i := 60) rfl)) (hw _ (List.mem_of_getElem? (i := 62) rfl)) (hw _ (List.mem_of_getElem? (i := 61) rfl)) (hw _ (List.mem_of_getElem? (i := 2) rfl)) (hw _ (List.mem_of_getElem? (i := 63) rfl)) (by decide) rfl E_a1 (rmw8 l Z a0 hw [] a1 a2 (r.toInt8.toInt32) fl ((0 : Int32) + (1 : Int32)) f2 1 T2.heap n0 Zs E_a1 F_bytes_a1 F_flexible_a1 F_maxBytes_a1 F_size_a1 V_a2 ne12 g_a1 g_a2 (by decide) (by decide)) (by decide) (by decide) (by decide) (by decide) (g := (mkF m 33 #[.val (.ref a1), .val (.int p2), .val (.int r)] [(.int (r.toInt8.toInt32)), (.ref a1)])) rfl (by rw [hml]; rfl) (lenOf own_pd1 rfl) rfl (by show 2 * 0 + _ ≤ _; exact Nat.le_of_eq rfl) (hb hby d11_33) ?_
      rintro T3 L3 _ X3 ⟨rfl, N3q, Kq3, E_3_q, F_bytes_3_q, F_flexible_3_q, F_maxBytes_3_q, F_size_3_q, f3, V_3q⟩
      have N3 := Fr.app N2 N3q
      show own_Wp _ _ _ _ (T3.setTop (mkF m 36 #[.val (.ref a1), .val (.int p2), .val (.int r)] []))
      have Zs := Nat.le_trans Zs Kq3.1
      have K0 := K0.trans Kq3 (allS (P := fun z => z ∈ _ ∨ _ ≤ z) (Or.inl (List.mem_of_getElem? (i := 0) rfl)) (allS (P := fun z => z ∈ _ ∨ _ ≤ z) (Or.inl (List.mem_of_getElem? (i := 1) rfl)) all0))
      have E_a1 := E_a1.keep Kq3
      have E_a1 := E_3_q
      have F_bytes_a1 := F_bytes_3_q
      have F_flexible_a1 := F_flexible_3_q
      have F_maxBytes_a1 := F_maxBytes_3_q
      have F_size_a1 := F_size_3_q
      have V_a2 := V_3q
      refine own_ret X3 hlk none (fun _ => rfl) (fun fs hr => X3.returnOut hx hrt (hb hby d11_36) hr) ?_ (by decide) (by decide)
      rw [own_m128] at hc6 hc6_2
      have hnb : own_nb (own_u p2) = (((0 : Int32) + (1 : Int32)) + (1 : Int32)) := by
        rw [show own_nb (own_u p2) = (2 : Int32) from by unfold own_nb; rw [if_neg (by omega), if_pos (by omega)]]
        rfl
      refine ⟨rfl, N3, K0, E_a1, F_bytes_a1, F_flexible_a1, F_maxBytes_a1, ?_, _, V_a2⟩
      rw [hnb]; exact F_size_a1
    · skip
      refine own_of (fun tgt kon => XS.ifNo X2.here hx rfl (hb hby d11_6) rfl ((if0 _ _).trans (feq hc6_2).1) kon) ?_
      show own_Wp _ _ _ _ (T2.setTop (mkF m 9 #[.val (.ref a1), .val (.int p2), .val (.int r)] []))
      refine own_of (fun tgt kon => XS.aloadN X2.here hx rfl (hb hby d11_9) rfl rfl kon) ?_
      show own_Wp _ _ _ _ (T2.setTop (mkF m 10 #[.val (.ref a1), .val (.int p2), .val (.int r)] [(.ref a1)]))
      refine own_of (fun tgt kon => XS.iloadN X2.here hx rfl (hb hby d11_10) rfl kon) ?_
      show own_Wp _ _ _ _ (T2.setTop (mkF m 11 #[.val (.ref a1), .val (.int p2), .val (.int r)] [(.int r), (.ref a1)]))
      refine own_of (fun tgt kon => XS.bipush X2.here hx rfl (hb hby d11_11) kon) ?_
      show own_Wp _ _ _ _ (T2.setTop (mkF m 13 #[.val (.ref a1), .val (.int p2), .val (.int r)] [(.int (127 : Int32)), (.int r), (.ref a1)]))
      refine own_of (fun tgt kon => XS.iand X2.here hx rfl (hb hby d11_13) rfl kon) ?_
      show own_Wp _ _ _ _ (T2.setTop (mkF m 14 #[.val (.ref a1), .val (.int p2), .val (.int r)] [(.int (r &&& (127 : Int32))), (.ref a1)]))
      refine own_of (fun tgt kon => XS.sipush X2.here hx rfl (hb hby d11_14) kon) ?_
      show own_Wp _ _ _ _ (T2.setTop (mkF m 17 #[.val (.ref a1), .val (.int p2), .val (.int r)] [(.int (128 : Int32)), (.int (r &&& (127 : Int32))), (.ref a1)]))
      refine own_of (fun tgt kon => XS.ior X2.here hx rfl (hb hby d11_17) rfl kon) ?_
      show own_Wp _ _ _ _ (T2.setTop (mkF m 18 #[.val (.ref a1), .val (.int p2), .val (.int r)] [(.int ((r &&& (127 : Int32)) ||| (128 : Int32))), (.ref a1)]))
      refine own_of (fun tgt kon => XS.i2b X2.here hx rfl (hb hby d11_18) rfl kon) ?_
      show own_Wp _ _ _ _ (T2.setTop (mkF m 19 #[.val (.ref a1), .val (.int p2), .val (.int r)] [(.int (((r &&& (127 : Int32)) ||| (128 : Int32)).toInt8.toInt32)), (.ref a1)]))
      refine own_callV X2 hx hZ (C := "com/example/ply2/ply2/protocol/ProtocolWriter") (y := (⟨"com/example/ply2/ply2/protocol/ProtocolWriter", "writeInt8", "(B)V"⟩ : MethodName)) (a := a1) (argsL := [(.int (((r &&& (127 : Int32)) ||| (128 : Int32)).toInt8.toInt32))]) (rest := []) (W := 0) hown (hw _ (List.mem_of_getElem? (i := 59) rfl)) (hw _ (List.mem_of_getElem? (i := 60) rfl)) (hw _ (List.mem_of_getElem? (i := 62) rfl)) (hw _ (List.mem_of_getElem? (i := 61) rfl)) (hw _ (List.mem_of_getElem? (i := 2) rfl)) (hw _ (List.mem_of_getElem? (i := 63) rfl)) (by decide) rfl E_a1 (rmw8 l Z a0 hw [] a1 a2 (((r &&& (127 : Int32)) ||| (128 : Int32)).toInt8.toInt32) fl ((0 : Int32) + (1 : Int32)) f2 1 T2.heap n0 Zs E_a1 F_bytes_a1 F_flexible_a1 F_maxBytes_a1 F_size_a1 V_a2 ne12 g_a1 g_a2 (by decide) (by decide)) (by decide) (by decide) (by decide) (by decide) (g := (mkF m 19 #[.val (.ref a1), .val (.int p2), .val (.int r)] [(.int (((r &&& (127 : Int32)) ||| (128 : Int32)).toInt8.toInt32)), (.ref a1)])) rfl (by rw [hml]; rfl) (lenOf own_pd1 rfl) rfl (by show 2 * 0 + _ ≤ _; exact Nat.le_of_eq rfl) (hb hby d11_19) ?_
      rintro T4 L4 _ X4 ⟨rfl, N4q, Kq4, E_4_q, F_bytes_4_q, F_flexible_4_q, F_maxBytes_4_q, F_size_4_q, f4, V_4q⟩
      have N4 := Fr.app N2 N4q
      show own_Wp _ _ _ _ (T4.setTop (mkF m 22 #[.val (.ref a1), .val (.int p2), .val (.int r)] []))
      have Zs := Nat.le_trans Zs Kq4.1
      have K0 := K0.trans Kq4 (allS (P := fun z => z ∈ _ ∨ _ ≤ z) (Or.inl (List.mem_of_getElem? (i := 0) rfl)) (allS (P := fun z => z ∈ _ ∨ _ ≤ z) (Or.inl (List.mem_of_getElem? (i := 1) rfl)) all0))
      have E_a1 := E_a1.keep Kq4
      have E_a1 := E_4_q
      have F_bytes_a1 := F_bytes_4_q
      have F_flexible_a1 := F_flexible_4_q
      have F_maxBytes_a1 := F_maxBytes_4_q
      have F_size_a1 := F_size_4_q
      have V_a2 := V_4q
      refine own_of (fun tgt kon => XS.iloadN X4.here hx rfl (hb hby d11_22) rfl kon) ?_
      show own_Wp _ _ _ _ (T4.setTop (mkF m 23 #[.val (.ref a1), .val (.int p2), .val (.int r)] [(.int r)]))
      refine own_of (fun tgt kon => XS.bipush X4.here hx rfl (hb hby d11_23) kon) ?_
      show own_Wp _ _ _ _ (T4.setTop (mkF m 25 #[.val (.ref a1), .val (.int p2), .val (.int r)] [(.int (7 : Int32)), (.int r)]))
      refine own_of (fun tgt kon => XS.iushr X4.here hx rfl (hb hby d11_25) rfl kon) ?_
      show own_Wp _ _ _ _ (T4.setTop (mkF m 26 #[.val (.ref a1), .val (.int p2), .val (.int r)] [(.int ((r.toUInt32 >>> ((7 : Int32) &&& 31).toUInt32).toInt32))]))
      obtain ⟨r_2, h_r_2⟩ : ∃ q : Int32, q = ((r.toUInt32 >>> ((7 : Int32) &&& 31).toUInt32).toInt32) := ⟨_, rfl⟩
      rw [← h_r_2]
      refine own_of (fun tgt kon => XS.istoreN X4.here hx rfl (hb hby d11_26) rfl (l' := #[.val (.ref a1), .val (.int p2), .val (.int r_2)]) rfl kon) ?_
      show own_Wp _ _ _ _ (T4.setTop (mkF m 27 #[.val (.ref a1), .val (.int p2), .val (.int r_2)] []))
      refine own_of (fun tgt kon => XS.goto X4.here hx rfl (pc0 := 27) (pc' := 2) rfl (hb hby d11_27) (by decide) (by decide) kon) ?_
      show own_Wp _ _ _ _ (T4.setTop (mkF m 2 #[.val (.ref a1), .val (.int p2), .val (.int r_2)] []))
      refine own_of (fun tgt kon => XS.iloadN X4.here hx rfl (hb hby d11_2) rfl kon) ?_
      show own_Wp _ _ _ _ (T4.setTop (mkF m 3 #[.val (.ref a1), .val (.int p2), .val (.int r_2)] [(.int r_2)]))
      refine own_of (fun tgt kon => XS.bipush X4.here hx rfl (hb hby d11_3) kon) ?_
      show own_Wp _ _ _ _ (T4.setTop (mkF m 5 #[.val (.ref a1), .val (.int p2), .val (.int r_2)] [(.int (-128 : Int32)), (.int r_2)]))
      refine own_of (fun tgt kon => XS.iand X4.here hx rfl (hb hby d11_5) rfl kon) ?_
      show own_Wp _ _ _ _ (T4.setTop (mkF m 6 #[.val (.ref a1), .val (.int p2), .val (.int r_2)] [(.int (r_2 &&& (-128 : Int32)))]))
      have u2 : own_u r_2 = own_u r / 128 := by rw [h_r_2]; exact own_ush _
      have ul := own_u_lt p2
      by_cases hc6_3 : (r_2 &&& (-128 : Int32)) = (0 : Int32)
      · skip
        refine own_of (fun tgt kon => XS.ifYes X4.here hx rfl (pc0 := 6) (pc' := 30) rfl (hb hby d11_6) rfl ((if0 _ _).trans (teq hc6_3).1) (by decide) (by decide) kon) ?_
        show own_Wp _ _ _ _ (T4.setTop (mkF m 30 #[.val (.ref a1), .val (.int p2), .val (.int r_2)] []))
        refine own_of (fun tgt kon => XS.aloadN X4.here hx rfl (hb hby d11_30) rfl rfl kon) ?_
        show own_Wp _ _ _ _ (T4.setTop (mkF m 31 #[.val (.ref a1), .val (.int p2), .val (.int r_2)] [(.ref a1)]))
        refine own_of (fun tgt kon => XS.iloadN X4.here hx rfl (hb hby d11_31) rfl kon) ?_
        show own_Wp _ _ _ _ (T4.setTop (mkF m 32 #[.val (.ref a1), .val (.int p2), .val (.int r_2)] [(.int r_2), (.ref a1)]))
        refine own_of (fun tgt kon => XS.i2b X4.here hx rfl (hb hby d11_32) rfl kon) ?_
        show own_Wp _ _ _ _ (T4.setTop (mkF m 33 #[.val (.ref a1), .val (.int p2), .val (.int r_2)] [(.int (r_2.toInt8.toInt32)), (.ref a1)]))
        refine own_callV X4 hx hZ (C := "com/example/ply2/ply2/protocol/ProtocolWriter") (y := (⟨"com/example/ply2/ply2/protocol/ProtocolWriter", "writeInt8", "(B)V"⟩ : MethodName)) (a := a1) (argsL := [(.int (r_2.toInt8.toInt32))]) (rest := []) (W := 0) hown (hw _ (List.mem_of_getElem? (i := 59) rfl)) (hw _ (List.mem_of_getElem? (i := 60) rfl)) (hw _ (List.mem_of_getElem? (i := 62) rfl)) (hw _ (List.mem_of_getElem? (i := 61) rfl)) (hw _ (List.mem_of_getElem? (i := 2) rfl)) (hw _ (List.mem_of_getElem? (i := 63) rfl)) (by decide) rfl E_a1 (rmw8 l Z a0 hw [] a1 a2 (r_2.toInt8.toInt32) fl (((0 : Int32) + (1 : Int32)) + (1 : Int32)) f4 2 T4.heap n0 Zs E_a1 F_bytes_a1 F_flexible_a1 F_maxBytes_a1 F_size_a1 V_a2 ne12 g_a1 g_a2 (by decide) (by decide)) (by decide) (by decide) (by decide) (by decide) (g := (mkF m 33 #[.val (.ref a1), .val (.int p2), .val (.int r_2)] [(.int (r_2.toInt8.toInt32)), (.ref a1)])) rfl (by rw [hml]; rfl) (lenOf own_pd1 rfl) rfl (by show 2 * 0 + _ ≤ _; exact Nat.le_of_eq rfl) (hb hby d11_33) ?_
        rintro T5 L5 _ X5 ⟨rfl, N5q, Kq5, E_5_q, F_bytes_5_q, F_flexible_5_q, F_maxBytes_5_q, F_size_5_q, f5, V_5q⟩
        have N5 := Fr.app N4 N5q
        show own_Wp _ _ _ _ (T5.setTop (mkF m 36 #[.val (.ref a1), .val (.int p2), .val (.int r_2)] []))
        have Zs := Nat.le_trans Zs Kq5.1
        have K0 := K0.trans Kq5 (allS (P := fun z => z ∈ _ ∨ _ ≤ z) (Or.inl (List.mem_of_getElem? (i := 0) rfl)) (allS (P := fun z => z ∈ _ ∨ _ ≤ z) (Or.inl (List.mem_of_getElem? (i := 1) rfl)) all0))
        have E_a1 := E_a1.keep Kq5
        have E_a1 := E_5_q
        have F_bytes_a1 := F_bytes_5_q
        have F_flexible_a1 := F_flexible_5_q
        have F_maxBytes_a1 := F_maxBytes_5_q
        have F_size_a1 := F_size_5_q
        have V_a2 := V_5q
        refine own_ret X5 hlk none (fun _ => rfl) (fun fs hr => X5.returnOut hx hrt (hb hby d11_36) hr) ?_ (by decide) (by decide)
        rw [own_m128] at hc6 hc6_2 hc6_3
        have hnb : own_nb (own_u p2) = ((((0 : Int32) + (1 : Int32)) + (1 : Int32)) + (1 : Int32)) := by
          rw [show own_nb (own_u p2) = (3 : Int32) from by unfold own_nb; rw [if_neg (by omega), if_neg (by omega), if_pos (by omega)]]
          rfl
        refine ⟨rfl, N5, K0, E_a1, F_bytes_a1, F_flexible_a1, F_maxBytes_a1, ?_, _, V_a2⟩
        rw [hnb]; exact F_size_a1
      · skip
        refine own_of (fun tgt kon => XS.ifNo X4.here hx rfl (hb hby d11_6) rfl ((if0 _ _).trans (feq hc6_3).1) kon) ?_
        show own_Wp _ _ _ _ (T4.setTop (mkF m 9 #[.val (.ref a1), .val (.int p2), .val (.int r_2)] []))
        refine own_of (fun tgt kon => XS.aloadN X4.here hx rfl (hb hby d11_9) rfl rfl kon) ?_
        show own_Wp _ _ _ _ (T4.setTop (mkF m 10 #[.val (.ref a1), .val (.int p2), .val (.int r_2)] [(.ref a1)]))
        refine own_of (fun tgt kon => XS.iloadN X4.here hx rfl (hb hby d11_10) rfl kon) ?_
        show own_Wp _ _ _ _ (T4.setTop (mkF m 11 #[.val (.ref a1), .val (.int p2), .val (.int r_2)] [(.int r_2), (.ref a1)]))
        refine own_of (fun tgt kon => XS.bipush X4.here hx rfl (hb hby d11_11) kon) ?_
        show own_Wp _ _ _ _ (T4.setTop (mkF m 13 #[.val (.ref a1), .val (.int p2), .val (.int r_2)] [(.int (127 : Int32)), (.int r_2), (.ref a1)]))
        refine own_of (fun tgt kon => XS.iand X4.here hx rfl (hb hby d11_13) rfl kon) ?_
        show own_Wp _ _ _ _ (T4.setTop (mkF m 14 #[.val (.ref a1), .val (.int p2), .val (.int r_2)] [(.int (r_2 &&& (127 : Int32))), (.ref a1)]))
        refine own_of (fun tgt kon => XS.sipush X4.here hx rfl (hb hby d11_14) kon) ?_
        show own_Wp _ _ _ _ (T4.setTop (mkF m 17 #[.val (.ref a1), .val (.int p2), .val (.int r_2)] [(.int (128 : Int32)), (.int (r_2 &&& (127 : Int32))), (.ref a1)]))
        refine own_of (fun tgt kon => XS.ior X4.here hx rfl (hb hby d11_17) rfl kon) ?_
        show own_Wp _ _ _ _ (T4.setTop (mkF m 18 #[.val (.ref a1), .val (.int p2), .val (.int r_2)] [(.int ((r_2 &&& (127 : Int32)) ||| (128 : Int32))), (.ref a1)]))
        refine own_of (fun tgt kon => XS.i2b X4.here hx rfl (hb hby d11_18) rfl kon) ?_
        show own_Wp _ _ _ _ (T4.setTop (mkF m 19 #[.val (.ref a1), .val (.int p2), .val (.int r_2)] [(.int (((r_2 &&& (127 : Int32)) ||| (128 : Int32)).toInt8.toInt32)), (.ref a1)]))
        refine own_callV X4 hx hZ (C := "com/example/ply2/ply2/protocol/ProtocolWriter") (y := (⟨"com/example/ply2/ply2/protocol/ProtocolWriter", "writeInt8", "(B)V"⟩ : MethodName)) (a := a1) (argsL := [(.int (((r_2 &&& (127 : Int32)) ||| (128 : Int32)).toInt8.toInt32))]) (rest := []) (W := 0) hown (hw _ (List.mem_of_getElem? (i := 59) rfl)) (hw _ (List.mem_of_getElem? (i := 60) rfl)) (hw _ (List.mem_of_getElem? (i := 62) rfl)) (hw _ (List.mem_of_getElem? (i := 61) rfl)) (hw _ (List.mem_of_getElem? (i := 2) rfl)) (hw _ (List.mem_of_getElem? (i := 63) rfl)) (by decide) rfl E_a1 (rmw8 l Z a0 hw [] a1 a2 (((r_2 &&& (127 : Int32)) ||| (128 : Int32)).toInt8.toInt32) fl (((0 : Int32) + (1 : Int32)) + (1 : Int32)) f4 2 T4.heap n0 Zs E_a1 F_bytes_a1 F_flexible_a1 F_maxBytes_a1 F_size_a1 V_a2 ne12 g_a1 g_a2 (by decide) (by decide)) (by decide) (by decide) (by decide) (by decide) (g := (mkF m 19 #[.val (.ref a1), .val (.int p2), .val (.int r_2)] [(.int (((r_2 &&& (127 : Int32)) ||| (128 : Int32)).toInt8.toInt32)), (.ref a1)])) rfl (by rw [hml]; rfl) (lenOf own_pd1 rfl) rfl (by show 2 * 0 + _ ≤ _; exact Nat.le_of_eq rfl) (hb hby d11_19) ?_
        rintro T6 L6 _ X6 ⟨rfl, N6q, Kq6, E_6_q, F_bytes_6_q, F_flexible_6_q, F_maxBytes_6_q, F_size_6_q, f6, V_6q⟩
        have N6 := Fr.app N4 N6q
        show own_Wp _ _ _ _ (T6.setTop (mkF m 22 #[.val (.ref a1), .val (.int p2), .val (.int r_2)] []))
        have Zs := Nat.le_trans Zs Kq6.1
        have K0 := K0.trans Kq6 (allS (P := fun z => z ∈ _ ∨ _ ≤ z) (Or.inl (List.mem_of_getElem? (i := 0) rfl)) (allS (P := fun z => z ∈ _ ∨ _ ≤ z) (Or.inl (List.mem_of_getElem? (i := 1) rfl)) all0))
        have E_a1 := E_a1.keep Kq6
        have E_a1 := E_6_q
        have F_bytes_a1 := F_bytes_6_q
        have F_flexible_a1 := F_flexible_6_q
        have F_maxBytes_a1 := F_maxBytes_6_q
        have F_size_a1 := F_size_6_q
        have V_a2 := V_6q
        refine own_of (fun tgt kon => XS.iloadN X6.here hx rfl (hb hby d11_22) rfl kon) ?_
        show own_Wp _ _ _ _ (T6.setTop (mkF m 23 #[.val (.ref a1), .val (.int p2), .val (.int r_2)] [(.int r_2)]))
        refine own_of (fun tgt kon => XS.bipush X6.here hx rfl (hb hby d11_23) kon) ?_
        show own_Wp _ _ _ _ (T6.setTop (mkF m 25 #[.val (.ref a1), .val (.int p2), .val (.int r_2)] [(.int (7 : Int32)), (.int r_2)]))
        refine own_of (fun tgt kon => XS.iushr X6.here hx rfl (hb hby d11_25) rfl kon) ?_
        show own_Wp _ _ _ _ (T6.setTop (mkF m 26 #[.val (.ref a1), .val (.int p2), .val (.int r_2)] [(.int ((r_2.toUInt32 >>> ((7 : Int32) &&& 31).toUInt32).toInt32))]))
        obtain ⟨r_3, h_r_3⟩ : ∃ q : Int32, q = ((r_2.toUInt32 >>> ((7 : Int32) &&& 31).toUInt32).toInt32) := ⟨_, rfl⟩
        rw [← h_r_3]
        refine own_of (fun tgt kon => XS.istoreN X6.here hx rfl (hb hby d11_26) rfl (l' := #[.val (.ref a1), .val (.int p2), .val (.int r_3)]) rfl kon) ?_
        show own_Wp _ _ _ _ (T6.setTop (mkF m 27 #[.val (.ref a1), .val (.int p2), .val (.int r_3)] []))
        refine own_of (fun tgt kon => XS.goto X6.here hx rfl (pc0 := 27) (pc' := 2) rfl (hb hby d11_27) (by decide) (by decide) kon) ?_
        show own_Wp _ _ _ _ (T6.setTop (mkF m 2 #[.val (.ref a1), .val (.int p2), .val (.int r_3)] []))
        refine own_of (fun tgt kon => XS.iloadN X6.here hx rfl (hb hby d11_2) rfl kon) ?_
        show own_Wp _ _ _ _ (T6.setTop (mkF m 3 #[.val (.ref a1), .val (.int p2), .val (.int r_3)] [(.int r_3)]))
        refine own_of (fun tgt kon => XS.bipush X6.here hx rfl (hb hby d11_3) kon) ?_
        show own_Wp _ _ _ _ (T6.setTop (mkF m 5 #[.val (.ref a1), .val (.int p2), .val (.int r_3)] [(.int (-128 : Int32)), (.int r_3)]))
        refine own_of (fun tgt kon => XS.iand X6.here hx rfl (hb hby d11_5) rfl kon) ?_
        show own_Wp _ _ _ _ (T6.setTop (mkF m 6 #[.val (.ref a1), .val (.int p2), .val (.int r_3)] [(.int (r_3 &&& (-128 : Int32)))]))
        have u3 : own_u r_3 = own_u r_2 / 128 := by rw [h_r_3]; exact own_ush _
        have ul := own_u_lt p2
        by_cases hc6_4 : (r_3 &&& (-128 : Int32)) = (0 : Int32)
        · skip
          refine own_of (fun tgt kon => XS.ifYes X6.here hx rfl (pc0 := 6) (pc' := 30) rfl (hb hby d11_6) rfl ((if0 _ _).trans (teq hc6_4).1) (by decide) (by decide) kon) ?_
          show own_Wp _ _ _ _ (T6.setTop (mkF m 30 #[.val (.ref a1), .val (.int p2), .val (.int r_3)] []))
          refine own_of (fun tgt kon => XS.aloadN X6.here hx rfl (hb hby d11_30) rfl rfl kon) ?_
          show own_Wp _ _ _ _ (T6.setTop (mkF m 31 #[.val (.ref a1), .val (.int p2), .val (.int r_3)] [(.ref a1)]))
          refine own_of (fun tgt kon => XS.iloadN X6.here hx rfl (hb hby d11_31) rfl kon) ?_
          show own_Wp _ _ _ _ (T6.setTop (mkF m 32 #[.val (.ref a1), .val (.int p2), .val (.int r_3)] [(.int r_3), (.ref a1)]))
          refine own_of (fun tgt kon => XS.i2b X6.here hx rfl (hb hby d11_32) rfl kon) ?_
          show own_Wp _ _ _ _ (T6.setTop (mkF m 33 #[.val (.ref a1), .val (.int p2), .val (.int r_3)] [(.int (r_3.toInt8.toInt32)), (.ref a1)]))
          refine own_callV X6 hx hZ (C := "com/example/ply2/ply2/protocol/ProtocolWriter") (y := (⟨"com/example/ply2/ply2/protocol/ProtocolWriter", "writeInt8", "(B)V"⟩ : MethodName)) (a := a1) (argsL := [(.int (r_3.toInt8.toInt32))]) (rest := []) (W := 0) hown (hw _ (List.mem_of_getElem? (i := 59) rfl)) (hw _ (List.mem_of_getElem? (i := 60) rfl)) (hw _ (List.mem_of_getElem? (i := 62) rfl)) (hw _ (List.mem_of_getElem? (i := 61) rfl)) (hw _ (List.mem_of_getElem? (i := 2) rfl)) (hw _ (List.mem_of_getElem? (i := 63) rfl)) (by decide) rfl E_a1 (rmw8 l Z a0 hw [] a1 a2 (r_3.toInt8.toInt32) fl ((((0 : Int32) + (1 : Int32)) + (1 : Int32)) + (1 : Int32)) f6 3 T6.heap n0 Zs E_a1 F_bytes_a1 F_flexible_a1 F_maxBytes_a1 F_size_a1 V_a2 ne12 g_a1 g_a2 (by decide) (by decide)) (by decide) (by decide) (by decide) (by decide) (g := (mkF m 33 #[.val (.ref a1), .val (.int p2), .val (.int r_3)] [(.int (r_3.toInt8.toInt32)), (.ref a1)])) rfl (by rw [hml]; rfl) (lenOf own_pd1 rfl) rfl (by show 2 * 0 + _ ≤ _; exact Nat.le_of_eq rfl) (hb hby d11_33) ?_
          rintro T7 L7 _ X7 ⟨rfl, N7q, Kq7, E_7_q, F_bytes_7_q, F_flexible_7_q, F_maxBytes_7_q, F_size_7_q, f7, V_7q⟩
          have N7 := Fr.app N6 N7q
          show own_Wp _ _ _ _ (T7.setTop (mkF m 36 #[.val (.ref a1), .val (.int p2), .val (.int r_3)] []))
          have Zs := Nat.le_trans Zs Kq7.1
          have K0 := K0.trans Kq7 (allS (P := fun z => z ∈ _ ∨ _ ≤ z) (Or.inl (List.mem_of_getElem? (i := 0) rfl)) (allS (P := fun z => z ∈ _ ∨ _ ≤ z) (Or.inl (List.mem_of_getElem? (i := 1) rfl)) all0))
          have E_a1 := E_a1.keep Kq7
          have E_a1 := E_7_q
          have F_bytes_a1 := F_bytes_7_q
          have F_flexible_a1 := F_flexible_7_q
          have F_maxBytes_a1 := F_maxBytes_7_q
          have F_size_a1 := F_size_7_q
          have V_a2 := V_7q
          refine own_ret X7 hlk none (fun _ => rfl) (fun fs hr => X7.returnOut hx hrt (hb hby d11_36) hr) ?_ (by decide) (by decide)
          rw [own_m128] at hc6 hc6_2 hc6_3 hc6_4
          have hnb : own_nb (own_u p2) = (((((0 : Int32) + (1 : Int32)) + (1 : Int32)) + (1 : Int32)) + (1 : Int32)) := by
            rw [show own_nb (own_u p2) = (4 : Int32) from by unfold own_nb; rw [if_neg (by omega), if_neg (by omega), if_neg (by omega), if_pos (by omega)]]
            rfl
          refine ⟨rfl, N7, K0, E_a1, F_bytes_a1, F_flexible_a1, F_maxBytes_a1, ?_, _, V_a2⟩
          rw [hnb]; exact F_size_a1
        · skip
          refine own_of (fun tgt kon => XS.ifNo X6.here hx rfl (hb hby d11_6) rfl ((if0 _ _).trans (feq hc6_4).1) kon) ?_
          show own_Wp _ _ _ _ (T6.setTop (mkF m 9 #[.val (.ref a1), .val (.int p2), .val (.int r_3)] []))
          refine own_of (fun tgt kon => XS.aloadN X6.here hx rfl (hb hby d11_9) rfl rfl kon) ?_
          show own_Wp _ _ _ _ (T6.setTop (mkF m 10 #[.val (.ref a1), .val (.int p2), .val (.int r_3)] [(.ref a1)]))
          refine own_of (fun tgt kon => XS.iloadN X6.here hx rfl (hb hby d11_10) rfl kon) ?_
          show own_Wp _ _ _ _ (T6.setTop (mkF m 11 #[.val (.ref a1), .val (.int p2), .val (.int r_3)] [(.int r_3), (.ref a1)]))
          refine own_of (fun tgt kon => XS.bipush X6.here hx rfl (hb hby d11_11) kon) ?_
          show own_Wp _ _ _ _ (T6.setTop (mkF m 13 #[.val (.ref a1), .val (.int p2), .val (.int r_3)] [(.int (127 : Int32)), (.int r_3), (.ref a1)]))
          refine own_of (fun tgt kon => XS.iand X6.here hx rfl (hb hby d11_13) rfl kon) ?_
          show own_Wp _ _ _ _ (T6.setTop (mkF m 14 #[.val (.ref a1), .val (.int p2), .val (.int r_3)] [(.int (r_3 &&& (127 : Int32))), (.ref a1)]))
          refine own_of (fun tgt kon => XS.sipush X6.here hx rfl (hb hby d11_14) kon) ?_
          show own_Wp _ _ _ _ (T6.setTop (mkF m 17 #[.val (.ref a1), .val (.int p2), .val (.int r_3)] [(.int (128 : Int32)), (.int (r_3 &&& (127 : Int32))), (.ref a1)]))
          refine own_of (fun tgt kon => XS.ior X6.here hx rfl (hb hby d11_17) rfl kon) ?_
          show own_Wp _ _ _ _ (T6.setTop (mkF m 18 #[.val (.ref a1), .val (.int p2), .val (.int r_3)] [(.int ((r_3 &&& (127 : Int32)) ||| (128 : Int32))), (.ref a1)]))
          refine own_of (fun tgt kon => XS.i2b X6.here hx rfl (hb hby d11_18) rfl kon) ?_
          show own_Wp _ _ _ _ (T6.setTop (mkF m 19 #[.val (.ref a1), .val (.int p2), .val (.int r_3)] [(.int (((r_3 &&& (127 : Int32)) ||| (128 : Int32)).toInt8.toInt32)), (.ref a1)]))
          refine own_callV X6 hx hZ (C := "com/example/ply2/ply2/protocol/ProtocolWriter") (y := (⟨"com/example/ply2/ply2/protocol/ProtocolWriter", "writeInt8", "(B)V"⟩ : MethodName)) (a := a1) (argsL := [(.int (((r_3 &&& (127 : Int32)) ||| (128 : Int32)).toInt8.toInt32))]) (rest := []) (W := 0) hown (hw _ (List.mem_of_getElem? (i := 59) rfl)) (hw _ (List.mem_of_getElem? (i := 60) rfl)) (hw _ (List.mem_of_getElem? (i := 62) rfl)) (hw _ (List.mem_of_getElem? (i := 61) rfl)) (hw _ (List.mem_of_getElem? (i := 2) rfl)) (hw _ (List.mem_of_getElem? (i := 63) rfl)) (by decide) rfl E_a1 (rmw8 l Z a0 hw [] a1 a2 (((r_3 &&& (127 : Int32)) ||| (128 : Int32)).toInt8.toInt32) fl ((((0 : Int32) + (1 : Int32)) + (1 : Int32)) + (1 : Int32)) f6 3 T6.heap n0 Zs E_a1 F_bytes_a1 F_flexible_a1 F_maxBytes_a1 F_size_a1 V_a2 ne12 g_a1 g_a2 (by decide) (by decide)) (by decide) (by decide) (by decide) (by decide) (g := (mkF m 19 #[.val (.ref a1), .val (.int p2), .val (.int r_3)] [(.int (((r_3 &&& (127 : Int32)) ||| (128 : Int32)).toInt8.toInt32)), (.ref a1)])) rfl (by rw [hml]; rfl) (lenOf own_pd1 rfl) rfl (by show 2 * 0 + _ ≤ _; exact Nat.le_of_eq rfl) (hb hby d11_19) ?_
          rintro T8 L8 _ X8 ⟨rfl, N8q, Kq8, E_8_q, F_bytes_8_q, F_flexible_8_q, F_maxBytes_8_q, F_size_8_q, f8, V_8q⟩
          have N8 := Fr.app N6 N8q
          show own_Wp _ _ _ _ (T8.setTop (mkF m 22 #[.val (.ref a1), .val (.int p2), .val (.int r_3)] []))
          have Zs := Nat.le_trans Zs Kq8.1
          have K0 := K0.trans Kq8 (allS (P := fun z => z ∈ _ ∨ _ ≤ z) (Or.inl (List.mem_of_getElem? (i := 0) rfl)) (allS (P := fun z => z ∈ _ ∨ _ ≤ z) (Or.inl (List.mem_of_getElem? (i := 1) rfl)) all0))
          have E_a1 := E_a1.keep Kq8
          have E_a1 := E_8_q
          have F_bytes_a1 := F_bytes_8_q
          have F_flexible_a1 := F_flexible_8_q
          have F_maxBytes_a1 := F_maxBytes_8_q
          have F_size_a1 := F_size_8_q
          have V_a2 := V_8q
          refine own_of (fun tgt kon => XS.iloadN X8.here hx rfl (hb hby d11_22) rfl kon) ?_
          show own_Wp _ _ _ _ (T8.setTop (mkF m 23 #[.val (.ref a1), .val (.int p2), .val (.int r_3)] [(.int r_3)]))
          refine own_of (fun tgt kon => XS.bipush X8.here hx rfl (hb hby d11_23) kon) ?_
          show own_Wp _ _ _ _ (T8.setTop (mkF m 25 #[.val (.ref a1), .val (.int p2), .val (.int r_3)] [(.int (7 : Int32)), (.int r_3)]))
          refine own_of (fun tgt kon => XS.iushr X8.here hx rfl (hb hby d11_25) rfl kon) ?_
          show own_Wp _ _ _ _ (T8.setTop (mkF m 26 #[.val (.ref a1), .val (.int p2), .val (.int r_3)] [(.int ((r_3.toUInt32 >>> ((7 : Int32) &&& 31).toUInt32).toInt32))]))
          obtain ⟨r_4, h_r_4⟩ : ∃ q : Int32, q = ((r_3.toUInt32 >>> ((7 : Int32) &&& 31).toUInt32).toInt32) := ⟨_, rfl⟩
          rw [← h_r_4]
          refine own_of (fun tgt kon => XS.istoreN X8.here hx rfl (hb hby d11_26) rfl (l' := #[.val (.ref a1), .val (.int p2), .val (.int r_4)]) rfl kon) ?_
          show own_Wp _ _ _ _ (T8.setTop (mkF m 27 #[.val (.ref a1), .val (.int p2), .val (.int r_4)] []))
          refine own_of (fun tgt kon => XS.goto X8.here hx rfl (pc0 := 27) (pc' := 2) rfl (hb hby d11_27) (by decide) (by decide) kon) ?_
          show own_Wp _ _ _ _ (T8.setTop (mkF m 2 #[.val (.ref a1), .val (.int p2), .val (.int r_4)] []))
          refine own_of (fun tgt kon => XS.iloadN X8.here hx rfl (hb hby d11_2) rfl kon) ?_
          show own_Wp _ _ _ _ (T8.setTop (mkF m 3 #[.val (.ref a1), .val (.int p2), .val (.int r_4)] [(.int r_4)]))
          refine own_of (fun tgt kon => XS.bipush X8.here hx rfl (hb hby d11_3) kon) ?_
          show own_Wp _ _ _ _ (T8.setTop (mkF m 5 #[.val (.ref a1), .val (.int p2), .val (.int r_4)] [(.int (-128 : Int32)), (.int r_4)]))
          refine own_of (fun tgt kon => XS.iand X8.here hx rfl (hb hby d11_5) rfl kon) ?_
          show own_Wp _ _ _ _ (T8.setTop (mkF m 6 #[.val (.ref a1), .val (.int p2), .val (.int r_4)] [(.int (r_4 &&& (-128 : Int32)))]))
          have u4 : own_u r_4 = own_u r_3 / 128 := by rw [h_r_4]; exact own_ush _
          have ul := own_u_lt p2
          have hc6_5 : (r_4 &&& (-128 : Int32)) = (0 : Int32) := (own_m128 _).mpr (by omega)
          refine own_of (fun tgt kon => XS.ifYes X8.here hx rfl (pc0 := 6) (pc' := 30) rfl (hb hby d11_6) rfl ((if0 _ _).trans (teq hc6_5).1) (by decide) (by decide) kon) ?_
          show own_Wp _ _ _ _ (T8.setTop (mkF m 30 #[.val (.ref a1), .val (.int p2), .val (.int r_4)] []))
          refine own_of (fun tgt kon => XS.aloadN X8.here hx rfl (hb hby d11_30) rfl rfl kon) ?_
          show own_Wp _ _ _ _ (T8.setTop (mkF m 31 #[.val (.ref a1), .val (.int p2), .val (.int r_4)] [(.ref a1)]))
          refine own_of (fun tgt kon => XS.iloadN X8.here hx rfl (hb hby d11_31) rfl kon) ?_
          show own_Wp _ _ _ _ (T8.setTop (mkF m 32 #[.val (.ref a1), .val (.int p2), .val (.int r_4)] [(.int r_4), (.ref a1)]))
          refine own_of (fun tgt kon => XS.i2b X8.here hx rfl (hb hby d11_32) rfl kon) ?_
          show own_Wp _ _ _ _ (T8.setTop (mkF m 33 #[.val (.ref a1), .val (.int p2), .val (.int r_4)] [(.int (r_4.toInt8.toInt32)), (.ref a1)]))
          refine own_callV X8 hx hZ (C := "com/example/ply2/ply2/protocol/ProtocolWriter") (y := (⟨"com/example/ply2/ply2/protocol/ProtocolWriter", "writeInt8", "(B)V"⟩ : MethodName)) (a := a1) (argsL := [(.int (r_4.toInt8.toInt32))]) (rest := []) (W := 0) hown (hw _ (List.mem_of_getElem? (i := 59) rfl)) (hw _ (List.mem_of_getElem? (i := 60) rfl)) (hw _ (List.mem_of_getElem? (i := 62) rfl)) (hw _ (List.mem_of_getElem? (i := 61) rfl)) (hw _ (List.mem_of_getElem? (i := 2) rfl)) (hw _ (List.mem_of_getElem? (i := 63) rfl)) (by decide) rfl E_a1 (rmw8 l Z a0 hw [] a1 a2 (r_4.toInt8.toInt32) fl (((((0 : Int32) + (1 : Int32)) + (1 : Int32)) + (1 : Int32)) + (1 : Int32)) f8 4 T8.heap n0 Zs E_a1 F_bytes_a1 F_flexible_a1 F_maxBytes_a1 F_size_a1 V_a2 ne12 g_a1 g_a2 (by decide) (by decide)) (by decide) (by decide) (by decide) (by decide) (g := (mkF m 33 #[.val (.ref a1), .val (.int p2), .val (.int r_4)] [(.int (r_4.toInt8.toInt32)), (.ref a1)])) rfl (by rw [hml]; rfl) (lenOf own_pd1 rfl) rfl (by show 2 * 0 + _ ≤ _; exact Nat.le_of_eq rfl) (hb hby d11_33) ?_
          rintro T9 L9 _ X9 ⟨rfl, N9q, Kq9, E_9_q, F_bytes_9_q, F_flexible_9_q, F_maxBytes_9_q, F_size_9_q, f9, V_9q⟩
          have N9 := Fr.app N8 N9q
          show own_Wp _ _ _ _ (T9.setTop (mkF m 36 #[.val (.ref a1), .val (.int p2), .val (.int r_4)] []))
          have Zs := Nat.le_trans Zs Kq9.1
          have K0 := K0.trans Kq9 (allS (P := fun z => z ∈ _ ∨ _ ≤ z) (Or.inl (List.mem_of_getElem? (i := 0) rfl)) (allS (P := fun z => z ∈ _ ∨ _ ≤ z) (Or.inl (List.mem_of_getElem? (i := 1) rfl)) all0))
          have E_a1 := E_a1.keep Kq9
          have E_a1 := E_9_q
          have F_bytes_a1 := F_bytes_9_q
          have F_flexible_a1 := F_flexible_9_q
          have F_maxBytes_a1 := F_maxBytes_9_q
          have F_size_a1 := F_size_9_q
          have V_a2 := V_9q
          refine own_ret X9 hlk none (fun _ => rfl) (fun fs hr => X9.returnOut hx hrt (hb hby d11_36) hr) ?_ (by decide) (by decide)
          rw [own_m128] at hc6 hc6_2 hc6_3 hc6_4 hc6_5
          have hnb : own_nb (own_u p2) = ((((((0 : Int32) + (1 : Int32)) + (1 : Int32)) + (1 : Int32)) + (1 : Int32)) + (1 : Int32)) := by
            rw [show own_nb (own_u p2) = (5 : Int32) from by unfold own_nb; rw [if_neg (by omega), if_neg (by omega), if_neg (by omega), if_neg (by omega)]]
            rfl
          refine ⟨rfl, N9, K0, E_a1, F_bytes_a1, F_flexible_a1, F_maxBytes_a1, ?_, _, V_a2⟩
          rw [hnb]; exact F_size_a1
theorem d7_0 : decode prog_229_method_23_code 0 = .ok (.aload_n 0, 1) := by decide +kernel
theorem d7_1 : decode prog_229_method_23_code 1 = .ok (.getfield 19, 3) := by decide +kernel
theorem d7_4 : decode prog_229_method_23_code 4 = .ok (.ifCond .eq 13, 3) := by decide +kernel
theorem d7_17 : decode prog_229_method_23_code 17 = .ok (.iload_n 2, 1) := by decide +kernel
theorem d7_18 : decode prog_229_method_23_code 18 = .ok (.ifCond .eq 11, 3) := by decide +kernel
theorem d7_21 : decode prog_229_method_23_code 21 = .ok (.aload_n 0, 1) := by decide +kernel
theorem d7_22 : decode prog_229_method_23_code 22 = .ok (.iload_n 1, 1) := by decide +kernel
theorem d7_23 : decode prog_229_method_23_code 23 = .ok (.invokevirtual 36, 3) := by decide +kernel
theorem d7_26 : decode prog_229_method_23_code 26 = .ok (.goto 30, 3) := by decide +kernel
theorem d7_56 : decode prog_229_method_23_code 56 = .ok (.return_, 1) := by decide +kernel
def Q_rmwl0 (Z : State) (a1 : Addr) (a2 : Addr) (p2 : Int32) (f : Nat → Value) (h0 : Heap) (n0 : Nat) (v : Option Value) (h : Heap) (L : List Loc) : Prop := v = none ∧ Fr n0 L ∧ Keep h0 h [a1, a2] ∧ Exa Z h a1 "com/example/ply2/ply2/protocol/ProtocolWriter" ∧ Fld Z h a1 "com/example/ply2/ply2/protocol/ProtocolWriter" "bytes" "[B" (.ref a2) ∧ Fld Z h a1 "com/example/ply2/ply2/protocol/ProtocolWriter" "flexible" "Z" (.int (0 : Int32)) ∧ Fld Z h a1 "com/example/ply2/ply2/protocol/ProtocolWriter" "maxBytes" "I" (.int (2147483647 : Int32)) ∧ Fld Z h a1 "com/example/ply2/ply2/protocol/ProtocolWriter" "size" "I" (.int (((((0 : Int32) + (1 : Int32)) + (1 : Int32)) + (1 : Int32)) + (1 : Int32))) ∧ ∃ f', own_Ar Z h a2 .byte 256 f'
set_option maxRecDepth 65536 in
set_option maxHeartbeats 40000000 in
theorem rmwl0 (l : Launch) (Z : State) (a0 : Array Value) (hw : ∀ d ∈ tables_1, d.before a0 Z = true) (ws : List Jvm.Cond) (a1 : Addr) (a2 : Addr) (p2 : Int32) (f : Nat → Value) (h0 : Heap) (n0 : Nat) (Z0 : n0 ≤ h0.size) (E_a1 : Exa Z h0 a1 "com/example/ply2/ply2/protocol/ProtocolWriter") (F_bytes_a1 : Fld Z h0 a1 "com/example/ply2/ply2/protocol/ProtocolWriter" "bytes" "[B" (.ref a2)) (F_flexible_a1 : Fld Z h0 a1 "com/example/ply2/ply2/protocol/ProtocolWriter" "flexible" "Z" (.int (0 : Int32))) (F_maxBytes_a1 : Fld Z h0 a1 "com/example/ply2/ply2/protocol/ProtocolWriter" "maxBytes" "I" (.int (2147483647 : Int32))) (F_size_a1 : Fld Z h0 a1 "com/example/ply2/ply2/protocol/ProtocolWriter" "size" "I" (.int (0 : Int32))) (V_a2 : own_Ar Z h0 a2 .byte 256 f) (ne12 : a1 ≠ a2) (g_a1 : n0 ≤ a1) (g_a2 : n0 ≤ a2) :
    own_Ctr l Z (⟨"com/example/ply2/ply2/protocol/ProtocolWriter", "writeLength", "(IZ)V"⟩ : MethodName) prog_229_method_23_code 3 none ws ({ frames := 2, cells := 0, slots := 0, locals := 28 } : Room) #[(.ref a1), (.int p2), (.int (1 : Int32))] h0 (Q_rmwl0 Z a1 a2 p2 f h0 n0) := by
  refine own_enter (plainFor_of_name own_pn0) ?_
  intro p e s m below meth c s₁ X0 hx hby hml hrt hlk hZ hown hnm e0
  have N0 := Fr.nil n0
  have Zs := Z0
  have K0 := Keep.refl h0 [a1, a2]
  rw [show entryFrame m #[(.ref a1), (.int p2), (.int (1 : Int32))] 3 = mkF m 0 #[.val (.ref a1), .val (.int p2), .val (.int (1 : Int32))] [] from by first | (simp [entryFrame, mkF, argsToLocals, Value.category]; done) | rfl]
  show own_Wp _ _ _ _ (s₁.setTop (mkF m 0 #[.val (.ref a1), .val (.int p2), .val (.int (1 : Int32))] []))
  refine own_of (fun tgt kon => XS.aloadN X0.here hx rfl (hb hby d7_0) rfl rfl kon) ?_
  show own_Wp _ _ _ _ (s₁.setTop (mkF m 1 #[.val (.ref a1), .val (.int p2), .val (.int (1 : Int32))] [(.ref a1)]))
  obtain ⟨T1, X1, e1, st1⟩ := getF X0 hx hZ hown (host := "") (Or.inl (hw _ (List.mem_of_getElem? (i := 24) rfl))) Via.refl e0 F_flexible_a1 (g := (mkF m 1 #[.val (.ref a1), .val (.int p2), .val (.int (1 : Int32))] [(.ref a1)])) rfl rfl (hb hby d7_1)
  refine own_of st1 ?_
  show own_Wp _ _ _ _ (T1.setTop (mkF m 4 #[.val (.ref a1), .val (.int p2), .val (.int (1 : Int32))] [(.int (0 : Int32))]))
  have hc4 : (0 : Int32) = (0 : Int32) := by decide
  refine own_of (fun tgt kon => XS.ifYes X1.here hx rfl (pc0 := 4) (pc' := 17) rfl (hb hby d7_4) rfl ((if0 _ _).trans (teq hc4).1) (by decide) (by decide) kon) ?_
  show own_Wp _ _ _ _ (T1.setTop (mkF m 17 #[.val (.ref a1), .val (.int p2), .val (.int (1 : Int32))] []))
  refine own_of (fun tgt kon => XS.iloadN X1.here hx rfl (hb hby d7_17) rfl kon) ?_
  show own_Wp _ _ _ _ (T1.setTop (mkF m 18 #[.val (.ref a1), .val (.int p2), .val (.int (1 : Int32))] [(.int (1 : Int32))]))
  have hc18 : ¬ ((1 : Int32) = (0 : Int32)) := by decide
  refine own_of (fun tgt kon => XS.ifNo X1.here hx rfl (hb hby d7_18) rfl ((if0 _ _).trans (feq hc18).1) kon) ?_
  show own_Wp _ _ _ _ (T1.setTop (mkF m 21 #[.val (.ref a1), .val (.int p2), .val (.int (1 : Int32))] []))
  refine own_of (fun tgt kon => XS.aloadN X1.here hx rfl (hb hby d7_21) rfl rfl kon) ?_
  show own_Wp _ _ _ _ (T1.setTop (mkF m 22 #[.val (.ref a1), .val (.int p2), .val (.int (1 : Int32))] [(.ref a1)]))
  refine own_of (fun tgt kon => XS.iloadN X1.here hx rfl (hb hby d7_22) rfl kon) ?_
  show own_Wp _ _ _ _ (T1.setTop (mkF m 23 #[.val (.ref a1), .val (.int p2), .val (.int (1 : Int32))] [(.int p2), (.ref a1)]))
  refine own_callV X1 hx hZ (C := "com/example/ply2/ply2/protocol/ProtocolWriter") (y := (⟨"com/example/ply2/ply2/protocol/ProtocolWriter", "writeInt32", "(I)V"⟩ : MethodName)) (a := a1) (argsL := [(.int p2)]) (rest := []) (W := 0) hown (hw _ (List.mem_of_getElem? (i := 37) rfl)) (hw _ (List.mem_of_getElem? (i := 38) rfl)) (hw _ (List.mem_of_getElem? (i := 40) rfl)) (hw _ (List.mem_of_getElem? (i := 39) rfl)) (hw _ (List.mem_of_getElem? (i := 2) rfl)) (hw _ (List.mem_of_getElem? (i := 41) rfl)) (by decide) e1 E_a1 (rmw32 l Z a0 hw [] a1 a2 p2 (0 : Int32) f h0 n0 Zs E_a1 F_bytes_a1 F_flexible_a1 F_maxBytes_a1 F_size_a1 V_a2 ne12 g_a1 g_a2) (by decide) (by decide) (by decide) (by decide) (g := (mkF m 23 #[.val (.ref a1), .val (.int p2), .val (.int (1 : Int32))] [(.int p2), (.ref a1)])) rfl (by rw [hml]; rfl) (lenOf own_pd0 rfl) rfl (by show 2 * 0 + _ ≤ _; exact Nat.le_of_eq rfl) (hb hby d7_23) ?_
  rintro T2 L2 _ X2 ⟨rfl, N2q, Kq2, E_2_q, F_bytes_2_q, F_flexible_2_q, F_maxBytes_2_q, F_size_2_q, f2, V_2q⟩
  have N2 := Fr.app N0 N2q
  show own_Wp _ _ _ _ (T2.setTop (mkF m 26 #[.val (.ref a1), .val (.int p2), .val (.int (1 : Int32))] []))
  have Zs := Nat.le_trans Zs Kq2.1
  have K0 := K0.trans Kq2 (allS (P := fun z => z ∈ _ ∨ _ ≤ z) (Or.inl (List.mem_of_getElem? (i := 0) rfl)) (allS (P := fun z => z ∈ _ ∨ _ ≤ z) (Or.inl (List.mem_of_getElem? (i := 1) rfl)) all0))
  have E_a1 := E_a1.keep Kq2
  have E_a1 := E_2_q
  have F_bytes_a1 := F_bytes_2_q
  have F_flexible_a1 := F_flexible_2_q
  have F_maxBytes_a1 := F_maxBytes_2_q
  have F_size_a1 := F_size_2_q
  have V_a2 := V_2q
  refine own_of (fun tgt kon => XS.goto X2.here hx rfl (pc0 := 26) (pc' := 56) rfl (hb hby d7_26) (by decide) (by decide) kon) ?_
  show own_Wp _ _ _ _ (T2.setTop (mkF m 56 #[.val (.ref a1), .val (.int p2), .val (.int (1 : Int32))] []))
  refine own_ret X2 hlk none (fun _ => rfl) (fun fs hr => X2.returnOut hx hrt (hb hby d7_56) hr) ?_ (by decide) (by decide)
  exact ⟨rfl, N2, K0, E_a1, F_bytes_a1, F_flexible_a1, F_maxBytes_a1, F_size_a1, _, V_a2⟩
theorem d6_0 : decode prog_229_method_14_code 0 = .ok (.iload_n 1, 1) := by decide +kernel
theorem d6_1 : decode prog_229_method_14_code 1 = .ok (.ifCond .ge 17, 3) := by decide +kernel
theorem d6_18 : decode prog_229_method_14_code 18 = .ok (.aload_n 0, 1) := by decide +kernel
theorem d6_19 : decode prog_229_method_14_code 19 = .ok (.iload_n 1, 1) := by decide +kernel
theorem d6_20 : decode prog_229_method_14_code 20 = .ok (.iconst 1, 1) := by decide +kernel
theorem d6_21 : decode prog_229_method_14_code 21 = .ok (.invokevirtual 62, 3) := by decide +kernel
theorem own_pd2 : parseMethodDescriptor "(IZ)V" = some ⟨[.int, .boolean], none⟩ := by decide +kernel
theorem d6_24 : decode prog_229_method_14_code 24 = .ok (.return_, 1) := by decide +kernel
def Q_rmwa0 (Z : State) (a1 : Addr) (a2 : Addr) (p2 : Int32) (f : Nat → Value) (h0 : Heap) (n0 : Nat) (v : Option Value) (h : Heap) (L : List Loc) : Prop := v = none ∧ Fr n0 L ∧ Keep h0 h [a1, a2] ∧ Exa Z h a1 "com/example/ply2/ply2/protocol/ProtocolWriter" ∧ Fld Z h a1 "com/example/ply2/ply2/protocol/ProtocolWriter" "bytes" "[B" (.ref a2) ∧ Fld Z h a1 "com/example/ply2/ply2/protocol/ProtocolWriter" "flexible" "Z" (.int (0 : Int32)) ∧ Fld Z h a1 "com/example/ply2/ply2/protocol/ProtocolWriter" "maxBytes" "I" (.int (2147483647 : Int32)) ∧ Fld Z h a1 "com/example/ply2/ply2/protocol/ProtocolWriter" "size" "I" (.int (((((0 : Int32) + (1 : Int32)) + (1 : Int32)) + (1 : Int32)) + (1 : Int32))) ∧ ∃ f', own_Ar Z h a2 .byte 256 f'
set_option maxRecDepth 65536 in
set_option maxHeartbeats 40000000 in
theorem rmwa0 (l : Launch) (Z : State) (a0 : Array Value) (hw : ∀ d ∈ tables_1, d.before a0 Z = true) (ws : List Jvm.Cond) (a1 : Addr) (a2 : Addr) (p2 : Int32) (f : Nat → Value) (h0 : Heap) (n0 : Nat) (Z0 : n0 ≤ h0.size) (E_a1 : Exa Z h0 a1 "com/example/ply2/ply2/protocol/ProtocolWriter") (F_bytes_a1 : Fld Z h0 a1 "com/example/ply2/ply2/protocol/ProtocolWriter" "bytes" "[B" (.ref a2)) (F_flexible_a1 : Fld Z h0 a1 "com/example/ply2/ply2/protocol/ProtocolWriter" "flexible" "Z" (.int (0 : Int32))) (F_maxBytes_a1 : Fld Z h0 a1 "com/example/ply2/ply2/protocol/ProtocolWriter" "maxBytes" "I" (.int (2147483647 : Int32))) (F_size_a1 : Fld Z h0 a1 "com/example/ply2/ply2/protocol/ProtocolWriter" "size" "I" (.int (0 : Int32))) (V_a2 : own_Ar Z h0 a2 .byte 256 f) (ne12 : a1 ≠ a2) (g_a1 : n0 ≤ a1) (g_a2 : n0 ≤ a2) (hp : ¬ p2 < 0) :
    own_Ctr l Z (⟨"com/example/ply2/ply2/protocol/ProtocolWriter", "writeArrayLength", "(I)V"⟩ : MethodName) prog_229_method_14_code 2 none ws ({ frames := 3, cells := 0, slots := 0, locals := 42 } : Room) #[(.ref a1), (.int p2)] h0 (Q_rmwa0 Z a1 a2 p2 f h0 n0) := by
  refine own_enter (plainFor_of_name own_pn0) ?_
  intro p e s m below meth c s₁ X0 hx hby hml hrt hlk hZ hown hnm e0
  have N0 := Fr.nil n0
  have Zs := Z0
  have K0 := Keep.refl h0 [a1, a2]
  rw [show entryFrame m #[(.ref a1), (.int p2)] 2 = mkF m 0 #[.val (.ref a1), .val (.int p2)] [] from by first | (simp [entryFrame, mkF, argsToLocals, Value.category]; done) | rfl]
  show own_Wp _ _ _ _ (s₁.setTop (mkF m 0 #[.val (.ref a1), .val (.int p2)] []))
  refine own_of (fun tgt kon => XS.iloadN X0.here hx rfl (hb hby d6_0) rfl kon) ?_
  show own_Wp _ _ _ _ (s₁.setTop (mkF m 1 #[.val (.ref a1), .val (.int p2)] [(.int p2)]))
  have hc1 : ¬ (p2 < (0 : Int32)) := hp
  refine own_of (fun tgt kon => XS.ifYes X0.here hx rfl (pc0 := 1) (pc' := 18) rfl (hb hby d6_1) rfl ((if0 _ _).trans (flt hc1).2.1) (by decide) (by decide) kon) ?_
  show own_Wp _ _ _ _ (s₁.setTop (mkF m 18 #[.val (.ref a1), .val (.int p2)] []))
  refine own_of (fun tgt kon => XS.aloadN X0.here hx rfl (hb hby d6_18) rfl rfl kon) ?_
  show own_Wp _ _ _ _ (s₁.setTop (mkF m 19 #[.val (.ref a1), .val (.int p2)] [(.ref a1)]))
  refine own_of (fun tgt kon => XS.iloadN X0.here hx rfl (hb hby d6_19) rfl kon) ?_
  show own_Wp _ _ _ _ (s₁.setTop (mkF m 20 #[.val (.ref a1), .val (.int p2)] [(.int p2), (.ref a1)]))
  refine own_of (fun tgt kon => XS.iconst X0.here hx rfl (hb hby d6_20) kon) ?_
  show own_Wp _ _ _ _ (s₁.setTop (mkF m 21 #[.val (.ref a1), .val (.int p2)] [(.int (1 : Int32)), (.int p2), (.ref a1)]))
  refine own_callP X0 hx hZ (y := (⟨"com/example/ply2/ply2/protocol/ProtocolWriter", "writeLength", "(IZ)V"⟩ : MethodName)) (a := a1) (argsL := [(.int p2), (.int (1 : Int32))]) (rest := []) (W := 0) hown (hw _ (List.mem_of_getElem? (i := 33) rfl)) (hw _ (List.mem_of_getElem? (i := 34) rfl)) (hw _ (List.mem_of_getElem? (i := 10) rfl)) (hw _ (List.mem_of_getElem? (i := 35) rfl)) (hw _ (List.mem_of_getElem? (i := 2) rfl)) (hw _ (List.mem_of_getElem? (i := 36) rfl)) (by decide) e0 E_a1 (rmwl0 l Z a0 hw [] a1 a2 p2 f h0 n0 Zs E_a1 F_bytes_a1 F_flexible_a1 F_maxBytes_a1 F_size_a1 V_a2 ne12 g_a1 g_a2) (by decide) (by decide) (by decide) (by decide) (g := (mkF m 21 #[.val (.ref a1), .val (.int p2)] [(.int (1 : Int32)), (.int p2), (.ref a1)])) rfl (by rw [hml]; rfl) (lenOf own_pd2 rfl) rfl (by show 2 * 0 + _ ≤ _; exact Nat.le_of_eq rfl) (hb hby d6_21) ?_
  rintro T1 L1 _ X1 ⟨rfl, N1q, Kq1, E_1_q, F_bytes_1_q, F_flexible_1_q, F_maxBytes_1_q, F_size_1_q, f1, V_1q⟩
  have N1 := Fr.app N0 N1q
  show own_Wp _ _ _ _ (T1.setTop (mkF m 24 #[.val (.ref a1), .val (.int p2)] []))
  have Zs := Nat.le_trans Zs Kq1.1
  have K0 := K0.trans Kq1 (allS (P := fun z => z ∈ _ ∨ _ ≤ z) (Or.inl (List.mem_of_getElem? (i := 0) rfl)) (allS (P := fun z => z ∈ _ ∨ _ ≤ z) (Or.inl (List.mem_of_getElem? (i := 1) rfl)) all0))
  have E_a1 := E_a1.keep Kq1
  have E_a1 := E_1_q
  have F_bytes_a1 := F_bytes_1_q
  have F_flexible_a1 := F_flexible_1_q
  have F_maxBytes_a1 := F_maxBytes_1_q
  have F_size_a1 := F_size_1_q
  have V_a2 := V_1q
  refine own_ret X1 hlk none (fun _ => rfl) (fun fs hr => X1.returnOut hx hrt (hb hby d6_24) hr) ?_ (by decide) (by decide)
  exact ⟨rfl, N1, K0, E_a1, F_bytes_a1, F_flexible_a1, F_maxBytes_a1, F_size_a1, _, V_a2⟩
theorem d7_7 : decode prog_229_method_23_code 7 = .ok (.aload_n 0, 1) := by decide +kernel
theorem d7_8 : decode prog_229_method_23_code 8 = .ok (.iload_n 1, 1) := by decide +kernel
theorem d7_9 : decode prog_229_method_23_code 9 = .ok (.iconst 1, 1) := by decide +kernel
theorem d7_10 : decode prog_229_method_23_code 10 = .ok (.iadd, 1) := by decide +kernel
theorem d7_11 : decode prog_229_method_23_code 11 = .ok (.invokevirtual 146, 3) := by decide +kernel
theorem d7_14 : decode prog_229_method_23_code 14 = .ok (.goto 42, 3) := by decide +kernel
def Q_rmwl1 (Z : State) (a1 : Addr) (a2 : Addr) (p2 : Int32) (f : Nat → Value) (h0 : Heap) (n0 : Nat) (v : Option Value) (h : Heap) (L : List Loc) : Prop := v = none ∧ Fr n0 L ∧ Keep h0 h [a1, a2] ∧ Exa Z h a1 "com/example/ply2/ply2/protocol/ProtocolWriter" ∧ Fld Z h a1 "com/example/ply2/ply2/protocol/ProtocolWriter" "bytes" "[B" (.ref a2) ∧ Fld Z h a1 "com/example/ply2/ply2/protocol/ProtocolWriter" "flexible" "Z" (.int (1 : Int32)) ∧ Fld Z h a1 "com/example/ply2/ply2/protocol/ProtocolWriter" "maxBytes" "I" (.int (2147483647 : Int32)) ∧ Fld Z h a1 "com/example/ply2/ply2/protocol/ProtocolWriter" "size" "I" (.int (own_nb (own_u (p2 + (1 : Int32))))) ∧ ∃ f', own_Ar Z h a2 .byte 256 f'
set_option maxRecDepth 65536 in
set_option maxHeartbeats 40000000 in
theorem rmwl1 (l : Launch) (Z : State) (a0 : Array Value) (hw : ∀ d ∈ tables_1, d.before a0 Z = true) (ws : List Jvm.Cond) (a1 : Addr) (a2 : Addr) (p2 : Int32) (f : Nat → Value) (h0 : Heap) (n0 : Nat) (Z0 : n0 ≤ h0.size) (E_a1 : Exa Z h0 a1 "com/example/ply2/ply2/protocol/ProtocolWriter") (F_bytes_a1 : Fld Z h0 a1 "com/example/ply2/ply2/protocol/ProtocolWriter" "bytes" "[B" (.ref a2)) (F_flexible_a1 : Fld Z h0 a1 "com/example/ply2/ply2/protocol/ProtocolWriter" "flexible" "Z" (.int (1 : Int32))) (F_maxBytes_a1 : Fld Z h0 a1 "com/example/ply2/ply2/protocol/ProtocolWriter" "maxBytes" "I" (.int (2147483647 : Int32))) (F_size_a1 : Fld Z h0 a1 "com/example/ply2/ply2/protocol/ProtocolWriter" "size" "I" (.int (0 : Int32))) (V_a2 : own_Ar Z h0 a2 .byte 256 f) (ne12 : a1 ≠ a2) (g_a1 : n0 ≤ a1) (g_a2 : n0 ≤ a2) :
    own_Ctr l Z (⟨"com/example/ply2/ply2/protocol/ProtocolWriter", "writeLength", "(IZ)V"⟩ : MethodName) prog_229_method_23_code 3 none ws ({ frames := 3, cells := 0, slots := 0, locals := 42 } : Room) #[(.ref a1), (.int p2), (.int (1 : Int32))] h0 (Q_rmwl1 Z a1 a2 p2 f h0 n0) := by
  refine own_enter (plainFor_of_name own_pn0) ?_
  intro p e s m below meth c s₁ X0 hx hby hml hrt hlk hZ hown hnm e0
  have N0 := Fr.nil n0
  have Zs := Z0
  have K0 := Keep.refl h0 [a1, a2]
  rw [show entryFrame m #[(.ref a1), (.int p2), (.int (1 : Int32))] 3 = mkF m 0 #[.val (.ref a1), .val (.int p2), .val (.int (1 : Int32))] [] from by first | (simp [entryFrame, mkF, argsToLocals, Value.category]; done) | rfl]
  show own_Wp _ _ _ _ (s₁.setTop (mkF m 0 #[.val (.ref a1), .val (.int p2), .val (.int (1 : Int32))] []))
  refine own_of (fun tgt kon => XS.aloadN X0.here hx rfl (hb hby d7_0) rfl rfl kon) ?_
  show own_Wp _ _ _ _ (s₁.setTop (mkF m 1 #[.val (.ref a1), .val (.int p2), .val (.int (1 : Int32))] [(.ref a1)]))
  obtain ⟨T1, X1, e1, st1⟩ := getF X0 hx hZ hown (host := "") (Or.inl (hw _ (List.mem_of_getElem? (i := 24) rfl))) Via.refl e0 F_flexible_a1 (g := (mkF m 1 #[.val (.ref a1), .val (.int p2), .val (.int (1 : Int32))] [(.ref a1)])) rfl rfl (hb hby d7_1)
  refine own_of st1 ?_
  show own_Wp _ _ _ _ (T1.setTop (mkF m 4 #[.val (.ref a1), .val (.int p2), .val (.int (1 : Int32))] [(.int (1 : Int32))]))
  have hc4 : ¬ ((1 : Int32) = (0 : Int32)) := by decide
  refine own_of (fun tgt kon => XS.ifNo X1.here hx rfl (hb hby d7_4) rfl ((if0 _ _).trans (feq hc4).1) kon) ?_
  show own_Wp _ _ _ _ (T1.setTop (mkF m 7 #[.val (.ref a1), .val (.int p2), .val (.int (1 : Int32))] []))
  refine own_of (fun tgt kon => XS.aloadN X1.here hx rfl (hb hby d7_7) rfl rfl kon) ?_
  show own_Wp _ _ _ _ (T1.setTop (mkF m 8 #[.val (.ref a1), .val (.int p2), .val (.int (1 : Int32))] [(.ref a1)]))
  refine own_of (fun tgt kon => XS.iloadN X1.here hx rfl (hb hby d7_8) rfl kon) ?_
  show own_Wp _ _ _ _ (T1.setTop (mkF m 9 #[.val (.ref a1), .val (.int p2), .val (.int (1 : Int32))] [(.int p2), (.ref a1)]))
  refine own_of (fun tgt kon => XS.iconst X1.here hx rfl (hb hby d7_9) kon) ?_
  show own_Wp _ _ _ _ (T1.setTop (mkF m 10 #[.val (.ref a1), .val (.int p2), .val (.int (1 : Int32))] [(.int (1 : Int32)), (.int p2), (.ref a1)]))
  refine own_of (fun tgt kon => XS.iadd X1.here hx rfl (hb hby d7_10) rfl kon) ?_
  show own_Wp _ _ _ _ (T1.setTop (mkF m 11 #[.val (.ref a1), .val (.int p2), .val (.int (1 : Int32))] [(.int (p2 + (1 : Int32))), (.ref a1)]))
  refine own_callP X1 hx hZ (y := (⟨"com/example/ply2/ply2/protocol/ProtocolWriter", "writeUnsignedVarint", "(I)V"⟩ : MethodName)) (a := a1) (argsL := [(.int (p2 + (1 : Int32)))]) (rest := []) (W := 0) hown (hw _ (List.mem_of_getElem? (i := 55) rfl)) (hw _ (List.mem_of_getElem? (i := 56) rfl)) (hw _ (List.mem_of_getElem? (i := 10) rfl)) (hw _ (List.mem_of_getElem? (i := 57) rfl)) (hw _ (List.mem_of_getElem? (i := 2) rfl)) (hw _ (List.mem_of_getElem? (i := 58) rfl)) (by decide) e1 E_a1 (rmwv l Z a0 hw [] a1 a2 (p2 + (1 : Int32)) (1 : Int32) f h0 n0 Zs E_a1 F_bytes_a1 F_flexible_a1 F_maxBytes_a1 F_size_a1 V_a2 ne12 g_a1 g_a2) (by decide) (by decide) (by decide) (by decide) (g := (mkF m 11 #[.val (.ref a1), .val (.int p2), .val (.int (1 : Int32))] [(.int (p2 + (1 : Int32))), (.ref a1)])) rfl (by rw [hml]; rfl) (lenOf own_pd0 rfl) rfl (by show 2 * 0 + _ ≤ _; exact Nat.le_of_eq rfl) (hb hby d7_11) ?_
  rintro T2 L2 _ X2 ⟨rfl, N2q, Kq2, E_2_q, F_bytes_2_q, F_flexible_2_q, F_maxBytes_2_q, F_size_2_q, f2, V_2q⟩
  have N2 := Fr.app N0 N2q
  show own_Wp _ _ _ _ (T2.setTop (mkF m 14 #[.val (.ref a1), .val (.int p2), .val (.int (1 : Int32))] []))
  have Zs := Nat.le_trans Zs Kq2.1
  have K0 := K0.trans Kq2 (allS (P := fun z => z ∈ _ ∨ _ ≤ z) (Or.inl (List.mem_of_getElem? (i := 0) rfl)) (allS (P := fun z => z ∈ _ ∨ _ ≤ z) (Or.inl (List.mem_of_getElem? (i := 1) rfl)) all0))
  have E_a1 := E_a1.keep Kq2
  have E_a1 := E_2_q
  have F_bytes_a1 := F_bytes_2_q
  have F_flexible_a1 := F_flexible_2_q
  have F_maxBytes_a1 := F_maxBytes_2_q
  have F_size_a1 := F_size_2_q
  have V_a2 := V_2q
  refine own_of (fun tgt kon => XS.goto X2.here hx rfl (pc0 := 14) (pc' := 56) rfl (hb hby d7_14) (by decide) (by decide) kon) ?_
  show own_Wp _ _ _ _ (T2.setTop (mkF m 56 #[.val (.ref a1), .val (.int p2), .val (.int (1 : Int32))] []))
  refine own_ret X2 hlk none (fun _ => rfl) (fun fs hr => X2.returnOut hx hrt (hb hby d7_56) hr) ?_ (by decide) (by decide)
  exact ⟨rfl, N2, K0, E_a1, F_bytes_a1, F_flexible_a1, F_maxBytes_a1, F_size_a1, _, V_a2⟩
def Q_rmwa1 (Z : State) (a1 : Addr) (a2 : Addr) (p2 : Int32) (f : Nat → Value) (h0 : Heap) (n0 : Nat) (v : Option Value) (h : Heap) (L : List Loc) : Prop := v = none ∧ Fr n0 L ∧ Keep h0 h [a1, a2] ∧ Exa Z h a1 "com/example/ply2/ply2/protocol/ProtocolWriter" ∧ Fld Z h a1 "com/example/ply2/ply2/protocol/ProtocolWriter" "bytes" "[B" (.ref a2) ∧ Fld Z h a1 "com/example/ply2/ply2/protocol/ProtocolWriter" "flexible" "Z" (.int (1 : Int32)) ∧ Fld Z h a1 "com/example/ply2/ply2/protocol/ProtocolWriter" "maxBytes" "I" (.int (2147483647 : Int32)) ∧ Fld Z h a1 "com/example/ply2/ply2/protocol/ProtocolWriter" "size" "I" (.int (own_nb (own_u (p2 + (1 : Int32))))) ∧ ∃ f', own_Ar Z h a2 .byte 256 f'
set_option maxRecDepth 65536 in
set_option maxHeartbeats 40000000 in
theorem rmwa1 (l : Launch) (Z : State) (a0 : Array Value) (hw : ∀ d ∈ tables_1, d.before a0 Z = true) (ws : List Jvm.Cond) (a1 : Addr) (a2 : Addr) (p2 : Int32) (f : Nat → Value) (h0 : Heap) (n0 : Nat) (Z0 : n0 ≤ h0.size) (E_a1 : Exa Z h0 a1 "com/example/ply2/ply2/protocol/ProtocolWriter") (F_bytes_a1 : Fld Z h0 a1 "com/example/ply2/ply2/protocol/ProtocolWriter" "bytes" "[B" (.ref a2)) (F_flexible_a1 : Fld Z h0 a1 "com/example/ply2/ply2/protocol/ProtocolWriter" "flexible" "Z" (.int (1 : Int32))) (F_maxBytes_a1 : Fld Z h0 a1 "com/example/ply2/ply2/protocol/ProtocolWriter" "maxBytes" "I" (.int (2147483647 : Int32))) (F_size_a1 : Fld Z h0 a1 "com/example/ply2/ply2/protocol/ProtocolWriter" "size" "I" (.int (0 : Int32))) (V_a2 : own_Ar Z h0 a2 .byte 256 f) (ne12 : a1 ≠ a2) (g_a1 : n0 ≤ a1) (g_a2 : n0 ≤ a2) (hp : ¬ p2 < 0) :
    own_Ctr l Z (⟨"com/example/ply2/ply2/protocol/ProtocolWriter", "writeArrayLength", "(I)V"⟩ : MethodName) prog_229_method_14_code 2 none ws ({ frames := 4, cells := 0, slots := 0, locals := 56 } : Room) #[(.ref a1), (.int p2)] h0 (Q_rmwa1 Z a1 a2 p2 f h0 n0) := by
  refine own_enter (plainFor_of_name own_pn0) ?_
  intro p e s m below meth c s₁ X0 hx hby hml hrt hlk hZ hown hnm e0
  have N0 := Fr.nil n0
  have Zs := Z0
  have K0 := Keep.refl h0 [a1, a2]
  rw [show entryFrame m #[(.ref a1), (.int p2)] 2 = mkF m 0 #[.val (.ref a1), .val (.int p2)] [] from by first | (simp [entryFrame, mkF, argsToLocals, Value.category]; done) | rfl]
  show own_Wp _ _ _ _ (s₁.setTop (mkF m 0 #[.val (.ref a1), .val (.int p2)] []))
  refine own_of (fun tgt kon => XS.iloadN X0.here hx rfl (hb hby d6_0) rfl kon) ?_
  show own_Wp _ _ _ _ (s₁.setTop (mkF m 1 #[.val (.ref a1), .val (.int p2)] [(.int p2)]))
  have hc1 : ¬ (p2 < (0 : Int32)) := hp
  refine own_of (fun tgt kon => XS.ifYes X0.here hx rfl (pc0 := 1) (pc' := 18) rfl (hb hby d6_1) rfl ((if0 _ _).trans (flt hc1).2.1) (by decide) (by decide) kon) ?_
  show own_Wp _ _ _ _ (s₁.setTop (mkF m 18 #[.val (.ref a1), .val (.int p2)] []))
  refine own_of (fun tgt kon => XS.aloadN X0.here hx rfl (hb hby d6_18) rfl rfl kon) ?_
  show own_Wp _ _ _ _ (s₁.setTop (mkF m 19 #[.val (.ref a1), .val (.int p2)] [(.ref a1)]))
  refine own_of (fun tgt kon => XS.iloadN X0.here hx rfl (hb hby d6_19) rfl kon) ?_
  show own_Wp _ _ _ _ (s₁.setTop (mkF m 20 #[.val (.ref a1), .val (.int p2)] [(.int p2), (.ref a1)]))
  refine own_of (fun tgt kon => XS.iconst X0.here hx rfl (hb hby d6_20) kon) ?_
  show own_Wp _ _ _ _ (s₁.setTop (mkF m 21 #[.val (.ref a1), .val (.int p2)] [(.int (1 : Int32)), (.int p2), (.ref a1)]))
  refine own_callP X0 hx hZ (y := (⟨"com/example/ply2/ply2/protocol/ProtocolWriter", "writeLength", "(IZ)V"⟩ : MethodName)) (a := a1) (argsL := [(.int p2), (.int (1 : Int32))]) (rest := []) (W := 0) hown (hw _ (List.mem_of_getElem? (i := 33) rfl)) (hw _ (List.mem_of_getElem? (i := 34) rfl)) (hw _ (List.mem_of_getElem? (i := 10) rfl)) (hw _ (List.mem_of_getElem? (i := 35) rfl)) (hw _ (List.mem_of_getElem? (i := 2) rfl)) (hw _ (List.mem_of_getElem? (i := 36) rfl)) (by decide) e0 E_a1 (rmwl1 l Z a0 hw [] a1 a2 p2 f h0 n0 Zs E_a1 F_bytes_a1 F_flexible_a1 F_maxBytes_a1 F_size_a1 V_a2 ne12 g_a1 g_a2) (by decide) (by decide) (by decide) (by decide) (g := (mkF m 21 #[.val (.ref a1), .val (.int p2)] [(.int (1 : Int32)), (.int p2), (.ref a1)])) rfl (by rw [hml]; rfl) (lenOf own_pd2 rfl) rfl (by show 2 * 0 + _ ≤ _; exact Nat.le_of_eq rfl) (hb hby d6_21) ?_
  rintro T1 L1 _ X1 ⟨rfl, N1q, Kq1, E_1_q, F_bytes_1_q, F_flexible_1_q, F_maxBytes_1_q, F_size_1_q, f1, V_1q⟩
  have N1 := Fr.app N0 N1q
  show own_Wp _ _ _ _ (T1.setTop (mkF m 24 #[.val (.ref a1), .val (.int p2)] []))
  have Zs := Nat.le_trans Zs Kq1.1
  have K0 := K0.trans Kq1 (allS (P := fun z => z ∈ _ ∨ _ ≤ z) (Or.inl (List.mem_of_getElem? (i := 0) rfl)) (allS (P := fun z => z ∈ _ ∨ _ ≤ z) (Or.inl (List.mem_of_getElem? (i := 1) rfl)) all0))
  have E_a1 := E_a1.keep Kq1
  have E_a1 := E_1_q
  have F_bytes_a1 := F_bytes_1_q
  have F_flexible_a1 := F_flexible_1_q
  have F_maxBytes_a1 := F_maxBytes_1_q
  have F_size_a1 := F_size_1_q
  have V_a2 := V_1q
  refine own_ret X1 hlk none (fun _ => rfl) (fun fs hr => X1.returnOut hx hrt (hb hby d6_24) hr) ?_ (by decide) (by decide)
  exact ⟨rfl, N1, K0, E_a1, F_bytes_a1, F_flexible_a1, F_maxBytes_a1, F_size_a1, _, V_a2⟩
theorem d10_0 : decode prog_229_method_20_code 0 = .ok (.aload_n 0, 1) := by decide +kernel
theorem d10_1 : decode prog_229_method_20_code 1 = .ok (.getfield 31, 3) := by decide +kernel
theorem d10_4 : decode prog_229_method_20_code 4 = .ok (.ireturn, 1) := by decide +kernel
def Q_rmsz (Z : State) (a1 : Addr) (sz : Int32) (h0 : Heap) (n0 : Nat) (v : Option Value) (h : Heap) (L : List Loc) : Prop := v = some (.int sz) ∧ Fr n0 L ∧ h = h0
set_option maxRecDepth 65536 in
set_option maxHeartbeats 40000000 in
theorem rmsz (l : Launch) (Z : State) (a0 : Array Value) (hw : ∀ d ∈ tables_1, d.before a0 Z = true) (ws : List Jvm.Cond) (a1 : Addr) (sz : Int32) (h0 : Heap) (n0 : Nat) (Z0 : n0 ≤ h0.size) (F_size : Fld Z h0 a1 "com/example/ply2/ply2/protocol/ProtocolWriter" "size" "I" (.int sz)) :
    own_Ctr l Z (⟨"com/example/ply2/ply2/protocol/ProtocolWriter", "size", "()I"⟩ : MethodName) prog_229_method_20_code 1 (some .int) ws ({ frames := 0, cells := 0, slots := 0, locals := 0 } : Room) #[(.ref a1)] h0 (Q_rmsz Z a1 sz h0 n0) := by
  refine own_enter (plainFor_of_name own_pn0) ?_
  intro p e s m below meth c s₁ X0 hx hby hml hrt hlk hZ hown hnm e0
  have N0 := Fr.nil n0
  have Zs := Z0
  rw [show entryFrame m #[(.ref a1)] 1 = mkF m 0 #[.val (.ref a1)] [] from by first | (simp [entryFrame, mkF, argsToLocals, Value.category]; done) | rfl]
  show own_Wp _ _ _ _ (s₁.setTop (mkF m 0 #[.val (.ref a1)] []))
  refine own_of (fun tgt kon => XS.aloadN X0.here hx rfl (hb hby d10_0) rfl rfl kon) ?_
  show own_Wp _ _ _ _ (s₁.setTop (mkF m 1 #[.val (.ref a1)] [(.ref a1)]))
  obtain ⟨T1, X1, e1, st1⟩ := getF X0 hx hZ hown (host := "") (Or.inl (hw _ (List.mem_of_getElem? (i := 46) rfl))) Via.refl e0 F_size (g := (mkF m 1 #[.val (.ref a1)] [(.ref a1)])) rfl rfl (hb hby d10_1)
  refine own_of st1 ?_
  show own_Wp _ _ _ _ (T1.setTop (mkF m 4 #[.val (.ref a1)] [(.int sz)]))
  refine own_ret X1 hlk (some (.int sz)) (own_rtI hrt) (fun fs hr => own_retI X1 hx hrt (hb hby d10_4) hr) ?_ (by decide) (by decide)
  rw [e1]
  exact ⟨rfl, N0, rfl⟩
theorem d4_0 : decode prog_229_method_2_code 0 = .ok (.aload_n 0, 1) := by decide +kernel
theorem d4_1 : decode prog_229_method_2_code 1 = .ok (.invokespecial 10, 3) := by decide +kernel
theorem d4_4 : decode prog_229_method_2_code 4 = .ok (.aload_n 0, 1) := by decide +kernel
theorem d4_5 : decode prog_229_method_2_code 5 = .ok (.sipush 256, 3) := by decide +kernel
theorem d4_8 : decode prog_229_method_2_code 8 = .ok (.newarray .byte, 2) := by decide +kernel
theorem d4_10 : decode prog_229_method_2_code 10 = .ok (.putfield 15, 3) := by decide +kernel
theorem d4_13 : decode prog_229_method_2_code 13 = .ok (.aload_n 0, 1) := by decide +kernel
theorem d4_14 : decode prog_229_method_2_code 14 = .ok (.iload_n 1, 1) := by decide +kernel
theorem d4_15 : decode prog_229_method_2_code 15 = .ok (.putfield 19, 3) := by decide +kernel
theorem d4_18 : decode prog_229_method_2_code 18 = .ok (.aload_n 0, 1) := by decide +kernel
theorem d4_19 : decode prog_229_method_2_code 19 = .ok (.iload_n 2, 1) := by decide +kernel
theorem d4_20 : decode prog_229_method_2_code 20 = .ok (.putfield 23, 3) := by decide +kernel
theorem d4_23 : decode prog_229_method_2_code 23 = .ok (.return_, 1) := by decide +kernel
def Q_rmI2_0 (Z : State) (a1 : Addr) (h0 : Heap) (n0 : Nat) (v : Option Value) (h : Heap) (L : List Loc) : Prop := v = none ∧ Fr n0 L ∧ Keep h0 h [a1] ∧ ∃ b, n0 ≤ b ∧ h0.size ≤ b ∧ Exa Z h a1 "com/example/ply2/ply2/protocol/ProtocolWriter" ∧ Fld Z h a1 "com/example/ply2/ply2/protocol/ProtocolWriter" "bytes" "[B" (.ref b) ∧ Fld Z h a1 "com/example/ply2/ply2/protocol/ProtocolWriter" "flexible" "Z" (.int (0 : Int32)) ∧ Fld Z h a1 "com/example/ply2/ply2/protocol/ProtocolWriter" "maxBytes" "I" (.int (2147483647 : Int32)) ∧ Fld Z h a1 "com/example/ply2/ply2/protocol/ProtocolWriter" "size" "I" (.int (0 : Int32)) ∧ own_Ar Z h b .byte 256 (fun _ => .int (0 : Int32))
set_option maxRecDepth 65536 in
set_option maxHeartbeats 40000000 in
theorem rmI2_0 (l : Launch) (Z : State) (a0 : Array Value) (hw : ∀ d ∈ tables_1, d.before a0 Z = true) (ws : List Jvm.Cond) (a1 : Addr) (h0 : Heap) (n0 : Nat) (Z0 : n0 ≤ h0.size) (E_a1 : Exa Z h0 a1 "com/example/ply2/ply2/protocol/ProtocolWriter") (u_bytes : Value) (u_flexible : Value) (u_maxBytes : Value) (F_bytes_a1 : Fld Z h0 a1 "com/example/ply2/ply2/protocol/ProtocolWriter" "bytes" "[B" u_bytes) (F_flexible_a1 : Fld Z h0 a1 "com/example/ply2/ply2/protocol/ProtocolWriter" "flexible" "Z" u_flexible) (F_maxBytes_a1 : Fld Z h0 a1 "com/example/ply2/ply2/protocol/ProtocolWriter" "maxBytes" "I" u_maxBytes) (F_size_a1 : Fld Z h0 a1 "com/example/ply2/ply2/protocol/ProtocolWriter" "size" "I" (.int (0 : Int32))) (g_a1 : n0 ≤ a1) :
    own_Ctr l Z (⟨"com/example/ply2/ply2/protocol/ProtocolWriter", "<init>", "(ZI)V"⟩ : MethodName) prog_229_method_2_code 3 none ws ({ frames := 1, cells := 1, slots := 256, locals := 12 } : Room) #[(.ref a1), (.int (0 : Int32)), (.int (2147483647 : Int32))] h0 (Q_rmI2_0 Z a1 h0 n0) := by
  refine own_enter (plainFor_of_name own_pn0) ?_
  intro p e s m below meth c s₁ X0 hx hby hml hrt hlk hZ hown hnm e0
  have N0 := Fr.nil n0
  have Zs := Z0
  have K0 := Keep.refl h0 [a1]
  rw [show entryFrame m #[(.ref a1), (.int (0 : Int32)), (.int (2147483647 : Int32))] 3 = mkF m 0 #[.val (.ref a1), .val (.int (0 : Int32)), .val (.int (2147483647 : Int32))] [] from by first | (simp [entryFrame, mkF, argsToLocals, Value.category]; done) | rfl]
  show own_Wp _ _ _ _ (s₁.setTop (mkF m 0 #[.val (.ref a1), .val (.int (0 : Int32)), .val (.int (2147483647 : Int32))] []))
  refine own_of (fun tgt kon => XS.aloadN X0.here hx rfl (hb hby d4_0) rfl rfl kon) ?_
  show own_Wp _ _ _ _ (s₁.setTop (mkF m 1 #[.val (.ref a1), .val (.int (0 : Int32)), .val (.int (2147483647 : Int32))] [(.ref a1)]))
  obtain ⟨T1, X1, e1, st1⟩ := initO X0 hx hZ hown (hw _ (List.mem_of_getElem? (i := 18) rfl)) (hw _ (List.mem_of_getElem? (i := 19) rfl)) (hw _ (List.mem_of_getElem? (i := 20) rfl)) e0 (g := (mkF m 1 #[.val (.ref a1), .val (.int (0 : Int32)), .val (.int (2147483647 : Int32))] [(.ref a1)])) rfl (by rw [hml]; rfl) rfl (hb hby d4_1) (by decide) (W := 0) (by show 2 * 0 + _ ≤ _; exact Nat.le_of_eq rfl) (by decide)
  refine own_of st1 ?_
  show own_Wp _ _ _ _ (T1.setTop (mkF m 4 #[.val (.ref a1), .val (.int (0 : Int32)), .val (.int (2147483647 : Int32))] []))
  refine own_of (fun tgt kon => XS.aloadN X1.here hx rfl (hb hby d4_4) rfl rfl kon) ?_
  show own_Wp _ _ _ _ (T1.setTop (mkF m 5 #[.val (.ref a1), .val (.int (0 : Int32)), .val (.int (2147483647 : Int32))] [(.ref a1)]))
  refine own_of (fun tgt kon => XS.sipush X1.here hx rfl (hb hby d4_5) kon) ?_
  show own_Wp _ _ _ _ (T1.setTop (mkF m 8 #[.val (.ref a1), .val (.int (0 : Int32)), .val (.int (2147483647 : Int32))] [(.int (256 : Int32)), (.ref a1)]))
  obtain ⟨T2, h2, k2, X2, e2, E2, A2, st2⟩ := newP X1 hx hZ (hw _ (List.mem_of_getElem? (i := 21) rfl)) e1 (g := (mkF m 8 #[.val (.ref a1), .val (.int (0 : Int32)), .val (.int (2147483647 : Int32))] [(.int (256 : Int32)), (.ref a1)])) rfl (hb hby d4_8) rfl (by decide) (cap := 256) (by decide) (by decide) (by decide) (by decide)
  refine own_of st2 ?_
  clear st2
  obtain ⟨b2, gq2⟩ : ∃ z, z = h0.size := ⟨_, rfl⟩
  rw [← gq2] at A2 ⊢
  have ne_a1_b2 : a1 ≠ b2 := Nat.ne_of_lt (Nat.lt_of_lt_of_le E_a1.lt (Nat.le_of_eq gq2.symm))
  have g_b2 : n0 ≤ b2 := Nat.le_trans Zs (Nat.le_of_eq gq2.symm)
  have sz_b2 : h0.size ≤ b2 := Nat.le_trans K0.1 (Nat.le_of_eq gq2.symm)
  have Zs := Nat.le_trans Zs E2.1
  have K0 := K0.ext E2
  have E_a1 := E_a1.ext E2
  have F_bytes_a1 := F_bytes_a1.ext E2
  have F_flexible_a1 := F_flexible_a1.ext E2
  have F_maxBytes_a1 := F_maxBytes_a1.ext E2
  have F_size_a1 := F_size_a1.ext E2
  have V_b2 : own_Ar Z h2 b2 .byte 256 (fun _ => (.int (0 : Int32))) := own_Ar.new A2 (by decide) rfl
  show own_Wp _ _ _ _ (T2.setTop (mkF m 10 #[.val (.ref a1), .val (.int (0 : Int32)), .val (.int (2147483647 : Int32))] [(.ref b2), (.ref a1)]))
  obtain ⟨T3, h3, X3, e3, W3, st3⟩ := putF X2 hx hZ hown (host := "") (Or.inl (hw _ (List.mem_of_getElem? (i := 22) rfl))) Via.refl e2 F_bytes_a1 E_a1 (Or.inl (hw _ (List.mem_of_getElem? (i := 23) rfl))) (hw _ (List.mem_of_getElem? (i := 10) rfl)) (ty := (.array .byte)) (by decide) rfl rfl (g := (mkF m 10 #[.val (.ref a1), .val (.int (0 : Int32)), .val (.int (2147483647 : Int32))] [(.ref b2), (.ref a1)])) rfl rfl (hb hby d4_10)
  refine own_of st3 ?_
  have Fq3 := Fld.same W3 F_bytes_a1
  have Zs := Nat.le_trans Zs (Keep.of_wr W3).1
  have K0 := K0.wr W3 (Or.inl (List.mem_of_getElem? (i := 0) rfl))
  have E_a1 := E_a1.wr W3
  have F_flexible_a1 := F_flexible_a1.other W3 (Or.inr (slot_ne (Or.inr (hw _ (List.mem_of_getElem? (i := 25) rfl))) (Or.inl (hw _ (List.mem_of_getElem? (i := 23) rfl))) (by decide) (t := .boolean) (t' := (.array .byte)) (by decide) (by decide)))
  have F_maxBytes_a1 := F_maxBytes_a1.other W3 (Or.inr (slot_ne (Or.inr (hw _ (List.mem_of_getElem? (i := 27) rfl))) (Or.inl (hw _ (List.mem_of_getElem? (i := 23) rfl))) (by decide) (t := .int) (t' := (.array .byte)) (by decide) (by decide)))
  have F_size_a1 := F_size_a1.other W3 (Or.inr (slot_ne (Or.inl (hw _ (List.mem_of_getElem? (i := 47) rfl))) (Or.inl (hw _ (List.mem_of_getElem? (i := 23) rfl))) (by decide) (t := .int) (t' := (.array .byte)) (by decide) (by decide)))
  have V_b2 := V_b2.other W3 (Ne.symm ne_a1_b2)
  have F_bytes_a1 := Fq3
  have N3 := Fr.snoc X3 N0 g_a1
  show own_Wp _ _ _ _ (T3.setTop (mkF m 13 #[.val (.ref a1), .val (.int (0 : Int32)), .val (.int (2147483647 : Int32))] []))
  refine own_of (fun tgt kon => XS.aloadN X3.here hx rfl (hb hby d4_13) rfl rfl kon) ?_
  show own_Wp _ _ _ _ (T3.setTop (mkF m 14 #[.val (.ref a1), .val (.int (0 : Int32)), .val (.int (2147483647 : Int32))] [(.ref a1)]))
  refine own_of (fun tgt kon => XS.iloadN X3.here hx rfl (hb hby d4_14) rfl kon) ?_
  show own_Wp _ _ _ _ (T3.setTop (mkF m 15 #[.val (.ref a1), .val (.int (0 : Int32)), .val (.int (2147483647 : Int32))] [(.int (0 : Int32)), (.ref a1)]))
  obtain ⟨T4, h4, X4, e4, W4, st4⟩ := putFN X3 hx hZ hown (hw _ (List.mem_of_getElem? (i := 24) rfl)) Via.refl e3 F_flexible_a1 E_a1 (Or.inr ⟨(hw _ (List.mem_of_getElem? (i := 25) rfl)), rfl, hnm⟩) (hw _ (List.mem_of_getElem? (i := 10) rfl)) (ty := .boolean) (v' := (.int (0 : Int32))) (by decide) (by decide) (by decide) (g := (mkF m 15 #[.val (.ref a1), .val (.int (0 : Int32)), .val (.int (2147483647 : Int32))] [(.int (0 : Int32)), (.ref a1)])) rfl rfl (hb hby d4_15)
  refine own_of st4 ?_
  have Fq4 := Fld.same W4 F_flexible_a1
  have Zs := Nat.le_trans Zs (Keep.of_wr W4).1
  have K0 := K0.wr W4 (Or.inl (List.mem_of_getElem? (i := 0) rfl))
  have E_a1 := E_a1.wr W4
  have F_bytes_a1 := F_bytes_a1.other W4 (Or.inr (slot_ne (Or.inl (hw _ (List.mem_of_getElem? (i := 23) rfl))) (Or.inr (hw _ (List.mem_of_getElem? (i := 25) rfl))) (by decide) (t := (.array .byte)) (t' := .boolean) (by decide) (by decide)))
  have F_maxBytes_a1 := F_maxBytes_a1.other W4 (Or.inr (slot_ne (Or.inr (hw _ (List.mem_of_getElem? (i := 27) rfl))) (Or.inr (hw _ (List.mem_of_getElem? (i := 25) rfl))) (by decide) (t := .int) (t' := .boolean) (by decide) (by decide)))
  have F_size_a1 := F_size_a1.other W4 (Or.inr (slot_ne (Or.inl (hw _ (List.mem_of_getElem? (i := 47) rfl))) (Or.inr (hw _ (List.mem_of_getElem? (i := 25) rfl))) (by decide) (t := .int) (t' := .boolean) (by decide) (by decide)))
  have V_b2 := V_b2.other W4 (Ne.symm ne_a1_b2)
  have F_flexible_a1 := Fq4
  have N4 := Fr.snoc X4 N3 g_a1
  show own_Wp _ _ _ _ (T4.setTop (mkF m 18 #[.val (.ref a1), .val (.int (0 : Int32)), .val (.int (2147483647 : Int32))] []))
  refine own_of (fun tgt kon => XS.aloadN X4.here hx rfl (hb hby d4_18) rfl rfl kon) ?_
  show own_Wp _ _ _ _ (T4.setTop (mkF m 19 #[.val (.ref a1), .val (.int (0 : Int32)), .val (.int (2147483647 : Int32))] [(.ref a1)]))
  refine own_of (fun tgt kon => XS.iloadN X4.here hx rfl (hb hby d4_19) rfl kon) ?_
  show own_Wp _ _ _ _ (T4.setTop (mkF m 20 #[.val (.ref a1), .val (.int (0 : Int32)), .val (.int (2147483647 : Int32))] [(.int (2147483647 : Int32)), (.ref a1)]))
  obtain ⟨T5, h5, X5, e5, W5, st5⟩ := putF X4 hx hZ hown (host := "") (Or.inl (hw _ (List.mem_of_getElem? (i := 26) rfl))) Via.refl e4 F_maxBytes_a1 E_a1 (Or.inr ⟨(hw _ (List.mem_of_getElem? (i := 27) rfl)), rfl, hnm⟩) (hw _ (List.mem_of_getElem? (i := 10) rfl)) (ty := .int) (by decide) rfl rfl (g := (mkF m 20 #[.val (.ref a1), .val (.int (0 : Int32)), .val (.int (2147483647 : Int32))] [(.int (2147483647 : Int32)), (.ref a1)])) rfl rfl (hb hby d4_20)
  refine own_of st5 ?_
  have Fq5 := Fld.same W5 F_maxBytes_a1
  have Zs := Nat.le_trans Zs (Keep.of_wr W5).1
  have K0 := K0.wr W5 (Or.inl (List.mem_of_getElem? (i := 0) rfl))
  have E_a1 := E_a1.wr W5
  have F_bytes_a1 := F_bytes_a1.other W5 (Or.inr (slot_ne (Or.inl (hw _ (List.mem_of_getElem? (i := 23) rfl))) (Or.inr (hw _ (List.mem_of_getElem? (i := 27) rfl))) (by decide) (t := (.array .byte)) (t' := .int) (by decide) (by decide)))
  have F_flexible_a1 := F_flexible_a1.other W5 (Or.inr (slot_ne (Or.inr (hw _ (List.mem_of_getElem? (i := 25) rfl))) (Or.inr (hw _ (List.mem_of_getElem? (i := 27) rfl))) (by decide) (t := .boolean) (t' := .int) (by decide) (by decide)))
  have F_size_a1 := F_size_a1.other W5 (Or.inr (slot_ne (Or.inl (hw _ (List.mem_of_getElem? (i := 47) rfl))) (Or.inr (hw _ (List.mem_of_getElem? (i := 27) rfl))) (by decide) (t := .int) (t' := .int) (by decide) (by decide)))
  have V_b2 := V_b2.other W5 (Ne.symm ne_a1_b2)
  have F_maxBytes_a1 := Fq5
  have N5 := Fr.snoc X5 N4 g_a1
  show own_Wp _ _ _ _ (T5.setTop (mkF m 23 #[.val (.ref a1), .val (.int (0 : Int32)), .val (.int (2147483647 : Int32))] []))
  refine own_ret X5 hlk none (fun _ => rfl) (fun fs hr => X5.returnOut hx hrt (hb hby d4_23) hr) ?_ (by decide) (by decide)
  rw [e5]
  exact ⟨rfl, N5, K0, b2, g_b2, sz_b2, E_a1, F_bytes_a1, F_flexible_a1, F_maxBytes_a1, F_size_a1, V_b2⟩
theorem d3_0 : decode prog_229_method_1_code 0 = .ok (.aload_n 0, 1) := by decide +kernel
theorem d3_1 : decode prog_229_method_1_code 1 = .ok (.iload_n 1, 1) := by decide +kernel
theorem d3_2 : decode prog_229_method_1_code 2 = .ok (.ldc 3, 2) := by decide +kernel
theorem d3_4 : decode prog_229_method_1_code 4 = .ok (.invokespecial 4, 3) := by decide +kernel
theorem own_pd3 : parseMethodDescriptor "(ZI)V" = some ⟨[.boolean, .int], none⟩ := by decide +kernel
theorem d3_7 : decode prog_229_method_1_code 7 = .ok (.return_, 1) := by decide +kernel
def Q_rmI1_0 (Z : State) (a1 : Addr) (h0 : Heap) (n0 : Nat) (v : Option Value) (h : Heap) (L : List Loc) : Prop := v = none ∧ Fr n0 L ∧ Keep h0 h [a1] ∧ ∃ b, n0 ≤ b ∧ h0.size ≤ b ∧ Exa Z h a1 "com/example/ply2/ply2/protocol/ProtocolWriter" ∧ Fld Z h a1 "com/example/ply2/ply2/protocol/ProtocolWriter" "bytes" "[B" (.ref b) ∧ Fld Z h a1 "com/example/ply2/ply2/protocol/ProtocolWriter" "flexible" "Z" (.int (0 : Int32)) ∧ Fld Z h a1 "com/example/ply2/ply2/protocol/ProtocolWriter" "maxBytes" "I" (.int (2147483647 : Int32)) ∧ Fld Z h a1 "com/example/ply2/ply2/protocol/ProtocolWriter" "size" "I" (.int (0 : Int32)) ∧ own_Ar Z h b .byte 256 (fun _ => .int (0 : Int32))
set_option maxRecDepth 65536 in
set_option maxHeartbeats 40000000 in
theorem rmI1_0 (l : Launch) (Z : State) (a0 : Array Value) (hw : ∀ d ∈ tables_1, d.before a0 Z = true) (ws : List Jvm.Cond) (a1 : Addr) (h0 : Heap) (n0 : Nat) (Z0 : n0 ≤ h0.size) (E_a1 : Exa Z h0 a1 "com/example/ply2/ply2/protocol/ProtocolWriter") (u_bytes : Value) (u_flexible : Value) (u_maxBytes : Value) (F_bytes_a1 : Fld Z h0 a1 "com/example/ply2/ply2/protocol/ProtocolWriter" "bytes" "[B" u_bytes) (F_flexible_a1 : Fld Z h0 a1 "com/example/ply2/ply2/protocol/ProtocolWriter" "flexible" "Z" u_flexible) (F_maxBytes_a1 : Fld Z h0 a1 "com/example/ply2/ply2/protocol/ProtocolWriter" "maxBytes" "I" u_maxBytes) (F_size_a1 : Fld Z h0 a1 "com/example/ply2/ply2/protocol/ProtocolWriter" "size" "I" (.int (0 : Int32))) (g_a1 : n0 ≤ a1) :
    own_Ctr l Z (⟨"com/example/ply2/ply2/protocol/ProtocolWriter", "<init>", "(Z)V"⟩ : MethodName) prog_229_method_1_code 2 none ws ({ frames := 2, cells := 1, slots := 256, locals := 26 } : Room) #[(.ref a1), (.int (0 : Int32))] h0 (Q_rmI1_0 Z a1 h0 n0) := by
  refine own_enter (plainFor_of_name own_pn0) ?_
  intro p e s m below meth c s₁ X0 hx hby hml hrt hlk hZ hown hnm e0
  have N0 := Fr.nil n0
  have Zs := Z0
  have K0 := Keep.refl h0 [a1]
  rw [show entryFrame m #[(.ref a1), (.int (0 : Int32))] 2 = mkF m 0 #[.val (.ref a1), .val (.int (0 : Int32))] [] from by first | (simp [entryFrame, mkF, argsToLocals, Value.category]; done) | rfl]
  show own_Wp _ _ _ _ (s₁.setTop (mkF m 0 #[.val (.ref a1), .val (.int (0 : Int32))] []))
  refine own_of (fun tgt kon => XS.aloadN X0.here hx rfl (hb hby d3_0) rfl rfl kon) ?_
  show own_Wp _ _ _ _ (s₁.setTop (mkF m 1 #[.val (.ref a1), .val (.int (0 : Int32))] [(.ref a1)]))
  refine own_of (fun tgt kon => XS.iloadN X0.here hx rfl (hb hby d3_1) rfl kon) ?_
  show own_Wp _ _ _ _ (s₁.setTop (mkF m 2 #[.val (.ref a1), .val (.int (0 : Int32))] [(.int (0 : Int32)), (.ref a1)]))
  refine own_of (X0.ldcInt hx hown (mvT hZ (hw _ (List.mem_of_getElem? (i := 14) rfl))) (g := (mkF m 2 #[.val (.ref a1), .val (.int (0 : Int32))] [(.int (0 : Int32)), (.ref a1)])) rfl (hb hby d3_2)) ?_
  show own_Wp _ _ _ _ (s₁.setTop (mkF m 4 #[.val (.ref a1), .val (.int (0 : Int32))] [(.int (2147483647 : Int32)), (.int (0 : Int32)), (.ref a1)]))
  have lt1 := E_a1.lt
  refine own_callI X0 hx hZ (y := (⟨"com/example/ply2/ply2/protocol/ProtocolWriter", "<init>", "(ZI)V"⟩ : MethodName)) (a := a1) (argsL := [(.int (0 : Int32)), (.int (2147483647 : Int32))]) (rest := []) (W := 0) rfl hown (hw _ (List.mem_of_getElem? (i := 15) rfl)) (hw _ (List.mem_of_getElem? (i := 16) rfl)) (hw _ (List.mem_of_getElem? (i := 2) rfl)) (hw _ (List.mem_of_getElem? (i := 17) rfl)) (by decide) e0 (rmI2_0 l Z a0 hw [] a1 h0 n0 Zs E_a1 _ _ _ F_bytes_a1 F_flexible_a1 F_maxBytes_a1 F_size_a1 g_a1) (by decide) (by decide) (by decide) (by decide) (g := (mkF m 4 #[.val (.ref a1), .val (.int (0 : Int32))] [(.int (2147483647 : Int32)), (.int (0 : Int32)), (.ref a1)])) rfl (by rw [hml]; rfl) (lenOf own_pd3 rfl) rfl (by show 2 * 0 + _ ≤ _; exact Nat.le_of_eq rfl) (hb hby d3_4) ?_
  rintro T1 L1 _ X1 ⟨rfl, N1q, Kq1, c1, g_c1, szq1, E_1_q, F_bytes_1_q, F_flexible_1_q, F_maxBytes_1_q, F_size_1_q, V_1q⟩
  have N1 := Fr.app N0 N1q
  show own_Wp _ _ _ _ (T1.setTop (mkF m 7 #[.val (.ref a1), .val (.int (0 : Int32))] []))
  have Zs := Nat.le_trans Zs Kq1.1
  have K0 := K0.trans Kq1 (allS (P := fun z => z ∈ _ ∨ _ ≤ z) (Or.inl (List.mem_of_getElem? (i := 0) rfl)) all0)
  have E_a1 := E_a1.keep Kq1
  have E_a1 := E_1_q
  have F_bytes_a1 := F_bytes_1_q
  have F_flexible_a1 := F_flexible_1_q
  have F_maxBytes_a1 := F_maxBytes_1_q
  have F_size_a1 := F_size_1_q
  have V_c1 := V_1q
  have ne_a1_c1 : a1 ≠ c1 := Nat.ne_of_lt (Nat.lt_of_lt_of_le lt1 szq1)
  have sz_c1 := szq1
  refine own_ret X1 hlk none (fun _ => rfl) (fun fs hr => X1.returnOut hx hrt (hb hby d3_7) hr) ?_ (by decide) (by decide)
  exact ⟨rfl, N1, K0, c1, g_c1, sz_c1, E_a1, F_bytes_a1, F_flexible_a1, F_maxBytes_a1, F_size_a1, V_c1⟩
def Q_rmI2_1 (Z : State) (a1 : Addr) (h0 : Heap) (n0 : Nat) (v : Option Value) (h : Heap) (L : List Loc) : Prop := v = none ∧ Fr n0 L ∧ Keep h0 h [a1] ∧ ∃ b, n0 ≤ b ∧ h0.size ≤ b ∧ Exa Z h a1 "com/example/ply2/ply2/protocol/ProtocolWriter" ∧ Fld Z h a1 "com/example/ply2/ply2/protocol/ProtocolWriter" "bytes" "[B" (.ref b) ∧ Fld Z h a1 "com/example/ply2/ply2/protocol/ProtocolWriter" "flexible" "Z" (.int (1 : Int32)) ∧ Fld Z h a1 "com/example/ply2/ply2/protocol/ProtocolWriter" "maxBytes" "I" (.int (2147483647 : Int32)) ∧ Fld Z h a1 "com/example/ply2/ply2/protocol/ProtocolWriter" "size" "I" (.int (0 : Int32)) ∧ own_Ar Z h b .byte 256 (fun _ => .int (0 : Int32))
set_option maxRecDepth 65536 in
set_option maxHeartbeats 40000000 in
theorem rmI2_1 (l : Launch) (Z : State) (a0 : Array Value) (hw : ∀ d ∈ tables_1, d.before a0 Z = true) (ws : List Jvm.Cond) (a1 : Addr) (h0 : Heap) (n0 : Nat) (Z0 : n0 ≤ h0.size) (E_a1 : Exa Z h0 a1 "com/example/ply2/ply2/protocol/ProtocolWriter") (u_bytes : Value) (u_flexible : Value) (u_maxBytes : Value) (F_bytes_a1 : Fld Z h0 a1 "com/example/ply2/ply2/protocol/ProtocolWriter" "bytes" "[B" u_bytes) (F_flexible_a1 : Fld Z h0 a1 "com/example/ply2/ply2/protocol/ProtocolWriter" "flexible" "Z" u_flexible) (F_maxBytes_a1 : Fld Z h0 a1 "com/example/ply2/ply2/protocol/ProtocolWriter" "maxBytes" "I" u_maxBytes) (F_size_a1 : Fld Z h0 a1 "com/example/ply2/ply2/protocol/ProtocolWriter" "size" "I" (.int (0 : Int32))) (g_a1 : n0 ≤ a1) :
    own_Ctr l Z (⟨"com/example/ply2/ply2/protocol/ProtocolWriter", "<init>", "(ZI)V"⟩ : MethodName) prog_229_method_2_code 3 none ws ({ frames := 1, cells := 1, slots := 256, locals := 12 } : Room) #[(.ref a1), (.int (1 : Int32)), (.int (2147483647 : Int32))] h0 (Q_rmI2_1 Z a1 h0 n0) := by
  refine own_enter (plainFor_of_name own_pn0) ?_
  intro p e s m below meth c s₁ X0 hx hby hml hrt hlk hZ hown hnm e0
  have N0 := Fr.nil n0
  have Zs := Z0
  have K0 := Keep.refl h0 [a1]
  rw [show entryFrame m #[(.ref a1), (.int (1 : Int32)), (.int (2147483647 : Int32))] 3 = mkF m 0 #[.val (.ref a1), .val (.int (1 : Int32)), .val (.int (2147483647 : Int32))] [] from by first | (simp [entryFrame, mkF, argsToLocals, Value.category]; done) | rfl]
  show own_Wp _ _ _ _ (s₁.setTop (mkF m 0 #[.val (.ref a1), .val (.int (1 : Int32)), .val (.int (2147483647 : Int32))] []))
  refine own_of (fun tgt kon => XS.aloadN X0.here hx rfl (hb hby d4_0) rfl rfl kon) ?_
  show own_Wp _ _ _ _ (s₁.setTop (mkF m 1 #[.val (.ref a1), .val (.int (1 : Int32)), .val (.int (2147483647 : Int32))] [(.ref a1)]))
  obtain ⟨T1, X1, e1, st1⟩ := initO X0 hx hZ hown (hw _ (List.mem_of_getElem? (i := 18) rfl)) (hw _ (List.mem_of_getElem? (i := 19) rfl)) (hw _ (List.mem_of_getElem? (i := 20) rfl)) e0 (g := (mkF m 1 #[.val (.ref a1), .val (.int (1 : Int32)), .val (.int (2147483647 : Int32))] [(.ref a1)])) rfl (by rw [hml]; rfl) rfl (hb hby d4_1) (by decide) (W := 0) (by show 2 * 0 + _ ≤ _; exact Nat.le_of_eq rfl) (by decide)
  refine own_of st1 ?_
  show own_Wp _ _ _ _ (T1.setTop (mkF m 4 #[.val (.ref a1), .val (.int (1 : Int32)), .val (.int (2147483647 : Int32))] []))
  refine own_of (fun tgt kon => XS.aloadN X1.here hx rfl (hb hby d4_4) rfl rfl kon) ?_
  show own_Wp _ _ _ _ (T1.setTop (mkF m 5 #[.val (.ref a1), .val (.int (1 : Int32)), .val (.int (2147483647 : Int32))] [(.ref a1)]))
  refine own_of (fun tgt kon => XS.sipush X1.here hx rfl (hb hby d4_5) kon) ?_
  show own_Wp _ _ _ _ (T1.setTop (mkF m 8 #[.val (.ref a1), .val (.int (1 : Int32)), .val (.int (2147483647 : Int32))] [(.int (256 : Int32)), (.ref a1)]))
  obtain ⟨T2, h2, k2, X2, e2, E2, A2, st2⟩ := newP X1 hx hZ (hw _ (List.mem_of_getElem? (i := 21) rfl)) e1 (g := (mkF m 8 #[.val (.ref a1), .val (.int (1 : Int32)), .val (.int (2147483647 : Int32))] [(.int (256 : Int32)), (.ref a1)])) rfl (hb hby d4_8) rfl (by decide) (cap := 256) (by decide) (by decide) (by decide) (by decide)
  refine own_of st2 ?_
  clear st2
  obtain ⟨b2, gq2⟩ : ∃ z, z = h0.size := ⟨_, rfl⟩
  rw [← gq2] at A2 ⊢
  have ne_a1_b2 : a1 ≠ b2 := Nat.ne_of_lt (Nat.lt_of_lt_of_le E_a1.lt (Nat.le_of_eq gq2.symm))
  have g_b2 : n0 ≤ b2 := Nat.le_trans Zs (Nat.le_of_eq gq2.symm)
  have sz_b2 : h0.size ≤ b2 := Nat.le_trans K0.1 (Nat.le_of_eq gq2.symm)
  have Zs := Nat.le_trans Zs E2.1
  have K0 := K0.ext E2
  have E_a1 := E_a1.ext E2
  have F_bytes_a1 := F_bytes_a1.ext E2
  have F_flexible_a1 := F_flexible_a1.ext E2
  have F_maxBytes_a1 := F_maxBytes_a1.ext E2
  have F_size_a1 := F_size_a1.ext E2
  have V_b2 : own_Ar Z h2 b2 .byte 256 (fun _ => (.int (0 : Int32))) := own_Ar.new A2 (by decide) rfl
  show own_Wp _ _ _ _ (T2.setTop (mkF m 10 #[.val (.ref a1), .val (.int (1 : Int32)), .val (.int (2147483647 : Int32))] [(.ref b2), (.ref a1)]))
  obtain ⟨T3, h3, X3, e3, W3, st3⟩ := putF X2 hx hZ hown (host := "") (Or.inl (hw _ (List.mem_of_getElem? (i := 22) rfl))) Via.refl e2 F_bytes_a1 E_a1 (Or.inl (hw _ (List.mem_of_getElem? (i := 23) rfl))) (hw _ (List.mem_of_getElem? (i := 10) rfl)) (ty := (.array .byte)) (by decide) rfl rfl (g := (mkF m 10 #[.val (.ref a1), .val (.int (1 : Int32)), .val (.int (2147483647 : Int32))] [(.ref b2), (.ref a1)])) rfl rfl (hb hby d4_10)
  refine own_of st3 ?_
  have Fq3 := Fld.same W3 F_bytes_a1
  have Zs := Nat.le_trans Zs (Keep.of_wr W3).1
  have K0 := K0.wr W3 (Or.inl (List.mem_of_getElem? (i := 0) rfl))
  have E_a1 := E_a1.wr W3
  have F_flexible_a1 := F_flexible_a1.other W3 (Or.inr (slot_ne (Or.inr (hw _ (List.mem_of_getElem? (i := 25) rfl))) (Or.inl (hw _ (List.mem_of_getElem? (i := 23) rfl))) (by decide) (t := .boolean) (t' := (.array .byte)) (by decide) (by decide)))
  have F_maxBytes_a1 := F_maxBytes_a1.other W3 (Or.inr (slot_ne (Or.inr (hw _ (List.mem_of_getElem? (i := 27) rfl))) (Or.inl (hw _ (List.mem_of_getElem? (i := 23) rfl))) (by decide) (t := .int) (t' := (.array .byte)) (by decide) (by decide)))
  have F_size_a1 := F_size_a1.other W3 (Or.inr (slot_ne (Or.inl (hw _ (List.mem_of_getElem? (i := 47) rfl))) (Or.inl (hw _ (List.mem_of_getElem? (i := 23) rfl))) (by decide) (t := .int) (t' := (.array .byte)) (by decide) (by decide)))
  have V_b2 := V_b2.other W3 (Ne.symm ne_a1_b2)
  have F_bytes_a1 := Fq3
  have N3 := Fr.snoc X3 N0 g_a1
  show own_Wp _ _ _ _ (T3.setTop (mkF m 13 #[.val (.ref a1), .val (.int (1 : Int32)), .val (.int (2147483647 : Int32))] []))
  refine own_of (fun tgt kon => XS.aloadN X3.here hx rfl (hb hby d4_13) rfl rfl kon) ?_
  show own_Wp _ _ _ _ (T3.setTop (mkF m 14 #[.val (.ref a1), .val (.int (1 : Int32)), .val (.int (2147483647 : Int32))] [(.ref a1)]))
  refine own_of (fun tgt kon => XS.iloadN X3.here hx rfl (hb hby d4_14) rfl kon) ?_
  show own_Wp _ _ _ _ (T3.setTop (mkF m 15 #[.val (.ref a1), .val (.int (1 : Int32)), .val (.int (2147483647 : Int32))] [(.int (1 : Int32)), (.ref a1)]))
  obtain ⟨T4, h4, X4, e4, W4, st4⟩ := putFN X3 hx hZ hown (hw _ (List.mem_of_getElem? (i := 24) rfl)) Via.refl e3 F_flexible_a1 E_a1 (Or.inr ⟨(hw _ (List.mem_of_getElem? (i := 25) rfl)), rfl, hnm⟩) (hw _ (List.mem_of_getElem? (i := 10) rfl)) (ty := .boolean) (v' := (.int (1 : Int32))) (by decide) (by decide) (by decide) (g := (mkF m 15 #[.val (.ref a1), .val (.int (1 : Int32)), .val (.int (2147483647 : Int32))] [(.int (1 : Int32)), (.ref a1)])) rfl rfl (hb hby d4_15)
  refine own_of st4 ?_
  have Fq4 := Fld.same W4 F_flexible_a1
  have Zs := Nat.le_trans Zs (Keep.of_wr W4).1
  have K0 := K0.wr W4 (Or.inl (List.mem_of_getElem? (i := 0) rfl))
  have E_a1 := E_a1.wr W4
  have F_bytes_a1 := F_bytes_a1.other W4 (Or.inr (slot_ne (Or.inl (hw _ (List.mem_of_getElem? (i := 23) rfl))) (Or.inr (hw _ (List.mem_of_getElem? (i := 25) rfl))) (by decide) (t := (.array .byte)) (t' := .boolean) (by decide) (by decide)))
  have F_maxBytes_a1 := F_maxBytes_a1.other W4 (Or.inr (slot_ne (Or.inr (hw _ (List.mem_of_getElem? (i := 27) rfl))) (Or.inr (hw _ (List.mem_of_getElem? (i := 25) rfl))) (by decide) (t := .int) (t' := .boolean) (by decide) (by decide)))
  have F_size_a1 := F_size_a1.other W4 (Or.inr (slot_ne (Or.inl (hw _ (List.mem_of_getElem? (i := 47) rfl))) (Or.inr (hw _ (List.mem_of_getElem? (i := 25) rfl))) (by decide) (t := .int) (t' := .boolean) (by decide) (by decide)))
  have V_b2 := V_b2.other W4 (Ne.symm ne_a1_b2)
  have F_flexible_a1 := Fq4
  have N4 := Fr.snoc X4 N3 g_a1
  show own_Wp _ _ _ _ (T4.setTop (mkF m 18 #[.val (.ref a1), .val (.int (1 : Int32)), .val (.int (2147483647 : Int32))] []))
  refine own_of (fun tgt kon => XS.aloadN X4.here hx rfl (hb hby d4_18) rfl rfl kon) ?_
  show own_Wp _ _ _ _ (T4.setTop (mkF m 19 #[.val (.ref a1), .val (.int (1 : Int32)), .val (.int (2147483647 : Int32))] [(.ref a1)]))
  refine own_of (fun tgt kon => XS.iloadN X4.here hx rfl (hb hby d4_19) rfl kon) ?_
  show own_Wp _ _ _ _ (T4.setTop (mkF m 20 #[.val (.ref a1), .val (.int (1 : Int32)), .val (.int (2147483647 : Int32))] [(.int (2147483647 : Int32)), (.ref a1)]))
  obtain ⟨T5, h5, X5, e5, W5, st5⟩ := putF X4 hx hZ hown (host := "") (Or.inl (hw _ (List.mem_of_getElem? (i := 26) rfl))) Via.refl e4 F_maxBytes_a1 E_a1 (Or.inr ⟨(hw _ (List.mem_of_getElem? (i := 27) rfl)), rfl, hnm⟩) (hw _ (List.mem_of_getElem? (i := 10) rfl)) (ty := .int) (by decide) rfl rfl (g := (mkF m 20 #[.val (.ref a1), .val (.int (1 : Int32)), .val (.int (2147483647 : Int32))] [(.int (2147483647 : Int32)), (.ref a1)])) rfl rfl (hb hby d4_20)
  refine own_of st5 ?_
  have Fq5 := Fld.same W5 F_maxBytes_a1
  have Zs := Nat.le_trans Zs (Keep.of_wr W5).1
  have K0 := K0.wr W5 (Or.inl (List.mem_of_getElem? (i := 0) rfl))
  have E_a1 := E_a1.wr W5
  have F_bytes_a1 := F_bytes_a1.other W5 (Or.inr (slot_ne (Or.inl (hw _ (List.mem_of_getElem? (i := 23) rfl))) (Or.inr (hw _ (List.mem_of_getElem? (i := 27) rfl))) (by decide) (t := (.array .byte)) (t' := .int) (by decide) (by decide)))
  have F_flexible_a1 := F_flexible_a1.other W5 (Or.inr (slot_ne (Or.inr (hw _ (List.mem_of_getElem? (i := 25) rfl))) (Or.inr (hw _ (List.mem_of_getElem? (i := 27) rfl))) (by decide) (t := .boolean) (t' := .int) (by decide) (by decide)))
  have F_size_a1 := F_size_a1.other W5 (Or.inr (slot_ne (Or.inl (hw _ (List.mem_of_getElem? (i := 47) rfl))) (Or.inr (hw _ (List.mem_of_getElem? (i := 27) rfl))) (by decide) (t := .int) (t' := .int) (by decide) (by decide)))
  have V_b2 := V_b2.other W5 (Ne.symm ne_a1_b2)
  have F_maxBytes_a1 := Fq5
  have N5 := Fr.snoc X5 N4 g_a1
  show own_Wp _ _ _ _ (T5.setTop (mkF m 23 #[.val (.ref a1), .val (.int (1 : Int32)), .val (.int (2147483647 : Int32))] []))
  refine own_ret X5 hlk none (fun _ => rfl) (fun fs hr => X5.returnOut hx hrt (hb hby d4_23) hr) ?_ (by decide) (by decide)
  rw [e5]
  exact ⟨rfl, N5, K0, b2, g_b2, sz_b2, E_a1, F_bytes_a1, F_flexible_a1, F_maxBytes_a1, F_size_a1, V_b2⟩
def Q_rmI1_1 (Z : State) (a1 : Addr) (h0 : Heap) (n0 : Nat) (v : Option Value) (h : Heap) (L : List Loc) : Prop := v = none ∧ Fr n0 L ∧ Keep h0 h [a1] ∧ ∃ b, n0 ≤ b ∧ h0.size ≤ b ∧ Exa Z h a1 "com/example/ply2/ply2/protocol/ProtocolWriter" ∧ Fld Z h a1 "com/example/ply2/ply2/protocol/ProtocolWriter" "bytes" "[B" (.ref b) ∧ Fld Z h a1 "com/example/ply2/ply2/protocol/ProtocolWriter" "flexible" "Z" (.int (1 : Int32)) ∧ Fld Z h a1 "com/example/ply2/ply2/protocol/ProtocolWriter" "maxBytes" "I" (.int (2147483647 : Int32)) ∧ Fld Z h a1 "com/example/ply2/ply2/protocol/ProtocolWriter" "size" "I" (.int (0 : Int32)) ∧ own_Ar Z h b .byte 256 (fun _ => .int (0 : Int32))
set_option maxRecDepth 65536 in
set_option maxHeartbeats 40000000 in
theorem rmI1_1 (l : Launch) (Z : State) (a0 : Array Value) (hw : ∀ d ∈ tables_1, d.before a0 Z = true) (ws : List Jvm.Cond) (a1 : Addr) (h0 : Heap) (n0 : Nat) (Z0 : n0 ≤ h0.size) (E_a1 : Exa Z h0 a1 "com/example/ply2/ply2/protocol/ProtocolWriter") (u_bytes : Value) (u_flexible : Value) (u_maxBytes : Value) (F_bytes_a1 : Fld Z h0 a1 "com/example/ply2/ply2/protocol/ProtocolWriter" "bytes" "[B" u_bytes) (F_flexible_a1 : Fld Z h0 a1 "com/example/ply2/ply2/protocol/ProtocolWriter" "flexible" "Z" u_flexible) (F_maxBytes_a1 : Fld Z h0 a1 "com/example/ply2/ply2/protocol/ProtocolWriter" "maxBytes" "I" u_maxBytes) (F_size_a1 : Fld Z h0 a1 "com/example/ply2/ply2/protocol/ProtocolWriter" "size" "I" (.int (0 : Int32))) (g_a1 : n0 ≤ a1) :
    own_Ctr l Z (⟨"com/example/ply2/ply2/protocol/ProtocolWriter", "<init>", "(Z)V"⟩ : MethodName) prog_229_method_1_code 2 none ws ({ frames := 2, cells := 1, slots := 256, locals := 26 } : Room) #[(.ref a1), (.int (1 : Int32))] h0 (Q_rmI1_1 Z a1 h0 n0) := by
  refine own_enter (plainFor_of_name own_pn0) ?_
  intro p e s m below meth c s₁ X0 hx hby hml hrt hlk hZ hown hnm e0
  have N0 := Fr.nil n0
  have Zs := Z0
  have K0 := Keep.refl h0 [a1]
  rw [show entryFrame m #[(.ref a1), (.int (1 : Int32))] 2 = mkF m 0 #[.val (.ref a1), .val (.int (1 : Int32))] [] from by first | (simp [entryFrame, mkF, argsToLocals, Value.category]; done) | rfl]
  show own_Wp _ _ _ _ (s₁.setTop (mkF m 0 #[.val (.ref a1), .val (.int (1 : Int32))] []))
  refine own_of (fun tgt kon => XS.aloadN X0.here hx rfl (hb hby d3_0) rfl rfl kon) ?_
  show own_Wp _ _ _ _ (s₁.setTop (mkF m 1 #[.val (.ref a1), .val (.int (1 : Int32))] [(.ref a1)]))
  refine own_of (fun tgt kon => XS.iloadN X0.here hx rfl (hb hby d3_1) rfl kon) ?_
  show own_Wp _ _ _ _ (s₁.setTop (mkF m 2 #[.val (.ref a1), .val (.int (1 : Int32))] [(.int (1 : Int32)), (.ref a1)]))
  refine own_of (X0.ldcInt hx hown (mvT hZ (hw _ (List.mem_of_getElem? (i := 14) rfl))) (g := (mkF m 2 #[.val (.ref a1), .val (.int (1 : Int32))] [(.int (1 : Int32)), (.ref a1)])) rfl (hb hby d3_2)) ?_
  show own_Wp _ _ _ _ (s₁.setTop (mkF m 4 #[.val (.ref a1), .val (.int (1 : Int32))] [(.int (2147483647 : Int32)), (.int (1 : Int32)), (.ref a1)]))
  have lt1 := E_a1.lt
  refine own_callI X0 hx hZ (y := (⟨"com/example/ply2/ply2/protocol/ProtocolWriter", "<init>", "(ZI)V"⟩ : MethodName)) (a := a1) (argsL := [(.int (1 : Int32)), (.int (2147483647 : Int32))]) (rest := []) (W := 0) rfl hown (hw _ (List.mem_of_getElem? (i := 15) rfl)) (hw _ (List.mem_of_getElem? (i := 16) rfl)) (hw _ (List.mem_of_getElem? (i := 2) rfl)) (hw _ (List.mem_of_getElem? (i := 17) rfl)) (by decide) e0 (rmI2_1 l Z a0 hw [] a1 h0 n0 Zs E_a1 _ _ _ F_bytes_a1 F_flexible_a1 F_maxBytes_a1 F_size_a1 g_a1) (by decide) (by decide) (by decide) (by decide) (g := (mkF m 4 #[.val (.ref a1), .val (.int (1 : Int32))] [(.int (2147483647 : Int32)), (.int (1 : Int32)), (.ref a1)])) rfl (by rw [hml]; rfl) (lenOf own_pd3 rfl) rfl (by show 2 * 0 + _ ≤ _; exact Nat.le_of_eq rfl) (hb hby d3_4) ?_
  rintro T1 L1 _ X1 ⟨rfl, N1q, Kq1, c1, g_c1, szq1, E_1_q, F_bytes_1_q, F_flexible_1_q, F_maxBytes_1_q, F_size_1_q, V_1q⟩
  have N1 := Fr.app N0 N1q
  show own_Wp _ _ _ _ (T1.setTop (mkF m 7 #[.val (.ref a1), .val (.int (1 : Int32))] []))
  have Zs := Nat.le_trans Zs Kq1.1
  have K0 := K0.trans Kq1 (allS (P := fun z => z ∈ _ ∨ _ ≤ z) (Or.inl (List.mem_of_getElem? (i := 0) rfl)) all0)
  have E_a1 := E_a1.keep Kq1
  have E_a1 := E_1_q
  have F_bytes_a1 := F_bytes_1_q
  have F_flexible_a1 := F_flexible_1_q
  have F_maxBytes_a1 := F_maxBytes_1_q
  have F_size_a1 := F_size_1_q
  have V_c1 := V_1q
  have ne_a1_c1 : a1 ≠ c1 := Nat.ne_of_lt (Nat.lt_of_lt_of_le lt1 szq1)
  have sz_c1 := szq1
  refine own_ret X1 hlk none (fun _ => rfl) (fun fs hr => X1.returnOut hx hrt (hb hby d3_7) hr) ?_ (by decide) (by decide)
  exact ⟨rfl, N1, K0, c1, g_c1, sz_c1, E_a1, F_bytes_a1, F_flexible_a1, F_maxBytes_a1, F_size_a1, V_c1⟩
theorem own_pd4 : parseMethodDescriptor "(ZI)I" = some ⟨[.boolean, .int], some .int⟩ := by decide +kernel
theorem own_pd5 : parseMethodDescriptor "(Z)V" = some ⟨[.boolean], none⟩ := by decide +kernel
theorem own_pd6 : parseMethodDescriptor "()I" = some ⟨[], some .int⟩ := by decide +kernel
def Q_rm0 (Z : State) (p1 : Int32) (p2 : Int32) (h0 : Heap) (n0 : Nat) (v : Option Value) (h : Heap) (L : List Loc) : Prop := v = some (.int 1) ∧ Fr n0 L
set_option maxRecDepth 65536 in
set_option maxHeartbeats 40000000 in
theorem rm0 (l : Launch) (Z : State) (a0 : Array Value) (hw : ∀ d ∈ tables_1, d.before a0 Z = true) (ws : List Jvm.Cond) (p1 : Int32) (p2 : Int32) (h0 : Heap) (n0 : Nat) (Z0 : n0 ≤ h0.size)  :
    own_Ctr l Z x code maxLocals ret ws room_1 #[(.int p1), (.int p2)] h0 (Q_rm0 Z p1 p2 h0 n0) := by
  refine own_enter (plainFor_of_name own_pn1) ?_
  intro p e s m below meth c s₁ X0 hx hby hml hrt hlk hZ hown hnm e0
  have N0 := Fr.nil n0
  have Zs := Z0
  rw [show entryFrame m #[(.int p1), (.int p2)] maxLocals = mkF m 0 #[.val (.int p1), .val (.int p2), .unset, .unset, .unset, .unset] [] from by first | (simp [entryFrame, mkF, argsToLocals, Value.category, maxLocals]; done) | rfl]
  show own_Wp _ _ _ _ (s₁.setTop (mkF m 0 #[.val (.int p1), .val (.int p2), .unset, .unset, .unset, .unset] []))
  refine own_of (fun tgt kon => XS.iloadN X0.here hx rfl (hb hby at_0) rfl kon) ?_
  show own_Wp _ _ _ _ (s₁.setTop (mkF m 1 #[.val (.int p1), .val (.int p2), .unset, .unset, .unset, .unset] [(.int p1)]))
  refine own_of (fun tgt kon => XS.iconst X0.here hx rfl (hb hby at_1) kon) ?_
  show own_Wp _ _ _ _ (s₁.setTop (mkF m 2 #[.val (.int p1), .val (.int p2), .unset, .unset, .unset, .unset] [(.int (1 : Int32)), (.int p1)]))
  refine own_of (fun tgt kon => XS.iand X0.here hx rfl (hb hby at_2) rfl kon) ?_
  show own_Wp _ _ _ _ (s₁.setTop (mkF m 3 #[.val (.int p1), .val (.int p2), .unset, .unset, .unset, .unset] [(.int (p1 &&& (1 : Int32)))]))
  by_cases hc3 : (p1 &&& (1 : Int32)) = (0 : Int32)
  · skip
    refine own_of (fun tgt kon => XS.ifYes X0.here hx rfl (pc0 := 3) (pc' := 10) rfl (hb hby at_3) rfl ((if0 _ _).trans (teq hc3).1) (by decide) (by decide) kon) ?_
    show own_Wp _ _ _ _ (s₁.setTop (mkF m 10 #[.val (.int p1), .val (.int p2), .unset, .unset, .unset, .unset] []))
    refine own_of (fun tgt kon => XS.iconst X0.here hx rfl (hb hby at_10) kon) ?_
    show own_Wp _ _ _ _ (s₁.setTop (mkF m 11 #[.val (.int p1), .val (.int p2), .unset, .unset, .unset, .unset] [(.int (0 : Int32))]))
    refine own_of (fun tgt kon => XS.istoreN X0.here hx rfl (hb hby at_11) rfl (l' := #[.val (.int p1), .val (.int p2), .val (.int (0 : Int32)), .unset, .unset, .unset]) rfl kon) ?_
    show own_Wp _ _ _ _ (s₁.setTop (mkF m 12 #[.val (.int p1), .val (.int p2), .val (.int (0 : Int32)), .unset, .unset, .unset] []))
    refine own_of (fun tgt kon => XS.iloadN X0.here hx rfl (hb hby at_12) rfl kon) ?_
    show own_Wp _ _ _ _ (s₁.setTop (mkF m 13 #[.val (.int p1), .val (.int p2), .val (.int (0 : Int32)), .unset, .unset, .unset] [(.int (0 : Int32))]))
    refine own_of (fun tgt kon => XS.iloadN X0.here hx rfl (hb hby at_13) rfl kon) ?_
    show own_Wp _ _ _ _ (s₁.setTop (mkF m 14 #[.val (.int p1), .val (.int p2), .val (.int (0 : Int32)), .unset, .unset, .unset] [(.int p2), (.int (0 : Int32))]))
    refine own_callS X0 hx hZ (y := (⟨"com/example/ply2/ply2/protocol/ProtocolWriter", "lengthBytes", "(ZI)I"⟩ : MethodName)) (argsL := [(.int (0 : Int32)), (.int p2)]) (rest := []) (W := 0) hown (hw _ (List.mem_of_getElem? (i := 0) rfl)) (hw _ (List.mem_of_getElem? (i := 1) rfl)) (hw _ (List.mem_of_getElem? (i := 2) rfl)) (hw _ (List.mem_of_getElem? (i := 3) rfl)) (by decide) e0 (rmlb0 l Z a0 hw [] p2 h0 n0 Zs) (by decide) (by decide) (by decide) (by decide) (g := (mkF m 14 #[.val (.int p1), .val (.int p2), .val (.int (0 : Int32)), .unset, .unset, .unset] [(.int p2), (.int (0 : Int32))])) rfl (by rw [hml]; rfl) (lenOf own_pd4 rfl) rfl (by show 2 * 0 + _ ≤ _; exact Nat.le_of_eq rfl) (hb hby at_14) ?_
    rintro T1 L1 _ X1 ⟨rfl, N1q, e1⟩
    have N1 := Fr.app N0 N1q
    show own_Wp _ _ _ _ (T1.setTop (mkF m 17 #[.val (.int p1), .val (.int p2), .val (.int (0 : Int32)), .unset, .unset, .unset] [(.int (4 : Int32))]))
    refine own_of (fun tgt kon => XS.istoreN X1.here hx rfl (hb hby at_17) rfl (l' := #[.val (.int p1), .val (.int p2), .val (.int (0 : Int32)), .val (.int (4 : Int32)), .unset, .unset]) rfl kon) ?_
    show own_Wp _ _ _ _ (T1.setTop (mkF m 18 #[.val (.int p1), .val (.int p2), .val (.int (0 : Int32)), .val (.int (4 : Int32)), .unset, .unset] []))
    refine own_of (fun tgt kon => XS.iloadN X1.here hx rfl (hb hby at_18) rfl kon) ?_
    show own_Wp _ _ _ _ (T1.setTop (mkF m 19 #[.val (.int p1), .val (.int p2), .val (.int (0 : Int32)), .val (.int (4 : Int32)), .unset, .unset] [(.int (4 : Int32))]))
    refine own_of (fun tgt kon => XS.iloadN X1.here hx rfl (hb hby at_19) rfl kon) ?_
    show own_Wp _ _ _ _ (T1.setTop (mkF m 20 #[.val (.int p1), .val (.int p2), .val (.int (0 : Int32)), .val (.int (4 : Int32)), .unset, .unset] [(.int (0 : Int32)), (.int (4 : Int32))]))
    refine own_of (fun tgt kon => XS.iloadN X1.here hx rfl (hb hby at_20) rfl kon) ?_
    show own_Wp _ _ _ _ (T1.setTop (mkF m 21 #[.val (.int p1), .val (.int p2), .val (.int (0 : Int32)), .val (.int (4 : Int32)), .unset, .unset] [(.int p2), (.int (0 : Int32)), (.int (4 : Int32))]))
    refine own_callS X1 hx hZ (y := (⟨"com/example/ply2/ply2/protocol/ProtocolWriterLengthBytesPinLaw", "expected", "(ZI)I"⟩ : MethodName)) (argsL := [(.int (0 : Int32)), (.int p2)]) (rest := [(.int (4 : Int32))]) (W := 1) hown (hw _ (List.mem_of_getElem? (i := 4) rfl)) (hw _ (List.mem_of_getElem? (i := 5) rfl)) (hw _ (List.mem_of_getElem? (i := 6) rfl)) (hw _ (List.mem_of_getElem? (i := 7) rfl)) (by decide) e1 (rmex0 l Z a0 hw [] p2 h0 n0 Zs) (by decide) (by decide) (by decide) (by decide) (g := (mkF m 21 #[.val (.int p1), .val (.int p2), .val (.int (0 : Int32)), .val (.int (4 : Int32)), .unset, .unset] [(.int p2), (.int (0 : Int32)), (.int (4 : Int32))])) rfl (by rw [hml]; rfl) (lenOf own_pd4 rfl) rfl (by show 2 * 0 + _ ≤ _; exact Nat.le_of_eq rfl) (hb hby at_21) ?_
    rintro T2 L2 _ X2 ⟨rfl, N2q, e2⟩
    have N2 := Fr.app N1 N2q
    show own_Wp _ _ _ _ (T2.setTop (mkF m 24 #[.val (.int p1), .val (.int p2), .val (.int (0 : Int32)), .val (.int (4 : Int32)), .unset, .unset] [(.int (4 : Int32)), (.int (4 : Int32))]))
    have hc24 : (4 : Int32) = (4 : Int32) := rfl
    refine own_of (fun tgt kon => XS.icmpYes X2.here hx rfl (pc0 := 24) (pc' := 29) rfl (hb hby at_24) rfl (teq hc24).1 (by decide) (by decide) kon) ?_
    show own_Wp _ _ _ _ (T2.setTop (mkF m 29 #[.val (.int p1), .val (.int p2), .val (.int (0 : Int32)), .val (.int (4 : Int32)), .unset, .unset] []))
    refine own_of (fun tgt kon => XS.iloadN X2.here hx rfl (hb hby at_29) rfl kon) ?_
    show own_Wp _ _ _ _ (T2.setTop (mkF m 30 #[.val (.int p1), .val (.int p2), .val (.int (0 : Int32)), .val (.int (4 : Int32)), .unset, .unset] [(.int p2)]))
    refine own_of (X2.ldcInt hx hown (mvT hZ (hw _ (List.mem_of_getElem? (i := 8) rfl))) (g := (mkF m 30 #[.val (.int p1), .val (.int p2), .val (.int (0 : Int32)), .val (.int (4 : Int32)), .unset, .unset] [(.int p2)])) rfl (hb hby at_30)) ?_
    show own_Wp _ _ _ _ (T2.setTop (mkF m 32 #[.val (.int p1), .val (.int p2), .val (.int (0 : Int32)), .val (.int (4 : Int32)), .unset, .unset] [(.int (2147483647 : Int32)), (.int p2)]))
    refine own_of (fun tgt kon => XS.iand X2.here hx rfl (hb hby at_32) rfl kon) ?_
    show own_Wp _ _ _ _ (T2.setTop (mkF m 33 #[.val (.int p1), .val (.int p2), .val (.int (0 : Int32)), .val (.int (4 : Int32)), .unset, .unset] [(.int (p2 &&& (2147483647 : Int32)))]))
    obtain ⟨cn, h_cn⟩ : ∃ q : Int32, q = (p2 &&& (2147483647 : Int32)) := ⟨_, rfl⟩
    rw [← h_cn]
    refine own_of (fun tgt kon => XS.istore X2.here hx rfl (hb hby at_33) rfl (l' := #[.val (.int p1), .val (.int p2), .val (.int (0 : Int32)), .val (.int (4 : Int32)), .val (.int cn), .unset]) rfl kon) ?_
    show own_Wp _ _ _ _ (T2.setTop (mkF m 35 #[.val (.int p1), .val (.int p2), .val (.int (0 : Int32)), .val (.int (4 : Int32)), .val (.int cn), .unset] []))
    have hcn : ¬ cn < 0 := by
      have q := Jvm.Kit.i32_mask p2 2147483647 (k := 31) (by decide) (by decide)
      rw [← h_cn] at q
      rw [Int32.lt_iff_toInt_lt]
      have l0 : (0 : Int32).toInt = 0 := by decide
      omega
    obtain ⟨T3, h3, X3, e3, E3, A3, D3, -, st3⟩ := newO X2 hx hZ hown (hw _ (List.mem_of_getElem? (i := 9) rfl)) (hw _ (List.mem_of_getElem? (i := 10) rfl)) (hw _ (List.mem_of_getElem? (i := 2) rfl)) e2 (g := (mkF m 35 #[.val (.int p1), .val (.int p2), .val (.int (0 : Int32)), .val (.int (4 : Int32)), .val (.int cn), .unset] [])) rfl (hb hby at_35) (by decide) (by decide)
    refine own_of st3 ?_
    clear st3
    obtain ⟨b3, gq3⟩ : ∃ z, z = h0.size := ⟨_, rfl⟩
    rw [← gq3] at A3 D3 ⊢
    have g_b3 : n0 ≤ b3 := Nat.le_trans Zs (Nat.le_of_eq gq3.symm)
    have Zs := Nat.le_trans Zs E3.1
    have E_b3 := A3
    have F_bytes_b3 : Fld Z h3 b3 "com/example/ply2/ply2/protocol/ProtocolWriter" "bytes" "[B" .null := D3 (Or.inl (hw _ (List.mem_of_getElem? (i := 23) rfl))) (ty := (.array .byte)) (by decide)
    have F_flexible_b3 : Fld Z h3 b3 "com/example/ply2/ply2/protocol/ProtocolWriter" "flexible" "Z" (.int (0 : Int32)) := D3 (Or.inr (hw _ (List.mem_of_getElem? (i := 25) rfl))) (ty := .boolean) (by decide)
    have F_maxBytes_b3 : Fld Z h3 b3 "com/example/ply2/ply2/protocol/ProtocolWriter" "maxBytes" "I" (.int (0 : Int32)) := D3 (Or.inr (hw _ (List.mem_of_getElem? (i := 27) rfl))) (ty := .int) (by decide)
    have F_size_b3 : Fld Z h3 b3 "com/example/ply2/ply2/protocol/ProtocolWriter" "size" "I" (.int (0 : Int32)) := D3 (Or.inl (hw _ (List.mem_of_getElem? (i := 47) rfl))) (ty := .int) (by decide)
    show own_Wp _ _ _ _ (T3.setTop (mkF m 38 #[.val (.int p1), .val (.int p2), .val (.int (0 : Int32)), .val (.int (4 : Int32)), .val (.int cn), .unset] [(.ref b3)]))
    refine own_of (fun tgt kon => XS.dup X3.here hx rfl (hb hby at_38) rfl rfl kon) ?_
    show own_Wp _ _ _ _ (T3.setTop (mkF m 39 #[.val (.int p1), .val (.int p2), .val (.int (0 : Int32)), .val (.int (4 : Int32)), .val (.int cn), .unset] [(.ref b3), (.ref b3)]))
    refine own_of (fun tgt kon => XS.iloadN X3.here hx rfl (hb hby at_39) rfl kon) ?_
    show own_Wp _ _ _ _ (T3.setTop (mkF m 40 #[.val (.int p1), .val (.int p2), .val (.int (0 : Int32)), .val (.int (4 : Int32)), .val (.int cn), .unset] [(.int (0 : Int32)), (.ref b3), (.ref b3)]))
    have lt4 := E_b3.lt
    refine own_callI X3 hx hZ (y := (⟨"com/example/ply2/ply2/protocol/ProtocolWriter", "<init>", "(Z)V"⟩ : MethodName)) (a := b3) (argsL := [(.int (0 : Int32))]) (rest := [(.ref b3)]) (W := 1) rfl hown (hw _ (List.mem_of_getElem? (i := 11) rfl)) (hw _ (List.mem_of_getElem? (i := 12) rfl)) (hw _ (List.mem_of_getElem? (i := 2) rfl)) (hw _ (List.mem_of_getElem? (i := 13) rfl)) (by decide) e3 (rmI1_0 l Z a0 hw [] b3 h3 n0 Zs E_b3 _ _ _ F_bytes_b3 F_flexible_b3 F_maxBytes_b3 F_size_b3 g_b3) (by decide) (by decide) (by decide) (by decide) (g := (mkF m 40 #[.val (.int p1), .val (.int p2), .val (.int (0 : Int32)), .val (.int (4 : Int32)), .val (.int cn), .unset] [(.int (0 : Int32)), (.ref b3), (.ref b3)])) rfl (by rw [hml]; rfl) (lenOf own_pd5 rfl) rfl (by show 2 * 0 + _ ≤ _; exact Nat.le_of_eq rfl) (hb hby at_40) ?_
    rintro T4 L4 _ X4 ⟨rfl, N4q, Kq4, c4, g_c4, szq4, E_4_q, F_bytes_4_q, F_flexible_4_q, F_maxBytes_4_q, F_size_4_q, V_4q⟩
    have N4 := Fr.app N2 N4q
    show own_Wp _ _ _ _ (T4.setTop (mkF m 43 #[.val (.int p1), .val (.int p2), .val (.int (0 : Int32)), .val (.int (4 : Int32)), .val (.int cn), .unset] [(.ref b3)]))
    have Zs := Nat.le_trans Zs Kq4.1
    have E_b3 := E_b3.keep Kq4
    have E_b3 := E_4_q
    have F_bytes_b3 := F_bytes_4_q
    have F_flexible_b3 := F_flexible_4_q
    have F_maxBytes_b3 := F_maxBytes_4_q
    have F_size_b3 := F_size_4_q
    have V_c4 := V_4q
    have ne_b3_c4 : b3 ≠ c4 := Nat.ne_of_lt (Nat.lt_of_lt_of_le lt4 szq4)
    refine own_of (fun tgt kon => XS.astore X4.here hx rfl (hb hby at_43) rfl rfl (l' := #[.val (.int p1), .val (.int p2), .val (.int (0 : Int32)), .val (.int (4 : Int32)), .val (.int cn), .val (.ref b3)]) rfl kon) ?_
    show own_Wp _ _ _ _ (T4.setTop (mkF m 45 #[.val (.int p1), .val (.int p2), .val (.int (0 : Int32)), .val (.int (4 : Int32)), .val (.int cn), .val (.ref b3)] []))
    refine own_of (fun tgt kon => XS.aload X4.here hx rfl (hb hby at_45) rfl rfl kon) ?_
    show own_Wp _ _ _ _ (T4.setTop (mkF m 47 #[.val (.int p1), .val (.int p2), .val (.int (0 : Int32)), .val (.int (4 : Int32)), .val (.int cn), .val (.ref b3)] [(.ref b3)]))
    refine own_of (fun tgt kon => XS.iload X4.here hx rfl (hb hby at_47) rfl kon) ?_
    show own_Wp _ _ _ _ (T4.setTop (mkF m 49 #[.val (.int p1), .val (.int p2), .val (.int (0 : Int32)), .val (.int (4 : Int32)), .val (.int cn), .val (.ref b3)] [(.int cn), (.ref b3)]))
    refine own_callV X4 hx hZ (C := "com/example/ply2/ply2/protocol/ProtocolWriter") (y := (⟨"com/example/ply2/ply2/protocol/ProtocolWriter", "writeArrayLength", "(I)V"⟩ : MethodName)) (a := b3) (argsL := [(.int cn)]) (rest := []) (W := 0) hown (hw _ (List.mem_of_getElem? (i := 28) rfl)) (hw _ (List.mem_of_getElem? (i := 29) rfl)) (hw _ (List.mem_of_getElem? (i := 31) rfl)) (hw _ (List.mem_of_getElem? (i := 30) rfl)) (hw _ (List.mem_of_getElem? (i := 2) rfl)) (hw _ (List.mem_of_getElem? (i := 32) rfl)) (by decide) rfl E_b3 (rmwa0 l Z a0 hw [] b3 c4 cn (fun _ => .int (0 : Int32)) T4.heap n0 Zs E_b3 F_bytes_b3 F_flexible_b3 F_maxBytes_b3 F_size_b3 V_c4 ne_b3_c4 g_b3 g_c4 hcn) (by decide) (by decide) (by decide) (by decide) (g := (mkF m 49 #[.val (.int p1), .val (.int p2), .val (.int (0 : Int32)), .val (.int (4 : Int32)), .val (.int cn), .val (.ref b3)] [(.int cn), (.ref b3)])) rfl (by rw [hml]; rfl) (lenOf own_pd0 rfl) rfl (by show 2 * 0 + _ ≤ _; exact Nat.le_of_eq rfl) (hb hby at_49) ?_
    rintro T5 L5 _ X5 ⟨rfl, N5q, Kq5, E_5_q, F_bytes_5_q, F_flexible_5_q, F_maxBytes_5_q, F_size_5_q, f5, V_5q⟩
    have N5 := Fr.app N4 N5q
    show own_Wp _ _ _ _ (T5.setTop (mkF m 52 #[.val (.int p1), .val (.int p2), .val (.int (0 : Int32)), .val (.int (4 : Int32)), .val (.int cn), .val (.ref b3)] []))
    have Zs := Nat.le_trans Zs Kq5.1
    have E_b3 := E_b3.keep Kq5
    have E_b3 := E_5_q
    have F_bytes_b3 := F_bytes_5_q
    have F_flexible_b3 := F_flexible_5_q
    have F_maxBytes_b3 := F_maxBytes_5_q
    have F_size_b3 := F_size_5_q
    have V_c4 := V_5q
    refine own_of (fun tgt kon => XS.aload X5.here hx rfl (hb hby at_52) rfl rfl kon) ?_
    show own_Wp _ _ _ _ (T5.setTop (mkF m 54 #[.val (.int p1), .val (.int p2), .val (.int (0 : Int32)), .val (.int (4 : Int32)), .val (.int cn), .val (.ref b3)] [(.ref b3)]))
    refine own_callV X5 hx hZ (C := "com/example/ply2/ply2/protocol/ProtocolWriter") (y := (⟨"com/example/ply2/ply2/protocol/ProtocolWriter", "size", "()I"⟩ : MethodName)) (a := b3) (argsL := []) (rest := []) (W := 0) hown (hw _ (List.mem_of_getElem? (i := 48) rfl)) (hw _ (List.mem_of_getElem? (i := 49) rfl)) (hw _ (List.mem_of_getElem? (i := 51) rfl)) (hw _ (List.mem_of_getElem? (i := 50) rfl)) (hw _ (List.mem_of_getElem? (i := 2) rfl)) (hw _ (List.mem_of_getElem? (i := 52) rfl)) (by decide) rfl E_b3 (rmsz l Z a0 hw [] b3 (((((0 : Int32) + (1 : Int32)) + (1 : Int32)) + (1 : Int32)) + (1 : Int32)) T5.heap n0 Zs F_size_b3) (by decide) (by decide) (by decide) (by decide) (g := (mkF m 54 #[.val (.int p1), .val (.int p2), .val (.int (0 : Int32)), .val (.int (4 : Int32)), .val (.int cn), .val (.ref b3)] [(.ref b3)])) rfl (by rw [hml]; rfl) (lenOf own_pd6 rfl) rfl (by show 2 * 0 + _ ≤ _; exact Nat.le_of_eq rfl) (hb hby at_54) ?_
    rintro T6 L6 _ X6 ⟨rfl, N6q, e6⟩
    have N6 := Fr.app N5 N6q
    show own_Wp _ _ _ _ (T6.setTop (mkF m 57 #[.val (.int p1), .val (.int p2), .val (.int (0 : Int32)), .val (.int (4 : Int32)), .val (.int cn), .val (.ref b3)] [(.int (((((0 : Int32) + (1 : Int32)) + (1 : Int32)) + (1 : Int32)) + (1 : Int32)))]))
    refine own_of (fun tgt kon => XS.iloadN X6.here hx rfl (hb hby at_57) rfl kon) ?_
    show own_Wp _ _ _ _ (T6.setTop (mkF m 58 #[.val (.int p1), .val (.int p2), .val (.int (0 : Int32)), .val (.int (4 : Int32)), .val (.int cn), .val (.ref b3)] [(.int (0 : Int32)), (.int (((((0 : Int32) + (1 : Int32)) + (1 : Int32)) + (1 : Int32)) + (1 : Int32)))]))
    refine own_of (fun tgt kon => XS.iload X6.here hx rfl (hb hby at_58) rfl kon) ?_
    show own_Wp _ _ _ _ (T6.setTop (mkF m 60 #[.val (.int p1), .val (.int p2), .val (.int (0 : Int32)), .val (.int (4 : Int32)), .val (.int cn), .val (.ref b3)] [(.int cn), (.int (0 : Int32)), (.int (((((0 : Int32) + (1 : Int32)) + (1 : Int32)) + (1 : Int32)) + (1 : Int32)))]))
    refine own_callS X6 hx hZ (y := (⟨"com/example/ply2/ply2/protocol/ProtocolWriter", "lengthBytes", "(ZI)I"⟩ : MethodName)) (argsL := [(.int (0 : Int32)), (.int cn)]) (rest := [(.int (((((0 : Int32) + (1 : Int32)) + (1 : Int32)) + (1 : Int32)) + (1 : Int32)))]) (W := 1) hown (hw _ (List.mem_of_getElem? (i := 0) rfl)) (hw _ (List.mem_of_getElem? (i := 1) rfl)) (hw _ (List.mem_of_getElem? (i := 2) rfl)) (hw _ (List.mem_of_getElem? (i := 3) rfl)) (by decide) e6 (rmlb0 l Z a0 hw [] cn T5.heap n0 Zs) (by decide) (by decide) (by decide) (by decide) (g := (mkF m 60 #[.val (.int p1), .val (.int p2), .val (.int (0 : Int32)), .val (.int (4 : Int32)), .val (.int cn), .val (.ref b3)] [(.int cn), (.int (0 : Int32)), (.int (((((0 : Int32) + (1 : Int32)) + (1 : Int32)) + (1 : Int32)) + (1 : Int32)))])) rfl (by rw [hml]; rfl) (lenOf own_pd4 rfl) rfl (by show 2 * 0 + _ ≤ _; exact Nat.le_of_eq rfl) (hb hby at_60) ?_
    rintro T7 L7 _ X7 ⟨rfl, N7q, e7⟩
    have N7 := Fr.app N6 N7q
    show own_Wp _ _ _ _ (T7.setTop (mkF m 63 #[.val (.int p1), .val (.int p2), .val (.int (0 : Int32)), .val (.int (4 : Int32)), .val (.int cn), .val (.ref b3)] [(.int (4 : Int32)), (.int (((((0 : Int32) + (1 : Int32)) + (1 : Int32)) + (1 : Int32)) + (1 : Int32)))]))
    have hc63 : (((((0 : Int32) + (1 : Int32)) + (1 : Int32)) + (1 : Int32)) + (1 : Int32)) = (4 : Int32) := by first | rfl | decide
    refine own_of (fun tgt kon => XS.icmpNo X7.here hx rfl (hb hby at_63) rfl (teq hc63).2 kon) ?_
    show own_Wp _ _ _ _ (T7.setTop (mkF m 66 #[.val (.int p1), .val (.int p2), .val (.int (0 : Int32)), .val (.int (4 : Int32)), .val (.int cn), .val (.ref b3)] []))
    refine own_of (fun tgt kon => XS.iconst X7.here hx rfl (hb hby at_66) kon) ?_
    show own_Wp _ _ _ _ (T7.setTop (mkF m 67 #[.val (.int p1), .val (.int p2), .val (.int (0 : Int32)), .val (.int (4 : Int32)), .val (.int cn), .val (.ref b3)] [(.int (1 : Int32))]))
    refine own_of (fun tgt kon => XS.goto X7.here hx rfl (pc0 := 67) (pc' := 71) rfl (hb hby at_67) (by decide) (by decide) kon) ?_
    show own_Wp _ _ _ _ (T7.setTop (mkF m 71 #[.val (.int p1), .val (.int p2), .val (.int (0 : Int32)), .val (.int (4 : Int32)), .val (.int cn), .val (.ref b3)] [(.int (1 : Int32))]))
    refine own_ret X7 hlk (some (.int (1 : Int32))) (own_rtI hrt) (fun fs hr => retN X7 hx (t := .boolean) hrt (by simp) (hb hby at_71) hr) ?_ (by decide) (by decide)
    rw [e7]
    exact ⟨rfl, N7⟩
  · skip
    refine own_of (fun tgt kon => XS.ifNo X0.here hx rfl (hb hby at_3) rfl ((if0 _ _).trans (feq hc3).1) kon) ?_
    show own_Wp _ _ _ _ (s₁.setTop (mkF m 6 #[.val (.int p1), .val (.int p2), .unset, .unset, .unset, .unset] []))
    refine own_of (fun tgt kon => XS.iconst X0.here hx rfl (hb hby at_6) kon) ?_
    show own_Wp _ _ _ _ (s₁.setTop (mkF m 7 #[.val (.int p1), .val (.int p2), .unset, .unset, .unset, .unset] [(.int (1 : Int32))]))
    refine own_of (fun tgt kon => XS.goto X0.here hx rfl (pc0 := 7) (pc' := 11) rfl (hb hby at_7) (by decide) (by decide) kon) ?_
    show own_Wp _ _ _ _ (s₁.setTop (mkF m 11 #[.val (.int p1), .val (.int p2), .unset, .unset, .unset, .unset] [(.int (1 : Int32))]))
    refine own_of (fun tgt kon => XS.istoreN X0.here hx rfl (hb hby at_11) rfl (l' := #[.val (.int p1), .val (.int p2), .val (.int (1 : Int32)), .unset, .unset, .unset]) rfl kon) ?_
    show own_Wp _ _ _ _ (s₁.setTop (mkF m 12 #[.val (.int p1), .val (.int p2), .val (.int (1 : Int32)), .unset, .unset, .unset] []))
    refine own_of (fun tgt kon => XS.iloadN X0.here hx rfl (hb hby at_12) rfl kon) ?_
    show own_Wp _ _ _ _ (s₁.setTop (mkF m 13 #[.val (.int p1), .val (.int p2), .val (.int (1 : Int32)), .unset, .unset, .unset] [(.int (1 : Int32))]))
    refine own_of (fun tgt kon => XS.iloadN X0.here hx rfl (hb hby at_13) rfl kon) ?_
    show own_Wp _ _ _ _ (s₁.setTop (mkF m 14 #[.val (.int p1), .val (.int p2), .val (.int (1 : Int32)), .unset, .unset, .unset] [(.int p2), (.int (1 : Int32))]))
    refine own_callS X0 hx hZ (y := (⟨"com/example/ply2/ply2/protocol/ProtocolWriter", "lengthBytes", "(ZI)I"⟩ : MethodName)) (argsL := [(.int (1 : Int32)), (.int p2)]) (rest := []) (W := 0) hown (hw _ (List.mem_of_getElem? (i := 0) rfl)) (hw _ (List.mem_of_getElem? (i := 1) rfl)) (hw _ (List.mem_of_getElem? (i := 2) rfl)) (hw _ (List.mem_of_getElem? (i := 3) rfl)) (by decide) e0 (rmlb1 l Z a0 hw [] p2 h0 n0 Zs) (by decide) (by decide) (by decide) (by decide) (g := (mkF m 14 #[.val (.int p1), .val (.int p2), .val (.int (1 : Int32)), .unset, .unset, .unset] [(.int p2), (.int (1 : Int32))])) rfl (by rw [hml]; rfl) (lenOf own_pd4 rfl) rfl (by show 2 * 0 + _ ≤ _; exact Nat.le_of_eq rfl) (hb hby at_14) ?_
    rintro T8 L8 _ X8 ⟨rfl, N8q, e8⟩
    have N8 := Fr.app N0 N8q
    show own_Wp _ _ _ _ (T8.setTop (mkF m 17 #[.val (.int p1), .val (.int p2), .val (.int (1 : Int32)), .unset, .unset, .unset] [(.int (own_nb (own_u (p2 + 1))))]))
    refine own_of (fun tgt kon => XS.istoreN X8.here hx rfl (hb hby at_17) rfl (l' := #[.val (.int p1), .val (.int p2), .val (.int (1 : Int32)), .val (.int (own_nb (own_u (p2 + 1)))), .unset, .unset]) rfl kon) ?_
    show own_Wp _ _ _ _ (T8.setTop (mkF m 18 #[.val (.int p1), .val (.int p2), .val (.int (1 : Int32)), .val (.int (own_nb (own_u (p2 + 1)))), .unset, .unset] []))
    refine own_of (fun tgt kon => XS.iloadN X8.here hx rfl (hb hby at_18) rfl kon) ?_
    show own_Wp _ _ _ _ (T8.setTop (mkF m 19 #[.val (.int p1), .val (.int p2), .val (.int (1 : Int32)), .val (.int (own_nb (own_u (p2 + 1)))), .unset, .unset] [(.int (own_nb (own_u (p2 + 1))))]))
    refine own_of (fun tgt kon => XS.iloadN X8.here hx rfl (hb hby at_19) rfl kon) ?_
    show own_Wp _ _ _ _ (T8.setTop (mkF m 20 #[.val (.int p1), .val (.int p2), .val (.int (1 : Int32)), .val (.int (own_nb (own_u (p2 + 1)))), .unset, .unset] [(.int (1 : Int32)), (.int (own_nb (own_u (p2 + 1))))]))
    refine own_of (fun tgt kon => XS.iloadN X8.here hx rfl (hb hby at_20) rfl kon) ?_
    show own_Wp _ _ _ _ (T8.setTop (mkF m 21 #[.val (.int p1), .val (.int p2), .val (.int (1 : Int32)), .val (.int (own_nb (own_u (p2 + 1)))), .unset, .unset] [(.int p2), (.int (1 : Int32)), (.int (own_nb (own_u (p2 + 1))))]))
    refine own_callS X8 hx hZ (y := (⟨"com/example/ply2/ply2/protocol/ProtocolWriterLengthBytesPinLaw", "expected", "(ZI)I"⟩ : MethodName)) (argsL := [(.int (1 : Int32)), (.int p2)]) (rest := [(.int (own_nb (own_u (p2 + 1))))]) (W := 1) hown (hw _ (List.mem_of_getElem? (i := 4) rfl)) (hw _ (List.mem_of_getElem? (i := 5) rfl)) (hw _ (List.mem_of_getElem? (i := 6) rfl)) (hw _ (List.mem_of_getElem? (i := 7) rfl)) (by decide) e8 (rmex1 l Z a0 hw [] p2 h0 n0 Zs) (by decide) (by decide) (by decide) (by decide) (g := (mkF m 21 #[.val (.int p1), .val (.int p2), .val (.int (1 : Int32)), .val (.int (own_nb (own_u (p2 + 1)))), .unset, .unset] [(.int p2), (.int (1 : Int32)), (.int (own_nb (own_u (p2 + 1))))])) rfl (by rw [hml]; rfl) (lenOf own_pd4 rfl) rfl (by show 2 * 0 + _ ≤ _; exact Nat.le_of_eq rfl) (hb hby at_21) ?_
    rintro T9 L9 _ X9 ⟨rfl, N9q, e9⟩
    have N9 := Fr.app N8 N9q
    show own_Wp _ _ _ _ (T9.setTop (mkF m 24 #[.val (.int p1), .val (.int p2), .val (.int (1 : Int32)), .val (.int (own_nb (own_u (p2 + 1)))), .unset, .unset] [(.int (own_nb (own_u (p2 + 1)))), (.int (own_nb (own_u (p2 + 1))))]))
    have hc24 : (own_nb (own_u (p2 + 1))) = (own_nb (own_u (p2 + 1))) := rfl
    refine own_of (fun tgt kon => XS.icmpYes X9.here hx rfl (pc0 := 24) (pc' := 29) rfl (hb hby at_24) rfl (teq hc24).1 (by decide) (by decide) kon) ?_
    show own_Wp _ _ _ _ (T9.setTop (mkF m 29 #[.val (.int p1), .val (.int p2), .val (.int (1 : Int32)), .val (.int (own_nb (own_u (p2 + 1)))), .unset, .unset] []))
    refine own_of (fun tgt kon => XS.iloadN X9.here hx rfl (hb hby at_29) rfl kon) ?_
    show own_Wp _ _ _ _ (T9.setTop (mkF m 30 #[.val (.int p1), .val (.int p2), .val (.int (1 : Int32)), .val (.int (own_nb (own_u (p2 + 1)))), .unset, .unset] [(.int p2)]))
    refine own_of (X9.ldcInt hx hown (mvT hZ (hw _ (List.mem_of_getElem? (i := 8) rfl))) (g := (mkF m 30 #[.val (.int p1), .val (.int p2), .val (.int (1 : Int32)), .val (.int (own_nb (own_u (p2 + 1)))), .unset, .unset] [(.int p2)])) rfl (hb hby at_30)) ?_
    show own_Wp _ _ _ _ (T9.setTop (mkF m 32 #[.val (.int p1), .val (.int p2), .val (.int (1 : Int32)), .val (.int (own_nb (own_u (p2 + 1)))), .unset, .unset] [(.int (2147483647 : Int32)), (.int p2)]))
    refine own_of (fun tgt kon => XS.iand X9.here hx rfl (hb hby at_32) rfl kon) ?_
    show own_Wp _ _ _ _ (T9.setTop (mkF m 33 #[.val (.int p1), .val (.int p2), .val (.int (1 : Int32)), .val (.int (own_nb (own_u (p2 + 1)))), .unset, .unset] [(.int (p2 &&& (2147483647 : Int32)))]))
    obtain ⟨cn, h_cn⟩ : ∃ q : Int32, q = (p2 &&& (2147483647 : Int32)) := ⟨_, rfl⟩
    rw [← h_cn]
    refine own_of (fun tgt kon => XS.istore X9.here hx rfl (hb hby at_33) rfl (l' := #[.val (.int p1), .val (.int p2), .val (.int (1 : Int32)), .val (.int (own_nb (own_u (p2 + 1)))), .val (.int cn), .unset]) rfl kon) ?_
    show own_Wp _ _ _ _ (T9.setTop (mkF m 35 #[.val (.int p1), .val (.int p2), .val (.int (1 : Int32)), .val (.int (own_nb (own_u (p2 + 1)))), .val (.int cn), .unset] []))
    have hcn : ¬ cn < 0 := by
      have q := Jvm.Kit.i32_mask p2 2147483647 (k := 31) (by decide) (by decide)
      rw [← h_cn] at q
      rw [Int32.lt_iff_toInt_lt]
      have l0 : (0 : Int32).toInt = 0 := by decide
      omega
    obtain ⟨T10, h10, X10, e10, E10, A10, D10, -, st10⟩ := newO X9 hx hZ hown (hw _ (List.mem_of_getElem? (i := 9) rfl)) (hw _ (List.mem_of_getElem? (i := 10) rfl)) (hw _ (List.mem_of_getElem? (i := 2) rfl)) e9 (g := (mkF m 35 #[.val (.int p1), .val (.int p2), .val (.int (1 : Int32)), .val (.int (own_nb (own_u (p2 + 1)))), .val (.int cn), .unset] [])) rfl (hb hby at_35) (by decide) (by decide)
    refine own_of st10 ?_
    clear st10
    obtain ⟨b10, gq10⟩ : ∃ z, z = h0.size := ⟨_, rfl⟩
    rw [← gq10] at A10 D10 ⊢
    have g_b10 : n0 ≤ b10 := Nat.le_trans Zs (Nat.le_of_eq gq10.symm)
    have Zs := Nat.le_trans Zs E10.1
    have E_b10 := A10
    have F_bytes_b10 : Fld Z h10 b10 "com/example/ply2/ply2/protocol/ProtocolWriter" "bytes" "[B" .null := D10 (Or.inl (hw _ (List.mem_of_getElem? (i := 23) rfl))) (ty := (.array .byte)) (by decide)
    have F_flexible_b10 : Fld Z h10 b10 "com/example/ply2/ply2/protocol/ProtocolWriter" "flexible" "Z" (.int (0 : Int32)) := D10 (Or.inr (hw _ (List.mem_of_getElem? (i := 25) rfl))) (ty := .boolean) (by decide)
    have F_maxBytes_b10 : Fld Z h10 b10 "com/example/ply2/ply2/protocol/ProtocolWriter" "maxBytes" "I" (.int (0 : Int32)) := D10 (Or.inr (hw _ (List.mem_of_getElem? (i := 27) rfl))) (ty := .int) (by decide)
    have F_size_b10 : Fld Z h10 b10 "com/example/ply2/ply2/protocol/ProtocolWriter" "size" "I" (.int (0 : Int32)) := D10 (Or.inl (hw _ (List.mem_of_getElem? (i := 47) rfl))) (ty := .int) (by decide)
    show own_Wp _ _ _ _ (T10.setTop (mkF m 38 #[.val (.int p1), .val (.int p2), .val (.int (1 : Int32)), .val (.int (own_nb (own_u (p2 + 1)))), .val (.int cn), .unset] [(.ref b10)]))
    refine own_of (fun tgt kon => XS.dup X10.here hx rfl (hb hby at_38) rfl rfl kon) ?_
    show own_Wp _ _ _ _ (T10.setTop (mkF m 39 #[.val (.int p1), .val (.int p2), .val (.int (1 : Int32)), .val (.int (own_nb (own_u (p2 + 1)))), .val (.int cn), .unset] [(.ref b10), (.ref b10)]))
    refine own_of (fun tgt kon => XS.iloadN X10.here hx rfl (hb hby at_39) rfl kon) ?_
    show own_Wp _ _ _ _ (T10.setTop (mkF m 40 #[.val (.int p1), .val (.int p2), .val (.int (1 : Int32)), .val (.int (own_nb (own_u (p2 + 1)))), .val (.int cn), .unset] [(.int (1 : Int32)), (.ref b10), (.ref b10)]))
    have lt11 := E_b10.lt
    refine own_callI X10 hx hZ (y := (⟨"com/example/ply2/ply2/protocol/ProtocolWriter", "<init>", "(Z)V"⟩ : MethodName)) (a := b10) (argsL := [(.int (1 : Int32))]) (rest := [(.ref b10)]) (W := 1) rfl hown (hw _ (List.mem_of_getElem? (i := 11) rfl)) (hw _ (List.mem_of_getElem? (i := 12) rfl)) (hw _ (List.mem_of_getElem? (i := 2) rfl)) (hw _ (List.mem_of_getElem? (i := 13) rfl)) (by decide) e10 (rmI1_1 l Z a0 hw [] b10 h10 n0 Zs E_b10 _ _ _ F_bytes_b10 F_flexible_b10 F_maxBytes_b10 F_size_b10 g_b10) (by decide) (by decide) (by decide) (by decide) (g := (mkF m 40 #[.val (.int p1), .val (.int p2), .val (.int (1 : Int32)), .val (.int (own_nb (own_u (p2 + 1)))), .val (.int cn), .unset] [(.int (1 : Int32)), (.ref b10), (.ref b10)])) rfl (by rw [hml]; rfl) (lenOf own_pd5 rfl) rfl (by show 2 * 0 + _ ≤ _; exact Nat.le_of_eq rfl) (hb hby at_40) ?_
    rintro T11 L11 _ X11 ⟨rfl, N11q, Kq11, c11, g_c11, szq11, E_11_q, F_bytes_11_q, F_flexible_11_q, F_maxBytes_11_q, F_size_11_q, V_11q⟩
    have N11 := Fr.app N9 N11q
    show own_Wp _ _ _ _ (T11.setTop (mkF m 43 #[.val (.int p1), .val (.int p2), .val (.int (1 : Int32)), .val (.int (own_nb (own_u (p2 + 1)))), .val (.int cn), .unset] [(.ref b10)]))
    have Zs := Nat.le_trans Zs Kq11.1
    have E_b10 := E_b10.keep Kq11
    have E_b10 := E_11_q
    have F_bytes_b10 := F_bytes_11_q
    have F_flexible_b10 := F_flexible_11_q
    have F_maxBytes_b10 := F_maxBytes_11_q
    have F_size_b10 := F_size_11_q
    have V_c11 := V_11q
    have ne_b10_c11 : b10 ≠ c11 := Nat.ne_of_lt (Nat.lt_of_lt_of_le lt11 szq11)
    refine own_of (fun tgt kon => XS.astore X11.here hx rfl (hb hby at_43) rfl rfl (l' := #[.val (.int p1), .val (.int p2), .val (.int (1 : Int32)), .val (.int (own_nb (own_u (p2 + 1)))), .val (.int cn), .val (.ref b10)]) rfl kon) ?_
    show own_Wp _ _ _ _ (T11.setTop (mkF m 45 #[.val (.int p1), .val (.int p2), .val (.int (1 : Int32)), .val (.int (own_nb (own_u (p2 + 1)))), .val (.int cn), .val (.ref b10)] []))
    refine own_of (fun tgt kon => XS.aload X11.here hx rfl (hb hby at_45) rfl rfl kon) ?_
    show own_Wp _ _ _ _ (T11.setTop (mkF m 47 #[.val (.int p1), .val (.int p2), .val (.int (1 : Int32)), .val (.int (own_nb (own_u (p2 + 1)))), .val (.int cn), .val (.ref b10)] [(.ref b10)]))
    refine own_of (fun tgt kon => XS.iload X11.here hx rfl (hb hby at_47) rfl kon) ?_
    show own_Wp _ _ _ _ (T11.setTop (mkF m 49 #[.val (.int p1), .val (.int p2), .val (.int (1 : Int32)), .val (.int (own_nb (own_u (p2 + 1)))), .val (.int cn), .val (.ref b10)] [(.int cn), (.ref b10)]))
    refine own_callV X11 hx hZ (C := "com/example/ply2/ply2/protocol/ProtocolWriter") (y := (⟨"com/example/ply2/ply2/protocol/ProtocolWriter", "writeArrayLength", "(I)V"⟩ : MethodName)) (a := b10) (argsL := [(.int cn)]) (rest := []) (W := 0) hown (hw _ (List.mem_of_getElem? (i := 28) rfl)) (hw _ (List.mem_of_getElem? (i := 29) rfl)) (hw _ (List.mem_of_getElem? (i := 31) rfl)) (hw _ (List.mem_of_getElem? (i := 30) rfl)) (hw _ (List.mem_of_getElem? (i := 2) rfl)) (hw _ (List.mem_of_getElem? (i := 32) rfl)) (by decide) rfl E_b10 (rmwa1 l Z a0 hw [] b10 c11 cn (fun _ => .int (0 : Int32)) T11.heap n0 Zs E_b10 F_bytes_b10 F_flexible_b10 F_maxBytes_b10 F_size_b10 V_c11 ne_b10_c11 g_b10 g_c11 hcn) (by decide) (by decide) (by decide) (by decide) (g := (mkF m 49 #[.val (.int p1), .val (.int p2), .val (.int (1 : Int32)), .val (.int (own_nb (own_u (p2 + 1)))), .val (.int cn), .val (.ref b10)] [(.int cn), (.ref b10)])) rfl (by rw [hml]; rfl) (lenOf own_pd0 rfl) rfl (by show 2 * 0 + _ ≤ _; exact Nat.le_of_eq rfl) (hb hby at_49) ?_
    rintro T12 L12 _ X12 ⟨rfl, N12q, Kq12, E_12_q, F_bytes_12_q, F_flexible_12_q, F_maxBytes_12_q, F_size_12_q, f12, V_12q⟩
    have N12 := Fr.app N11 N12q
    show own_Wp _ _ _ _ (T12.setTop (mkF m 52 #[.val (.int p1), .val (.int p2), .val (.int (1 : Int32)), .val (.int (own_nb (own_u (p2 + 1)))), .val (.int cn), .val (.ref b10)] []))
    have Zs := Nat.le_trans Zs Kq12.1
    have E_b10 := E_b10.keep Kq12
    have E_b10 := E_12_q
    have F_bytes_b10 := F_bytes_12_q
    have F_flexible_b10 := F_flexible_12_q
    have F_maxBytes_b10 := F_maxBytes_12_q
    have F_size_b10 := F_size_12_q
    have V_c11 := V_12q
    refine own_of (fun tgt kon => XS.aload X12.here hx rfl (hb hby at_52) rfl rfl kon) ?_
    show own_Wp _ _ _ _ (T12.setTop (mkF m 54 #[.val (.int p1), .val (.int p2), .val (.int (1 : Int32)), .val (.int (own_nb (own_u (p2 + 1)))), .val (.int cn), .val (.ref b10)] [(.ref b10)]))
    refine own_callV X12 hx hZ (C := "com/example/ply2/ply2/protocol/ProtocolWriter") (y := (⟨"com/example/ply2/ply2/protocol/ProtocolWriter", "size", "()I"⟩ : MethodName)) (a := b10) (argsL := []) (rest := []) (W := 0) hown (hw _ (List.mem_of_getElem? (i := 48) rfl)) (hw _ (List.mem_of_getElem? (i := 49) rfl)) (hw _ (List.mem_of_getElem? (i := 51) rfl)) (hw _ (List.mem_of_getElem? (i := 50) rfl)) (hw _ (List.mem_of_getElem? (i := 2) rfl)) (hw _ (List.mem_of_getElem? (i := 52) rfl)) (by decide) rfl E_b10 (rmsz l Z a0 hw [] b10 (own_nb (own_u (cn + (1 : Int32)))) T12.heap n0 Zs F_size_b10) (by decide) (by decide) (by decide) (by decide) (g := (mkF m 54 #[.val (.int p1), .val (.int p2), .val (.int (1 : Int32)), .val (.int (own_nb (own_u (p2 + 1)))), .val (.int cn), .val (.ref b10)] [(.ref b10)])) rfl (by rw [hml]; rfl) (lenOf own_pd6 rfl) rfl (by show 2 * 0 + _ ≤ _; exact Nat.le_of_eq rfl) (hb hby at_54) ?_
    rintro T13 L13 _ X13 ⟨rfl, N13q, e13⟩
    have N13 := Fr.app N12 N13q
    show own_Wp _ _ _ _ (T13.setTop (mkF m 57 #[.val (.int p1), .val (.int p2), .val (.int (1 : Int32)), .val (.int (own_nb (own_u (p2 + 1)))), .val (.int cn), .val (.ref b10)] [(.int (own_nb (own_u (cn + (1 : Int32)))))]))
    refine own_of (fun tgt kon => XS.iloadN X13.here hx rfl (hb hby at_57) rfl kon) ?_
    show own_Wp _ _ _ _ (T13.setTop (mkF m 58 #[.val (.int p1), .val (.int p2), .val (.int (1 : Int32)), .val (.int (own_nb (own_u (p2 + 1)))), .val (.int cn), .val (.ref b10)] [(.int (1 : Int32)), (.int (own_nb (own_u (cn + (1 : Int32)))))]))
    refine own_of (fun tgt kon => XS.iload X13.here hx rfl (hb hby at_58) rfl kon) ?_
    show own_Wp _ _ _ _ (T13.setTop (mkF m 60 #[.val (.int p1), .val (.int p2), .val (.int (1 : Int32)), .val (.int (own_nb (own_u (p2 + 1)))), .val (.int cn), .val (.ref b10)] [(.int cn), (.int (1 : Int32)), (.int (own_nb (own_u (cn + (1 : Int32)))))]))
    refine own_callS X13 hx hZ (y := (⟨"com/example/ply2/ply2/protocol/ProtocolWriter", "lengthBytes", "(ZI)I"⟩ : MethodName)) (argsL := [(.int (1 : Int32)), (.int cn)]) (rest := [(.int (own_nb (own_u (cn + (1 : Int32)))))]) (W := 1) hown (hw _ (List.mem_of_getElem? (i := 0) rfl)) (hw _ (List.mem_of_getElem? (i := 1) rfl)) (hw _ (List.mem_of_getElem? (i := 2) rfl)) (hw _ (List.mem_of_getElem? (i := 3) rfl)) (by decide) e13 (rmlb1 l Z a0 hw [] cn T12.heap n0 Zs) (by decide) (by decide) (by decide) (by decide) (g := (mkF m 60 #[.val (.int p1), .val (.int p2), .val (.int (1 : Int32)), .val (.int (own_nb (own_u (p2 + 1)))), .val (.int cn), .val (.ref b10)] [(.int cn), (.int (1 : Int32)), (.int (own_nb (own_u (cn + (1 : Int32)))))])) rfl (by rw [hml]; rfl) (lenOf own_pd4 rfl) rfl (by show 2 * 0 + _ ≤ _; exact Nat.le_of_eq rfl) (hb hby at_60) ?_
    rintro T14 L14 _ X14 ⟨rfl, N14q, e14⟩
    have N14 := Fr.app N13 N14q
    show own_Wp _ _ _ _ (T14.setTop (mkF m 63 #[.val (.int p1), .val (.int p2), .val (.int (1 : Int32)), .val (.int (own_nb (own_u (p2 + 1)))), .val (.int cn), .val (.ref b10)] [(.int (own_nb (own_u (cn + 1)))), (.int (own_nb (own_u (cn + (1 : Int32)))))]))
    have hc63 : (own_nb (own_u (cn + (1 : Int32)))) = (own_nb (own_u (cn + 1))) := by first | rfl | decide
    refine own_of (fun tgt kon => XS.icmpNo X14.here hx rfl (hb hby at_63) rfl (teq hc63).2 kon) ?_
    show own_Wp _ _ _ _ (T14.setTop (mkF m 66 #[.val (.int p1), .val (.int p2), .val (.int (1 : Int32)), .val (.int (own_nb (own_u (p2 + 1)))), .val (.int cn), .val (.ref b10)] []))
    refine own_of (fun tgt kon => XS.iconst X14.here hx rfl (hb hby at_66) kon) ?_
    show own_Wp _ _ _ _ (T14.setTop (mkF m 67 #[.val (.int p1), .val (.int p2), .val (.int (1 : Int32)), .val (.int (own_nb (own_u (p2 + 1)))), .val (.int cn), .val (.ref b10)] [(.int (1 : Int32))]))
    refine own_of (fun tgt kon => XS.goto X14.here hx rfl (pc0 := 67) (pc' := 71) rfl (hb hby at_67) (by decide) (by decide) kon) ?_
    show own_Wp _ _ _ _ (T14.setTop (mkF m 71 #[.val (.int p1), .val (.int p2), .val (.int (1 : Int32)), .val (.int (own_nb (own_u (p2 + 1)))), .val (.int cn), .val (.ref b10)] [(.int (1 : Int32))]))
    refine own_ret X14 hlk (some (.int (1 : Int32))) (own_rtI hrt) (fun fs hr => retN X14 hx (t := .boolean) hrt (by simp) (hb hby at_71) hr) ?_ (by decide) (by decide)
    rw [e14]
    exact ⟨rfl, N14⟩
set_option maxRecDepth 65536 in
set_option maxHeartbeats 40000000 in
theorem comes_1 {Post : Tables → Env → Array Value → State → Outcome → State → Prop} (hpost : ∀ tb e args s v u, (limb_1_1.after args s (.returned v) u = true ∧ limb_1_2.after args s (.returned v) u = true ∧ True) → FrameEnd s (.returned v) u (Jvm.fieldLocs frame_1_writes args s ++ Jvm.arrayLocs frame_1_arrays args s ++ Jvm.staticLocs frame_1_statics s) 16 640 → Post tb e args s (.returned v) u) :
    ArmFor flags0 classFile x code maxLocals ret World_1 tables_1 room_1 Calls_1 rest_1 Pre_1 Post := by
  intro l hfl _ _ p e ha hc hk s m args below hf hA hF happ hP
  obtain ⟨hcalls, hrest, hpre⟩ := hP
  obtain ⟨-, -, -, hnamed, -, -, -, hat⟩ := (Spec.applies_iff hf).mp happ
  obtain ⟨hg, hn⟩ := and_e (Cond.before_iff.mp (show (Jvm.Cond.and given_1 narrow_1).before args s = true from hpre))
  obtain ⟨g1, g2⟩ := and_e hg
  obtain ⟨g3, g4⟩ := and_e g2
  obtain ⟨w0, w1, rfl⟩ : ∃ w0 w1 : Value, args = #[w0, w1] := by
    have hs : args.size = 2 := by simpa [Cond.value, given_1] using g1
    obtain ⟨L⟩ := args
    match L, hs with
    | [w0, w1], _ => exact ⟨w0, w1, rfl⟩
  have hw := fun d (hd : d ∈ tables_1) => atoms_spec (ws := Jvm.Cond.code x code maxLocals ret :: tables_1) hat d (List.mem_cons_of_mem _ hd)
  have hfit : Fit s := fun {y c} hc i hi => by
    obtain ⟨ha, rfl⟩ := Array.getElem?_eq_some_iff.mp hc
    have q := List.all_eq_true.mp ((Array.all_eq_true_iff_forall_mem.mp hF) _ (Array.getElem_mem ha)) i (List.mem_range.mpr hi)
    simpa [Array.getElem?_eq_getElem hi] using q
  obtain ⟨i0, ei0⟩ := is_v g3
  obtain rfl : w0 = (.int i0) := Option.some.inj ei0
  obtain ⟨i1, ei1⟩ := is_v g4
  obtain rfl : w1 = (.int i1) := Option.some.inj ei1
  obtain ⟨n, o, h1, h2, h3, _, L, rfl, ⟨rfl, N⟩, hq⟩ := rm0 l s _ hw tables_1 i0 i1  s.heap s.heap.size (Nat.le_refl _)  p e ha hc hk s m _ below hf ((Spec.applies_iff_loose hf).mp happ).1 ⟨rfl, State.Warmed39.refl s, rfl⟩ trivial
  refine ⟨n, _, h1, h2, h3, hpost _ _ _ _ _ _ ⟨Cond.after_iff.mpr rfl, Cond.after_iff.mpr (eq_i res_at (Term.int_eval (1)) rfl), trivial⟩ ⟨hq.1, hq.2.1, (hq.2.2.sift fun y hy => Or.inr (N y hy)).mono (by decide) (by decide)⟩⟩
theorem main_1_1 : Claimed_1_1 := comes_1 fun _ _ _ _ _ _ h hF => ⟨h.1, hF⟩
theorem main_1_2 : Claimed_1_2 := comes_1 fun _ _ _ _ _ _ h hF => ⟨h.2.1, hF⟩
end Jvm.Pilot.@@N@@
namespace Jvm.Pilot.@@N@@
open Jvm Jvm.ClassFile Sem Op Lib Jvm.Free Jvm.Stand Jvm.Pilot.@@N@@.Jvm.D
/-! MADE BY PROGRAM (witnessworld.py) out of the Statement's table words and the real class files: 9 classes; the members and pool entries that the words name. The judged class is class 1, her method 1. -/
namespace start1
open Jvm.ClassFile
def u (s : String) : CpInfo := .utf8 (stringToUtf16 s)
/-- a pool by its gaps: so many unusable entries, then the entry; so many at the end -/
def gap : Nat → List CpInfo → List CpInfo
  | 0, r => r
  | n + 1, r => .unusable :: gap n r
def poolList (es : List (Nat × CpInfo)) (last : Nat) : List CpInfo := es.foldr (fun e r => gap e.1 (e.2 :: r)) (gap last [])
def pool (es : List (Nat × CpInfo)) (last : Nat) : Array CpInfo := ⟨poolList es last⟩
def fileOf (pool : Array CpInfo) (this : Nat) (attrs : Array Attribute := #[]) (ms : Array MethodInfo := #[]) (fl : Nat := 33) (sup : Nat := 0) (ifs : Array Nat := #[]) (fds : Array FieldInfo := #[]) : ClassFile where
  minorVersion := 0
  majorVersion := 65
  constantPool := pool
  accessFlags := fl
  thisClass := this
  superClass := sup
  interfaces := ifs
  fields := fds
  methods := ms
  attributes := attrs
def plain (name : String) (sup : Option ClassId) : Class where
  name := name
  kind := .ordinary
  loader := none
  accessFlags := 33
  super := sup
  interfaces := #[]
  cf := none
  fields := #[]
  methods := #[]
  instanceTypes := #[]
  staticTypes := #[]
  resolved := #[]
  callSites := []
  init := .initialized
  statics := none
  mirror := none

def pool0 : Array CpInfo := pool [(5, u "<init>"), (0, u "()V"), (1, .class_ 10), (1, u "java/lang/Object")] 113

def k0c0 : Code := { maxStack := 0, maxLocals := 1, code := object_method_1_code, exceptionTable := #[], attributes := #[] }
def k0m0 : Method := { name := "<init>", desc := "()V", sig := { parameters := [], returnType := none }, accessFlags := 1, code := some k0c0 }
/-- java/lang/Object -/
def k0 : Class := { plain "java/lang/Object" none with
  accessFlags := 33
  interfaces := #[]
  cf := some (fileOf pool0 8 #[] #[{ accessFlags := 1, nameIndex := 5, descriptorIndex := 6, attributes := #[] }] 33 0 #[] #[])
  fields := #[]
  methods := #[k0m0]
  instanceTypes := #[]
  staticTypes := #[]
  resolved := Array.replicate 124 none
  statics := none }

def pool1 : Array CpInfo := pool [(2, .class_ 4), (1, u "java/lang/Object"), (0, u "<init>"), (0, u "()V"), (0, .methodref 8 9), (0, .class_ 10), (0, .nameAndType 11 12), (0, u "com/example/ply2/ply2/protocol/ProtocolWriter"), (0, u "lengthBytes"), (0, u "(ZI)I"), (0, .methodref 14 15), (0, .class_ 16), (0, .nameAndType 17 12), (0, u "com/example/ply2/ply2/protocol/ProtocolWriterLengthBytesPinLaw"), (0, u "expected"), (0, .integer 2147483647), (0, .methodref 8 20), (0, .nameAndType 5 21), (0, u "(Z)V"), (0, .methodref 8 23), (0, .nameAndType 24 25), (0, u "writeArrayLength"), (0, u "(I)V"), (0, .methodref 8 27), (0, .nameAndType 28 29), (0, u "size"), (0, u "()I"), (0, .long 4294967295), (1, .long 128), (1, .long 16384), (1, .long 2097152), (1, .long 268435456), (3, u "law"), (0, u "(II)Z")] 3

def k1m0 : Method := { name := "<init>", desc := "()V", sig := { parameters := [], returnType := none }, accessFlags := 1, code := none }
def k1c1 : Code := { maxStack := 3, maxLocals := 6, code := code, exceptionTable := #[], attributes := #[] }
def k1m1 : Method := { name := "law", desc := "(II)Z", sig := { parameters := [.int, .int], returnType := some .boolean }, accessFlags := 9, code := some k1c1 }
def k1c2 : Code := { maxStack := 4, maxLocals := 4, code := method_3_code, exceptionTable := #[], attributes := #[] }
def k1m2 : Method := { name := "expected", desc := "(ZI)I", sig := { parameters := [.boolean, .int], returnType := some .int }, accessFlags := 10, code := some k1c2 }
/-- com/example/ply2/ply2/protocol/ProtocolWriterLengthBytesPinLaw -/
def k1 : Class := { plain "com/example/ply2/ply2/protocol/ProtocolWriterLengthBytesPinLaw" (some 0) with
  accessFlags := 49
  interfaces := #[]
  cf := some (fileOf pool1 14 #[] #[{ accessFlags := 1, nameIndex := 5, descriptorIndex := 6, attributes := #[] }, { accessFlags := 9, nameIndex := 42, descriptorIndex := 43, attributes := #[] }, { accessFlags := 10, nameIndex := 17, descriptorIndex := 12, attributes := #[] }] 49 2 #[] #[])
  fields := #[]
  methods := #[k1m0, k1m1, k1m2]
  instanceTypes := #[]
  staticTypes := #[]
  resolved := Array.replicate 47 none
  statics := none }

def pool2 : Array CpInfo := pool [(3, .integer 2147483647), (0, .methodref 5 6), (0, .class_ 7), (0, .nameAndType 8 9), (0, u "com/example/ply2/ply2/protocol/ProtocolWriter"), (0, u "<init>"), (0, u "(ZI)V"), (0, .methodref 11 12), (0, .class_ 13), (0, .nameAndType 8 14), (0, u "java/lang/Object"), (0, u "()V"), (0, .fieldref 5 16), (0, .nameAndType 17 18), (0, u "bytes"), (0, u "[B"), (0, .fieldref 5 20), (0, .nameAndType 21 22), (0, u "flexible"), (0, u "Z"), (0, .fieldref 5 24), (0, .nameAndType 25 26), (0, u "maxBytes"), (0, u "I"), (0, .methodref 5 28), (0, .nameAndType 29 30), (0, u "ensure"), (0, u "(I)V"), (0, .fieldref 5 32), (0, .nameAndType 33 26), (0, u "size"), (2, .methodref 5 37), (0, .nameAndType 38 30), (0, u "writeInt32"), (19, .methodref 5 59), (0, .nameAndType 60 61), (0, u "writeInt8"), (0, u "(B)V"), (0, .methodref 5 63), (0, .nameAndType 64 65), (0, u "writeLength"), (0, u "(IZ)V"), (27, u "()I"), (23, u "writeArrayLength"), (28, .methodref 5 147), (0, .nameAndType 148 30), (0, u "writeUnsignedVarint"), (35, .long 2), (16, u "INITIAL_CAPACITY"), (2, u "(Z)V"), (20, u "lengthBytes"), (0, u "(ZI)I")] 22

def k2c0 : Code := { maxStack := 3, maxLocals := 2, code := prog_229_method_1_code, exceptionTable := #[], attributes := #[] }
def k2m0 : Method := { name := "<init>", desc := "(Z)V", sig := { parameters := [.boolean], returnType := none }, accessFlags := 1, code := some k2c0 }
def k2c1 : Code := { maxStack := 2, maxLocals := 3, code := prog_229_method_2_code, exceptionTable := #[], attributes := #[] }
def k2m1 : Method := { name := "<init>", desc := "(ZI)V", sig := { parameters := [.boolean, .int], returnType := none }, accessFlags := 1, code := some k2c1 }
def k2c2 : Code := { maxStack := 5, maxLocals := 2, code := prog_229_method_3_code, exceptionTable := #[], attributes := #[] }
def k2m2 : Method := { name := "writeInt8", desc := "(B)V", sig := { parameters := [.byte], returnType := none }, accessFlags := 1, code := some k2c2 }
def k2c3 : Code := { maxStack := 5, maxLocals := 2, code := prog_229_method_5_code, exceptionTable := #[], attributes := #[] }
def k2m3 : Method := { name := "writeInt32", desc := "(I)V", sig := { parameters := [.int], returnType := none }, accessFlags := 1, code := some k2c3 }
def k2c4 : Code := { maxStack := 3, maxLocals := 2, code := prog_229_method_14_code, exceptionTable := #[], attributes := #[] }
def k2m4 : Method := { name := "writeArrayLength", desc := "(I)V", sig := { parameters := [.int], returnType := none }, accessFlags := 1, code := some k2c4 }
def k2c5 : Code := { maxStack := 1, maxLocals := 1, code := prog_229_method_20_code, exceptionTable := #[], attributes := #[] }
def k2m5 : Method := { name := "size", desc := "()I", sig := { parameters := [], returnType := some .int }, accessFlags := 1, code := some k2c5 }
def k2c6 : Code := { maxStack := 2, maxLocals := 4, code := prog_229_method_22_code, exceptionTable := #[], attributes := #[] }
def k2m6 : Method := { name := "lengthBytes", desc := "(ZI)I", sig := { parameters := [.boolean, .int], returnType := some .int }, accessFlags := 9, code := some k2c6 }
def k2c7 : Code := { maxStack := 3, maxLocals := 3, code := prog_229_method_23_code, exceptionTable := #[], attributes := #[] }
def k2m7 : Method := { name := "writeLength", desc := "(IZ)V", sig := { parameters := [.int, .boolean], returnType := none }, accessFlags := 2, code := some k2c7 }
def k2c8 : Code := { maxStack := 3, maxLocals := 3, code := prog_229_method_24_code, exceptionTable := #[], attributes := #[] }
def k2m8 : Method := { name := "writeUnsignedVarint", desc := "(I)V", sig := { parameters := [.int], returnType := none }, accessFlags := 2, code := some k2c8 }
def k2c9 : Code := { maxStack := 6, maxLocals := 4, code := prog_229_method_25_code, exceptionTable := #[], attributes := #[] }
def k2m9 : Method := { name := "ensure", desc := "(I)V", sig := { parameters := [.int], returnType := none }, accessFlags := 2, code := some k2c9 }
/-- com/example/ply2/ply2/protocol/ProtocolWriter -/
def k2 : Class := { plain "com/example/ply2/ply2/protocol/ProtocolWriter" (some 0) with
  accessFlags := 49
  interfaces := #[]
  cf := some (fileOf pool2 5 #[] #[{ accessFlags := 1, nameIndex := 8, descriptorIndex := 204, attributes := #[] }, { accessFlags := 1, nameIndex := 8, descriptorIndex := 9, attributes := #[] }, { accessFlags := 1, nameIndex := 60, descriptorIndex := 61, attributes := #[] }, { accessFlags := 1, nameIndex := 38, descriptorIndex := 30, attributes := #[] }, { accessFlags := 1, nameIndex := 117, descriptorIndex := 30, attributes := #[] }, { accessFlags := 1, nameIndex := 33, descriptorIndex := 93, attributes := #[] }, { accessFlags := 9, nameIndex := 225, descriptorIndex := 226, attributes := #[] }, { accessFlags := 2, nameIndex := 64, descriptorIndex := 65, attributes := #[] }, { accessFlags := 2, nameIndex := 148, descriptorIndex := 30, attributes := #[] }, { accessFlags := 2, nameIndex := 29, descriptorIndex := 30, attributes := #[] }] 49 11 #[] #[{ accessFlags := 26, nameIndex := 201, descriptorIndex := 26, attributes := #[] }, { accessFlags := 18, nameIndex := 21, descriptorIndex := 22, attributes := #[] }, { accessFlags := 18, nameIndex := 25, descriptorIndex := 26, attributes := #[] }, { accessFlags := 2, nameIndex := 17, descriptorIndex := 18, attributes := #[] }, { accessFlags := 2, nameIndex := 33, descriptorIndex := 26, attributes := #[] }])
  fields := #[{ name := "INITIAL_CAPACITY", type := .int, accessFlags := 26, slot := 0, constantValue := 0 }, { name := "flexible", type := .boolean, accessFlags := 18, slot := 0, constantValue := 0 }, { name := "maxBytes", type := .int, accessFlags := 18, slot := 1, constantValue := 0 }, { name := "bytes", type := (.array .byte), accessFlags := 2, slot := 2, constantValue := 0 }, { name := "size", type := .int, accessFlags := 2, slot := 3, constantValue := 0 }]
  methods := #[k2m0, k2m1, k2m2, k2m3, k2m4, k2m5, k2m6, k2m7, k2m8, k2m9]
  instanceTypes := #[.boolean, .int, (.array .byte), .int]
  staticTypes := #[.int]
  resolved := Array.replicate 249 none
  statics := none }

def pool3 : Array CpInfo := pool [(1, u "java/lang/Cloneable"), (0, .class_ 1), (0, u "java/lang/Object"), (0, .class_ 3)] 3

/-- java/lang/Cloneable -/
def k3 : Class := { plain "java/lang/Cloneable" (some 0) with
  accessFlags := 1537
  interfaces := #[]
  cf := some (fileOf pool3 2 #[] #[] 1537 4 #[] #[])
  fields := #[]
  methods := #[]
  instanceTypes := #[]
  staticTypes := #[]
  resolved := Array.replicate 8 none
  statics := none }

def pool4 : Array CpInfo := pool [(1, u "java/io/Serializable"), (0, .class_ 1), (0, u "java/lang/Object"), (0, .class_ 3)] 3

/-- java/io/Serializable -/
def k4 : Class := { plain "java/io/Serializable" (some 0) with
  accessFlags := 1537
  interfaces := #[]
  cf := some (fileOf pool4 2 #[] #[] 1537 4 #[] #[])
  fields := #[]
  methods := #[]
  instanceTypes := #[]
  staticTypes := #[]
  resolved := Array.replicate 8 none
  statics := none }

/-- the primitive byte -/
def k5 : Class := { plain "byte" none with kind := .primitive 'B', accessFlags := 0x411 }
/-- [B -/
def k6 : Class := { plain "[B" (some 0) with kind := .array 5 .byte, interfaces := #[3, 4], accessFlags := 1041 }

/-- the primitive int -/
def k7 : Class := { plain "int" none with kind := .primitive 'I', accessFlags := 0x411 }
/-- [I -/
def k8 : Class := { plain "[I" (some 0) with kind := .array 7 .int, interfaces := #[3, 4], accessFlags := 1041 }

def heap : Heap := #[]
def classes : Array Class := #[k0, k1, k2, k3, k4, k5, k6, k7, k8]
def interned : List (Array UInt16 × Addr) := []
def slotsUsed : Nat := 0
def theMethod : MethodId := ⟨1, 1⟩
def args0 : Array Value := #[.int 1, .int 300]
def aboutOver (below : List Frame) : State where
  vm := { classes := classes, interned := interned.toArray }
  heap := heap
  slotsUsed := slotsUsed
  threads := #[{ frames := .invoking theMethod args0 :: below }]
def below0 : List Frame := [.native { method := ⟨0, 0⟩, args := #[] }]
def about1 : State := aboutOver below0
def p0 : Program := .bare "" "" ""
def e0 : Env := launch0.env 0 0 0
theorem w_frames : about1.frames = Frame.invoking theMethod args0 :: below0 := rfl
set_option maxRecDepth 65536 in
theorem w_args : argsFit about1.vm theMethod args0 = true := by decide +kernel
set_option maxRecDepth 65536 in
theorem w_heap : heapFits about1 = true := by decide +kernel
set_option maxRecDepth 65536 in
theorem w_runnable : about1.curStatus? = some .runnable := by decide +kernel
set_option maxRecDepth 65536 in
theorem w_alone : about1.alone = true := by decide +kernel
set_option maxRecDepth 65536 in
theorem w_named : about1.methodNamed? x = some theMethod := by decide +kernel
set_option maxRecDepth 65536 in
theorem w_hears : about1.hears theMethod below0 = true := by decide +kernel
set_option maxRecDepth 65536 in
theorem w_ripe : about1.ripe theMethod args0 below0 = true := by decide +kernel
theorem w_running : about1.status = .running := rfl
set_option maxRecDepth 65536 in
theorem w_room : about1.hasRoom e0.platform room_1 = true :=
  launch0.hasRoom_least _ room_1 (by decide +kernel) (by decide +kernel) (by decide +kernel) (by decide +kernel) (by decide +kernel) (by decide +kernel)
theorem allAtoms_all (ts : List Jvm.Cond) (a : Array Jvm.Value) (st : Jvm.State) : (allAtoms ts).before a st = ts.all (fun c => c.before a st) := by
  induction ts with
  | nil => rfl
  | cons c t ih =>
    show (Jvm.Cond.and c (allAtoms t)).before a st = _
    rw [Jvm.Cond.before_and, ih, List.all_cons]
def words1 : List Jvm.Cond := Jvm.Cond.code x code maxLocals ret :: tables_1
/-- a 'code' word, met by the world's own term for the bytes: nothing is compared byte by byte -/
theorem code_word {y : MethodName} {bytes : ByteArray} {mx : Nat} {rt : Option FieldType} {a : Array Value} {s : State} {m : MethodId} {meth : Method} {c : Code} (h1 : s.methodNamed? y = some m) (h2 : s.vm.method? m = some meth) (h3 : meth.code = some c) (h4 : c.code = bytes)
    (h5 : (c.maxLocals == mx && c.exceptionTable.isEmpty && decide (c.maxStack ≤ mostOperands) && decide (meth.sig.returnType = rt) && !meth.locks && decide (parseMethodDescriptor y.desc = some meth.sig)) = true) : (Jvm.Cond.code y bytes mx rt).before a s = true := by
  simp only [Bool.and_eq_true, beq_iff_eq, Bool.not_eq_true', decide_eq_true_eq] at h5
  obtain ⟨⟨⟨⟨⟨g1, g2⟩, g3⟩, g4⟩, g5⟩, g6⟩ := h5
  simp [Cond.before, Cond.holds, Cond.value, h1, h2, h3, h4, g1, g2, g3, g4, g5, g6]
def isCode : Jvm.Cond → Bool
  | .code _ _ _ _ => true
  | _ => false
theorem all_split {L : List Jvm.Cond} {P : Jvm.Cond → Bool} (h1 : L.all (fun c => isCode c || P c) = true) (h2 : ∀ c ∈ L.filter isCode, P c = true) : L.all P = true := by
  refine List.all_eq_true.mpr fun c hc => ?_
  have h := List.all_eq_true.mp h1 c hc
  rcases Bool.eq_false_or_eq_true (isCode c) with hi | hi
  · exact h2 c (List.mem_filter.mpr ⟨hc, hi⟩)
  · simpa [hi] using h
set_option maxRecDepth 65536 in
theorem w_c0 : (Jvm.Cond.code x code maxLocals ret).before args0 about1 = true := code_word (m := ⟨1, 1⟩) (meth := k1m1) (c := k1c1) (by decide +kernel) rfl rfl rfl (by decide +kernel)
set_option maxRecDepth 65536 in
theorem w_c1 : (Jvm.Cond.code ({ cls := "com/example/ply2/ply2/protocol/ProtocolWriter", name := "lengthBytes", desc := "(ZI)I" } : Jvm.MethodName) prog_229_method_22_code (4 : Nat) (Option.some Jvm.ClassFile.FieldType.int)).before args0 about1 = true := code_word (m := ⟨2, 6⟩) (meth := k2m6) (c := k2c6) (by decide +kernel) rfl rfl rfl (by decide +kernel)
set_option maxRecDepth 65536 in
theorem w_c2 : (Jvm.Cond.code ({ cls := "com/example/ply2/ply2/protocol/ProtocolWriterLengthBytesPinLaw", name := "expected", desc := "(ZI)I" } : Jvm.MethodName) method_3_code (4 : Nat) (Option.some Jvm.ClassFile.FieldType.int)).before args0 about1 = true := code_word (m := ⟨1, 2⟩) (meth := k1m2) (c := k1c2) (by decide +kernel) rfl rfl rfl (by decide +kernel)
set_option maxRecDepth 65536 in
theorem w_c3 : (Jvm.Cond.code ({ cls := "com/example/ply2/ply2/protocol/ProtocolWriter", name := "<init>", desc := "(Z)V" } : Jvm.MethodName) prog_229_method_1_code (2 : Nat) (Option.none : Option Jvm.ClassFile.FieldType)).before args0 about1 = true := code_word (m := ⟨2, 0⟩) (meth := k2m0) (c := k2c0) (by decide +kernel) rfl rfl rfl (by decide +kernel)
set_option maxRecDepth 65536 in
theorem w_c4 : (Jvm.Cond.code ({ cls := "com/example/ply2/ply2/protocol/ProtocolWriter", name := "<init>", desc := "(ZI)V" } : Jvm.MethodName) prog_229_method_2_code (3 : Nat) (Option.none : Option Jvm.ClassFile.FieldType)).before args0 about1 = true := code_word (m := ⟨2, 1⟩) (meth := k2m1) (c := k2c1) (by decide +kernel) rfl rfl rfl (by decide +kernel)
set_option maxRecDepth 65536 in
theorem w_c5 : (Jvm.Cond.code ({ cls := "java/lang/Object", name := "<init>", desc := "()V" } : Jvm.MethodName) object_method_1_code (1 : Nat) (Option.none : Option Jvm.ClassFile.FieldType)).before args0 about1 = true := code_word (m := ⟨0, 0⟩) (meth := k0m0) (c := k0c0) (by decide +kernel) rfl rfl rfl (by decide +kernel)
set_option maxRecDepth 65536 in
theorem w_c6 : (Jvm.Cond.code ({ cls := "com/example/ply2/ply2/protocol/ProtocolWriter", name := "writeArrayLength", desc := "(I)V" } : Jvm.MethodName) prog_229_method_14_code (2 : Nat) (Option.none : Option Jvm.ClassFile.FieldType)).before args0 about1 = true := code_word (m := ⟨2, 4⟩) (meth := k2m4) (c := k2c4) (by decide +kernel) rfl rfl rfl (by decide +kernel)
set_option maxRecDepth 65536 in
theorem w_c7 : (Jvm.Cond.code ({ cls := "com/example/ply2/ply2/protocol/ProtocolWriter", name := "writeLength", desc := "(IZ)V" } : Jvm.MethodName) prog_229_method_23_code (3 : Nat) (Option.none : Option Jvm.ClassFile.FieldType)).before args0 about1 = true := code_word (m := ⟨2, 7⟩) (meth := k2m7) (c := k2c7) (by decide +kernel) rfl rfl rfl (by decide +kernel)
set_option maxRecDepth 65536 in
theorem w_c8 : (Jvm.Cond.code ({ cls := "com/example/ply2/ply2/protocol/ProtocolWriter", name := "writeInt32", desc := "(I)V" } : Jvm.MethodName) prog_229_method_5_code (2 : Nat) (Option.none : Option Jvm.ClassFile.FieldType)).before args0 about1 = true := code_word (m := ⟨2, 3⟩) (meth := k2m3) (c := k2c3) (by decide +kernel) rfl rfl rfl (by decide +kernel)
set_option maxRecDepth 65536 in
theorem w_c9 : (Jvm.Cond.code ({ cls := "com/example/ply2/ply2/protocol/ProtocolWriter", name := "ensure", desc := "(I)V" } : Jvm.MethodName) prog_229_method_25_code (4 : Nat) (Option.none : Option Jvm.ClassFile.FieldType)).before args0 about1 = true := code_word (m := ⟨2, 9⟩) (meth := k2m9) (c := k2c9) (by decide +kernel) rfl rfl rfl (by decide +kernel)
set_option maxRecDepth 65536 in
theorem w_c10 : (Jvm.Cond.code ({ cls := "com/example/ply2/ply2/protocol/ProtocolWriter", name := "size", desc := "()I" } : Jvm.MethodName) prog_229_method_20_code (1 : Nat) (Option.some Jvm.ClassFile.FieldType.int)).before args0 about1 = true := code_word (m := ⟨2, 5⟩) (meth := k2m5) (c := k2c5) (by decide +kernel) rfl rfl rfl (by decide +kernel)
set_option maxRecDepth 65536 in
theorem w_c11 : (Jvm.Cond.code ({ cls := "com/example/ply2/ply2/protocol/ProtocolWriter", name := "writeUnsignedVarint", desc := "(I)V" } : Jvm.MethodName) prog_229_method_24_code (3 : Nat) (Option.none : Option Jvm.ClassFile.FieldType)).before args0 about1 = true := code_word (m := ⟨2, 8⟩) (meth := k2m8) (c := k2c8) (by decide +kernel) rfl rfl rfl (by decide +kernel)
set_option maxRecDepth 65536 in
theorem w_c12 : (Jvm.Cond.code ({ cls := "com/example/ply2/ply2/protocol/ProtocolWriter", name := "writeInt8", desc := "(B)V" } : Jvm.MethodName) prog_229_method_3_code (2 : Nat) (Option.none : Option Jvm.ClassFile.FieldType)).before args0 about1 = true := code_word (m := ⟨2, 2⟩) (meth := k2m2) (c := k2c2) (by decide +kernel) rfl rfl rfl (by decide +kernel)
def codes1 : List Jvm.Cond := [Jvm.Cond.code x code maxLocals ret, Jvm.Cond.code ({ cls := "com/example/ply2/ply2/protocol/ProtocolWriter", name := "lengthBytes", desc := "(ZI)I" } : Jvm.MethodName) prog_229_method_22_code (4 : Nat) (Option.some Jvm.ClassFile.FieldType.int), Jvm.Cond.code ({ cls := "com/example/ply2/ply2/protocol/ProtocolWriterLengthBytesPinLaw", name := "expected", desc := "(ZI)I" } : Jvm.MethodName) method_3_code (4 : Nat) (Option.some Jvm.ClassFile.FieldType.int), Jvm.Cond.code ({ cls := "com/example/ply2/ply2/protocol/ProtocolWriter", name := "<init>", desc := "(Z)V" } : Jvm.MethodName) prog_229_method_1_code (2 : Nat) (Option.none : Option Jvm.ClassFile.FieldType), Jvm.Cond.code ({ cls := "com/example/ply2/ply2/protocol/ProtocolWriter", name := "<init>", desc := "(ZI)V" } : Jvm.MethodName) prog_229_method_2_code (3 : Nat) (Option.none : Option Jvm.ClassFile.FieldType), Jvm.Cond.code ({ cls := "java/lang/Object", name := "<init>", desc := "()V" } : Jvm.MethodName) object_method_1_code (1 : Nat) (Option.none : Option Jvm.ClassFile.FieldType), Jvm.Cond.code ({ cls := "com/example/ply2/ply2/protocol/ProtocolWriter", name := "writeArrayLength", desc := "(I)V" } : Jvm.MethodName) prog_229_method_14_code (2 : Nat) (Option.none : Option Jvm.ClassFile.FieldType), Jvm.Cond.code ({ cls := "com/example/ply2/ply2/protocol/ProtocolWriter", name := "writeLength", desc := "(IZ)V" } : Jvm.MethodName) prog_229_method_23_code (3 : Nat) (Option.none : Option Jvm.ClassFile.FieldType), Jvm.Cond.code ({ cls := "com/example/ply2/ply2/protocol/ProtocolWriter", name := "writeInt32", desc := "(I)V" } : Jvm.MethodName) prog_229_method_5_code (2 : Nat) (Option.none : Option Jvm.ClassFile.FieldType), Jvm.Cond.code ({ cls := "com/example/ply2/ply2/protocol/ProtocolWriter", name := "ensure", desc := "(I)V" } : Jvm.MethodName) prog_229_method_25_code (4 : Nat) (Option.none : Option Jvm.ClassFile.FieldType), Jvm.Cond.code ({ cls := "com/example/ply2/ply2/protocol/ProtocolWriter", name := "size", desc := "()I" } : Jvm.MethodName) prog_229_method_20_code (1 : Nat) (Option.some Jvm.ClassFile.FieldType.int), Jvm.Cond.code ({ cls := "com/example/ply2/ply2/protocol/ProtocolWriter", name := "writeUnsignedVarint", desc := "(I)V" } : Jvm.MethodName) prog_229_method_24_code (3 : Nat) (Option.none : Option Jvm.ClassFile.FieldType), Jvm.Cond.code ({ cls := "com/example/ply2/ply2/protocol/ProtocolWriter", name := "writeInt8", desc := "(B)V" } : Jvm.MethodName) prog_229_method_3_code (2 : Nat) (Option.none : Option Jvm.ClassFile.FieldType)]
set_option maxRecDepth 65536 in
theorem codes_eq : words1.filter isCode = codes1 := rfl
theorem w_codes : ∀ c ∈ words1.filter isCode, c.before args0 about1 = true := by
  rw [codes_eq]
  intro c hc
  simp only [codes1, List.mem_cons, List.not_mem_nil, or_false] at hc
  rcases hc with rfl | rfl | rfl | rfl | rfl | rfl | rfl | rfl | rfl | rfl | rfl | rfl | rfl
  · exact w_c0
  · exact w_c1
  · exact w_c2
  · exact w_c3
  · exact w_c4
  · exact w_c5
  · exact w_c6
  · exact w_c7
  · exact w_c8
  · exact w_c9
  · exact w_c10
  · exact w_c11
  · exact w_c12
set_option maxRecDepth 65536 in
theorem w_t1 : (words1.take 24).all (fun c => isCode c || c.before args0 about1) = true := by decide +kernel
set_option maxRecDepth 65536 in
theorem w_t2 : ((words1.drop 24).take 24).all (fun c => isCode c || c.before args0 about1) = true := by decide +kernel
set_option maxRecDepth 65536 in
theorem w_t3 : ((words1.drop 24).drop 24).all (fun c => isCode c || c.before args0 about1) = true := by decide +kernel
theorem w_tables : (allAtoms (Jvm.Cond.code x code maxLocals ret :: tables_1)).before args0 about1 = true := by
  rw [allAtoms_all]
  show words1.all (fun c => c.before args0 about1) = true
  refine all_split ?_ w_codes
  rw [← List.take_append_drop 24 words1, List.all_append, w_t1, ← List.take_append_drop 24 (words1.drop 24), List.all_append, w_t2, w_t3]
  rfl
set_option maxRecDepth 65536 in
theorem w_case : (Jvm.Cond.and given_1 narrow_1).before args0 about1 = true := by decide +kernel
theorem w_applies : (headSpec (Jvm.Cond.code x code maxLocals ret :: tables_1) room_1).applies x e0.platform about1 = true :=
  (Spec.applies_iff w_frames).mpr ⟨w_running, w_runnable, w_alone, w_named, w_hears, w_ripe, w_room, w_tables⟩
theorem atStart : AtStart classFile x code maxLocals ret World_1 tables_1 room_1 Calls_1 rest_1 Pre_1 launch0 p0 e0 about1 theMethod args0 below0 :=
  ⟨lists_1, trivial, launch0.admits_env _ _ _, launch0.least_env, fairChoices_fair.cas, fairChoices_fair.clock, w_frames, w_args, w_heap, w_applies, trivial, trivial, w_case⟩
end start1
theorem witness_1 : WitnessClaimed_1 := ⟨start1.p0, start1.e0, start1.about1, start1.theMethod, start1.args0, start1.below0, start1.atStart⟩
end Jvm.Pilot.@@N@@
