import JvmDerived
import JvmDerived.Pilot.@@N@@Statement
import JvmDerived.Pilot.@@N@@Code
set_option linter.unusedVariables false
set_option linter.unusedSimpArgs false
@@BLOCK:NumsL.lean.txt@@
namespace Jvm.Pilot.@@N@@
open Jvm Jvm.ClassFile Sem Op Lib Jvm.Free Jvm.Stand Jvm.LawKit Jvm.RoadKit Bundle Jvm.Pilot.@@N@@.Jvm.D
section OwnKit
variable {p : Program} {l : Launch} {e : Env} {R : Room} {s : State} {m : MethodId} {args : Array Value} {below : List Frame} {meth : Method} {c : Code} {T : State} {locs : List Loc} {cells slots : Nat} {Z : State} {a0 : Array Value} {h h' : Heap} {K : State → Outcome → Prop}
/-- from here the run comes to an end that K takes -/
def own_Wp (tb : Tables) (e : Env) (below : List Frame) (K : State → Outcome → Prop) (st : State) : Prop := ∃ s₂ o, Steps tb e below st s₂ ∧ K s₂ o
theorem own_of {tb : Tables} {A B : State} (h : ∀ t, Steps tb e below B t → Steps tb e below A t) (w : own_Wp tb e below K B) : own_Wp tb e below K A := by
  obtain ⟨s₂, o, h1, h2⟩ := w
  exact ⟨s₂, o, h _ h1, h2⟩
def own_K (R : Room) (s : State) (below : List Frame) (Q : Option Value → Heap → List Loc → Prop) (s₂ : State) (o : Outcome) : Prop :=
  s₂.status = .running ∧ Ended s₂ below o ∧ ∃ v L, o = .returned v ∧ Q v s₂.heap L ∧ FrameEnd s o s₂ L R.cells R.slots
theorem own_ret {Q : Option Value → Heap → List Loc → Prop} (X : Stand p l e R s m args below meth c T locs cells slots) (hlk : meth.locks = false) (v : Option Value) (hv : meth.sig.returnType = none → v = none) {f : JFrame}
    (hs : ∀ fs, (∀ (f : JFrame) (acts : List Action), f.method = m → f.locked = none → f.entered = [] → (doReturn e (T.setTop f) acts v).1 = T.setFrames fs) → Steps p.tables e below (T.setTop f) (T.setFrames fs))
    (hQ : Q v T.heap locs) (hc : cells ≤ R.cells) (hsl : slots ≤ R.slots) : own_Wp p.tables e below (own_K R s below Q) (T.setTop f) := by
  obtain ⟨fs, hr, hrun, hended, hW, hsame⟩ := X.leave (v := v) hv hlk
  exact ⟨_, _, hs fs hr, hrun, hended, _, _, rfl, hQ, ⟨_, rfl⟩, hW, hsame.mono hc hsl⟩
theorem own_rtI {i : FieldType} {v : Option Value} {r : Option FieldType} (h1 : r = some i) : r = none → v = none := fun h => by rw [h1] at h; cases h
theorem own_retI (X : Stand p l e R s m args below meth c T locs cells slots) (hx : p.tables.exec = Jvm.exec) {pc : Nat} {Ls : Array Slot} {z : Int32} {rest : List Value} (hret : meth.sig.returnType = some .int) (hd : decode c.code pc = .ok (.ireturn, 1)) {fs : List Frame}
    (hl : ∀ (f : JFrame) (acts : List Action), f.method = m → f.locked = none → f.entered = [] → (doReturn e (T.setTop f) acts (some (.int z))).1 = T.setFrames fs) : Steps p.tables e below (T.setTop (mkF m pc Ls (.int z :: rest))) (T.setFrames fs) :=
  retOut X hx hret rfl (Or.inl ⟨rfl, Or.inl rfl, z, rfl⟩) hd hl
theorem own_retJ (X : Stand p l e R s m args below meth c T locs cells slots) (hx : p.tables.exec = Jvm.exec) {pc : Nat} {Ls : Array Slot} {z : Int64} {rest : List Value} (hret : meth.sig.returnType = some .long) (hd : decode c.code pc = .ok (.lreturn, 1)) {fs : List Frame}
    (hl : ∀ (f : JFrame) (acts : List Action), f.method = m → f.locked = none → f.entered = [] → (doReturn e (T.setTop f) acts (some (.long z))).1 = T.setFrames fs) : Steps p.tables e below (T.setTop (mkF m pc Ls (.long z :: rest))) (T.setFrames fs) :=
  retOut X hx hret rfl (Or.inr (Or.inl ⟨rfl, rfl, z, rfl⟩)) hd hl
theorem own_retR (X : Stand p l e R s m args below meth c T locs cells slots) (hx : p.tables.exec = Jvm.exec) {pc : Nat} {Ls : Array Slot} {w : Value} {t : FieldType} {rest : List Value} (hret : meth.sig.returnType = some t) (hw : w.isRef = true) (ht : t.isReference = true) (hn : narrow t w = w) (hd : decode c.code pc = .ok (.areturn, 1)) {fs : List Frame}
    (hl : ∀ (f : JFrame) (acts : List Action), f.method = m → f.locked = none → f.entered = [] → (doReturn e (T.setTop f) acts (some w)).1 = T.setFrames fs) : Steps p.tables e below (T.setTop (mkF m pc Ls (w :: rest))) (T.setFrames fs) :=
  retOut X hx hret hn (Or.inr (Or.inr (Or.inr (Or.inr ⟨rfl, ht, hw⟩)))) hd hl
/-- a method's contract: called so, at the heap h0, it returns as Q says -/
abbrev own_Ctr (l : Launch) (Z : State) (y : MethodName) (bytes : ByteArray) (maxL : Nat) (ret : Option FieldType) (ws : List Jvm.Cond) (rm : Room) (as' : Array Value) (h0 : Heap) (Q : Option Value → Heap → List Loc → Prop) : Prop :=
  MetFree l y (head1 (Jvm.Cond.code y bytes maxL ret :: ws) rm) (fun a U => a = as' ∧ Z.Warmed39 U.vm ∧ U.heap = h0) (fun _ _ _ _ _ => True) (fun _ U o U' => ∃ v L, o = .returned v ∧ Q v U'.heap L ∧ FrameEnd U o U' L rm.cells rm.slots)
theorem own_enter {y : MethodName} {bytes : ByteArray} {maxL : Nat} {ret : Option FieldType} {ws : List Jvm.Cond} {rm : Room} {as' : Array Value} {h0 : Heap} {Q : Option Value → Heap → List Loc → Prop} (hpl : plainFor y = true)
    (body : ∀ (p : Program) (e : Env) (s : State) (m : MethodId) (below : List Frame) (meth : Method) (c : Code) (s₁ : State), Stand p l e rm s m as' below meth c s₁ [] 0 0 → p.tables.exec = Jvm.exec → c.code = bytes → c.maxLocals = maxL → meth.sig.returnType = ret → meth.locks = false → Z.Warmed39 s.vm → s.vm.findClass y.cls = some m.cls → meth.name = y.name → s₁.heap = h0 → own_Wp p.tables e below (own_K rm s below Q) (s₁.setTop (entryFrame m as' maxL))) :
    own_Ctr l Z y bytes maxL ret ws rm as' h0 Q := by
  refine MetFree.of_bodySF hpl hisR ?_
  intro p e s m args below meth c s₁ Bd hml0 hP hK
  obtain ⟨rfl, hZ, hh⟩ := hP
  obtain ⟨s₂, o, h1, h2, h3, h4⟩ := body p e s m below meth c s₁ (Stand.of_body Bd) Bd.exec Bd.bytes hml0 Bd.returns Bd.notSynchronized hZ (findClass_of_methodNamed Bd.named) (name_of_methodNamed Bd.named Bd.method).1 (by rw [← hh, Bd.state]; rfl)
  exact ⟨s₂, o, h1, h2, h3, h4⟩
section Calls
variable {own C : String} {index maxL W : Nat} {y z : MethodName} {bytes : ByteArray} {ret : Option FieldType} {rm : Room} {Q : Option Value → Heap → List Loc → Prop} {argsL rest : List Value} {g : JFrame} {a : Addr}
theorem own_callS (X : Stand p l e R s m args below meth c T locs cells slots) (hx : p.tables.exec = Jvm.exec) (hZ : Z.Warmed39 s.vm) (hown : s.vm.findClass own = some m.cls)
    (w1 : (Jvm.Cond.methodLink own index y).before a0 Z = true) (w2 : (Jvm.Cond.static y).before a0 Z = true) (w3 : (Jvm.Cond.initialized y.cls).before a0 Z = true) (w4 : (Jvm.Cond.code y bytes maxL ret).before a0 Z = true)
    (hy : y.cls ≠ "java/lang/invoke/MethodHandle" ∧ y.cls ≠ "java/lang/invoke/VarHandle") (eT : T.heap = h) (hM : own_Ctr l Z y bytes maxL ret [] rm argsL.toArray h Q)
    (hf : rm.frames + 1 ≤ R.frames) (hl : W + (maxL + 11) + rm.locals ≤ R.locals) (hc : cells + rm.cells ≤ R.cells) (hs : slots + rm.slots ≤ R.slots)
    (hg : g.method = m) (hsize : g.locals.size = c.maxLocals) (hlen : ∀ sig, parseMethodDescriptor y.desc = some sig → argsL.length = sig.parameters.length) (hstack : g.stack = argsL.reverse ++ rest) (hW : 2 * g.monitorRoom + (rest.map fun v => v.category).sum ≤ W) (hdg : decode c.code g.pc = .ok (.invokestatic index, 3))
    (k : ∀ (T' : State) (L : List Loc) (v : Option Value), Stand p l e R s m args below meth c T' (locs ++ L) (cells + rm.cells) (slots + rm.slots) → Q v T'.heap L → own_Wp p.tables e below K (T'.setTop { g with pc := g.pc + 3, stack := v.toList ++ rest })) :
    own_Wp p.tables e below K (T.setTop g) := by
  obtain ⟨v, _, ⟨T', L', k', n'⟩, -, X', ⟨Lc, hQ, l1, y1, z1⟩, st⟩ := Jvm.LawKit.callS X hx hown (mvT hZ w1) (mvT hZ w2) (mvT hZ w3) (mvT hZ w4) hy (backOf (W := W) hM hZ w4 w3 hf hl) hg hsize hlen hstack hW hdg (fun _ _ => ⟨rfl, eT, hc, hs⟩)
  dsimp only [Pt.U, Pt.locs, Pt.cells, Pt.slots] at X' l1 y1 z1 st hQ
  subst l1 y1 z1
  exact own_of st (k _ _ _ X' hQ)
theorem own_callI (X : Stand p l e R s m args below meth c T locs cells slots) (hx : p.tables.exec = Jvm.exec) (hZ : Z.Warmed39 s.vm) (hy1 : y.name = "<init>") (hown : s.vm.findClass own = some m.cls)
    (w1 : (Jvm.Cond.methodLink own index y).before a0 Z = true) (w2 : (Jvm.Cond.instanceMethod y).before a0 Z = true) (w3 : (Jvm.Cond.initialized y.cls).before a0 Z = true) (w4 : (Jvm.Cond.code y bytes maxL none).before a0 Z = true)
    (hy : y.cls ≠ "java/lang/invoke/MethodHandle" ∧ y.cls ≠ "java/lang/invoke/VarHandle") (eT : T.heap = h) (hM : own_Ctr l Z y bytes maxL none [] rm (.ref a :: argsL).toArray h Q)
    (hf : rm.frames + 1 ≤ R.frames) (hl : W + (maxL + 11) + rm.locals ≤ R.locals) (hc : cells + rm.cells ≤ R.cells) (hs : slots + rm.slots ≤ R.slots)
    (hg : g.method = m) (hsize : g.locals.size = c.maxLocals) (hlen : ∀ sig, parseMethodDescriptor y.desc = some sig → argsL.length = sig.parameters.length) (hstack : g.stack = argsL.reverse ++ .ref a :: rest) (hW : 2 * g.monitorRoom + (rest.map fun v => v.category).sum ≤ W) (hdg : decode c.code g.pc = .ok (.invokespecial index, 3))
    (k : ∀ (T' : State) (L : List Loc) (v : Option Value), Stand p l e R s m args below meth c T' (locs ++ L) (cells + rm.cells) (slots + rm.slots) → Q v T'.heap L → own_Wp p.tables e below K (T'.setTop { g with pc := g.pc + 3, stack := v.toList ++ rest })) :
    own_Wp p.tables e below K (T.setTop g) := by
  obtain ⟨v, _, ⟨T', L', k', n'⟩, -, X', ⟨Lc, hQ, l1, y1, z1⟩, st⟩ := X.specialBack hx hy1 hown (mvT hZ w1) (mvT hZ w2) (mvT hZ w4) hy (backOf (W := W) hM hZ w4 w3 hf hl) hg hsize (Steps.refl _) hlen hstack hW hdg (fun _ _ => ⟨rfl, eT, hc, hs⟩)
  dsimp only [Pt.U, Pt.locs, Pt.cells, Pt.slots] at X' l1 y1 z1 st hQ
  subst l1 y1 z1
  exact own_of (fun t q => st.trans q) (k _ _ _ X' hQ)
theorem own_callV (X : Stand p l e R s m args below meth c T locs cells slots) (hx : p.tables.exec = Jvm.exec) (hZ : Z.Warmed39 s.vm) (hown : s.vm.findClass own = some m.cls)
    (w1 : (Jvm.Cond.methodLink own index y).before a0 Z = true) (w2 : (Jvm.Cond.declares y).before a0 Z = true) (w5 : (Jvm.Cond.selects C y y).before a0 Z = true) (w6 : (Jvm.Cond.instanceMethod y).before a0 Z = true) (w3 : (Jvm.Cond.initialized y.cls).before a0 Z = true) (w4 : (Jvm.Cond.code y bytes maxL ret).before a0 Z = true)
    (hy : y.cls ≠ "java/lang/invoke/MethodHandle" ∧ y.cls ≠ "java/lang/invoke/VarHandle") (eT : T.heap = h) (E : Exa Z h a C) (hM : own_Ctr l Z y bytes maxL ret [] rm (.ref a :: argsL).toArray h Q)
    (hf : rm.frames + 1 ≤ R.frames) (hl : W + (maxL + 11) + rm.locals ≤ R.locals) (hc : cells + rm.cells ≤ R.cells) (hs : slots + rm.slots ≤ R.slots)
    (hg : g.method = m) (hsize : g.locals.size = c.maxLocals) (hlen : ∀ sig, parseMethodDescriptor y.desc = some sig → argsL.length = sig.parameters.length) (hstack : g.stack = argsL.reverse ++ .ref a :: rest) (hW : 2 * g.monitorRoom + (rest.map fun v => v.category).sum ≤ W) (hdg : decode c.code g.pc = .ok (.invokevirtual index, 3))
    (k : ∀ (T' : State) (L : List Loc) (v : Option Value), Stand p l e R s m args below meth c T' (locs ++ L) (cells + rm.cells) (slots + rm.slots) → Q v T'.heap L → own_Wp p.tables e below K (T'.setTop { g with pc := g.pc + 3, stack := v.toList ++ rest })) :
    own_Wp p.tables e below K (T.setTop g) := by
  obtain ⟨cq, kq, qa, qb, qc⟩ := isOf hZ eT E
  obtain ⟨v, _, ⟨T', L', k', n'⟩, -, X', ⟨Lc, hQ, l1, y1, z1⟩, st⟩ := X.virtualBack hx hown (mvT hZ w1) (mvT hZ w2) (notFace_of_selects (args := #[]) (mvT hZ w5)) (mvT hZ w5) (mvT hZ w6) hy (backOf (W := W) hM hZ w4 w3 hf hl) qa qc hg hsize (Steps.refl _) hlen hstack hW hdg (fun _ _ => ⟨rfl, eT, hc, hs⟩)
  dsimp only [Pt.U, Pt.locs, Pt.cells, Pt.slots] at X' l1 y1 z1 st hQ
  subst l1 y1 z1
  exact own_of (fun t q => st.trans q) (k _ _ _ X' hQ)
theorem own_callP {nI : Nat} {C0 : String} (X : Stand p l e R s m args below meth c T locs cells slots) (hx : p.tables.exec = Jvm.exec) (hZ : Z.Warmed39 s.vm) (hown : s.vm.findClass own = some m.cls)
    (w1 : (Jvm.Cond.methodLink own index y).before a0 Z = true) (w2 : (Jvm.Cond.instanceMethod y).before a0 Z = true) (wi : (Jvm.Cond.instantiable y.cls nI).before a0 Z = true) (wp : (Jvm.Cond.privateMethod y).before a0 Z = true) (w3 : (Jvm.Cond.initialized y.cls).before a0 Z = true) (w4 : (Jvm.Cond.code y bytes maxL ret).before a0 Z = true)
    (hy : y.cls ≠ "java/lang/invoke/MethodHandle" ∧ y.cls ≠ "java/lang/invoke/VarHandle") (eT : T.heap = h) (E : Exa Z h a C0) (hM : own_Ctr l Z y bytes maxL ret [] rm (.ref a :: argsL).toArray h Q)
    (hf : rm.frames + 1 ≤ R.frames) (hl : W + (maxL + 11) + rm.locals ≤ R.locals) (hc : cells + rm.cells ≤ R.cells) (hs : slots + rm.slots ≤ R.slots)
    (hg : g.method = m) (hsize : g.locals.size = c.maxLocals) (hlen : ∀ sig, parseMethodDescriptor y.desc = some sig → argsL.length = sig.parameters.length) (hstack : g.stack = argsL.reverse ++ .ref a :: rest) (hW : 2 * g.monitorRoom + (rest.map fun v => v.category).sum ≤ W) (hdg : decode c.code g.pc = .ok (.invokevirtual index, 3))
    (k : ∀ (T' : State) (L : List Loc) (v : Option Value), Stand p l e R s m args below meth c T' (locs ++ L) (cells + rm.cells) (slots + rm.slots) → Q v T'.heap L → own_Wp p.tables e below K (T'.setTop { g with pc := g.pc + 3, stack := v.toList ++ rest })) :
    own_Wp p.tables e below K (T.setTop g) := by
  obtain ⟨cq, q1, q2⟩ := E.cell
  obtain ⟨ci, ki, i1, i2, -, i4, -⟩ := Cond.instantiable_spec (mvT (args := args) hZ wi)
  simp only [Bool.or_eq_false_iff] at i4
  have hpr : s.PrivateAt y := Cond.privateMethod_at (mvP hZ wp (args := #[]))
  have hsel : (Jvm.Cond.selects y.cls y y).before args s = true := selects_self_of_private i1 i2 i4.1 hpr (mvT hZ w2) hy
  obtain ⟨v, _, ⟨T', L', k', n'⟩, -, X', ⟨Lc, hQ, l1, y1, z1⟩, st⟩ := X.privateBack hx hown (mvT hZ w1) (mvT hZ w2) hsel hpr (mvT hZ w4) hy (backOf (W := W) hM hZ w4 w3 hf hl) hg hsize (Steps.refl _) (by rw [eT]; exact q1) q2 hlen hstack hW hdg (fun _ _ => ⟨rfl, eT, hc, hs⟩)
  dsimp only [Pt.U, Pt.locs, Pt.cells, Pt.slots] at X' l1 y1 z1 st hQ
  subst l1 y1 z1
  exact own_of (fun t q => st.trans q) (k _ _ _ X' hQ)
end Calls
end OwnKit
section OwnArr
variable {p : Program} {l : Launch} {e : Env} {R : Room} {s : State} {m : MethodId} {args : Array Value} {below : List Frame} {meth : Method} {c : Code} {T : State} {locs : List Loc} {cells slots : Nat} {Z : State} {a0 : Array Value} {h h' : Heap} {K : State → Outcome → Prop}
variable {a b : Addr} {ty : FieldType} {n sl : Nat} {f : Nat → Value} {v : Value} {ws : List Addr}
theorem own_nat {j : Int32} {i : Nat} (hj : j.toInt = (i : Int)) : j.toNatClampNeg = i := by
  show j.toInt.toNat = i
  rw [hj]; exact Int.toNat_natCast i
theorem own_nneg {j : Int32} {i : Nat} (hj : j.toInt = (i : Int)) : ¬ j < 0 := by
  rw [Int32.lt_iff_toInt_lt, hj]
  show ¬ ((i : Int) < 0)
  omega
/-- the array at a: its kind, its length, its elements -/
def own_Ar (Z : State) (h : Heap) (a : Addr) (ty : FieldType) (n : Nat) (f : Nat → Value) : Prop := n < 2147483648 ∧ ∃ c : Cell, Arr Z h a c ty ∧ c.slots.size = n ∧ ∀ i, i < n → c.slots[i]? = some (f i)
def own_set (f : Nat → Value) (i : Nat) (v : Value) : Nat → Value := fun k => if k = i then v else f k
theorem own_set_eq (f : Nat → Value) (i : Nat) (v : Value) : own_set f i v i = v := if_pos rfl
theorem own_set_ne {f : Nat → Value} {i k : Nat} {v : Value} (q : k ≠ i) : own_set f i v k = f k := if_neg q
theorem own_Ar.lt (F : own_Ar Z h a ty n f) : a < h.size := by obtain ⟨_, c, A, -⟩ := F; exact A.lt
theorem own_Ar.ext (F : own_Ar Z h a ty n f) (E : Ext h h') : own_Ar Z h' a ty n f := by obtain ⟨q, c, A, r⟩ := F; exact ⟨q, c, A.ext E, r⟩
theorem own_Ar.other (F : own_Ar Z h a ty n f) (W : Wr h h' b sl v) (q : a ≠ b) : own_Ar Z h' a ty n f := by obtain ⟨q0, c, A, r⟩ := F; exact ⟨q0, c, A.other W q, r⟩
theorem own_Ar.keep (F : own_Ar Z h a ty n f) (K : Keep h h' ws) (q : a ∉ ws) : own_Ar Z h' a ty n f := by obtain ⟨q0, c, A, r⟩ := F; exact ⟨q0, c, ⟨K.2.1 a c A.1 q, A.2⟩, r⟩
theorem own_Ar.fn {f' : Nat → Value} (F : own_Ar Z h a ty n f) (q : ∀ i, i < n → f i = f' i) : own_Ar Z h a ty n f' := by obtain ⟨q0, c, A, r1, r2⟩ := F; exact ⟨q0, c, A, r1, fun i hi => by rw [← q i hi]; exact r2 i hi⟩
theorem own_Ar.new {k : ClassId} {z : Int32} (A : Arr Z h a (newA k ty z) ty) (q : ¬ z < 0) (e : z.toNatClampNeg = n) : own_Ar Z h a ty n (fun _ => defaultValue ty) := by
  refine ⟨by rw [← e]; exact (back32 q).2, _, A, by rw [sz_new, e], fun i hi => ?_⟩
  simp [newA, e, hi]
theorem own_Ar.start (A : Arr Z h a c' ty) (hs : c'.slots.size < 2147483648) (H : ∀ i, i < c'.slots.size → c'.slots[i]? = some (f i)) : own_Ar Z h a ty c'.slots.size f := ⟨hs, _, A, rfl, H⟩
section Steps
variable {j : Int32} {i : Nat} {g : JFrame} {rest : List Value}
theorem own_in {cl : Cell} (hj : j.toInt = (i : Int)) (hi : i < n) (hsz : cl.slots.size = n) : ¬ (j < 0 ∨ cl.slots.size ≤ j.toNatClampNeg) := by
  rw [own_nat hj, hsz]
  rintro (q | q)
  · exact own_nneg hj q
  · omega
theorem own_iaload {v : Int32} (X : Stand p l e R s m args below meth c T locs cells slots) (hx : p.tables.exec = Jvm.exec) (hZ : Z.Warmed39 s.vm) (eT : T.heap = h) (A : own_Ar Z h a .int n f) (hj : j.toInt = (i : Int)) (hi : i < n) (hv : f i = .int v)
    (hg : g.method = m) (hs : g.stack = .int j :: .ref a :: rest) (hd : decode c.code g.pc = .ok (.iaload, 1)) (k : own_Wp p.tables e below K (T.setTop { g with pc := g.pc + 1, stack := .int v :: rest })) : own_Wp p.tables e below K (T.setTop g) := by
  obtain ⟨-, cl, A, hsz, H⟩ := A
  exact own_of (X.iaload hx (by rw [eT]; exact A.1) (State.isArrayOf_alike hZ.alike A.2.1) A.2.2 (own_in hj hi hsz) (by rw [own_nat hj, H i hi, hv]) hg hs hd) k
theorem own_laload {v : Int64} (X : Stand p l e R s m args below meth c T locs cells slots) (hx : p.tables.exec = Jvm.exec) (hZ : Z.Warmed39 s.vm) (eT : T.heap = h) (A : own_Ar Z h a .long n f) (hj : j.toInt = (i : Int)) (hi : i < n) (hv : f i = .long v)
    (hg : g.method = m) (hs : g.stack = .int j :: .ref a :: rest) (hd : decode c.code g.pc = .ok (.laload, 1)) (k : own_Wp p.tables e below K (T.setTop { g with pc := g.pc + 1, stack := .long v :: rest })) : own_Wp p.tables e below K (T.setTop g) := by
  obtain ⟨-, cl, A, hsz, H⟩ := A
  exact own_of (X.laload hx (by rw [eT]; exact A.1) (State.isArrayOf_alike hZ.alike A.2.1) A.2.2 (own_in hj hi hsz) (by rw [own_nat hj, H i hi, hv]) hg hs hd) k
theorem own_baload {v : Int32} (X : Stand p l e R s m args below meth c T locs cells slots) (hx : p.tables.exec = Jvm.exec) (hZ : Z.Warmed39 s.vm) (eT : T.heap = h) (A : own_Ar Z h a .byte n f) (hj : j.toInt = (i : Int)) (hi : i < n) (hv : f i = .int v)
    (hg : g.method = m) (hs : g.stack = .int j :: .ref a :: rest) (hd : decode c.code g.pc = .ok (.baload, 1)) (k : own_Wp p.tables e below K (T.setTop { g with pc := g.pc + 1, stack := .int v :: rest })) : own_Wp p.tables e below K (T.setTop g) := by
  obtain ⟨-, cl, A, hsz, H⟩ := A
  exact own_of (X.baloadBytes hx (by rw [eT]; exact A.1) (State.isArrayOf_alike hZ.alike A.2.1) A.2.2 (own_in hj hi hsz) (by rw [own_nat hj, H i hi, hv]) hg hs hd) k
theorem own_zaload {v : Int32} (X : Stand p l e R s m args below meth c T locs cells slots) (hx : p.tables.exec = Jvm.exec) (hZ : Z.Warmed39 s.vm) (eT : T.heap = h) (A : own_Ar Z h a .boolean n f) (hj : j.toInt = (i : Int)) (hi : i < n) (hv : f i = .int v)
    (hg : g.method = m) (hs : g.stack = .int j :: .ref a :: rest) (hd : decode c.code g.pc = .ok (.baload, 1)) (k : own_Wp p.tables e below K (T.setTop { g with pc := g.pc + 1, stack := .int v :: rest })) : own_Wp p.tables e below K (T.setTop g) := by
  obtain ⟨-, cl, A, hsz, H⟩ := A
  exact own_of (X.baloadBooleans hx (by rw [eT]; exact A.1) (State.isArrayOf_alike hZ.alike A.2.1) A.2.2 (own_in hj hi hsz) (by rw [own_nat hj, H i hi, hv]) hg hs hd) k
theorem own_aaload {C : String} {v : Value} (X : Stand p l e R s m args below meth c T locs cells slots) (hx : p.tables.exec = Jvm.exec) (hZ : Z.Warmed39 s.vm) (eT : T.heap = h) (A : own_Ar Z h a (.object C) n f) (hj : j.toInt = (i : Int)) (hi : i < n) (hv : f i = v)
    (hg : g.method = m) (hs : g.stack = .int j :: .ref a :: rest) (hd : decode c.code g.pc = .ok (.aaload, 1)) (k : own_Wp p.tables e below K (T.setTop { g with pc := g.pc + 1, stack := v :: rest })) : own_Wp p.tables e below K (T.setTop g) := by
  obtain ⟨-, cl, A, hsz, H⟩ := A
  exact own_of (X.aaload hx (by rw [eT]; exact A.1) (State.isArrayOf_alike hZ.alike A.2.1) rfl A.2.2 (own_in hj hi hsz) (by rw [own_nat hj, H i hi, hv]) hg hs hd) k
theorem own_len {z : Int32} (X : Stand p l e R s m args below meth c T locs cells slots) (hx : p.tables.exec = Jvm.exec) (hZ : Z.Warmed39 s.vm) (eT : T.heap = h) (A : own_Ar Z h a ty n f) (hz : z.toInt = (n : Int))
    (hg : g.method = m) (hs : g.stack = .ref a :: rest) (hd : decode c.code g.pc = .ok (.arraylength, 1)) (k : own_Wp p.tables e below K (T.setTop { g with pc := g.pc + 1, stack := .int z :: rest })) : own_Wp p.tables e below K (T.setTop g) := by
  obtain ⟨-, cl, A, hsz, H⟩ := A
  have q : cl.slots.size.toInt32 = z := by rw [hsz, ← own_nat hz]; exact (back32 (own_nneg hz)).1
  rw [← q] at k
  exact own_of (X.arraylength hx (by rw [eT]; exact A.1) (State.isArrayOf_alike hZ.alike A.2.1) hg hs hd) k
theorem own_Ar.set {cl : Cell} {hn : n < 2147483648} (A : Arr Z h a cl ty) (hsz : cl.slots.size = n) (H : ∀ i, i < n → cl.slots[i]? = some (f i)) (hi : i < n) (W : Wr h h' a i v) : own_Ar Z h' a ty n (own_set f i v) := by
  refine ⟨hn, _, A.same W, by rw [sz_set]; exact hsz, fun q hq => ?_⟩
  by_cases e : q = i
  · subst e; rw [own_set_eq]; simp [Cell.setSlot, hsz, hq]
  · rw [own_set_ne e, ← H q hq]; exact Array.getElem?_setIfInBounds_ne (Ne.symm e)
theorem own_stI {x : Int32} (X : Stand p l e R s m args below meth c T locs cells slots) (hx : p.tables.exec = Jvm.exec) (hZ : Z.Warmed39 s.vm) (eT : T.heap = h) (A : own_Ar Z h a .int n f) (hj : j.toInt = (i : Int)) (hi : i < n)
    (hg : g.method = m) (hs : g.stack = .int x :: .int j :: .ref a :: rest) (hd : decode c.code g.pc = .ok (.iastore, 1)) :
    ∃ T' h', Stand p l e R s m args below meth c T' (locs ++ [⟨a, i⟩]) cells slots ∧ T'.heap = h' ∧ Wr h h' a i (.int x) ∧ own_Ar Z h' a .int n (own_set f i (.int x)) ∧ ∀ target, Steps p.tables e below (T'.setTop { g with pc := g.pc + 1, stack := rest }) target → Steps p.tables e below (T.setTop g) target := by
  obtain ⟨hn, cl, A, hsz, H⟩ := A
  obtain ⟨T', h', X', e', W, st⟩ := stI X hx hZ eT A (own_in hj hi hsz) hg hs hd
  rw [own_nat hj] at X' W
  exact ⟨T', h', X', e', W, own_Ar.set (hn := hn) A hsz H hi W, st⟩
theorem own_stJ {x : Int64} (X : Stand p l e R s m args below meth c T locs cells slots) (hx : p.tables.exec = Jvm.exec) (hZ : Z.Warmed39 s.vm) (eT : T.heap = h) (A : own_Ar Z h a .long n f) (hj : j.toInt = (i : Int)) (hi : i < n)
    (hg : g.method = m) (hs : g.stack = .long x :: .int j :: .ref a :: rest) (hd : decode c.code g.pc = .ok (.lastore, 1)) :
    ∃ T' h', Stand p l e R s m args below meth c T' (locs ++ [⟨a, i⟩]) cells slots ∧ T'.heap = h' ∧ Wr h h' a i (.long x) ∧ own_Ar Z h' a .long n (own_set f i (.long x)) ∧ ∀ target, Steps p.tables e below (T'.setTop { g with pc := g.pc + 1, stack := rest }) target → Steps p.tables e below (T.setTop g) target := by
  obtain ⟨hn, cl, A, hsz, H⟩ := A
  obtain ⟨T', h', X', e', W, st⟩ := stJ X hx hZ eT A (own_in hj hi hsz) hg hs hd
  rw [own_nat hj] at X' W
  exact ⟨T', h', X', e', W, own_Ar.set (hn := hn) A hsz H hi W, st⟩
theorem own_stB {x : Int32} (X : Stand p l e R s m args below meth c T locs cells slots) (hx : p.tables.exec = Jvm.exec) (hZ : Z.Warmed39 s.vm) (eT : T.heap = h) (A : own_Ar Z h a .byte n f) (hj : j.toInt = (i : Int)) (hi : i < n)
    (hg : g.method = m) (hs : g.stack = .int x :: .int j :: .ref a :: rest) (hd : decode c.code g.pc = .ok (.bastore, 1)) :
    ∃ T' h', Stand p l e R s m args below meth c T' (locs ++ [⟨a, i⟩]) cells slots ∧ T'.heap = h' ∧ Wr h h' a i (.int x.toInt8.toInt32) ∧ own_Ar Z h' a .byte n (own_set f i (.int x.toInt8.toInt32)) ∧ ∀ target, Steps p.tables e below (T'.setTop { g with pc := g.pc + 1, stack := rest }) target → Steps p.tables e below (T.setTop g) target := by
  obtain ⟨hn, cl, A, hsz, H⟩ := A
  obtain ⟨T', h', X', e', W, st⟩ := stB X hx hZ eT A (own_in hj hi hsz) hg hs hd
  rw [own_nat hj] at X' W
  exact ⟨T', h', X', e', W, own_Ar.set (hn := hn) A hsz H hi W, st⟩
end Steps
theorem own_more {cells' slots' : Nat} (X : Stand p l e R s m args below meth c T locs cells slots) (h1 : cells ≤ cells') (h2 : slots ≤ slots') : Stand p l e R s m args below meth c T locs cells' slots' := { X with same := X.same.mono h1 h2 }
section Start
variable {C nm d : String}
theorem own_refArr {t : Term} (ha : (Jvm.Cond.arrayOf t ty).value args s none s [] = some true) : ∃ (a : Addr) (cl : Cell), Arr s s.heap a cl ty ∧ s.arrayAt? a = some cl ∧ t.eval args s none [] s = some (.ref a) := by
  obtain ⟨a, ev⟩ : ∃ a, t.eval args s none [] s = some (.ref a) := by
    simp only [Cond.value] at ha
    split at ha
    · cases ha
    · split at ha
      · exact ⟨_, by assumption⟩
      · cases ha
      · cases ha
  obtain ⟨cl, A⟩ := Arr.start ev ha
  exact ⟨a, cl, A, IntBox.arrayAt_of A.1 A.2.1 A.2.2, ev⟩
theorem own_exaRef {t : Term} {K : String} (h : (Jvm.Cond.exactly t K).value args s none s [] = some true) : ∃ a, Exa s s.heap a K ∧ t.eval args s none [] s = some (.ref a) := by
  obtain ⟨a', c', cell, k, e1, -⟩ := Cond.exactly_spec (Cond.before_iff.mpr h)
  exact ⟨a', Exa.start e1 h, e1⟩
theorem own_fldOf {t : Term} {v : Value} {O : String} (ev : t.eval args s none [] s = some (.ref a)) (e : (Term.field t O nm d).eval args s none [] s = some v) : Fld s s.heap a O nm d v := by
  simp only [Term.eval, ev, Option.bind_eq_bind, Option.bind_some] at e
  exact Fld.start e
theorem own_fldI {t : Term} {x : Int32} {O : String} (ev : t.eval args s none [] s = some (.ref a)) (h : (Jvm.Cond.eq (.field t O nm d) (.int x)).value args s none s [] = some true) : Fld s s.heap a O nm d (.int x) := by
  cases he : (Term.field t O nm d).eval args s none [] s with
  | none => simp [Cond.value, he] at h
  | some w =>
    have : w = .int x := by
      simp only [Cond.value, he] at h
      rw [show (Term.int x).eval args s none [] s = some (.int x) from rfl] at h
      cases w <;> simp at h
      subst h; rfl
    subst this
    exact own_fldOf ev he
theorem own_isRef {t : Term} (h : (Jvm.Cond.isRef t).value args s none s [] = some true) : ∃ v, t.eval args s none [] s = some v ∧ (v = .null ∨ ∃ b, v = .ref b) := by
  simp only [Cond.value] at h
  cases he : t.eval args s none [] s with
  | none => simp [he] at h
  | some w => rw [he] at h; cases w <;> simp at h <;> simp
theorem own_notZero {t : Term} {x : Int32} (ev : t.eval args s none [] s = some (.int x)) (h : (Jvm.Cond.not (Jvm.Cond.eq t (.int 0))).value args s none s [] = some true) : ¬ x = 0 := by
  intro q
  subst q
  simp [Cond.value, ev, Term.eval] at h
theorem own_ltOf {x y : Int32} {i k : Nat} (h1 : x.toInt = (i : Int)) (h2 : y.toInt = (k : Int)) (h : i < k) : x < y := by
  rw [Int32.lt_iff_toInt_lt, h1, h2]; omega
theorem own_Ar.some {cl : Cell} (A : Arr Z h a cl ty) (hs : cl.slots.size < 2147483648) : own_Ar Z h a ty cl.slots.size (fun k => (cl.slots[k]?).getD .null) :=
  ⟨hs, _, A, rfl, fun i hi => by simp [Array.getElem?_eq_getElem hi]⟩
/-- a static that holds an array, at the start -/
theorem own_staArr (hi : (Jvm.Cond.initialized C).before args s = true) (hl : (Jvm.Cond.laysStatic C nm d).before args s = true) (ha : (Jvm.Cond.arrayOf (.static C nm d) ty).value args s none s [] = some true) :
    ∃ (a : Addr) (cl : Cell), Sta s s.heap C nm d (.ref a) ∧ Arr s s.heap a cl ty ∧ s.arrayAt? a = some cl ∧ (Term.static C nm d).eval args s none [] s = some (.ref a) := by
  obtain ⟨a, ev⟩ : ∃ a, (Term.static C nm d).eval args s none [] s = some (.ref a) := by
    simp only [Cond.value] at ha
    split at ha
    · cases ha
    · split at ha
      · exact ⟨_, by assumption⟩
      · cases ha
      · cases ha
  obtain ⟨cl, A⟩ := Arr.start ev ha
  exact ⟨a, cl, Sta.start ev (Or.inr ⟨hi, hl⟩), A, IntBox.arrayAt_of A.1 A.2.1 A.2.2, ev⟩
/-- an element that the case names -/
theorem own_elemEq {t i b : Term} {x : Int32} {cl : Cell} {jj : Int32} {idx : List Nat} (ev : t.eval args s none idx s = some (.ref a)) (hat : s.arrayAt? a = some cl) (hi : i.eval args s none idx s = some (.int jj)) (hb : b.eval args s none idx s = some (.int x)) (h : (Jvm.Cond.eq (.elem t i) b).value args s none s idx = some true) : ¬ jj < 0 ∧ cl.slots[jj.toNatClampNeg]? = some (.int x) := by
  simp only [Cond.value, hb] at h
  cases he : (Term.elem t i).eval args s none idx s with
  | none => simp [he] at h
  | some w =>
    obtain ⟨a', j', cl', q1, q2, q3, q4, q5⟩ := Term.elem_spec he
    cases ev.symm.trans q1
    cases hi.symm.trans q2
    cases hat.symm.trans q3
    rw [he] at h
    cases w <;> simp at h
    subst h
    exact ⟨fun z => q4 (Or.inl z), q5⟩
theorem own_lenEq {t : Term} {x : Int32} {cl : Cell} (ev : t.eval args s none [] s = some (.ref a)) (hat : s.arrayAt? a = some cl) (h : (Jvm.Cond.eq (.length t) (.int x)).value args s none s [] = some true) : (cl.slots.size : Int) = x.toInt := by
  simp only [Cond.value, Term.eval, ev, hat, Option.bind_eq_bind, Option.bind_some] at h
  by_cases q : cl.slots.size < 2147483648
  · simp [q] at h
    rw [← h]
    exact (Int32.toInt_ofNat_of_lt q).symm
  · simp [q] at h
theorem own_or {A B : Jvm.Cond} {idx : List Nat} (h : (Jvm.Cond.or A B).value args s none s idx = some true) : A.value args s none s idx = some true ∨ B.value args s none s idx = some true := by
  simp only [Cond.value] at h
  split at h
  · exact Or.inr h
  · exact Or.inl h
theorem own_leV {A B : Term} {x y : Int32} {idx : List Nat} (ha : A.eval args s none idx s = some (.int x)) (hb : B.eval args s none idx s = some (.int y)) (h : (Jvm.Cond.le A B).value args s none s idx = some true) : x.toInt ≤ y.toInt := by
  rw [Cond.le_ints ha hb] at h
  exact Int32.le_iff_toInt_le.mp (by simpa using h)
theorem own_ltV {A B : Term} {x y : Int32} {idx : List Nat} (ha : A.eval args s none idx s = some (.int x)) (hb : B.eval args s none idx s = some (.int y)) (h : (Jvm.Cond.lt A B).value args s none s idx = some true) : x.toInt < y.toInt := by
  simp only [Cond.value, ha, hb] at h
  exact Int32.lt_iff_toInt_lt.mp (by simpa using h)
theorem own_idx {k : Nat} (hk : k < 2147483648) : (k.toInt32).toInt = (k : Int) := Int32.toInt_ofNat_of_lt hk
section Elems
variable {t b : Term} {cl : Cell} {x lo hi : Int32} {k : Nat}
theorem own_elemK (ev : ∀ idx, t.eval args s none idx s = some (.ref a)) (hat : s.arrayAt? a = some cl) (hk : k < 2147483648) (hb : b.eval args s none [k] s = some (.int x)) (h : (Jvm.Cond.eq (.elem t (.index 0)) b).value args s none s [k] = some true) : cl.slots[k]? = some (.int x) := by
  have q := (own_elemEq (ev _) hat (Term.index_eval k) hb h).2
  rwa [own_nat (own_idx hk)] at q
theorem own_all1 (ev : ∀ idx, t.eval args s none idx s = some (.ref a)) (hat : s.arrayAt? a = some cl) (hn : cl.slots.size < 2147483648) (h : (Jvm.Cond.all t (.or (.le (.int lo) (.index 0)) (.eq (.elem t (.index 0)) b))).value args s none s [] = some true) (hk : k < cl.slots.size) (h1 : (k : Int) < lo.toInt) (hb : b.eval args s none [k] s = some (.int x)) : cl.slots[k]? = some (.int x) := by
  rcases own_or (Cond.all_elim (ev _) hat h k hk) with q | q
  · have := own_leV rfl (Term.index_eval k) q; rw [own_idx (by omega)] at this; omega
  · exact own_elemK ev hat (by omega) hb q
theorem own_all2 (ev : ∀ idx, t.eval args s none idx s = some (.ref a)) (hat : s.arrayAt? a = some cl) (hn : cl.slots.size < 2147483648) (h : (Jvm.Cond.all t (.or (.lt (.index 0) (.int lo)) (.or (.le (.int hi) (.index 0)) (.eq (.elem t (.index 0)) b)))).value args s none s [] = some true) (hk : k < cl.slots.size) (h1 : lo.toInt ≤ (k : Int)) (h2 : (k : Int) < hi.toInt) (hb : b.eval args s none [k] s = some (.int x)) : cl.slots[k]? = some (.int x) := by
  rcases own_or (Cond.all_elim (ev _) hat h k hk) with q | q
  · have := own_ltV (Term.index_eval k) rfl q; rw [own_idx (by omega)] at this; omega
  · rcases own_or q with q | q
    · have := own_leV rfl (Term.index_eval k) q; rw [own_idx (by omega)] at this; omega
    · exact own_elemK ev hat (by omega) hb q
theorem own_all3 (ev : ∀ idx, t.eval args s none idx s = some (.ref a)) (hat : s.arrayAt? a = some cl) (hn : cl.slots.size < 2147483648) (h : (Jvm.Cond.all t (.or (.lt (.index 0) (.int lo)) (.eq (.elem t (.index 0)) b))).value args s none s [] = some true) (hk : k < cl.slots.size) (h1 : lo.toInt ≤ (k : Int)) (hb : b.eval args s none [k] s = some (.int x)) : cl.slots[k]? = some (.int x) := by
  rcases own_or (Cond.all_elim (ev _) hat h k hk) with q | q
  · have := own_ltV (Term.index_eval k) rfl q; rw [own_idx (by omega)] at this; omega
  · exact own_elemK ev hat (by omega) hb q
theorem own_one (ev : ∀ idx, t.eval args s none idx s = some (.ref a)) (hat : s.arrayAt? a = some cl) (h : (Jvm.Cond.eq (.elem t (.int lo)) (.int x)).value args s none s [] = some true) (hk : lo.toInt = (k : Int)) : cl.slots[k]? = some (.int x) := by
  have q := (own_elemEq (ev _) hat rfl rfl h).2
  rwa [own_nat hk] at q
end Elems
end Start
end OwnArr
def own_hx (b : Int32) : Int32 := if 48 ≤ b.toInt ∧ b.toInt ≤ 57 then b - 48 else if 65 ≤ b.toInt ∧ b.toInt ≤ 70 then b - 65 + 10 else if 97 ≤ b.toInt ∧ b.toInt ≤ 102 then b - 97 + 10 else -1
def own_hex (k : Nat) : Int32 := if k < 48 then -1 else if k < 58 then k.toInt32 - 48 else if k < 65 then -1 else if k < 71 then k.toInt32 - 55 else if k < 97 then -1 else if k < 103 then k.toInt32 - 87 else -1
def own_comb (a b : Int32) : Int32 := if ((a <<< ((4 : Int32) &&& 31)) ||| b) < 0 then -1 else ((a <<< ((4 : Int32) &&& 31)) ||| b)
theorem own_hexhx0 : ∀ k : Fin 256, own_hex k.1 = own_hx (Int32.ofNat k.1) ∧ ∃ q : Fin 17, own_hx (Int32.ofNat k.1) = Int32.ofInt ((q.1 : Int) - 1) := by decide +kernel
theorem own_b255 (w : Int32) : ((w &&& 255).toNatClampNeg < 256) ∧ ¬ ((w &&& 255) < 0) := by
  have h := Jvm.Kit.i32_mask w 255 (k := 8) (by decide) (by decide)
  have q : 0 ≤ (w &&& 255).toInt ∧ (w &&& 255).toInt < 256 := by rw [h]; omega
  have q2 : ¬ ((w &&& 255) < 0) := by rw [Int32.lt_iff_toInt_lt]; have : (0 : Int32).toInt = 0 := (by decide); omega
  exact ⟨by have := nat_of q2; omega, q2⟩
theorem own_hexhx (w : Int32) : own_hex (w &&& 255).toNatClampNeg = own_hx (w &&& 255) ∧ ∃ q : Fin 17, own_hx (w &&& 255) = Int32.ofInt ((q.1 : Int) - 1) := by
  obtain ⟨h1, h2⟩ := own_b255 w
  have h := own_hexhx0 ⟨_, h1⟩
  have e : Int32.ofNat (w &&& 255).toNatClampNeg = (w &&& 255) := (back32 h2).1
  dsimp only at h
  rw [e] at h
  exact h
theorem own_combq : ∀ a b : Fin 17, own_comb (Int32.ofInt ((a.1 : Int) - 1)) (Int32.ofInt ((b.1 : Int) - 1)) = if Int32.ofInt ((a.1 : Int) - 1) < 0 ∨ Int32.ofInt ((b.1 : Int) - 1) < 0 then -1 else Int32.ofInt ((a.1 : Int) - 1) * 16 + Int32.ofInt ((b.1 : Int) - 1) := by decide +kernel
theorem own_combeq (x y : Int32) : own_comb (own_hx (x &&& 255)) (own_hx (y &&& 255)) = if own_hx (x &&& 255) < 0 ∨ own_hx (y &&& 255) < 0 then -1 else own_hx (x &&& 255) * 16 + own_hx (y &&& 255) := by
  obtain ⟨-, a, ha⟩ := own_hexhx x
  obtain ⟨-, b, hb⟩ := own_hexhx y
  rw [ha, hb]; exact own_combq a b
theorem own_addk {x y : Int32} {i k : Nat} (hx : x.toInt = (i : Int)) (hy : y.toInt = (k : Int)) (h : i + k < 2147483648) : (x + y).toInt = ((i + k : Nat) : Int) := by
  rw [Jvm.Kit.i32_add (by omega) (by omega)]; omega
theorem own_pn0 : plainName "com/example/superlink/superlink/PercentDecodingEscapedBytePinLaw" = true := by first | (simp [plainName, overriddenIn]; done) | decide +kernel
theorem d2_0 : decode method_2_code 0 = .ok (.iload_n 0, 1) := by decide +kernel
theorem d2_1 : decode method_2_code 1 = .ok (.bipush 48, 2) := by decide +kernel
theorem d2_3 : decode method_2_code 3 = .ok (.if_icmp .lt 14, 3) := by decide +kernel
theorem d2_17 : decode method_2_code 17 = .ok (.iload_n 0, 1) := by decide +kernel
theorem d2_18 : decode method_2_code 18 = .ok (.bipush 65, 2) := by decide +kernel
theorem d2_20 : decode method_2_code 20 = .ok (.if_icmp .lt 17, 3) := by decide +kernel
theorem d2_37 : decode method_2_code 37 = .ok (.iload_n 0, 1) := by decide +kernel
theorem d2_38 : decode method_2_code 38 = .ok (.bipush 97, 2) := by decide +kernel
theorem d2_40 : decode method_2_code 40 = .ok (.if_icmp .lt 17, 3) := by decide +kernel
theorem d2_57 : decode method_2_code 57 = .ok (.iconst (-1), 1) := by decide +kernel
theorem d2_58 : decode method_2_code 58 = .ok (.ireturn, 1) := by decide +kernel
theorem d2_43 : decode method_2_code 43 = .ok (.iload_n 0, 1) := by decide +kernel
theorem d2_44 : decode method_2_code 44 = .ok (.bipush 102, 2) := by decide +kernel
theorem d2_46 : decode method_2_code 46 = .ok (.if_icmp .gt 11, 3) := by decide +kernel
theorem d2_49 : decode method_2_code 49 = .ok (.iload_n 0, 1) := by decide +kernel
theorem d2_50 : decode method_2_code 50 = .ok (.bipush 97, 2) := by decide +kernel
theorem d2_52 : decode method_2_code 52 = .ok (.isub, 1) := by decide +kernel
theorem d2_53 : decode method_2_code 53 = .ok (.bipush 10, 2) := by decide +kernel
theorem d2_55 : decode method_2_code 55 = .ok (.iadd, 1) := by decide +kernel
theorem d2_56 : decode method_2_code 56 = .ok (.ireturn, 1) := by decide +kernel
theorem d2_23 : decode method_2_code 23 = .ok (.iload_n 0, 1) := by decide +kernel
theorem d2_24 : decode method_2_code 24 = .ok (.bipush 70, 2) := by decide +kernel
theorem d2_26 : decode method_2_code 26 = .ok (.if_icmp .gt 11, 3) := by decide +kernel
theorem d2_29 : decode method_2_code 29 = .ok (.iload_n 0, 1) := by decide +kernel
theorem d2_30 : decode method_2_code 30 = .ok (.bipush 65, 2) := by decide +kernel
theorem d2_32 : decode method_2_code 32 = .ok (.isub, 1) := by decide +kernel
theorem d2_33 : decode method_2_code 33 = .ok (.bipush 10, 2) := by decide +kernel
theorem d2_35 : decode method_2_code 35 = .ok (.iadd, 1) := by decide +kernel
theorem d2_36 : decode method_2_code 36 = .ok (.ireturn, 1) := by decide +kernel
theorem d2_6 : decode method_2_code 6 = .ok (.iload_n 0, 1) := by decide +kernel
theorem d2_7 : decode method_2_code 7 = .ok (.bipush 57, 2) := by decide +kernel
theorem d2_9 : decode method_2_code 9 = .ok (.if_icmp .gt 8, 3) := by decide +kernel
theorem d2_12 : decode method_2_code 12 = .ok (.iload_n 0, 1) := by decide +kernel
theorem d2_13 : decode method_2_code 13 = .ok (.bipush 48, 2) := by decide +kernel
theorem d2_15 : decode method_2_code 15 = .ok (.isub, 1) := by decide +kernel
theorem d2_16 : decode method_2_code 16 = .ok (.ireturn, 1) := by decide +kernel
def Q_rm2 (Z : State) (p1 : Int32) (h0 : Heap) (n0 : Nat) (v : Option Value) (h : Heap) (L : List Loc) : Prop := v = some (.int (own_hx p1)) ∧ Fr n0 L ∧ h = h0
set_option maxRecDepth 65536 in
set_option maxHeartbeats 40000000 in
theorem rm2 (l : Launch) (Z : State) (a0 : Array Value) (hw : ∀ d ∈ tables_1, d.before a0 Z = true) (ws : List Jvm.Cond) (p1 : Int32) (h0 : Heap) (n0 : Nat) (Z0 : n0 ≤ h0.size)  :
    own_Ctr l Z (⟨"com/example/superlink/superlink/PercentDecodingEscapedBytePinLaw", "hexVal", "(I)I"⟩ : MethodName) method_2_code 1 (some .int) ws ({ frames := 0, cells := 0, slots := 0, locals := 0 } : Room) #[(.int p1)] h0 (Q_rm2 Z p1 h0 n0) := by
  refine own_enter (plainFor_of_name own_pn0) ?_
  intro p e s m below meth c s₁ X0 hx hby hml hrt hlk hZ hown hnm e0
  have N0 := Fr.nil n0
  have Zs := Z0
  rw [show entryFrame m #[(.int p1)] 1 = mkF m 0 #[.val (.int p1)] [] from by first | (simp [entryFrame, mkF, argsToLocals, Value.category]; done) | rfl]
  show own_Wp _ _ _ _ (s₁.setTop (mkF m 0 #[.val (.int p1)] []))
  refine own_of (fun tgt kon => XS.iloadN X0.here hx rfl (hb hby d2_0) rfl kon) ?_
  show own_Wp _ _ _ _ (s₁.setTop (mkF m 1 #[.val (.int p1)] [(.int p1)]))
  refine own_of (fun tgt kon => XS.bipush X0.here hx rfl (hb hby d2_1) kon) ?_
  show own_Wp _ _ _ _ (s₁.setTop (mkF m 3 #[.val (.int p1)] [(.int (48 : Int32)), (.int p1)]))
  by_cases hc3 : p1 < (48 : Int32)
  · skip
    refine own_of (fun tgt kon => XS.icmpYes X0.here hx rfl (pc0 := 3) (pc' := 17) rfl (hb hby d2_3) rfl (tlt hc3).1 (by decide) (by decide) kon) ?_
    show own_Wp _ _ _ _ (s₁.setTop (mkF m 17 #[.val (.int p1)] []))
    refine own_of (fun tgt kon => XS.iloadN X0.here hx rfl (hb hby d2_17) rfl kon) ?_
    show own_Wp _ _ _ _ (s₁.setTop (mkF m 18 #[.val (.int p1)] [(.int p1)]))
    refine own_of (fun tgt kon => XS.bipush X0.here hx rfl (hb hby d2_18) kon) ?_
    show own_Wp _ _ _ _ (s₁.setTop (mkF m 20 #[.val (.int p1)] [(.int (65 : Int32)), (.int p1)]))
    by_cases hc20 : p1 < (65 : Int32)
    · skip
      refine own_of (fun tgt kon => XS.icmpYes X0.here hx rfl (pc0 := 20) (pc' := 37) rfl (hb hby d2_20) rfl (tlt hc20).1 (by decide) (by decide) kon) ?_
      show own_Wp _ _ _ _ (s₁.setTop (mkF m 37 #[.val (.int p1)] []))
      refine own_of (fun tgt kon => XS.iloadN X0.here hx rfl (hb hby d2_37) rfl kon) ?_
      show own_Wp _ _ _ _ (s₁.setTop (mkF m 38 #[.val (.int p1)] [(.int p1)]))
      refine own_of (fun tgt kon => XS.bipush X0.here hx rfl (hb hby d2_38) kon) ?_
      show own_Wp _ _ _ _ (s₁.setTop (mkF m 40 #[.val (.int p1)] [(.int (97 : Int32)), (.int p1)]))
      by_cases hc40 : p1 < (97 : Int32)
      · skip
        refine own_of (fun tgt kon => XS.icmpYes X0.here hx rfl (pc0 := 40) (pc' := 57) rfl (hb hby d2_40) rfl (tlt hc40).1 (by decide) (by decide) kon) ?_
        show own_Wp _ _ _ _ (s₁.setTop (mkF m 57 #[.val (.int p1)] []))
        refine own_of (fun tgt kon => XS.iconst X0.here hx rfl (hb hby d2_57) kon) ?_
        show own_Wp _ _ _ _ (s₁.setTop (mkF m 58 #[.val (.int p1)] [(.int (-1 : Int32))]))
        refine own_ret X0 hlk (some (.int (-1 : Int32))) (own_rtI hrt) (fun fs hr => own_retI X0 hx hrt (hb hby d2_58) hr) ?_ (by decide) (by decide)
        rw [e0]
        have q3 := hc3; rw [Int32.lt_iff_toInt_lt] at q3
        have q20 := hc20; rw [Int32.lt_iff_toInt_lt] at q20
        have q40 := hc40; rw [Int32.lt_iff_toInt_lt] at q40
        have l48 : (48 : Int32).toInt = 48 := by decide
        have l65 : (65 : Int32).toInt = 65 := by decide
        have l97 : (97 : Int32).toInt = 97 := by decide
        refine ⟨?_, N0, rfl⟩
        show some (Value.int _) = some (Value.int (own_hx p1))
        unfold own_hx
        rw [if_neg (by omega), if_neg (by omega), if_neg (by omega)]
      · skip
        refine own_of (fun tgt kon => XS.icmpNo X0.here hx rfl (hb hby d2_40) rfl (flt hc40).1 kon) ?_
        show own_Wp _ _ _ _ (s₁.setTop (mkF m 43 #[.val (.int p1)] []))
        refine own_of (fun tgt kon => XS.iloadN X0.here hx rfl (hb hby d2_43) rfl kon) ?_
        show own_Wp _ _ _ _ (s₁.setTop (mkF m 44 #[.val (.int p1)] [(.int p1)]))
        refine own_of (fun tgt kon => XS.bipush X0.here hx rfl (hb hby d2_44) kon) ?_
        show own_Wp _ _ _ _ (s₁.setTop (mkF m 46 #[.val (.int p1)] [(.int (102 : Int32)), (.int p1)]))
        by_cases hc46 : (102 : Int32) < p1
        · skip
          refine own_of (fun tgt kon => XS.icmpYes X0.here hx rfl (pc0 := 46) (pc' := 57) rfl (hb hby d2_46) rfl (tlt hc46).2.2.1 (by decide) (by decide) kon) ?_
          show own_Wp _ _ _ _ (s₁.setTop (mkF m 57 #[.val (.int p1)] []))
          refine own_of (fun tgt kon => XS.iconst X0.here hx rfl (hb hby d2_57) kon) ?_
          show own_Wp _ _ _ _ (s₁.setTop (mkF m 58 #[.val (.int p1)] [(.int (-1 : Int32))]))
          refine own_ret X0 hlk (some (.int (-1 : Int32))) (own_rtI hrt) (fun fs hr => own_retI X0 hx hrt (hb hby d2_58) hr) ?_ (by decide) (by decide)
          rw [e0]
          have q3 := hc3; rw [Int32.lt_iff_toInt_lt] at q3
          have q20 := hc20; rw [Int32.lt_iff_toInt_lt] at q20
          have q40 := hc40; rw [Int32.lt_iff_toInt_lt] at q40
          have q46 := hc46; rw [Int32.lt_iff_toInt_lt] at q46
          have l48 : (48 : Int32).toInt = 48 := by decide
          have l65 : (65 : Int32).toInt = 65 := by decide
          have l97 : (97 : Int32).toInt = 97 := by decide
          have l102 : (102 : Int32).toInt = 102 := by decide
          refine ⟨?_, N0, rfl⟩
          show some (Value.int _) = some (Value.int (own_hx p1))
          unfold own_hx
          rw [if_neg (by omega), if_neg (by omega), if_neg (by omega)]
        · skip
          refine own_of (fun tgt kon => XS.icmpNo X0.here hx rfl (hb hby d2_46) rfl (flt hc46).2.2.1 kon) ?_
          show own_Wp _ _ _ _ (s₁.setTop (mkF m 49 #[.val (.int p1)] []))
          refine own_of (fun tgt kon => XS.iloadN X0.here hx rfl (hb hby d2_49) rfl kon) ?_
          show own_Wp _ _ _ _ (s₁.setTop (mkF m 50 #[.val (.int p1)] [(.int p1)]))
          refine own_of (fun tgt kon => XS.bipush X0.here hx rfl (hb hby d2_50) kon) ?_
          show own_Wp _ _ _ _ (s₁.setTop (mkF m 52 #[.val (.int p1)] [(.int (97 : Int32)), (.int p1)]))
          refine own_of (fun tgt kon => XS.isub X0.here hx rfl (hb hby d2_52) rfl kon) ?_
          show own_Wp _ _ _ _ (s₁.setTop (mkF m 53 #[.val (.int p1)] [(.int (p1 - (97 : Int32)))]))
          refine own_of (fun tgt kon => XS.bipush X0.here hx rfl (hb hby d2_53) kon) ?_
          show own_Wp _ _ _ _ (s₁.setTop (mkF m 55 #[.val (.int p1)] [(.int (10 : Int32)), (.int (p1 - (97 : Int32)))]))
          refine own_of (fun tgt kon => XS.iadd X0.here hx rfl (hb hby d2_55) rfl kon) ?_
          show own_Wp _ _ _ _ (s₁.setTop (mkF m 56 #[.val (.int p1)] [(.int ((p1 - (97 : Int32)) + (10 : Int32)))]))
          refine own_ret X0 hlk (some (.int ((p1 - (97 : Int32)) + (10 : Int32)))) (own_rtI hrt) (fun fs hr => own_retI X0 hx hrt (hb hby d2_56) hr) ?_ (by decide) (by decide)
          rw [e0]
          have q3 := hc3; rw [Int32.lt_iff_toInt_lt] at q3
          have q20 := hc20; rw [Int32.lt_iff_toInt_lt] at q20
          have q40 := hc40; rw [Int32.lt_iff_toInt_lt] at q40
          have q46 := hc46; rw [Int32.lt_iff_toInt_lt] at q46
          have l48 : (48 : Int32).toInt = 48 := by decide
          have l65 : (65 : Int32).toInt = 65 := by decide
          have l97 : (97 : Int32).toInt = 97 := by decide
          have l102 : (102 : Int32).toInt = 102 := by decide
          refine ⟨?_, N0, rfl⟩
          show some (Value.int _) = some (Value.int (own_hx p1))
          unfold own_hx
          rw [if_neg (by omega), if_neg (by omega), if_pos (by omega)]
    · skip
      refine own_of (fun tgt kon => XS.icmpNo X0.here hx rfl (hb hby d2_20) rfl (flt hc20).1 kon) ?_
      show own_Wp _ _ _ _ (s₁.setTop (mkF m 23 #[.val (.int p1)] []))
      refine own_of (fun tgt kon => XS.iloadN X0.here hx rfl (hb hby d2_23) rfl kon) ?_
      show own_Wp _ _ _ _ (s₁.setTop (mkF m 24 #[.val (.int p1)] [(.int p1)]))
      refine own_of (fun tgt kon => XS.bipush X0.here hx rfl (hb hby d2_24) kon) ?_
      show own_Wp _ _ _ _ (s₁.setTop (mkF m 26 #[.val (.int p1)] [(.int (70 : Int32)), (.int p1)]))
      by_cases hc26 : (70 : Int32) < p1
      · skip
        refine own_of (fun tgt kon => XS.icmpYes X0.here hx rfl (pc0 := 26) (pc' := 37) rfl (hb hby d2_26) rfl (tlt hc26).2.2.1 (by decide) (by decide) kon) ?_
        show own_Wp _ _ _ _ (s₁.setTop (mkF m 37 #[.val (.int p1)] []))
        refine own_of (fun tgt kon => XS.iloadN X0.here hx rfl (hb hby d2_37) rfl kon) ?_
        show own_Wp _ _ _ _ (s₁.setTop (mkF m 38 #[.val (.int p1)] [(.int p1)]))
        refine own_of (fun tgt kon => XS.bipush X0.here hx rfl (hb hby d2_38) kon) ?_
        show own_Wp _ _ _ _ (s₁.setTop (mkF m 40 #[.val (.int p1)] [(.int (97 : Int32)), (.int p1)]))
        by_cases hc40 : p1 < (97 : Int32)
        · skip
          refine own_of (fun tgt kon => XS.icmpYes X0.here hx rfl (pc0 := 40) (pc' := 57) rfl (hb hby d2_40) rfl (tlt hc40).1 (by decide) (by decide) kon) ?_
          show own_Wp _ _ _ _ (s₁.setTop (mkF m 57 #[.val (.int p1)] []))
          refine own_of (fun tgt kon => XS.iconst X0.here hx rfl (hb hby d2_57) kon) ?_
          show own_Wp _ _ _ _ (s₁.setTop (mkF m 58 #[.val (.int p1)] [(.int (-1 : Int32))]))
          refine own_ret X0 hlk (some (.int (-1 : Int32))) (own_rtI hrt) (fun fs hr => own_retI X0 hx hrt (hb hby d2_58) hr) ?_ (by decide) (by decide)
          rw [e0]
          have q3 := hc3; rw [Int32.lt_iff_toInt_lt] at q3
          have q20 := hc20; rw [Int32.lt_iff_toInt_lt] at q20
          have q26 := hc26; rw [Int32.lt_iff_toInt_lt] at q26
          have q40 := hc40; rw [Int32.lt_iff_toInt_lt] at q40
          have l48 : (48 : Int32).toInt = 48 := by decide
          have l65 : (65 : Int32).toInt = 65 := by decide
          have l70 : (70 : Int32).toInt = 70 := by decide
          have l97 : (97 : Int32).toInt = 97 := by decide
          refine ⟨?_, N0, rfl⟩
          show some (Value.int _) = some (Value.int (own_hx p1))
          unfold own_hx
          rw [if_neg (by omega), if_neg (by omega), if_neg (by omega)]
        · skip
          refine own_of (fun tgt kon => XS.icmpNo X0.here hx rfl (hb hby d2_40) rfl (flt hc40).1 kon) ?_
          show own_Wp _ _ _ _ (s₁.setTop (mkF m 43 #[.val (.int p1)] []))
          refine own_of (fun tgt kon => XS.iloadN X0.here hx rfl (hb hby d2_43) rfl kon) ?_
          show own_Wp _ _ _ _ (s₁.setTop (mkF m 44 #[.val (.int p1)] [(.int p1)]))
          refine own_of (fun tgt kon => XS.bipush X0.here hx rfl (hb hby d2_44) kon) ?_
          show own_Wp _ _ _ _ (s₁.setTop (mkF m 46 #[.val (.int p1)] [(.int (102 : Int32)), (.int p1)]))
          by_cases hc46 : (102 : Int32) < p1
          · skip
            refine own_of (fun tgt kon => XS.icmpYes X0.here hx rfl (pc0 := 46) (pc' := 57) rfl (hb hby d2_46) rfl (tlt hc46).2.2.1 (by decide) (by decide) kon) ?_
            show own_Wp _ _ _ _ (s₁.setTop (mkF m 57 #[.val (.int p1)] []))
            refine own_of (fun tgt kon => XS.iconst X0.here hx rfl (hb hby d2_57) kon) ?_
            show own_Wp _ _ _ _ (s₁.setTop (mkF m 58 #[.val (.int p1)] [(.int (-1 : Int32))]))
            refine own_ret X0 hlk (some (.int (-1 : Int32))) (own_rtI hrt) (fun fs hr => own_retI X0 hx hrt (hb hby d2_58) hr) ?_ (by decide) (by decide)
            rw [e0]
            have q3 := hc3; rw [Int32.lt_iff_toInt_lt] at q3
            have q20 := hc20; rw [Int32.lt_iff_toInt_lt] at q20
            have q26 := hc26; rw [Int32.lt_iff_toInt_lt] at q26
            have q40 := hc40; rw [Int32.lt_iff_toInt_lt] at q40
            have q46 := hc46; rw [Int32.lt_iff_toInt_lt] at q46
            have l48 : (48 : Int32).toInt = 48 := by decide
            have l65 : (65 : Int32).toInt = 65 := by decide
            have l70 : (70 : Int32).toInt = 70 := by decide
            have l97 : (97 : Int32).toInt = 97 := by decide
            have l102 : (102 : Int32).toInt = 102 := by decide
            refine ⟨?_, N0, rfl⟩
            show some (Value.int _) = some (Value.int (own_hx p1))
            unfold own_hx
            rw [if_neg (by omega), if_neg (by omega), if_neg (by omega)]
          · skip
            refine own_of (fun tgt kon => XS.icmpNo X0.here hx rfl (hb hby d2_46) rfl (flt hc46).2.2.1 kon) ?_
            show own_Wp _ _ _ _ (s₁.setTop (mkF m 49 #[.val (.int p1)] []))
            refine own_of (fun tgt kon => XS.iloadN X0.here hx rfl (hb hby d2_49) rfl kon) ?_
            show own_Wp _ _ _ _ (s₁.setTop (mkF m 50 #[.val (.int p1)] [(.int p1)]))
            refine own_of (fun tgt kon => XS.bipush X0.here hx rfl (hb hby d2_50) kon) ?_
            show own_Wp _ _ _ _ (s₁.setTop (mkF m 52 #[.val (.int p1)] [(.int (97 : Int32)), (.int p1)]))
            refine own_of (fun tgt kon => XS.isub X0.here hx rfl (hb hby d2_52) rfl kon) ?_
            show own_Wp _ _ _ _ (s₁.setTop (mkF m 53 #[.val (.int p1)] [(.int (p1 - (97 : Int32)))]))
            refine own_of (fun tgt kon => XS.bipush X0.here hx rfl (hb hby d2_53) kon) ?_
            show own_Wp _ _ _ _ (s₁.setTop (mkF m 55 #[.val (.int p1)] [(.int (10 : Int32)), (.int (p1 - (97 : Int32)))]))
            refine own_of (fun tgt kon => XS.iadd X0.here hx rfl (hb hby d2_55) rfl kon) ?_
            show own_Wp _ _ _ _ (s₁.setTop (mkF m 56 #[.val (.int p1)] [(.int ((p1 - (97 : Int32)) + (10 : Int32)))]))
            refine own_ret X0 hlk (some (.int ((p1 - (97 : Int32)) + (10 : Int32)))) (own_rtI hrt) (fun fs hr => own_retI X0 hx hrt (hb hby d2_56) hr) ?_ (by decide) (by decide)
            rw [e0]
            have q3 := hc3; rw [Int32.lt_iff_toInt_lt] at q3
            have q20 := hc20; rw [Int32.lt_iff_toInt_lt] at q20
            have q26 := hc26; rw [Int32.lt_iff_toInt_lt] at q26
            have q40 := hc40; rw [Int32.lt_iff_toInt_lt] at q40
            have q46 := hc46; rw [Int32.lt_iff_toInt_lt] at q46
            have l48 : (48 : Int32).toInt = 48 := by decide
            have l65 : (65 : Int32).toInt = 65 := by decide
            have l70 : (70 : Int32).toInt = 70 := by decide
            have l97 : (97 : Int32).toInt = 97 := by decide
            have l102 : (102 : Int32).toInt = 102 := by decide
            refine ⟨?_, N0, rfl⟩
            show some (Value.int _) = some (Value.int (own_hx p1))
            unfold own_hx
            rw [if_neg (by omega), if_neg (by omega), if_pos (by omega)]
      · skip
        refine own_of (fun tgt kon => XS.icmpNo X0.here hx rfl (hb hby d2_26) rfl (flt hc26).2.2.1 kon) ?_
        show own_Wp _ _ _ _ (s₁.setTop (mkF m 29 #[.val (.int p1)] []))
        refine own_of (fun tgt kon => XS.iloadN X0.here hx rfl (hb hby d2_29) rfl kon) ?_
        show own_Wp _ _ _ _ (s₁.setTop (mkF m 30 #[.val (.int p1)] [(.int p1)]))
        refine own_of (fun tgt kon => XS.bipush X0.here hx rfl (hb hby d2_30) kon) ?_
        show own_Wp _ _ _ _ (s₁.setTop (mkF m 32 #[.val (.int p1)] [(.int (65 : Int32)), (.int p1)]))
        refine own_of (fun tgt kon => XS.isub X0.here hx rfl (hb hby d2_32) rfl kon) ?_
        show own_Wp _ _ _ _ (s₁.setTop (mkF m 33 #[.val (.int p1)] [(.int (p1 - (65 : Int32)))]))
        refine own_of (fun tgt kon => XS.bipush X0.here hx rfl (hb hby d2_33) kon) ?_
        show own_Wp _ _ _ _ (s₁.setTop (mkF m 35 #[.val (.int p1)] [(.int (10 : Int32)), (.int (p1 - (65 : Int32)))]))
        refine own_of (fun tgt kon => XS.iadd X0.here hx rfl (hb hby d2_35) rfl kon) ?_
        show own_Wp _ _ _ _ (s₁.setTop (mkF m 36 #[.val (.int p1)] [(.int ((p1 - (65 : Int32)) + (10 : Int32)))]))
        refine own_ret X0 hlk (some (.int ((p1 - (65 : Int32)) + (10 : Int32)))) (own_rtI hrt) (fun fs hr => own_retI X0 hx hrt (hb hby d2_36) hr) ?_ (by decide) (by decide)
        rw [e0]
        have q3 := hc3; rw [Int32.lt_iff_toInt_lt] at q3
        have q20 := hc20; rw [Int32.lt_iff_toInt_lt] at q20
        have q26 := hc26; rw [Int32.lt_iff_toInt_lt] at q26
        have l48 : (48 : Int32).toInt = 48 := by decide
        have l65 : (65 : Int32).toInt = 65 := by decide
        have l70 : (70 : Int32).toInt = 70 := by decide
        refine ⟨?_, N0, rfl⟩
        show some (Value.int _) = some (Value.int (own_hx p1))
        unfold own_hx
        rw [if_neg (by omega), if_pos (by omega)]
  · skip
    refine own_of (fun tgt kon => XS.icmpNo X0.here hx rfl (hb hby d2_3) rfl (flt hc3).1 kon) ?_
    show own_Wp _ _ _ _ (s₁.setTop (mkF m 6 #[.val (.int p1)] []))
    refine own_of (fun tgt kon => XS.iloadN X0.here hx rfl (hb hby d2_6) rfl kon) ?_
    show own_Wp _ _ _ _ (s₁.setTop (mkF m 7 #[.val (.int p1)] [(.int p1)]))
    refine own_of (fun tgt kon => XS.bipush X0.here hx rfl (hb hby d2_7) kon) ?_
    show own_Wp _ _ _ _ (s₁.setTop (mkF m 9 #[.val (.int p1)] [(.int (57 : Int32)), (.int p1)]))
    by_cases hc9 : (57 : Int32) < p1
    · skip
      refine own_of (fun tgt kon => XS.icmpYes X0.here hx rfl (pc0 := 9) (pc' := 17) rfl (hb hby d2_9) rfl (tlt hc9).2.2.1 (by decide) (by decide) kon) ?_
      show own_Wp _ _ _ _ (s₁.setTop (mkF m 17 #[.val (.int p1)] []))
      refine own_of (fun tgt kon => XS.iloadN X0.here hx rfl (hb hby d2_17) rfl kon) ?_
      show own_Wp _ _ _ _ (s₁.setTop (mkF m 18 #[.val (.int p1)] [(.int p1)]))
      refine own_of (fun tgt kon => XS.bipush X0.here hx rfl (hb hby d2_18) kon) ?_
      show own_Wp _ _ _ _ (s₁.setTop (mkF m 20 #[.val (.int p1)] [(.int (65 : Int32)), (.int p1)]))
      by_cases hc20 : p1 < (65 : Int32)
      · skip
        refine own_of (fun tgt kon => XS.icmpYes X0.here hx rfl (pc0 := 20) (pc' := 37) rfl (hb hby d2_20) rfl (tlt hc20).1 (by decide) (by decide) kon) ?_
        show own_Wp _ _ _ _ (s₁.setTop (mkF m 37 #[.val (.int p1)] []))
        refine own_of (fun tgt kon => XS.iloadN X0.here hx rfl (hb hby d2_37) rfl kon) ?_
        show own_Wp _ _ _ _ (s₁.setTop (mkF m 38 #[.val (.int p1)] [(.int p1)]))
        refine own_of (fun tgt kon => XS.bipush X0.here hx rfl (hb hby d2_38) kon) ?_
        show own_Wp _ _ _ _ (s₁.setTop (mkF m 40 #[.val (.int p1)] [(.int (97 : Int32)), (.int p1)]))
        by_cases hc40 : p1 < (97 : Int32)
        · skip
          refine own_of (fun tgt kon => XS.icmpYes X0.here hx rfl (pc0 := 40) (pc' := 57) rfl (hb hby d2_40) rfl (tlt hc40).1 (by decide) (by decide) kon) ?_
          show own_Wp _ _ _ _ (s₁.setTop (mkF m 57 #[.val (.int p1)] []))
          refine own_of (fun tgt kon => XS.iconst X0.here hx rfl (hb hby d2_57) kon) ?_
          show own_Wp _ _ _ _ (s₁.setTop (mkF m 58 #[.val (.int p1)] [(.int (-1 : Int32))]))
          refine own_ret X0 hlk (some (.int (-1 : Int32))) (own_rtI hrt) (fun fs hr => own_retI X0 hx hrt (hb hby d2_58) hr) ?_ (by decide) (by decide)
          rw [e0]
          have q3 := hc3; rw [Int32.lt_iff_toInt_lt] at q3
          have q9 := hc9; rw [Int32.lt_iff_toInt_lt] at q9
          have q20 := hc20; rw [Int32.lt_iff_toInt_lt] at q20
          have q40 := hc40; rw [Int32.lt_iff_toInt_lt] at q40
          have l48 : (48 : Int32).toInt = 48 := by decide
          have l57 : (57 : Int32).toInt = 57 := by decide
          have l65 : (65 : Int32).toInt = 65 := by decide
          have l97 : (97 : Int32).toInt = 97 := by decide
          refine ⟨?_, N0, rfl⟩
          show some (Value.int _) = some (Value.int (own_hx p1))
          unfold own_hx
          rw [if_neg (by omega), if_neg (by omega), if_neg (by omega)]
        · skip
          refine own_of (fun tgt kon => XS.icmpNo X0.here hx rfl (hb hby d2_40) rfl (flt hc40).1 kon) ?_
          show own_Wp _ _ _ _ (s₁.setTop (mkF m 43 #[.val (.int p1)] []))
          refine own_of (fun tgt kon => XS.iloadN X0.here hx rfl (hb hby d2_43) rfl kon) ?_
          show own_Wp _ _ _ _ (s₁.setTop (mkF m 44 #[.val (.int p1)] [(.int p1)]))
          refine own_of (fun tgt kon => XS.bipush X0.here hx rfl (hb hby d2_44) kon) ?_
          show own_Wp _ _ _ _ (s₁.setTop (mkF m 46 #[.val (.int p1)] [(.int (102 : Int32)), (.int p1)]))
          by_cases hc46 : (102 : Int32) < p1
          · skip
            refine own_of (fun tgt kon => XS.icmpYes X0.here hx rfl (pc0 := 46) (pc' := 57) rfl (hb hby d2_46) rfl (tlt hc46).2.2.1 (by decide) (by decide) kon) ?_
            show own_Wp _ _ _ _ (s₁.setTop (mkF m 57 #[.val (.int p1)] []))
            refine own_of (fun tgt kon => XS.iconst X0.here hx rfl (hb hby d2_57) kon) ?_
            show own_Wp _ _ _ _ (s₁.setTop (mkF m 58 #[.val (.int p1)] [(.int (-1 : Int32))]))
            refine own_ret X0 hlk (some (.int (-1 : Int32))) (own_rtI hrt) (fun fs hr => own_retI X0 hx hrt (hb hby d2_58) hr) ?_ (by decide) (by decide)
            rw [e0]
            have q3 := hc3; rw [Int32.lt_iff_toInt_lt] at q3
            have q9 := hc9; rw [Int32.lt_iff_toInt_lt] at q9
            have q20 := hc20; rw [Int32.lt_iff_toInt_lt] at q20
            have q40 := hc40; rw [Int32.lt_iff_toInt_lt] at q40
            have q46 := hc46; rw [Int32.lt_iff_toInt_lt] at q46
            have l48 : (48 : Int32).toInt = 48 := by decide
            have l57 : (57 : Int32).toInt = 57 := by decide
            have l65 : (65 : Int32).toInt = 65 := by decide
            have l97 : (97 : Int32).toInt = 97 := by decide
            have l102 : (102 : Int32).toInt = 102 := by decide
            refine ⟨?_, N0, rfl⟩
            show some (Value.int _) = some (Value.int (own_hx p1))
            unfold own_hx
            rw [if_neg (by omega), if_neg (by omega), if_neg (by omega)]
          · skip
            refine own_of (fun tgt kon => XS.icmpNo X0.here hx rfl (hb hby d2_46) rfl (flt hc46).2.2.1 kon) ?_
            show own_Wp _ _ _ _ (s₁.setTop (mkF m 49 #[.val (.int p1)] []))
            refine own_of (fun tgt kon => XS.iloadN X0.here hx rfl (hb hby d2_49) rfl kon) ?_
            show own_Wp _ _ _ _ (s₁.setTop (mkF m 50 #[.val (.int p1)] [(.int p1)]))
            refine own_of (fun tgt kon => XS.bipush X0.here hx rfl (hb hby d2_50) kon) ?_
            show own_Wp _ _ _ _ (s₁.setTop (mkF m 52 #[.val (.int p1)] [(.int (97 : Int32)), (.int p1)]))
            refine own_of (fun tgt kon => XS.isub X0.here hx rfl (hb hby d2_52) rfl kon) ?_
            show own_Wp _ _ _ _ (s₁.setTop (mkF m 53 #[.val (.int p1)] [(.int (p1 - (97 : Int32)))]))
            refine own_of (fun tgt kon => XS.bipush X0.here hx rfl (hb hby d2_53) kon) ?_
            show own_Wp _ _ _ _ (s₁.setTop (mkF m 55 #[.val (.int p1)] [(.int (10 : Int32)), (.int (p1 - (97 : Int32)))]))
            refine own_of (fun tgt kon => XS.iadd X0.here hx rfl (hb hby d2_55) rfl kon) ?_
            show own_Wp _ _ _ _ (s₁.setTop (mkF m 56 #[.val (.int p1)] [(.int ((p1 - (97 : Int32)) + (10 : Int32)))]))
            refine own_ret X0 hlk (some (.int ((p1 - (97 : Int32)) + (10 : Int32)))) (own_rtI hrt) (fun fs hr => own_retI X0 hx hrt (hb hby d2_56) hr) ?_ (by decide) (by decide)
            rw [e0]
            have q3 := hc3; rw [Int32.lt_iff_toInt_lt] at q3
            have q9 := hc9; rw [Int32.lt_iff_toInt_lt] at q9
            have q20 := hc20; rw [Int32.lt_iff_toInt_lt] at q20
            have q40 := hc40; rw [Int32.lt_iff_toInt_lt] at q40
            have q46 := hc46; rw [Int32.lt_iff_toInt_lt] at q46
            have l48 : (48 : Int32).toInt = 48 := by decide
            have l57 : (57 : Int32).toInt = 57 := by decide
            have l65 : (65 : Int32).toInt = 65 := by decide
            have l97 : (97 : Int32).toInt = 97 := by decide
            have l102 : (102 : Int32).toInt = 102 := by decide
            refine ⟨?_, N0, rfl⟩
            show some (Value.int _) = some (Value.int (own_hx p1))
            unfold own_hx
            rw [if_neg (by omega), if_neg (by omega), if_pos (by omega)]
      · skip
        refine own_of (fun tgt kon => XS.icmpNo X0.here hx rfl (hb hby d2_20) rfl (flt hc20).1 kon) ?_
        show own_Wp _ _ _ _ (s₁.setTop (mkF m 23 #[.val (.int p1)] []))
        refine own_of (fun tgt kon => XS.iloadN X0.here hx rfl (hb hby d2_23) rfl kon) ?_
        show own_Wp _ _ _ _ (s₁.setTop (mkF m 24 #[.val (.int p1)] [(.int p1)]))
        refine own_of (fun tgt kon => XS.bipush X0.here hx rfl (hb hby d2_24) kon) ?_
        show own_Wp _ _ _ _ (s₁.setTop (mkF m 26 #[.val (.int p1)] [(.int (70 : Int32)), (.int p1)]))
        by_cases hc26 : (70 : Int32) < p1
        · skip
          refine own_of (fun tgt kon => XS.icmpYes X0.here hx rfl (pc0 := 26) (pc' := 37) rfl (hb hby d2_26) rfl (tlt hc26).2.2.1 (by decide) (by decide) kon) ?_
          show own_Wp _ _ _ _ (s₁.setTop (mkF m 37 #[.val (.int p1)] []))
          refine own_of (fun tgt kon => XS.iloadN X0.here hx rfl (hb hby d2_37) rfl kon) ?_
          show own_Wp _ _ _ _ (s₁.setTop (mkF m 38 #[.val (.int p1)] [(.int p1)]))
          refine own_of (fun tgt kon => XS.bipush X0.here hx rfl (hb hby d2_38) kon) ?_
          show own_Wp _ _ _ _ (s₁.setTop (mkF m 40 #[.val (.int p1)] [(.int (97 : Int32)), (.int p1)]))
          by_cases hc40 : p1 < (97 : Int32)
          · skip
            refine own_of (fun tgt kon => XS.icmpYes X0.here hx rfl (pc0 := 40) (pc' := 57) rfl (hb hby d2_40) rfl (tlt hc40).1 (by decide) (by decide) kon) ?_
            show own_Wp _ _ _ _ (s₁.setTop (mkF m 57 #[.val (.int p1)] []))
            refine own_of (fun tgt kon => XS.iconst X0.here hx rfl (hb hby d2_57) kon) ?_
            show own_Wp _ _ _ _ (s₁.setTop (mkF m 58 #[.val (.int p1)] [(.int (-1 : Int32))]))
            refine own_ret X0 hlk (some (.int (-1 : Int32))) (own_rtI hrt) (fun fs hr => own_retI X0 hx hrt (hb hby d2_58) hr) ?_ (by decide) (by decide)
            rw [e0]
            have q3 := hc3; rw [Int32.lt_iff_toInt_lt] at q3
            have q9 := hc9; rw [Int32.lt_iff_toInt_lt] at q9
            have q20 := hc20; rw [Int32.lt_iff_toInt_lt] at q20
            have q26 := hc26; rw [Int32.lt_iff_toInt_lt] at q26
            have q40 := hc40; rw [Int32.lt_iff_toInt_lt] at q40
            have l48 : (48 : Int32).toInt = 48 := by decide
            have l57 : (57 : Int32).toInt = 57 := by decide
            have l65 : (65 : Int32).toInt = 65 := by decide
            have l70 : (70 : Int32).toInt = 70 := by decide
            have l97 : (97 : Int32).toInt = 97 := by decide
            refine ⟨?_, N0, rfl⟩
            show some (Value.int _) = some (Value.int (own_hx p1))
            unfold own_hx
            rw [if_neg (by omega), if_neg (by omega), if_neg (by omega)]
          · skip
            refine own_of (fun tgt kon => XS.icmpNo X0.here hx rfl (hb hby d2_40) rfl (flt hc40).1 kon) ?_
            show own_Wp _ _ _ _ (s₁.setTop (mkF m 43 #[.val (.int p1)] []))
            refine own_of (fun tgt kon => XS.iloadN X0.here hx rfl (hb hby d2_43) rfl kon) ?_
            show own_Wp _ _ _ _ (s₁.setTop (mkF m 44 #[.val (.int p1)] [(.int p1)]))
            refine own_of (fun tgt kon => XS.bipush X0.here hx rfl (hb hby d2_44) kon) ?_
            show own_Wp _ _ _ _ (s₁.setTop (mkF m 46 #[.val (.int p1)] [(.int (102 : Int32)), (.int p1)]))
            by_cases hc46 : (102 : Int32) < p1
            · skip
              refine own_of (fun tgt kon => XS.icmpYes X0.here hx rfl (pc0 := 46) (pc' := 57) rfl (hb hby d2_46) rfl (tlt hc46).2.2.1 (by decide) (by decide) kon) ?_
              show own_Wp _ _ _ _ (s₁.setTop (mkF m 57 #[.val (.int p1)] []))
              refine own_of (fun tgt kon => XS.iconst X0.here hx rfl (hb hby d2_57) kon) ?_
              show own_Wp _ _ _ _ (s₁.setTop (mkF m 58 #[.val (.int p1)] [(.int (-1 : Int32))]))
              refine own_ret X0 hlk (some (.int (-1 : Int32))) (own_rtI hrt) (fun fs hr => own_retI X0 hx hrt (hb hby d2_58) hr) ?_ (by decide) (by decide)
              rw [e0]
              have q3 := hc3; rw [Int32.lt_iff_toInt_lt] at q3
              have q9 := hc9; rw [Int32.lt_iff_toInt_lt] at q9
              have q20 := hc20; rw [Int32.lt_iff_toInt_lt] at q20
              have q26 := hc26; rw [Int32.lt_iff_toInt_lt] at q26
              have q40 := hc40; rw [Int32.lt_iff_toInt_lt] at q40
              have q46 := hc46; rw [Int32.lt_iff_toInt_lt] at q46
              have l48 : (48 : Int32).toInt = 48 := by decide
              have l57 : (57 : Int32).toInt = 57 := by decide
              have l65 : (65 : Int32).toInt = 65 := by decide
              have l70 : (70 : Int32).toInt = 70 := by decide
              have l97 : (97 : Int32).toInt = 97 := by decide
              have l102 : (102 : Int32).toInt = 102 := by decide
              refine ⟨?_, N0, rfl⟩
              show some (Value.int _) = some (Value.int (own_hx p1))
              unfold own_hx
              rw [if_neg (by omega), if_neg (by omega), if_neg (by omega)]
            · skip
              refine own_of (fun tgt kon => XS.icmpNo X0.here hx rfl (hb hby d2_46) rfl (flt hc46).2.2.1 kon) ?_
              show own_Wp _ _ _ _ (s₁.setTop (mkF m 49 #[.val (.int p1)] []))
              refine own_of (fun tgt kon => XS.iloadN X0.here hx rfl (hb hby d2_49) rfl kon) ?_
              show own_Wp _ _ _ _ (s₁.setTop (mkF m 50 #[.val (.int p1)] [(.int p1)]))
              refine own_of (fun tgt kon => XS.bipush X0.here hx rfl (hb hby d2_50) kon) ?_
              show own_Wp _ _ _ _ (s₁.setTop (mkF m 52 #[.val (.int p1)] [(.int (97 : Int32)), (.int p1)]))
              refine own_of (fun tgt kon => XS.isub X0.here hx rfl (hb hby d2_52) rfl kon) ?_
              show own_Wp _ _ _ _ (s₁.setTop (mkF m 53 #[.val (.int p1)] [(.int (p1 - (97 : Int32)))]))
              refine own_of (fun tgt kon => XS.bipush X0.here hx rfl (hb hby d2_53) kon) ?_
              show own_Wp _ _ _ _ (s₁.setTop (mkF m 55 #[.val (.int p1)] [(.int (10 : Int32)), (.int (p1 - (97 : Int32)))]))
              refine own_of (fun tgt kon => XS.iadd X0.here hx rfl (hb hby d2_55) rfl kon) ?_
              show own_Wp _ _ _ _ (s₁.setTop (mkF m 56 #[.val (.int p1)] [(.int ((p1 - (97 : Int32)) + (10 : Int32)))]))
              refine own_ret X0 hlk (some (.int ((p1 - (97 : Int32)) + (10 : Int32)))) (own_rtI hrt) (fun fs hr => own_retI X0 hx hrt (hb hby d2_56) hr) ?_ (by decide) (by decide)
              rw [e0]
              have q3 := hc3; rw [Int32.lt_iff_toInt_lt] at q3
              have q9 := hc9; rw [Int32.lt_iff_toInt_lt] at q9
              have q20 := hc20; rw [Int32.lt_iff_toInt_lt] at q20
              have q26 := hc26; rw [Int32.lt_iff_toInt_lt] at q26
              have q40 := hc40; rw [Int32.lt_iff_toInt_lt] at q40
              have q46 := hc46; rw [Int32.lt_iff_toInt_lt] at q46
              have l48 : (48 : Int32).toInt = 48 := by decide
              have l57 : (57 : Int32).toInt = 57 := by decide
              have l65 : (65 : Int32).toInt = 65 := by decide
              have l70 : (70 : Int32).toInt = 70 := by decide
              have l97 : (97 : Int32).toInt = 97 := by decide
              have l102 : (102 : Int32).toInt = 102 := by decide
              refine ⟨?_, N0, rfl⟩
              show some (Value.int _) = some (Value.int (own_hx p1))
              unfold own_hx
              rw [if_neg (by omega), if_neg (by omega), if_pos (by omega)]
        · skip
          refine own_of (fun tgt kon => XS.icmpNo X0.here hx rfl (hb hby d2_26) rfl (flt hc26).2.2.1 kon) ?_
          show own_Wp _ _ _ _ (s₁.setTop (mkF m 29 #[.val (.int p1)] []))
          refine own_of (fun tgt kon => XS.iloadN X0.here hx rfl (hb hby d2_29) rfl kon) ?_
          show own_Wp _ _ _ _ (s₁.setTop (mkF m 30 #[.val (.int p1)] [(.int p1)]))
          refine own_of (fun tgt kon => XS.bipush X0.here hx rfl (hb hby d2_30) kon) ?_
          show own_Wp _ _ _ _ (s₁.setTop (mkF m 32 #[.val (.int p1)] [(.int (65 : Int32)), (.int p1)]))
          refine own_of (fun tgt kon => XS.isub X0.here hx rfl (hb hby d2_32) rfl kon) ?_
          show own_Wp _ _ _ _ (s₁.setTop (mkF m 33 #[.val (.int p1)] [(.int (p1 - (65 : Int32)))]))
          refine own_of (fun tgt kon => XS.bipush X0.here hx rfl (hb hby d2_33) kon) ?_
          show own_Wp _ _ _ _ (s₁.setTop (mkF m 35 #[.val (.int p1)] [(.int (10 : Int32)), (.int (p1 - (65 : Int32)))]))
          refine own_of (fun tgt kon => XS.iadd X0.here hx rfl (hb hby d2_35) rfl kon) ?_
          show own_Wp _ _ _ _ (s₁.setTop (mkF m 36 #[.val (.int p1)] [(.int ((p1 - (65 : Int32)) + (10 : Int32)))]))
          refine own_ret X0 hlk (some (.int ((p1 - (65 : Int32)) + (10 : Int32)))) (own_rtI hrt) (fun fs hr => own_retI X0 hx hrt (hb hby d2_36) hr) ?_ (by decide) (by decide)
          rw [e0]
          have q3 := hc3; rw [Int32.lt_iff_toInt_lt] at q3
          have q9 := hc9; rw [Int32.lt_iff_toInt_lt] at q9
          have q20 := hc20; rw [Int32.lt_iff_toInt_lt] at q20
          have q26 := hc26; rw [Int32.lt_iff_toInt_lt] at q26
          have l48 : (48 : Int32).toInt = 48 := by decide
          have l57 : (57 : Int32).toInt = 57 := by decide
          have l65 : (65 : Int32).toInt = 65 := by decide
          have l70 : (70 : Int32).toInt = 70 := by decide
          refine ⟨?_, N0, rfl⟩
          show some (Value.int _) = some (Value.int (own_hx p1))
          unfold own_hx
          rw [if_neg (by omega), if_pos (by omega)]
    · skip
      refine own_of (fun tgt kon => XS.icmpNo X0.here hx rfl (hb hby d2_9) rfl (flt hc9).2.2.1 kon) ?_
      show own_Wp _ _ _ _ (s₁.setTop (mkF m 12 #[.val (.int p1)] []))
      refine own_of (fun tgt kon => XS.iloadN X0.here hx rfl (hb hby d2_12) rfl kon) ?_
      show own_Wp _ _ _ _ (s₁.setTop (mkF m 13 #[.val (.int p1)] [(.int p1)]))
      refine own_of (fun tgt kon => XS.bipush X0.here hx rfl (hb hby d2_13) kon) ?_
      show own_Wp _ _ _ _ (s₁.setTop (mkF m 15 #[.val (.int p1)] [(.int (48 : Int32)), (.int p1)]))
      refine own_of (fun tgt kon => XS.isub X0.here hx rfl (hb hby d2_15) rfl kon) ?_
      show own_Wp _ _ _ _ (s₁.setTop (mkF m 16 #[.val (.int p1)] [(.int (p1 - (48 : Int32)))]))
      refine own_ret X0 hlk (some (.int (p1 - (48 : Int32)))) (own_rtI hrt) (fun fs hr => own_retI X0 hx hrt (hb hby d2_16) hr) ?_ (by decide) (by decide)
      rw [e0]
      have q3 := hc3; rw [Int32.lt_iff_toInt_lt] at q3
      have q9 := hc9; rw [Int32.lt_iff_toInt_lt] at q9
      have l48 : (48 : Int32).toInt = 48 := by decide
      have l57 : (57 : Int32).toInt = 57 := by decide
      refine ⟨?_, N0, rfl⟩
      show some (Value.int _) = some (Value.int (own_hx p1))
      unfold own_hx
      rw [if_pos (by omega)]
theorem own_pn1 : plainName "com/example/superlink/superlink/PercentDecoding" = true := by first | (simp [plainName, overriddenIn]; done) | decide +kernel
theorem d1_0 : decode prog_39_method_4_code 0 = .ok (.iload_n 1, 1) := by decide +kernel
theorem d1_1 : decode prog_39_method_4_code 1 = .ok (.iconst 2, 1) := by decide +kernel
theorem d1_2 : decode prog_39_method_4_code 2 = .ok (.iadd, 1) := by decide +kernel
theorem d1_3 : decode prog_39_method_4_code 3 = .ok (.iload_n 2, 1) := by decide +kernel
theorem d1_4 : decode prog_39_method_4_code 4 = .ok (.if_icmp .lt 5, 3) := by decide +kernel
theorem d1_9 : decode prog_39_method_4_code 9 = .ok (.getstatic 19, 3) := by decide +kernel
theorem d1_12 : decode prog_39_method_4_code 12 = .ok (.aload_n 0, 1) := by decide +kernel
theorem d1_13 : decode prog_39_method_4_code 13 = .ok (.iload_n 1, 1) := by decide +kernel
theorem d1_14 : decode prog_39_method_4_code 14 = .ok (.iconst 1, 1) := by decide +kernel
theorem d1_15 : decode prog_39_method_4_code 15 = .ok (.iadd, 1) := by decide +kernel
theorem d1_16 : decode prog_39_method_4_code 16 = .ok (.baload, 1) := by decide +kernel
theorem d1_17 : decode prog_39_method_4_code 17 = .ok (.sipush 255, 3) := by decide +kernel
theorem d1_20 : decode prog_39_method_4_code 20 = .ok (.iand, 1) := by decide +kernel
theorem d1_21 : decode prog_39_method_4_code 21 = .ok (.iaload, 1) := by decide +kernel
theorem d1_22 : decode prog_39_method_4_code 22 = .ok (.iconst 4, 1) := by decide +kernel
theorem d1_23 : decode prog_39_method_4_code 23 = .ok (.ishl, 1) := by decide +kernel
theorem d1_24 : decode prog_39_method_4_code 24 = .ok (.getstatic 19, 3) := by decide +kernel
theorem d1_27 : decode prog_39_method_4_code 27 = .ok (.aload_n 0, 1) := by decide +kernel
theorem d1_28 : decode prog_39_method_4_code 28 = .ok (.iload_n 1, 1) := by decide +kernel
theorem d1_29 : decode prog_39_method_4_code 29 = .ok (.iconst 2, 1) := by decide +kernel
theorem d1_30 : decode prog_39_method_4_code 30 = .ok (.iadd, 1) := by decide +kernel
theorem d1_31 : decode prog_39_method_4_code 31 = .ok (.baload, 1) := by decide +kernel
theorem d1_32 : decode prog_39_method_4_code 32 = .ok (.sipush 255, 3) := by decide +kernel
theorem d1_35 : decode prog_39_method_4_code 35 = .ok (.iand, 1) := by decide +kernel
theorem d1_36 : decode prog_39_method_4_code 36 = .ok (.iaload, 1) := by decide +kernel
theorem d1_37 : decode prog_39_method_4_code 37 = .ok (.ior, 1) := by decide +kernel
theorem d1_38 : decode prog_39_method_4_code 38 = .ok (.istore_n 3, 1) := by decide +kernel
theorem d1_39 : decode prog_39_method_4_code 39 = .ok (.iload_n 3, 1) := by decide +kernel
theorem d1_40 : decode prog_39_method_4_code 40 = .ok (.ifCond .ge 7, 3) := by decide +kernel
theorem d1_43 : decode prog_39_method_4_code 43 = .ok (.iconst (-1), 1) := by decide +kernel
theorem d1_44 : decode prog_39_method_4_code 44 = .ok (.goto 4, 3) := by decide +kernel
theorem d1_48 : decode prog_39_method_4_code 48 = .ok (.ireturn, 1) := by decide +kernel
theorem d1_47 : decode prog_39_method_4_code 47 = .ok (.iload_n 3, 1) := by decide +kernel
theorem d1_7 : decode prog_39_method_4_code 7 = .ok (.iconst (-1), 1) := by decide +kernel
theorem d1_8 : decode prog_39_method_4_code 8 = .ok (.ireturn, 1) := by decide +kernel
def Q_rm1 (Z : State) (a1 : Addr) (p2 : Int32) (p3 : Int32) (a4 : Addr) (gq : Nat → Int32) (i : Nat) (h0 : Heap) (n0 : Nat) (v : Option Value) (h : Heap) (L : List Loc) : Prop := v = some (.int (if (p2 + (2 : Int32)) < p3 then own_comb (own_hx (gq (i + 1) &&& 255)) (own_hx (gq (i + 2) &&& 255)) else -1)) ∧ Fr n0 L ∧ h = h0
set_option maxRecDepth 65536 in
set_option maxHeartbeats 40000000 in
theorem rm1 (l : Launch) (Z : State) (a0 : Array Value) (hw : ∀ d ∈ tables_1, d.before a0 Z = true) (ws : List Jvm.Cond) (a1 : Addr) (p2 : Int32) (p3 : Int32) (a4 : Addr) (gq : Nat → Int32) (i : Nat) (h0 : Heap) (n0 : Nat) (Z0 : n0 ≤ h0.size) (V_t : own_Ar Z h0 a1 .byte 4 (fun k => .int (gq k))) (S_HEX : Sta Z h0 "com/example/superlink/superlink/PercentDecoding" "HEX" "[I" (.ref a4)) (A_HEX : own_Ar Z h0 a4 .int 256 (fun k => .int (own_hex k))) (hq : p2.toInt = (i : Int)) (hi1 : i ≤ 1) :
    own_Ctr l Z (⟨"com/example/superlink/superlink/PercentDecoding", "escapedByte", "([BII)I"⟩ : MethodName) prog_39_method_4_code 4 (some .int) ws ({ frames := 0, cells := 0, slots := 0, locals := 0 } : Room) #[(.ref a1), (.int p2), (.int p3)] h0 (Q_rm1 Z a1 p2 p3 a4 gq i h0 n0) := by
  refine own_enter (plainFor_of_name own_pn1) ?_
  intro p e s m below meth c s₁ X0 hx hby hml hrt hlk hZ hown hnm e0
  have N0 := Fr.nil n0
  have Zs := Z0
  rw [show entryFrame m #[(.ref a1), (.int p2), (.int p3)] 4 = mkF m 0 #[.val (.ref a1), .val (.int p2), .val (.int p3), .unset] [] from by first | (simp [entryFrame, mkF, argsToLocals, Value.category]; done) | rfl]
  show own_Wp _ _ _ _ (s₁.setTop (mkF m 0 #[.val (.ref a1), .val (.int p2), .val (.int p3), .unset] []))
  refine own_of (fun tgt kon => XS.iloadN X0.here hx rfl (hb hby d1_0) rfl kon) ?_
  show own_Wp _ _ _ _ (s₁.setTop (mkF m 1 #[.val (.ref a1), .val (.int p2), .val (.int p3), .unset] [(.int p2)]))
  refine own_of (fun tgt kon => XS.iconst X0.here hx rfl (hb hby d1_1) kon) ?_
  show own_Wp _ _ _ _ (s₁.setTop (mkF m 2 #[.val (.ref a1), .val (.int p2), .val (.int p3), .unset] [(.int (2 : Int32)), (.int p2)]))
  refine own_of (fun tgt kon => XS.iadd X0.here hx rfl (hb hby d1_2) rfl kon) ?_
  show own_Wp _ _ _ _ (s₁.setTop (mkF m 3 #[.val (.ref a1), .val (.int p2), .val (.int p3), .unset] [(.int (p2 + (2 : Int32)))]))
  refine own_of (fun tgt kon => XS.iloadN X0.here hx rfl (hb hby d1_3) rfl kon) ?_
  show own_Wp _ _ _ _ (s₁.setTop (mkF m 4 #[.val (.ref a1), .val (.int p2), .val (.int p3), .unset] [(.int p3), (.int (p2 + (2 : Int32)))]))
  by_cases hc4 : (p2 + (2 : Int32)) < p3
  · skip
    refine own_of (fun tgt kon => XS.icmpYes X0.here hx rfl (pc0 := 4) (pc' := 9) rfl (hb hby d1_4) rfl (tlt hc4).1 (by decide) (by decide) kon) ?_
    show own_Wp _ _ _ _ (s₁.setTop (mkF m 9 #[.val (.ref a1), .val (.int p2), .val (.int p3), .unset] []))
    obtain ⟨T1, X1, e1, st1⟩ := getS2 X0 hx hZ hown (host := "") (Or.inl (hw _ (List.mem_of_getElem? (i := 6) rfl))) Via.refl e0 S_HEX (g := (mkF m 9 #[.val (.ref a1), .val (.int p2), .val (.int p3), .unset] [])) rfl (hb hby d1_9)
    refine own_of st1 ?_
    show own_Wp _ _ _ _ (T1.setTop (mkF m 12 #[.val (.ref a1), .val (.int p2), .val (.int p3), .unset] [(.ref a4)]))
    refine own_of (fun tgt kon => XS.aloadN X1.here hx rfl (hb hby d1_12) rfl rfl kon) ?_
    show own_Wp _ _ _ _ (T1.setTop (mkF m 13 #[.val (.ref a1), .val (.int p2), .val (.int p3), .unset] [(.ref a1), (.ref a4)]))
    refine own_of (fun tgt kon => XS.iloadN X1.here hx rfl (hb hby d1_13) rfl kon) ?_
    show own_Wp _ _ _ _ (T1.setTop (mkF m 14 #[.val (.ref a1), .val (.int p2), .val (.int p3), .unset] [(.int p2), (.ref a1), (.ref a4)]))
    refine own_of (fun tgt kon => XS.iconst X1.here hx rfl (hb hby d1_14) kon) ?_
    show own_Wp _ _ _ _ (T1.setTop (mkF m 15 #[.val (.ref a1), .val (.int p2), .val (.int p3), .unset] [(.int (1 : Int32)), (.int p2), (.ref a1), (.ref a4)]))
    refine own_of (fun tgt kon => XS.iadd X1.here hx rfl (hb hby d1_15) rfl kon) ?_
    show own_Wp _ _ _ _ (T1.setTop (mkF m 16 #[.val (.ref a1), .val (.int p2), .val (.int p3), .unset] [(.int (p2 + (1 : Int32))), (.ref a1), (.ref a4)]))
    refine own_baload X1 hx hZ e1 V_t (j := (p2 + (1 : Int32))) (i := (i + 1)) (v := (gq (i + 1))) (own_addk hq (by decide) (by omega)) (by omega) rfl (g := (mkF m 16 #[.val (.ref a1), .val (.int p2), .val (.int p3), .unset] [(.int (p2 + (1 : Int32))), (.ref a1), (.ref a4)])) rfl rfl (hb hby d1_16) ?_
    show own_Wp _ _ _ _ (T1.setTop (mkF m 17 #[.val (.ref a1), .val (.int p2), .val (.int p3), .unset] [(.int (gq (i + 1))), (.ref a4)]))
    refine own_of (fun tgt kon => XS.sipush X1.here hx rfl (hb hby d1_17) kon) ?_
    show own_Wp _ _ _ _ (T1.setTop (mkF m 20 #[.val (.ref a1), .val (.int p2), .val (.int p3), .unset] [(.int (255 : Int32)), (.int (gq (i + 1))), (.ref a4)]))
    refine own_of (fun tgt kon => XS.iand X1.here hx rfl (hb hby d1_20) rfl kon) ?_
    show own_Wp _ _ _ _ (T1.setTop (mkF m 21 #[.val (.ref a1), .val (.int p2), .val (.int p3), .unset] [(.int ((gq (i + 1)) &&& (255 : Int32))), (.ref a4)]))
    refine own_iaload X1 hx hZ e1 A_HEX (j := ((gq (i + 1)) &&& (255 : Int32))) (i := ((gq (i + 1)) &&& 255).toNatClampNeg) (v := (own_hx ((gq (i + 1)) &&& 255))) (nat_of (own_b255 (gq (i + 1))).2) (own_b255 (gq (i + 1))).1 (congrArg Value.int (own_hexhx (gq (i + 1))).1) (g := (mkF m 21 #[.val (.ref a1), .val (.int p2), .val (.int p3), .unset] [(.int ((gq (i + 1)) &&& (255 : Int32))), (.ref a4)])) rfl rfl (hb hby d1_21) ?_
    show own_Wp _ _ _ _ (T1.setTop (mkF m 22 #[.val (.ref a1), .val (.int p2), .val (.int p3), .unset] [(.int (own_hx ((gq (i + 1)) &&& 255)))]))
    refine own_of (fun tgt kon => XS.iconst X1.here hx rfl (hb hby d1_22) kon) ?_
    show own_Wp _ _ _ _ (T1.setTop (mkF m 23 #[.val (.ref a1), .val (.int p2), .val (.int p3), .unset] [(.int (4 : Int32)), (.int (own_hx ((gq (i + 1)) &&& 255)))]))
    refine own_of (fun tgt kon => XS.ishl X1.here hx rfl (hb hby d1_23) rfl kon) ?_
    show own_Wp _ _ _ _ (T1.setTop (mkF m 24 #[.val (.ref a1), .val (.int p2), .val (.int p3), .unset] [(.int ((own_hx ((gq (i + 1)) &&& 255)) <<< ((4 : Int32) &&& 31)))]))
    obtain ⟨T2, X2, e2, st2⟩ := getS2 X1 hx hZ hown (host := "") (Or.inl (hw _ (List.mem_of_getElem? (i := 6) rfl))) Via.refl e1 S_HEX (g := (mkF m 24 #[.val (.ref a1), .val (.int p2), .val (.int p3), .unset] [(.int ((own_hx ((gq (i + 1)) &&& 255)) <<< ((4 : Int32) &&& 31)))])) rfl (hb hby d1_24)
    refine own_of st2 ?_
    show own_Wp _ _ _ _ (T2.setTop (mkF m 27 #[.val (.ref a1), .val (.int p2), .val (.int p3), .unset] [(.ref a4), (.int ((own_hx ((gq (i + 1)) &&& 255)) <<< ((4 : Int32) &&& 31)))]))
    refine own_of (fun tgt kon => XS.aloadN X2.here hx rfl (hb hby d1_27) rfl rfl kon) ?_
    show own_Wp _ _ _ _ (T2.setTop (mkF m 28 #[.val (.ref a1), .val (.int p2), .val (.int p3), .unset] [(.ref a1), (.ref a4), (.int ((own_hx ((gq (i + 1)) &&& 255)) <<< ((4 : Int32) &&& 31)))]))
    refine own_of (fun tgt kon => XS.iloadN X2.here hx rfl (hb hby d1_28) rfl kon) ?_
    show own_Wp _ _ _ _ (T2.setTop (mkF m 29 #[.val (.ref a1), .val (.int p2), .val (.int p3), .unset] [(.int p2), (.ref a1), (.ref a4), (.int ((own_hx ((gq (i + 1)) &&& 255)) <<< ((4 : Int32) &&& 31)))]))
    refine own_of (fun tgt kon => XS.iconst X2.here hx rfl (hb hby d1_29) kon) ?_
    show own_Wp _ _ _ _ (T2.setTop (mkF m 30 #[.val (.ref a1), .val (.int p2), .val (.int p3), .unset] [(.int (2 : Int32)), (.int p2), (.ref a1), (.ref a4), (.int ((own_hx ((gq (i + 1)) &&& 255)) <<< ((4 : Int32) &&& 31)))]))
    refine own_of (fun tgt kon => XS.iadd X2.here hx rfl (hb hby d1_30) rfl kon) ?_
    show own_Wp _ _ _ _ (T2.setTop (mkF m 31 #[.val (.ref a1), .val (.int p2), .val (.int p3), .unset] [(.int (p2 + (2 : Int32))), (.ref a1), (.ref a4), (.int ((own_hx ((gq (i + 1)) &&& 255)) <<< ((4 : Int32) &&& 31)))]))
    refine own_baload X2 hx hZ e2 V_t (j := (p2 + (2 : Int32))) (i := (i + 2)) (v := (gq (i + 2))) (own_addk hq (by decide) (by omega)) (by omega) rfl (g := (mkF m 31 #[.val (.ref a1), .val (.int p2), .val (.int p3), .unset] [(.int (p2 + (2 : Int32))), (.ref a1), (.ref a4), (.int ((own_hx ((gq (i + 1)) &&& 255)) <<< ((4 : Int32) &&& 31)))])) rfl rfl (hb hby d1_31) ?_
    show own_Wp _ _ _ _ (T2.setTop (mkF m 32 #[.val (.ref a1), .val (.int p2), .val (.int p3), .unset] [(.int (gq (i + 2))), (.ref a4), (.int ((own_hx ((gq (i + 1)) &&& 255)) <<< ((4 : Int32) &&& 31)))]))
    refine own_of (fun tgt kon => XS.sipush X2.here hx rfl (hb hby d1_32) kon) ?_
    show own_Wp _ _ _ _ (T2.setTop (mkF m 35 #[.val (.ref a1), .val (.int p2), .val (.int p3), .unset] [(.int (255 : Int32)), (.int (gq (i + 2))), (.ref a4), (.int ((own_hx ((gq (i + 1)) &&& 255)) <<< ((4 : Int32) &&& 31)))]))
    refine own_of (fun tgt kon => XS.iand X2.here hx rfl (hb hby d1_35) rfl kon) ?_
    show own_Wp _ _ _ _ (T2.setTop (mkF m 36 #[.val (.ref a1), .val (.int p2), .val (.int p3), .unset] [(.int ((gq (i + 2)) &&& (255 : Int32))), (.ref a4), (.int ((own_hx ((gq (i + 1)) &&& 255)) <<< ((4 : Int32) &&& 31)))]))
    refine own_iaload X2 hx hZ e2 A_HEX (j := ((gq (i + 2)) &&& (255 : Int32))) (i := ((gq (i + 2)) &&& 255).toNatClampNeg) (v := (own_hx ((gq (i + 2)) &&& 255))) (nat_of (own_b255 (gq (i + 2))).2) (own_b255 (gq (i + 2))).1 (congrArg Value.int (own_hexhx (gq (i + 2))).1) (g := (mkF m 36 #[.val (.ref a1), .val (.int p2), .val (.int p3), .unset] [(.int ((gq (i + 2)) &&& (255 : Int32))), (.ref a4), (.int ((own_hx ((gq (i + 1)) &&& 255)) <<< ((4 : Int32) &&& 31)))])) rfl rfl (hb hby d1_36) ?_
    show own_Wp _ _ _ _ (T2.setTop (mkF m 37 #[.val (.ref a1), .val (.int p2), .val (.int p3), .unset] [(.int (own_hx ((gq (i + 2)) &&& 255))), (.int ((own_hx ((gq (i + 1)) &&& 255)) <<< ((4 : Int32) &&& 31)))]))
    refine own_of (fun tgt kon => XS.ior X2.here hx rfl (hb hby d1_37) rfl kon) ?_
    show own_Wp _ _ _ _ (T2.setTop (mkF m 38 #[.val (.ref a1), .val (.int p2), .val (.int p3), .unset] [(.int (((own_hx ((gq (i + 1)) &&& 255)) <<< ((4 : Int32) &&& 31)) ||| (own_hx ((gq (i + 2)) &&& 255))))]))
    obtain ⟨r, h_r⟩ : ∃ q : Int32, q = (((own_hx ((gq (i + 1)) &&& 255)) <<< ((4 : Int32) &&& 31)) ||| (own_hx ((gq (i + 2)) &&& 255))) := ⟨_, rfl⟩
    rw [← h_r]
    refine own_of (fun tgt kon => XS.istoreN X2.here hx rfl (hb hby d1_38) rfl (l' := #[.val (.ref a1), .val (.int p2), .val (.int p3), .val (.int r)]) rfl kon) ?_
    show own_Wp _ _ _ _ (T2.setTop (mkF m 39 #[.val (.ref a1), .val (.int p2), .val (.int p3), .val (.int r)] []))
    refine own_of (fun tgt kon => XS.iloadN X2.here hx rfl (hb hby d1_39) rfl kon) ?_
    show own_Wp _ _ _ _ (T2.setTop (mkF m 40 #[.val (.ref a1), .val (.int p2), .val (.int p3), .val (.int r)] [(.int r)]))
    by_cases hc40 : r < (0 : Int32)
    · skip
      refine own_of (fun tgt kon => XS.ifNo X2.here hx rfl (hb hby d1_40) rfl ((if0 _ _).trans (tlt hc40).2.1) kon) ?_
      show own_Wp _ _ _ _ (T2.setTop (mkF m 43 #[.val (.ref a1), .val (.int p2), .val (.int p3), .val (.int r)] []))
      refine own_of (fun tgt kon => XS.iconst X2.here hx rfl (hb hby d1_43) kon) ?_
      show own_Wp _ _ _ _ (T2.setTop (mkF m 44 #[.val (.ref a1), .val (.int p2), .val (.int p3), .val (.int r)] [(.int (-1 : Int32))]))
      refine own_of (fun tgt kon => XS.goto X2.here hx rfl (pc0 := 44) (pc' := 48) rfl (hb hby d1_44) (by decide) (by decide) kon) ?_
      show own_Wp _ _ _ _ (T2.setTop (mkF m 48 #[.val (.ref a1), .val (.int p2), .val (.int p3), .val (.int r)] [(.int (-1 : Int32))]))
      refine own_ret X2 hlk (some (.int (-1 : Int32))) (own_rtI hrt) (fun fs hr => own_retI X2 hx hrt (hb hby d1_48) hr) ?_ (by decide) (by decide)
      rw [e2]
      refine ⟨?_, N0, rfl⟩
      rw [if_pos hc4]
      unfold own_comb
      rw [← h_r]
      first | rw [if_pos hc40] | rw [if_neg hc40]
    · skip
      refine own_of (fun tgt kon => XS.ifYes X2.here hx rfl (pc0 := 40) (pc' := 47) rfl (hb hby d1_40) rfl ((if0 _ _).trans (flt hc40).2.1) (by decide) (by decide) kon) ?_
      show own_Wp _ _ _ _ (T2.setTop (mkF m 47 #[.val (.ref a1), .val (.int p2), .val (.int p3), .val (.int r)] []))
      refine own_of (fun tgt kon => XS.iloadN X2.here hx rfl (hb hby d1_47) rfl kon) ?_
      show own_Wp _ _ _ _ (T2.setTop (mkF m 48 #[.val (.ref a1), .val (.int p2), .val (.int p3), .val (.int r)] [(.int r)]))
      refine own_ret X2 hlk (some (.int r)) (own_rtI hrt) (fun fs hr => own_retI X2 hx hrt (hb hby d1_48) hr) ?_ (by decide) (by decide)
      rw [e2]
      refine ⟨?_, N0, rfl⟩
      rw [if_pos hc4]
      unfold own_comb
      rw [← h_r]
      first | rw [if_pos hc40] | rw [if_neg hc40]
  · skip
    refine own_of (fun tgt kon => XS.icmpNo X0.here hx rfl (hb hby d1_4) rfl (flt hc4).1 kon) ?_
    show own_Wp _ _ _ _ (s₁.setTop (mkF m 7 #[.val (.ref a1), .val (.int p2), .val (.int p3), .unset] []))
    refine own_of (fun tgt kon => XS.iconst X0.here hx rfl (hb hby d1_7) kon) ?_
    show own_Wp _ _ _ _ (s₁.setTop (mkF m 8 #[.val (.ref a1), .val (.int p2), .val (.int p3), .unset] [(.int (-1 : Int32))]))
    refine own_ret X0 hlk (some (.int (-1 : Int32))) (own_rtI hrt) (fun fs hr => own_retI X0 hx hrt (hb hby d1_8) hr) ?_ (by decide) (by decide)
    rw [e0]
    exact ⟨by rw [if_neg hc4], N0, rfl⟩
theorem own_pd0 : parseMethodDescriptor "([BII)I" = some ⟨[(.array .byte), .int, .int], some .int⟩ := by decide +kernel
theorem own_pd1 : parseMethodDescriptor "(I)I" = some ⟨[.int], some .int⟩ := by decide +kernel
def Q_rm0 (Z : State) (p1 : Int32) (p2 : Int32) (p3 : Int32) (p4 : Int32) (p5 : Int32) (p6 : Int32) (a4 : Addr) (h0 : Heap) (n0 : Nat) (v : Option Value) (h : Heap) (L : List Loc) : Prop := v = some (.int 1) ∧ Fr n0 L
set_option maxRecDepth 65536 in
set_option maxHeartbeats 40000000 in
theorem rm0 (l : Launch) (Z : State) (a0 : Array Value) (hw : ∀ d ∈ tables_1, d.before a0 Z = true) (ws : List Jvm.Cond) (p1 : Int32) (p2 : Int32) (p3 : Int32) (p4 : Int32) (p5 : Int32) (p6 : Int32) (a4 : Addr) (h0 : Heap) (n0 : Nat) (Z0 : n0 ≤ h0.size) (S_HEX : Sta Z Z.heap "com/example/superlink/superlink/PercentDecoding" "HEX" "[I" (.ref a4)) (A_HEX : own_Ar Z h0 a4 .int 256 (fun k => .int (own_hex k))) (O : Old Z n0 h0) :
    own_Ctr l Z x code maxLocals ret ws room_1 #[(.int p1), (.int p2), (.int p3), (.int p4), (.int p5), (.int p6)] h0 (Q_rm0 Z p1 p2 p3 p4 p5 p6 a4 h0 n0) := by
  refine own_enter (plainFor_of_name own_pn0) ?_
  intro p e s m below meth c s₁ X0 hx hby hml hrt hlk hZ hown hnm e0
  have N0 := Fr.nil n0
  have Zs := Z0
  rw [show entryFrame m #[(.int p1), (.int p2), (.int p3), (.int p4), (.int p5), (.int p6)] maxLocals = mkF m 0 #[.val (.int p1), .val (.int p2), .val (.int p3), .val (.int p4), .val (.int p5), .val (.int p6), .unset, .unset, .unset, .unset, .unset, .unset, .unset] [] from by first | (simp [entryFrame, mkF, argsToLocals, Value.category, maxLocals]; done) | rfl]
  show own_Wp _ _ _ _ (s₁.setTop (mkF m 0 #[.val (.int p1), .val (.int p2), .val (.int p3), .val (.int p4), .val (.int p5), .val (.int p6), .unset, .unset, .unset, .unset, .unset, .unset, .unset] []))
  refine own_of (fun tgt kon => XS.iconst X0.here hx rfl (hb hby at_0) kon) ?_
  show own_Wp _ _ _ _ (s₁.setTop (mkF m 1 #[.val (.int p1), .val (.int p2), .val (.int p3), .val (.int p4), .val (.int p5), .val (.int p6), .unset, .unset, .unset, .unset, .unset, .unset, .unset] [(.int (4 : Int32))]))
  obtain ⟨T1, h1, k1, X1, e1, E1, A1, st1⟩ := newP X0 hx hZ (hw _ (List.mem_of_getElem? (i := 0) rfl)) e0 (g := (mkF m 1 #[.val (.int p1), .val (.int p2), .val (.int p3), .val (.int p4), .val (.int p5), .val (.int p6), .unset, .unset, .unset, .unset, .unset, .unset, .unset] [(.int (4 : Int32))])) rfl (hb hby at_1) rfl (by decide) (cap := 4) (by decide) (by decide) (by decide) (by decide)
  refine own_of st1 ?_
  clear st1
  obtain ⟨b1, gq1⟩ : ∃ z, z = h0.size := ⟨_, rfl⟩
  rw [← gq1] at A1 ⊢
  have ne_a4_b1 : a4 ≠ b1 := Nat.ne_of_lt (Nat.lt_of_lt_of_le A_HEX.lt (Nat.le_of_eq gq1.symm))
  have g_b1 : n0 ≤ b1 := Nat.le_trans Zs (Nat.le_of_eq gq1.symm)
  have Zs := Nat.le_trans Zs E1.1
  have A_HEX := A_HEX.ext E1
  have O := O.ext E1
  have V_b1 : own_Ar Z h1 b1 .byte 4 (fun _ => (.int (0 : Int32))) := own_Ar.new A1 (by decide) rfl
  show own_Wp _ _ _ _ (T1.setTop (mkF m 3 #[.val (.int p1), .val (.int p2), .val (.int p3), .val (.int p4), .val (.int p5), .val (.int p6), .unset, .unset, .unset, .unset, .unset, .unset, .unset] [(.ref b1)]))
  refine own_of (fun tgt kon => XS.astore X1.here hx rfl (hb hby at_3) rfl rfl (l' := #[.val (.int p1), .val (.int p2), .val (.int p3), .val (.int p4), .val (.int p5), .val (.int p6), .val (.ref b1), .unset, .unset, .unset, .unset, .unset, .unset]) rfl kon) ?_
  show own_Wp _ _ _ _ (T1.setTop (mkF m 5 #[.val (.int p1), .val (.int p2), .val (.int p3), .val (.int p4), .val (.int p5), .val (.int p6), .val (.ref b1), .unset, .unset, .unset, .unset, .unset, .unset] []))
  refine own_of (fun tgt kon => XS.aload X1.here hx rfl (hb hby at_5) rfl rfl kon) ?_
  show own_Wp _ _ _ _ (T1.setTop (mkF m 7 #[.val (.int p1), .val (.int p2), .val (.int p3), .val (.int p4), .val (.int p5), .val (.int p6), .val (.ref b1), .unset, .unset, .unset, .unset, .unset, .unset] [(.ref b1)]))
  refine own_of (fun tgt kon => XS.iconst X1.here hx rfl (hb hby at_7) kon) ?_
  show own_Wp _ _ _ _ (T1.setTop (mkF m 8 #[.val (.int p1), .val (.int p2), .val (.int p3), .val (.int p4), .val (.int p5), .val (.int p6), .val (.ref b1), .unset, .unset, .unset, .unset, .unset, .unset] [(.int (0 : Int32)), (.ref b1)]))
  refine own_of (fun tgt kon => XS.iloadN X1.here hx rfl (hb hby at_8) rfl kon) ?_
  show own_Wp _ _ _ _ (T1.setTop (mkF m 9 #[.val (.int p1), .val (.int p2), .val (.int p3), .val (.int p4), .val (.int p5), .val (.int p6), .val (.ref b1), .unset, .unset, .unset, .unset, .unset, .unset] [(.int p3), (.int (0 : Int32)), (.ref b1)]))
  refine own_of (fun tgt kon => XS.i2b X1.here hx rfl (hb hby at_9) rfl kon) ?_
  show own_Wp _ _ _ _ (T1.setTop (mkF m 10 #[.val (.int p1), .val (.int p2), .val (.int p3), .val (.int p4), .val (.int p5), .val (.int p6), .val (.ref b1), .unset, .unset, .unset, .unset, .unset, .unset] [(.int (p3.toInt8.toInt32)), (.int (0 : Int32)), (.ref b1)]))
  obtain ⟨T2, h2, X2, e2, W2, Aq2, st2⟩ := own_stB X1 hx hZ e1 V_b1 (j := (0 : Int32)) (i := 0) (x := (p3.toInt8.toInt32)) (by decide) (by decide) (g := (mkF m 10 #[.val (.int p1), .val (.int p2), .val (.int p3), .val (.int p4), .val (.int p5), .val (.int p6), .val (.ref b1), .unset, .unset, .unset, .unset, .unset, .unset] [(.int (p3.toInt8.toInt32)), (.int (0 : Int32)), (.ref b1)])) rfl rfl (hb hby at_10)
  refine own_of st2 ?_
  have Zs := Nat.le_trans Zs (Keep.of_wr W2).1
  have A_HEX := A_HEX.other W2 ne_a4_b1
  have O := O.wr W2 g_b1
  have V_b1 := Aq2
  have N2 := Fr.snoc X2 N0 g_b1
  show own_Wp _ _ _ _ (T2.setTop (mkF m 11 #[.val (.int p1), .val (.int p2), .val (.int p3), .val (.int p4), .val (.int p5), .val (.int p6), .val (.ref b1), .unset, .unset, .unset, .unset, .unset, .unset] []))
  refine own_of (fun tgt kon => XS.aload X2.here hx rfl (hb hby at_11) rfl rfl kon) ?_
  show own_Wp _ _ _ _ (T2.setTop (mkF m 13 #[.val (.int p1), .val (.int p2), .val (.int p3), .val (.int p4), .val (.int p5), .val (.int p6), .val (.ref b1), .unset, .unset, .unset, .unset, .unset, .unset] [(.ref b1)]))
  refine own_of (fun tgt kon => XS.iconst X2.here hx rfl (hb hby at_13) kon) ?_
  show own_Wp _ _ _ _ (T2.setTop (mkF m 14 #[.val (.int p1), .val (.int p2), .val (.int p3), .val (.int p4), .val (.int p5), .val (.int p6), .val (.ref b1), .unset, .unset, .unset, .unset, .unset, .unset] [(.int (1 : Int32)), (.ref b1)]))
  refine own_of (fun tgt kon => XS.iloadN X2.here hx rfl (hb hby at_14) rfl kon) ?_
  show own_Wp _ _ _ _ (T2.setTop (mkF m 15 #[.val (.int p1), .val (.int p2), .val (.int p3), .val (.int p4), .val (.int p5), .val (.int p6), .val (.ref b1), .unset, .unset, .unset, .unset, .unset, .unset] [(.int p4), (.int (1 : Int32)), (.ref b1)]))
  refine own_of (fun tgt kon => XS.i2b X2.here hx rfl (hb hby at_15) rfl kon) ?_
  show own_Wp _ _ _ _ (T2.setTop (mkF m 16 #[.val (.int p1), .val (.int p2), .val (.int p3), .val (.int p4), .val (.int p5), .val (.int p6), .val (.ref b1), .unset, .unset, .unset, .unset, .unset, .unset] [(.int (p4.toInt8.toInt32)), (.int (1 : Int32)), (.ref b1)]))
  obtain ⟨T3, h3, X3, e3, W3, Aq3, st3⟩ := own_stB X2 hx hZ e2 V_b1 (j := (1 : Int32)) (i := 1) (x := (p4.toInt8.toInt32)) (by decide) (by decide) (g := (mkF m 16 #[.val (.int p1), .val (.int p2), .val (.int p3), .val (.int p4), .val (.int p5), .val (.int p6), .val (.ref b1), .unset, .unset, .unset, .unset, .unset, .unset] [(.int (p4.toInt8.toInt32)), (.int (1 : Int32)), (.ref b1)])) rfl rfl (hb hby at_16)
  refine own_of st3 ?_
  have Zs := Nat.le_trans Zs (Keep.of_wr W3).1
  have A_HEX := A_HEX.other W3 ne_a4_b1
  have O := O.wr W3 g_b1
  have V_b1 := Aq3
  have N3 := Fr.snoc X3 N2 g_b1
  show own_Wp _ _ _ _ (T3.setTop (mkF m 17 #[.val (.int p1), .val (.int p2), .val (.int p3), .val (.int p4), .val (.int p5), .val (.int p6), .val (.ref b1), .unset, .unset, .unset, .unset, .unset, .unset] []))
  refine own_of (fun tgt kon => XS.aload X3.here hx rfl (hb hby at_17) rfl rfl kon) ?_
  show own_Wp _ _ _ _ (T3.setTop (mkF m 19 #[.val (.int p1), .val (.int p2), .val (.int p3), .val (.int p4), .val (.int p5), .val (.int p6), .val (.ref b1), .unset, .unset, .unset, .unset, .unset, .unset] [(.ref b1)]))
  refine own_of (fun tgt kon => XS.iconst X3.here hx rfl (hb hby at_19) kon) ?_
  show own_Wp _ _ _ _ (T3.setTop (mkF m 20 #[.val (.int p1), .val (.int p2), .val (.int p3), .val (.int p4), .val (.int p5), .val (.int p6), .val (.ref b1), .unset, .unset, .unset, .unset, .unset, .unset] [(.int (2 : Int32)), (.ref b1)]))
  refine own_of (fun tgt kon => XS.iload X3.here hx rfl (hb hby at_20) rfl kon) ?_
  show own_Wp _ _ _ _ (T3.setTop (mkF m 22 #[.val (.int p1), .val (.int p2), .val (.int p3), .val (.int p4), .val (.int p5), .val (.int p6), .val (.ref b1), .unset, .unset, .unset, .unset, .unset, .unset] [(.int p5), (.int (2 : Int32)), (.ref b1)]))
  refine own_of (fun tgt kon => XS.i2b X3.here hx rfl (hb hby at_22) rfl kon) ?_
  show own_Wp _ _ _ _ (T3.setTop (mkF m 23 #[.val (.int p1), .val (.int p2), .val (.int p3), .val (.int p4), .val (.int p5), .val (.int p6), .val (.ref b1), .unset, .unset, .unset, .unset, .unset, .unset] [(.int (p5.toInt8.toInt32)), (.int (2 : Int32)), (.ref b1)]))
  obtain ⟨T4, h4, X4, e4, W4, Aq4, st4⟩ := own_stB X3 hx hZ e3 V_b1 (j := (2 : Int32)) (i := 2) (x := (p5.toInt8.toInt32)) (by decide) (by decide) (g := (mkF m 23 #[.val (.int p1), .val (.int p2), .val (.int p3), .val (.int p4), .val (.int p5), .val (.int p6), .val (.ref b1), .unset, .unset, .unset, .unset, .unset, .unset] [(.int (p5.toInt8.toInt32)), (.int (2 : Int32)), (.ref b1)])) rfl rfl (hb hby at_23)
  refine own_of st4 ?_
  have Zs := Nat.le_trans Zs (Keep.of_wr W4).1
  have A_HEX := A_HEX.other W4 ne_a4_b1
  have O := O.wr W4 g_b1
  have V_b1 := Aq4
  have N4 := Fr.snoc X4 N3 g_b1
  show own_Wp _ _ _ _ (T4.setTop (mkF m 24 #[.val (.int p1), .val (.int p2), .val (.int p3), .val (.int p4), .val (.int p5), .val (.int p6), .val (.ref b1), .unset, .unset, .unset, .unset, .unset, .unset] []))
  refine own_of (fun tgt kon => XS.aload X4.here hx rfl (hb hby at_24) rfl rfl kon) ?_
  show own_Wp _ _ _ _ (T4.setTop (mkF m 26 #[.val (.int p1), .val (.int p2), .val (.int p3), .val (.int p4), .val (.int p5), .val (.int p6), .val (.ref b1), .unset, .unset, .unset, .unset, .unset, .unset] [(.ref b1)]))
  refine own_of (fun tgt kon => XS.iconst X4.here hx rfl (hb hby at_26) kon) ?_
  show own_Wp _ _ _ _ (T4.setTop (mkF m 27 #[.val (.int p1), .val (.int p2), .val (.int p3), .val (.int p4), .val (.int p5), .val (.int p6), .val (.ref b1), .unset, .unset, .unset, .unset, .unset, .unset] [(.int (3 : Int32)), (.ref b1)]))
  refine own_of (fun tgt kon => XS.iload X4.here hx rfl (hb hby at_27) rfl kon) ?_
  show own_Wp _ _ _ _ (T4.setTop (mkF m 29 #[.val (.int p1), .val (.int p2), .val (.int p3), .val (.int p4), .val (.int p5), .val (.int p6), .val (.ref b1), .unset, .unset, .unset, .unset, .unset, .unset] [(.int p6), (.int (3 : Int32)), (.ref b1)]))
  refine own_of (fun tgt kon => XS.i2b X4.here hx rfl (hb hby at_29) rfl kon) ?_
  show own_Wp _ _ _ _ (T4.setTop (mkF m 30 #[.val (.int p1), .val (.int p2), .val (.int p3), .val (.int p4), .val (.int p5), .val (.int p6), .val (.ref b1), .unset, .unset, .unset, .unset, .unset, .unset] [(.int (p6.toInt8.toInt32)), (.int (3 : Int32)), (.ref b1)]))
  obtain ⟨T5, h5, X5, e5, W5, Aq5, st5⟩ := own_stB X4 hx hZ e4 V_b1 (j := (3 : Int32)) (i := 3) (x := (p6.toInt8.toInt32)) (by decide) (by decide) (g := (mkF m 30 #[.val (.int p1), .val (.int p2), .val (.int p3), .val (.int p4), .val (.int p5), .val (.int p6), .val (.ref b1), .unset, .unset, .unset, .unset, .unset, .unset] [(.int (p6.toInt8.toInt32)), (.int (3 : Int32)), (.ref b1)])) rfl rfl (hb hby at_30)
  refine own_of st5 ?_
  have Zs := Nat.le_trans Zs (Keep.of_wr W5).1
  have A_HEX := A_HEX.other W5 ne_a4_b1
  have O := O.wr W5 g_b1
  have V_b1 := Aq5
  have N5 := Fr.snoc X5 N4 g_b1
  show own_Wp _ _ _ _ (T5.setTop (mkF m 31 #[.val (.int p1), .val (.int p2), .val (.int p3), .val (.int p4), .val (.int p5), .val (.int p6), .val (.ref b1), .unset, .unset, .unset, .unset, .unset, .unset] []))
  obtain ⟨gq, hgq⟩ : ∃ gq : Nat → Int32, gq = fun k => match k with | 0 => p3.toInt8.toInt32.toInt8.toInt32 | 1 => p4.toInt8.toInt32.toInt8.toInt32 | 2 => p5.toInt8.toInt32.toInt8.toInt32 | _ => p6.toInt8.toInt32.toInt8.toInt32 := ⟨_, rfl⟩
  have V_b1 := V_b1.fn (f' := fun k => .int (gq k)) (by intro k hk; subst hgq; rcases k with _ | _ | _ | _ | k <;> first | rfl | omega)
  refine own_of (fun tgt kon => XS.iloadN X5.here hx rfl (hb hby at_31) rfl kon) ?_
  show own_Wp _ _ _ _ (T5.setTop (mkF m 32 #[.val (.int p1), .val (.int p2), .val (.int p3), .val (.int p4), .val (.int p5), .val (.int p6), .val (.ref b1), .unset, .unset, .unset, .unset, .unset, .unset] [(.int p1)]))
  refine own_of (fun tgt kon => XS.iconst X5.here hx rfl (hb hby at_32) kon) ?_
  show own_Wp _ _ _ _ (T5.setTop (mkF m 33 #[.val (.int p1), .val (.int p2), .val (.int p3), .val (.int p4), .val (.int p5), .val (.int p6), .val (.ref b1), .unset, .unset, .unset, .unset, .unset, .unset] [(.int (1 : Int32)), (.int p1)]))
  refine own_of (fun tgt kon => XS.iand X5.here hx rfl (hb hby at_33) rfl kon) ?_
  show own_Wp _ _ _ _ (T5.setTop (mkF m 34 #[.val (.int p1), .val (.int p2), .val (.int p3), .val (.int p4), .val (.int p5), .val (.int p6), .val (.ref b1), .unset, .unset, .unset, .unset, .unset, .unset] [(.int (p1 &&& (1 : Int32)))]))
  obtain ⟨pr, h_pr⟩ : ∃ q : Int32, q = (p1 &&& (1 : Int32)) := ⟨_, rfl⟩
  rw [← h_pr]
  refine own_of (fun tgt kon => XS.istore X5.here hx rfl (hb hby at_34) rfl (l' := #[.val (.int p1), .val (.int p2), .val (.int p3), .val (.int p4), .val (.int p5), .val (.int p6), .val (.ref b1), .val (.int pr), .unset, .unset, .unset, .unset, .unset]) rfl kon) ?_
  show own_Wp _ _ _ _ (T5.setTop (mkF m 36 #[.val (.int p1), .val (.int p2), .val (.int p3), .val (.int p4), .val (.int p5), .val (.int p6), .val (.ref b1), .val (.int pr), .unset, .unset, .unset, .unset, .unset] []))
  obtain ⟨i, hq, hi1⟩ : ∃ i : Nat, pr.toInt = (i : Int) ∧ i ≤ 1 := by
    have q := Jvm.Kit.i32_mask p1 1 (k := 1) (by decide) (by decide)
    rw [← h_pr] at q
    exact ⟨(p1.toInt % 2 ^ 1).toNat, by omega, by omega⟩
  refine own_of (fun tgt kon => XS.iloadN X5.here hx rfl (hb hby at_36) rfl kon) ?_
  show own_Wp _ _ _ _ (T5.setTop (mkF m 37 #[.val (.int p1), .val (.int p2), .val (.int p3), .val (.int p4), .val (.int p5), .val (.int p6), .val (.ref b1), .val (.int pr), .unset, .unset, .unset, .unset, .unset] [(.int p2)]))
  refine own_of (X5.ldcInt hx hown (mvT hZ (hw _ (List.mem_of_getElem? (i := 1) rfl))) (g := (mkF m 37 #[.val (.int p1), .val (.int p2), .val (.int p3), .val (.int p4), .val (.int p5), .val (.int p6), .val (.ref b1), .val (.int pr), .unset, .unset, .unset, .unset, .unset] [(.int p2)])) rfl (hb hby at_37)) ?_
  show own_Wp _ _ _ _ (T5.setTop (mkF m 39 #[.val (.int p1), .val (.int p2), .val (.int p3), .val (.int p4), .val (.int p5), .val (.int p6), .val (.ref b1), .val (.int pr), .unset, .unset, .unset, .unset, .unset] [(.int (2147483647 : Int32)), (.int p2)]))
  refine own_of (fun tgt kon => XS.iand X5.here hx rfl (hb hby at_39) rfl kon) ?_
  show own_Wp _ _ _ _ (T5.setTop (mkF m 40 #[.val (.int p1), .val (.int p2), .val (.int p3), .val (.int p4), .val (.int p5), .val (.int p6), .val (.ref b1), .val (.int pr), .unset, .unset, .unset, .unset, .unset] [(.int (p2 &&& (2147483647 : Int32)))]))
  refine own_of (fun tgt kon => XS.iconst X5.here hx rfl (hb hby at_40) kon) ?_
  show own_Wp _ _ _ _ (T5.setTop (mkF m 41 #[.val (.int p1), .val (.int p2), .val (.int p3), .val (.int p4), .val (.int p5), .val (.int p6), .val (.ref b1), .val (.int pr), .unset, .unset, .unset, .unset, .unset] [(.int (5 : Int32)), (.int (p2 &&& (2147483647 : Int32)))]))
  refine own_of (fun tgt kon => iremM X5 hx rfl (hb hby at_41) rfl (by decide) kon) ?_
  show own_Wp _ _ _ _ (T5.setTop (mkF m 42 #[.val (.int p1), .val (.int p2), .val (.int p3), .val (.int p4), .val (.int p5), .val (.int p6), .val (.ref b1), .val (.int pr), .unset, .unset, .unset, .unset, .unset] [(.int ((p2 &&& (2147483647 : Int32)) % (5 : Int32)))]))
  obtain ⟨tt, h_tt⟩ : ∃ q : Int32, q = ((p2 &&& (2147483647 : Int32)) % (5 : Int32)) := ⟨_, rfl⟩
  rw [← h_tt]
  refine own_of (fun tgt kon => XS.istore X5.here hx rfl (hb hby at_42) rfl (l' := #[.val (.int p1), .val (.int p2), .val (.int p3), .val (.int p4), .val (.int p5), .val (.int p6), .val (.ref b1), .val (.int pr), .val (.int tt), .unset, .unset, .unset, .unset]) rfl kon) ?_
  show own_Wp _ _ _ _ (T5.setTop (mkF m 44 #[.val (.int p1), .val (.int p2), .val (.int p3), .val (.int p4), .val (.int p5), .val (.int p6), .val (.ref b1), .val (.int pr), .val (.int tt), .unset, .unset, .unset, .unset] []))
  refine own_of (fun tgt kon => XS.aload X5.here hx rfl (hb hby at_44) rfl rfl kon) ?_
  show own_Wp _ _ _ _ (T5.setTop (mkF m 46 #[.val (.int p1), .val (.int p2), .val (.int p3), .val (.int p4), .val (.int p5), .val (.int p6), .val (.ref b1), .val (.int pr), .val (.int tt), .unset, .unset, .unset, .unset] [(.ref b1)]))
  refine own_of (fun tgt kon => XS.iload X5.here hx rfl (hb hby at_46) rfl kon) ?_
  show own_Wp _ _ _ _ (T5.setTop (mkF m 48 #[.val (.int p1), .val (.int p2), .val (.int p3), .val (.int p4), .val (.int p5), .val (.int p6), .val (.ref b1), .val (.int pr), .val (.int tt), .unset, .unset, .unset, .unset] [(.int pr), (.ref b1)]))
  refine own_of (fun tgt kon => XS.iload X5.here hx rfl (hb hby at_48) rfl kon) ?_
  show own_Wp _ _ _ _ (T5.setTop (mkF m 50 #[.val (.int p1), .val (.int p2), .val (.int p3), .val (.int p4), .val (.int p5), .val (.int p6), .val (.ref b1), .val (.int pr), .val (.int tt), .unset, .unset, .unset, .unset] [(.int tt), (.int pr), (.ref b1)]))
  refine own_callS X5 hx hZ (y := (⟨"com/example/superlink/superlink/PercentDecoding", "escapedByte", "([BII)I"⟩ : MethodName)) (argsL := [(.ref b1), (.int pr), (.int tt)]) (rest := []) (W := 0) hown (hw _ (List.mem_of_getElem? (i := 2) rfl)) (hw _ (List.mem_of_getElem? (i := 3) rfl)) (hw _ (List.mem_of_getElem? (i := 4) rfl)) (hw _ (List.mem_of_getElem? (i := 5) rfl)) (by decide) e5 (rm1 l Z a0 hw [] b1 pr tt a4 gq i h5 n0 Zs V_b1 (S_HEX.ext O.2) A_HEX hq hi1) (by decide) (by decide) (by decide) (by decide) (g := (mkF m 50 #[.val (.int p1), .val (.int p2), .val (.int p3), .val (.int p4), .val (.int p5), .val (.int p6), .val (.ref b1), .val (.int pr), .val (.int tt), .unset, .unset, .unset, .unset] [(.int tt), (.int pr), (.ref b1)])) rfl (by rw [hml]; rfl) (lenOf own_pd0 rfl) rfl (by show 2 * 0 + _ ≤ _; exact Nat.le_of_eq rfl) (hb hby at_50) ?_
  rintro T6 L6 _ X6 ⟨rfl, N6q, e6⟩
  have N6 := Fr.app N5 N6q
  show own_Wp _ _ _ _ (T6.setTop (mkF m 53 #[.val (.int p1), .val (.int p2), .val (.int p3), .val (.int p4), .val (.int p5), .val (.int p6), .val (.ref b1), .val (.int pr), .val (.int tt), .unset, .unset, .unset, .unset] [(.int (if (pr + (2 : Int32)) < tt then own_comb (own_hx (gq (i + 1) &&& 255)) (own_hx (gq (i + 2) &&& 255)) else -1))]))
  obtain ⟨got, h_got⟩ : ∃ q : Int32, q = (if (pr + (2 : Int32)) < tt then own_comb (own_hx (gq (i + 1) &&& 255)) (own_hx (gq (i + 2) &&& 255)) else -1) := ⟨_, rfl⟩
  rw [← h_got]
  refine own_of (fun tgt kon => XS.istore X6.here hx rfl (hb hby at_53) rfl (l' := #[.val (.int p1), .val (.int p2), .val (.int p3), .val (.int p4), .val (.int p5), .val (.int p6), .val (.ref b1), .val (.int pr), .val (.int tt), .val (.int got), .unset, .unset, .unset]) rfl kon) ?_
  show own_Wp _ _ _ _ (T6.setTop (mkF m 55 #[.val (.int p1), .val (.int p2), .val (.int p3), .val (.int p4), .val (.int p5), .val (.int p6), .val (.ref b1), .val (.int pr), .val (.int tt), .val (.int got), .unset, .unset, .unset] []))
  refine own_of (fun tgt kon => XS.iload X6.here hx rfl (hb hby at_55) rfl kon) ?_
  show own_Wp _ _ _ _ (T6.setTop (mkF m 57 #[.val (.int p1), .val (.int p2), .val (.int p3), .val (.int p4), .val (.int p5), .val (.int p6), .val (.ref b1), .val (.int pr), .val (.int tt), .val (.int got), .unset, .unset, .unset] [(.int pr)]))
  refine own_of (fun tgt kon => XS.iconst X6.here hx rfl (hb hby at_57) kon) ?_
  show own_Wp _ _ _ _ (T6.setTop (mkF m 58 #[.val (.int p1), .val (.int p2), .val (.int p3), .val (.int p4), .val (.int p5), .val (.int p6), .val (.ref b1), .val (.int pr), .val (.int tt), .val (.int got), .unset, .unset, .unset] [(.int (2 : Int32)), (.int pr)]))
  refine own_of (fun tgt kon => XS.iadd X6.here hx rfl (hb hby at_58) rfl kon) ?_
  show own_Wp _ _ _ _ (T6.setTop (mkF m 59 #[.val (.int p1), .val (.int p2), .val (.int p3), .val (.int p4), .val (.int p5), .val (.int p6), .val (.ref b1), .val (.int pr), .val (.int tt), .val (.int got), .unset, .unset, .unset] [(.int (pr + (2 : Int32)))]))
  refine own_of (fun tgt kon => XS.iload X6.here hx rfl (hb hby at_59) rfl kon) ?_
  show own_Wp _ _ _ _ (T6.setTop (mkF m 61 #[.val (.int p1), .val (.int p2), .val (.int p3), .val (.int p4), .val (.int p5), .val (.int p6), .val (.ref b1), .val (.int pr), .val (.int tt), .val (.int got), .unset, .unset, .unset] [(.int tt), (.int (pr + (2 : Int32)))]))
  by_cases hc61 : (pr + (2 : Int32)) < tt
  · skip
    refine own_of (fun tgt kon => XS.icmpYes X6.here hx rfl (pc0 := 61) (pc' := 70) rfl (hb hby at_61) rfl (tlt hc61).1 (by decide) (by decide) kon) ?_
    show own_Wp _ _ _ _ (T6.setTop (mkF m 70 #[.val (.int p1), .val (.int p2), .val (.int p3), .val (.int p4), .val (.int p5), .val (.int p6), .val (.ref b1), .val (.int pr), .val (.int tt), .val (.int got), .unset, .unset, .unset] []))
    refine own_of (fun tgt kon => XS.aload X6.here hx rfl (hb hby at_70) rfl rfl kon) ?_
    show own_Wp _ _ _ _ (T6.setTop (mkF m 72 #[.val (.int p1), .val (.int p2), .val (.int p3), .val (.int p4), .val (.int p5), .val (.int p6), .val (.ref b1), .val (.int pr), .val (.int tt), .val (.int got), .unset, .unset, .unset] [(.ref b1)]))
    refine own_of (fun tgt kon => XS.iload X6.here hx rfl (hb hby at_72) rfl kon) ?_
    show own_Wp _ _ _ _ (T6.setTop (mkF m 74 #[.val (.int p1), .val (.int p2), .val (.int p3), .val (.int p4), .val (.int p5), .val (.int p6), .val (.ref b1), .val (.int pr), .val (.int tt), .val (.int got), .unset, .unset, .unset] [(.int pr), (.ref b1)]))
    refine own_of (fun tgt kon => XS.iconst X6.here hx rfl (hb hby at_74) kon) ?_
    show own_Wp _ _ _ _ (T6.setTop (mkF m 75 #[.val (.int p1), .val (.int p2), .val (.int p3), .val (.int p4), .val (.int p5), .val (.int p6), .val (.ref b1), .val (.int pr), .val (.int tt), .val (.int got), .unset, .unset, .unset] [(.int (1 : Int32)), (.int pr), (.ref b1)]))
    refine own_of (fun tgt kon => XS.iadd X6.here hx rfl (hb hby at_75) rfl kon) ?_
    show own_Wp _ _ _ _ (T6.setTop (mkF m 76 #[.val (.int p1), .val (.int p2), .val (.int p3), .val (.int p4), .val (.int p5), .val (.int p6), .val (.ref b1), .val (.int pr), .val (.int tt), .val (.int got), .unset, .unset, .unset] [(.int (pr + (1 : Int32))), (.ref b1)]))
    refine own_baload X6 hx hZ e6 V_b1 (j := (pr + (1 : Int32))) (i := (i + 1)) (v := (gq (i + 1))) (own_addk hq (by decide) (by omega)) (by omega) rfl (g := (mkF m 76 #[.val (.int p1), .val (.int p2), .val (.int p3), .val (.int p4), .val (.int p5), .val (.int p6), .val (.ref b1), .val (.int pr), .val (.int tt), .val (.int got), .unset, .unset, .unset] [(.int (pr + (1 : Int32))), (.ref b1)])) rfl rfl (hb hby at_76) ?_
    show own_Wp _ _ _ _ (T6.setTop (mkF m 77 #[.val (.int p1), .val (.int p2), .val (.int p3), .val (.int p4), .val (.int p5), .val (.int p6), .val (.ref b1), .val (.int pr), .val (.int tt), .val (.int got), .unset, .unset, .unset] [(.int (gq (i + 1)))]))
    refine own_of (fun tgt kon => XS.sipush X6.here hx rfl (hb hby at_77) kon) ?_
    show own_Wp _ _ _ _ (T6.setTop (mkF m 80 #[.val (.int p1), .val (.int p2), .val (.int p3), .val (.int p4), .val (.int p5), .val (.int p6), .val (.ref b1), .val (.int pr), .val (.int tt), .val (.int got), .unset, .unset, .unset] [(.int (255 : Int32)), (.int (gq (i + 1)))]))
    refine own_of (fun tgt kon => XS.iand X6.here hx rfl (hb hby at_80) rfl kon) ?_
    show own_Wp _ _ _ _ (T6.setTop (mkF m 81 #[.val (.int p1), .val (.int p2), .val (.int p3), .val (.int p4), .val (.int p5), .val (.int p6), .val (.ref b1), .val (.int pr), .val (.int tt), .val (.int got), .unset, .unset, .unset] [(.int ((gq (i + 1)) &&& (255 : Int32)))]))
    refine own_callS X6 hx hZ (y := (⟨"com/example/superlink/superlink/PercentDecodingEscapedBytePinLaw", "hexVal", "(I)I"⟩ : MethodName)) (argsL := [(.int ((gq (i + 1)) &&& (255 : Int32)))]) (rest := []) (W := 0) hown (hw _ (List.mem_of_getElem? (i := 8) rfl)) (hw _ (List.mem_of_getElem? (i := 9) rfl)) (hw _ (List.mem_of_getElem? (i := 10) rfl)) (hw _ (List.mem_of_getElem? (i := 11) rfl)) (by decide) e6 (rm2 l Z a0 hw [] ((gq (i + 1)) &&& (255 : Int32)) h5 n0 Zs) (by decide) (by decide) (by decide) (by decide) (g := (mkF m 81 #[.val (.int p1), .val (.int p2), .val (.int p3), .val (.int p4), .val (.int p5), .val (.int p6), .val (.ref b1), .val (.int pr), .val (.int tt), .val (.int got), .unset, .unset, .unset] [(.int ((gq (i + 1)) &&& (255 : Int32)))])) rfl (by rw [hml]; rfl) (lenOf own_pd1 rfl) rfl (by show 2 * 0 + _ ≤ _; exact Nat.le_of_eq rfl) (hb hby at_81) ?_
    rintro T7 L7 _ X7 ⟨rfl, N7q, e7⟩
    have N7 := Fr.app N6 N7q
    show own_Wp _ _ _ _ (T7.setTop (mkF m 84 #[.val (.int p1), .val (.int p2), .val (.int p3), .val (.int p4), .val (.int p5), .val (.int p6), .val (.ref b1), .val (.int pr), .val (.int tt), .val (.int got), .unset, .unset, .unset] [(.int (own_hx ((gq (i + 1)) &&& (255 : Int32))))]))
    refine own_of (fun tgt kon => XS.istore X7.here hx rfl (hb hby at_84) rfl (l' := #[.val (.int p1), .val (.int p2), .val (.int p3), .val (.int p4), .val (.int p5), .val (.int p6), .val (.ref b1), .val (.int pr), .val (.int tt), .val (.int got), .unset, .val (.int (own_hx ((gq (i + 1)) &&& (255 : Int32)))), .unset]) rfl kon) ?_
    show own_Wp _ _ _ _ (T7.setTop (mkF m 86 #[.val (.int p1), .val (.int p2), .val (.int p3), .val (.int p4), .val (.int p5), .val (.int p6), .val (.ref b1), .val (.int pr), .val (.int tt), .val (.int got), .unset, .val (.int (own_hx ((gq (i + 1)) &&& (255 : Int32)))), .unset] []))
    refine own_of (fun tgt kon => XS.aload X7.here hx rfl (hb hby at_86) rfl rfl kon) ?_
    show own_Wp _ _ _ _ (T7.setTop (mkF m 88 #[.val (.int p1), .val (.int p2), .val (.int p3), .val (.int p4), .val (.int p5), .val (.int p6), .val (.ref b1), .val (.int pr), .val (.int tt), .val (.int got), .unset, .val (.int (own_hx ((gq (i + 1)) &&& (255 : Int32)))), .unset] [(.ref b1)]))
    refine own_of (fun tgt kon => XS.iload X7.here hx rfl (hb hby at_88) rfl kon) ?_
    show own_Wp _ _ _ _ (T7.setTop (mkF m 90 #[.val (.int p1), .val (.int p2), .val (.int p3), .val (.int p4), .val (.int p5), .val (.int p6), .val (.ref b1), .val (.int pr), .val (.int tt), .val (.int got), .unset, .val (.int (own_hx ((gq (i + 1)) &&& (255 : Int32)))), .unset] [(.int pr), (.ref b1)]))
    refine own_of (fun tgt kon => XS.iconst X7.here hx rfl (hb hby at_90) kon) ?_
    show own_Wp _ _ _ _ (T7.setTop (mkF m 91 #[.val (.int p1), .val (.int p2), .val (.int p3), .val (.int p4), .val (.int p5), .val (.int p6), .val (.ref b1), .val (.int pr), .val (.int tt), .val (.int got), .unset, .val (.int (own_hx ((gq (i + 1)) &&& (255 : Int32)))), .unset] [(.int (2 : Int32)), (.int pr), (.ref b1)]))
    refine own_of (fun tgt kon => XS.iadd X7.here hx rfl (hb hby at_91) rfl kon) ?_
    show own_Wp _ _ _ _ (T7.setTop (mkF m 92 #[.val (.int p1), .val (.int p2), .val (.int p3), .val (.int p4), .val (.int p5), .val (.int p6), .val (.ref b1), .val (.int pr), .val (.int tt), .val (.int got), .unset, .val (.int (own_hx ((gq (i + 1)) &&& (255 : Int32)))), .unset] [(.int (pr + (2 : Int32))), (.ref b1)]))
    refine own_baload X7 hx hZ e7 V_b1 (j := (pr + (2 : Int32))) (i := (i + 2)) (v := (gq (i + 2))) (own_addk hq (by decide) (by omega)) (by omega) rfl (g := (mkF m 92 #[.val (.int p1), .val (.int p2), .val (.int p3), .val (.int p4), .val (.int p5), .val (.int p6), .val (.ref b1), .val (.int pr), .val (.int tt), .val (.int got), .unset, .val (.int (own_hx ((gq (i + 1)) &&& (255 : Int32)))), .unset] [(.int (pr + (2 : Int32))), (.ref b1)])) rfl rfl (hb hby at_92) ?_
    show own_Wp _ _ _ _ (T7.setTop (mkF m 93 #[.val (.int p1), .val (.int p2), .val (.int p3), .val (.int p4), .val (.int p5), .val (.int p6), .val (.ref b1), .val (.int pr), .val (.int tt), .val (.int got), .unset, .val (.int (own_hx ((gq (i + 1)) &&& (255 : Int32)))), .unset] [(.int (gq (i + 2)))]))
    refine own_of (fun tgt kon => XS.sipush X7.here hx rfl (hb hby at_93) kon) ?_
    show own_Wp _ _ _ _ (T7.setTop (mkF m 96 #[.val (.int p1), .val (.int p2), .val (.int p3), .val (.int p4), .val (.int p5), .val (.int p6), .val (.ref b1), .val (.int pr), .val (.int tt), .val (.int got), .unset, .val (.int (own_hx ((gq (i + 1)) &&& (255 : Int32)))), .unset] [(.int (255 : Int32)), (.int (gq (i + 2)))]))
    refine own_of (fun tgt kon => XS.iand X7.here hx rfl (hb hby at_96) rfl kon) ?_
    show own_Wp _ _ _ _ (T7.setTop (mkF m 97 #[.val (.int p1), .val (.int p2), .val (.int p3), .val (.int p4), .val (.int p5), .val (.int p6), .val (.ref b1), .val (.int pr), .val (.int tt), .val (.int got), .unset, .val (.int (own_hx ((gq (i + 1)) &&& (255 : Int32)))), .unset] [(.int ((gq (i + 2)) &&& (255 : Int32)))]))
    refine own_callS X7 hx hZ (y := (⟨"com/example/superlink/superlink/PercentDecodingEscapedBytePinLaw", "hexVal", "(I)I"⟩ : MethodName)) (argsL := [(.int ((gq (i + 2)) &&& (255 : Int32)))]) (rest := []) (W := 0) hown (hw _ (List.mem_of_getElem? (i := 8) rfl)) (hw _ (List.mem_of_getElem? (i := 9) rfl)) (hw _ (List.mem_of_getElem? (i := 10) rfl)) (hw _ (List.mem_of_getElem? (i := 11) rfl)) (by decide) e7 (rm2 l Z a0 hw [] ((gq (i + 2)) &&& (255 : Int32)) h5 n0 Zs) (by decide) (by decide) (by decide) (by decide) (g := (mkF m 97 #[.val (.int p1), .val (.int p2), .val (.int p3), .val (.int p4), .val (.int p5), .val (.int p6), .val (.ref b1), .val (.int pr), .val (.int tt), .val (.int got), .unset, .val (.int (own_hx ((gq (i + 1)) &&& (255 : Int32)))), .unset] [(.int ((gq (i + 2)) &&& (255 : Int32)))])) rfl (by rw [hml]; rfl) (lenOf own_pd1 rfl) rfl (by show 2 * 0 + _ ≤ _; exact Nat.le_of_eq rfl) (hb hby at_97) ?_
    rintro T8 L8 _ X8 ⟨rfl, N8q, e8⟩
    have N8 := Fr.app N7 N8q
    show own_Wp _ _ _ _ (T8.setTop (mkF m 100 #[.val (.int p1), .val (.int p2), .val (.int p3), .val (.int p4), .val (.int p5), .val (.int p6), .val (.ref b1), .val (.int pr), .val (.int tt), .val (.int got), .unset, .val (.int (own_hx ((gq (i + 1)) &&& (255 : Int32)))), .unset] [(.int (own_hx ((gq (i + 2)) &&& (255 : Int32))))]))
    refine own_of (fun tgt kon => XS.istore X8.here hx rfl (hb hby at_100) rfl (l' := #[.val (.int p1), .val (.int p2), .val (.int p3), .val (.int p4), .val (.int p5), .val (.int p6), .val (.ref b1), .val (.int pr), .val (.int tt), .val (.int got), .unset, .val (.int (own_hx ((gq (i + 1)) &&& (255 : Int32)))), .val (.int (own_hx ((gq (i + 2)) &&& (255 : Int32))))]) rfl kon) ?_
    show own_Wp _ _ _ _ (T8.setTop (mkF m 102 #[.val (.int p1), .val (.int p2), .val (.int p3), .val (.int p4), .val (.int p5), .val (.int p6), .val (.ref b1), .val (.int pr), .val (.int tt), .val (.int got), .unset, .val (.int (own_hx ((gq (i + 1)) &&& (255 : Int32)))), .val (.int (own_hx ((gq (i + 2)) &&& (255 : Int32))))] []))
    refine own_of (fun tgt kon => XS.iload X8.here hx rfl (hb hby at_102) rfl kon) ?_
    show own_Wp _ _ _ _ (T8.setTop (mkF m 104 #[.val (.int p1), .val (.int p2), .val (.int p3), .val (.int p4), .val (.int p5), .val (.int p6), .val (.ref b1), .val (.int pr), .val (.int tt), .val (.int got), .unset, .val (.int (own_hx ((gq (i + 1)) &&& (255 : Int32)))), .val (.int (own_hx ((gq (i + 2)) &&& (255 : Int32))))] [(.int (own_hx ((gq (i + 1)) &&& (255 : Int32))))]))
    by_cases hc104 : (own_hx ((gq (i + 1)) &&& (255 : Int32))) < (0 : Int32)
    · skip
      refine own_of (fun tgt kon => XS.ifYes X8.here hx rfl (pc0 := 104) (pc' := 112) rfl (hb hby at_104) rfl ((if0 _ _).trans (tlt hc104).1) (by decide) (by decide) kon) ?_
      show own_Wp _ _ _ _ (T8.setTop (mkF m 112 #[.val (.int p1), .val (.int p2), .val (.int p3), .val (.int p4), .val (.int p5), .val (.int p6), .val (.ref b1), .val (.int pr), .val (.int tt), .val (.int got), .unset, .val (.int (own_hx ((gq (i + 1)) &&& (255 : Int32)))), .val (.int (own_hx ((gq (i + 2)) &&& (255 : Int32))))] []))
      refine own_of (fun tgt kon => XS.iconst X8.here hx rfl (hb hby at_112) kon) ?_
      show own_Wp _ _ _ _ (T8.setTop (mkF m 113 #[.val (.int p1), .val (.int p2), .val (.int p3), .val (.int p4), .val (.int p5), .val (.int p6), .val (.ref b1), .val (.int pr), .val (.int tt), .val (.int got), .unset, .val (.int (own_hx ((gq (i + 1)) &&& (255 : Int32)))), .val (.int (own_hx ((gq (i + 2)) &&& (255 : Int32))))] [(.int (-1 : Int32))]))
      refine own_of (fun tgt kon => XS.istore X8.here hx rfl (hb hby at_113) rfl (l' := #[.val (.int p1), .val (.int p2), .val (.int p3), .val (.int p4), .val (.int p5), .val (.int p6), .val (.ref b1), .val (.int pr), .val (.int tt), .val (.int got), .val (.int (-1 : Int32)), .val (.int (own_hx ((gq (i + 1)) &&& (255 : Int32)))), .val (.int (own_hx ((gq (i + 2)) &&& (255 : Int32))))]) rfl kon) ?_
      show own_Wp _ _ _ _ (T8.setTop (mkF m 115 #[.val (.int p1), .val (.int p2), .val (.int p3), .val (.int p4), .val (.int p5), .val (.int p6), .val (.ref b1), .val (.int pr), .val (.int tt), .val (.int got), .val (.int (-1 : Int32)), .val (.int (own_hx ((gq (i + 1)) &&& (255 : Int32)))), .val (.int (own_hx ((gq (i + 2)) &&& (255 : Int32))))] []))
      refine own_of (fun tgt kon => XS.goto X8.here hx rfl (pc0 := 115) (pc' := 128) rfl (hb hby at_115) (by decide) (by decide) kon) ?_
      show own_Wp _ _ _ _ (T8.setTop (mkF m 128 #[.val (.int p1), .val (.int p2), .val (.int p3), .val (.int p4), .val (.int p5), .val (.int p6), .val (.ref b1), .val (.int pr), .val (.int tt), .val (.int got), .val (.int (-1 : Int32)), .val (.int (own_hx ((gq (i + 1)) &&& (255 : Int32)))), .val (.int (own_hx ((gq (i + 2)) &&& (255 : Int32))))] []))
      refine own_of (fun tgt kon => XS.iload X8.here hx rfl (hb hby at_128) rfl kon) ?_
      show own_Wp _ _ _ _ (T8.setTop (mkF m 130 #[.val (.int p1), .val (.int p2), .val (.int p3), .val (.int p4), .val (.int p5), .val (.int p6), .val (.ref b1), .val (.int pr), .val (.int tt), .val (.int got), .val (.int (-1 : Int32)), .val (.int (own_hx ((gq (i + 1)) &&& (255 : Int32)))), .val (.int (own_hx ((gq (i + 2)) &&& (255 : Int32))))] [(.int got)]))
      refine own_of (fun tgt kon => XS.iload X8.here hx rfl (hb hby at_130) rfl kon) ?_
      show own_Wp _ _ _ _ (T8.setTop (mkF m 132 #[.val (.int p1), .val (.int p2), .val (.int p3), .val (.int p4), .val (.int p5), .val (.int p6), .val (.ref b1), .val (.int pr), .val (.int tt), .val (.int got), .val (.int (-1 : Int32)), .val (.int (own_hx ((gq (i + 1)) &&& (255 : Int32)))), .val (.int (own_hx ((gq (i + 2)) &&& (255 : Int32))))] [(.int (-1 : Int32)), (.int got)]))
      have hc132 : got = (-1 : Int32) := by rw [h_got, if_pos hc61, own_combeq, if_pos (Or.inl hc104)]
      refine own_of (fun tgt kon => XS.icmpNo X8.here hx rfl (hb hby at_132) rfl (teq hc132).2 kon) ?_
      show own_Wp _ _ _ _ (T8.setTop (mkF m 135 #[.val (.int p1), .val (.int p2), .val (.int p3), .val (.int p4), .val (.int p5), .val (.int p6), .val (.ref b1), .val (.int pr), .val (.int tt), .val (.int got), .val (.int (-1 : Int32)), .val (.int (own_hx ((gq (i + 1)) &&& (255 : Int32)))), .val (.int (own_hx ((gq (i + 2)) &&& (255 : Int32))))] []))
      refine own_of (fun tgt kon => XS.iconst X8.here hx rfl (hb hby at_135) kon) ?_
      show own_Wp _ _ _ _ (T8.setTop (mkF m 136 #[.val (.int p1), .val (.int p2), .val (.int p3), .val (.int p4), .val (.int p5), .val (.int p6), .val (.ref b1), .val (.int pr), .val (.int tt), .val (.int got), .val (.int (-1 : Int32)), .val (.int (own_hx ((gq (i + 1)) &&& (255 : Int32)))), .val (.int (own_hx ((gq (i + 2)) &&& (255 : Int32))))] [(.int (1 : Int32))]))
      refine own_of (fun tgt kon => XS.goto X8.here hx rfl (pc0 := 136) (pc' := 140) rfl (hb hby at_136) (by decide) (by decide) kon) ?_
      show own_Wp _ _ _ _ (T8.setTop (mkF m 140 #[.val (.int p1), .val (.int p2), .val (.int p3), .val (.int p4), .val (.int p5), .val (.int p6), .val (.ref b1), .val (.int pr), .val (.int tt), .val (.int got), .val (.int (-1 : Int32)), .val (.int (own_hx ((gq (i + 1)) &&& (255 : Int32)))), .val (.int (own_hx ((gq (i + 2)) &&& (255 : Int32))))] [(.int (1 : Int32))]))
      refine own_ret X8 hlk (some (.int (1 : Int32))) (own_rtI hrt) (fun fs hr => retN X8 hx (t := .boolean) hrt (by simp) (hb hby at_140) hr) ?_ (by decide) (by decide)
      rw [e8]
      exact ⟨rfl, N8⟩
    · skip
      refine own_of (fun tgt kon => XS.ifNo X8.here hx rfl (hb hby at_104) rfl ((if0 _ _).trans (flt hc104).1) kon) ?_
      show own_Wp _ _ _ _ (T8.setTop (mkF m 107 #[.val (.int p1), .val (.int p2), .val (.int p3), .val (.int p4), .val (.int p5), .val (.int p6), .val (.ref b1), .val (.int pr), .val (.int tt), .val (.int got), .unset, .val (.int (own_hx ((gq (i + 1)) &&& (255 : Int32)))), .val (.int (own_hx ((gq (i + 2)) &&& (255 : Int32))))] []))
      refine own_of (fun tgt kon => XS.iload X8.here hx rfl (hb hby at_107) rfl kon) ?_
      show own_Wp _ _ _ _ (T8.setTop (mkF m 109 #[.val (.int p1), .val (.int p2), .val (.int p3), .val (.int p4), .val (.int p5), .val (.int p6), .val (.ref b1), .val (.int pr), .val (.int tt), .val (.int got), .unset, .val (.int (own_hx ((gq (i + 1)) &&& (255 : Int32)))), .val (.int (own_hx ((gq (i + 2)) &&& (255 : Int32))))] [(.int (own_hx ((gq (i + 2)) &&& (255 : Int32))))]))
      by_cases hc109 : (own_hx ((gq (i + 2)) &&& (255 : Int32))) < (0 : Int32)
      · skip
        refine own_of (fun tgt kon => XS.ifNo X8.here hx rfl (hb hby at_109) rfl ((if0 _ _).trans (tlt hc109).2.1) kon) ?_
        show own_Wp _ _ _ _ (T8.setTop (mkF m 112 #[.val (.int p1), .val (.int p2), .val (.int p3), .val (.int p4), .val (.int p5), .val (.int p6), .val (.ref b1), .val (.int pr), .val (.int tt), .val (.int got), .unset, .val (.int (own_hx ((gq (i + 1)) &&& (255 : Int32)))), .val (.int (own_hx ((gq (i + 2)) &&& (255 : Int32))))] []))
        refine own_of (fun tgt kon => XS.iconst X8.here hx rfl (hb hby at_112) kon) ?_
        show own_Wp _ _ _ _ (T8.setTop (mkF m 113 #[.val (.int p1), .val (.int p2), .val (.int p3), .val (.int p4), .val (.int p5), .val (.int p6), .val (.ref b1), .val (.int pr), .val (.int tt), .val (.int got), .unset, .val (.int (own_hx ((gq (i + 1)) &&& (255 : Int32)))), .val (.int (own_hx ((gq (i + 2)) &&& (255 : Int32))))] [(.int (-1 : Int32))]))
        refine own_of (fun tgt kon => XS.istore X8.here hx rfl (hb hby at_113) rfl (l' := #[.val (.int p1), .val (.int p2), .val (.int p3), .val (.int p4), .val (.int p5), .val (.int p6), .val (.ref b1), .val (.int pr), .val (.int tt), .val (.int got), .val (.int (-1 : Int32)), .val (.int (own_hx ((gq (i + 1)) &&& (255 : Int32)))), .val (.int (own_hx ((gq (i + 2)) &&& (255 : Int32))))]) rfl kon) ?_
        show own_Wp _ _ _ _ (T8.setTop (mkF m 115 #[.val (.int p1), .val (.int p2), .val (.int p3), .val (.int p4), .val (.int p5), .val (.int p6), .val (.ref b1), .val (.int pr), .val (.int tt), .val (.int got), .val (.int (-1 : Int32)), .val (.int (own_hx ((gq (i + 1)) &&& (255 : Int32)))), .val (.int (own_hx ((gq (i + 2)) &&& (255 : Int32))))] []))
        refine own_of (fun tgt kon => XS.goto X8.here hx rfl (pc0 := 115) (pc' := 128) rfl (hb hby at_115) (by decide) (by decide) kon) ?_
        show own_Wp _ _ _ _ (T8.setTop (mkF m 128 #[.val (.int p1), .val (.int p2), .val (.int p3), .val (.int p4), .val (.int p5), .val (.int p6), .val (.ref b1), .val (.int pr), .val (.int tt), .val (.int got), .val (.int (-1 : Int32)), .val (.int (own_hx ((gq (i + 1)) &&& (255 : Int32)))), .val (.int (own_hx ((gq (i + 2)) &&& (255 : Int32))))] []))
        refine own_of (fun tgt kon => XS.iload X8.here hx rfl (hb hby at_128) rfl kon) ?_
        show own_Wp _ _ _ _ (T8.setTop (mkF m 130 #[.val (.int p1), .val (.int p2), .val (.int p3), .val (.int p4), .val (.int p5), .val (.int p6), .val (.ref b1), .val (.int pr), .val (.int tt), .val (.int got), .val (.int (-1 : Int32)), .val (.int (own_hx ((gq (i + 1)) &&& (255 : Int32)))), .val (.int (own_hx ((gq (i + 2)) &&& (255 : Int32))))] [(.int got)]))
        refine own_of (fun tgt kon => XS.iload X8.here hx rfl (hb hby at_130) rfl kon) ?_
        show own_Wp _ _ _ _ (T8.setTop (mkF m 132 #[.val (.int p1), .val (.int p2), .val (.int p3), .val (.int p4), .val (.int p5), .val (.int p6), .val (.ref b1), .val (.int pr), .val (.int tt), .val (.int got), .val (.int (-1 : Int32)), .val (.int (own_hx ((gq (i + 1)) &&& (255 : Int32)))), .val (.int (own_hx ((gq (i + 2)) &&& (255 : Int32))))] [(.int (-1 : Int32)), (.int got)]))
        have hc132 : got = (-1 : Int32) := by rw [h_got, if_pos hc61, own_combeq, if_pos (Or.inr hc109)]
        refine own_of (fun tgt kon => XS.icmpNo X8.here hx rfl (hb hby at_132) rfl (teq hc132).2 kon) ?_
        show own_Wp _ _ _ _ (T8.setTop (mkF m 135 #[.val (.int p1), .val (.int p2), .val (.int p3), .val (.int p4), .val (.int p5), .val (.int p6), .val (.ref b1), .val (.int pr), .val (.int tt), .val (.int got), .val (.int (-1 : Int32)), .val (.int (own_hx ((gq (i + 1)) &&& (255 : Int32)))), .val (.int (own_hx ((gq (i + 2)) &&& (255 : Int32))))] []))
        refine own_of (fun tgt kon => XS.iconst X8.here hx rfl (hb hby at_135) kon) ?_
        show own_Wp _ _ _ _ (T8.setTop (mkF m 136 #[.val (.int p1), .val (.int p2), .val (.int p3), .val (.int p4), .val (.int p5), .val (.int p6), .val (.ref b1), .val (.int pr), .val (.int tt), .val (.int got), .val (.int (-1 : Int32)), .val (.int (own_hx ((gq (i + 1)) &&& (255 : Int32)))), .val (.int (own_hx ((gq (i + 2)) &&& (255 : Int32))))] [(.int (1 : Int32))]))
        refine own_of (fun tgt kon => XS.goto X8.here hx rfl (pc0 := 136) (pc' := 140) rfl (hb hby at_136) (by decide) (by decide) kon) ?_
        show own_Wp _ _ _ _ (T8.setTop (mkF m 140 #[.val (.int p1), .val (.int p2), .val (.int p3), .val (.int p4), .val (.int p5), .val (.int p6), .val (.ref b1), .val (.int pr), .val (.int tt), .val (.int got), .val (.int (-1 : Int32)), .val (.int (own_hx ((gq (i + 1)) &&& (255 : Int32)))), .val (.int (own_hx ((gq (i + 2)) &&& (255 : Int32))))] [(.int (1 : Int32))]))
        refine own_ret X8 hlk (some (.int (1 : Int32))) (own_rtI hrt) (fun fs hr => retN X8 hx (t := .boolean) hrt (by simp) (hb hby at_140) hr) ?_ (by decide) (by decide)
        rw [e8]
        exact ⟨rfl, N8⟩
      · skip
        refine own_of (fun tgt kon => XS.ifYes X8.here hx rfl (pc0 := 109) (pc' := 118) rfl (hb hby at_109) rfl ((if0 _ _).trans (flt hc109).2.1) (by decide) (by decide) kon) ?_
        show own_Wp _ _ _ _ (T8.setTop (mkF m 118 #[.val (.int p1), .val (.int p2), .val (.int p3), .val (.int p4), .val (.int p5), .val (.int p6), .val (.ref b1), .val (.int pr), .val (.int tt), .val (.int got), .unset, .val (.int (own_hx ((gq (i + 1)) &&& (255 : Int32)))), .val (.int (own_hx ((gq (i + 2)) &&& (255 : Int32))))] []))
        refine own_of (fun tgt kon => XS.iload X8.here hx rfl (hb hby at_118) rfl kon) ?_
        show own_Wp _ _ _ _ (T8.setTop (mkF m 120 #[.val (.int p1), .val (.int p2), .val (.int p3), .val (.int p4), .val (.int p5), .val (.int p6), .val (.ref b1), .val (.int pr), .val (.int tt), .val (.int got), .unset, .val (.int (own_hx ((gq (i + 1)) &&& (255 : Int32)))), .val (.int (own_hx ((gq (i + 2)) &&& (255 : Int32))))] [(.int (own_hx ((gq (i + 1)) &&& (255 : Int32))))]))
        refine own_of (fun tgt kon => XS.bipush X8.here hx rfl (hb hby at_120) kon) ?_
        show own_Wp _ _ _ _ (T8.setTop (mkF m 122 #[.val (.int p1), .val (.int p2), .val (.int p3), .val (.int p4), .val (.int p5), .val (.int p6), .val (.ref b1), .val (.int pr), .val (.int tt), .val (.int got), .unset, .val (.int (own_hx ((gq (i + 1)) &&& (255 : Int32)))), .val (.int (own_hx ((gq (i + 2)) &&& (255 : Int32))))] [(.int (16 : Int32)), (.int (own_hx ((gq (i + 1)) &&& (255 : Int32))))]))
        refine own_of (fun tgt kon => XS.imul X8.here hx rfl (hb hby at_122) rfl kon) ?_
        show own_Wp _ _ _ _ (T8.setTop (mkF m 123 #[.val (.int p1), .val (.int p2), .val (.int p3), .val (.int p4), .val (.int p5), .val (.int p6), .val (.ref b1), .val (.int pr), .val (.int tt), .val (.int got), .unset, .val (.int (own_hx ((gq (i + 1)) &&& (255 : Int32)))), .val (.int (own_hx ((gq (i + 2)) &&& (255 : Int32))))] [(.int ((own_hx ((gq (i + 1)) &&& (255 : Int32))) * (16 : Int32)))]))
        refine own_of (fun tgt kon => XS.iload X8.here hx rfl (hb hby at_123) rfl kon) ?_
        show own_Wp _ _ _ _ (T8.setTop (mkF m 125 #[.val (.int p1), .val (.int p2), .val (.int p3), .val (.int p4), .val (.int p5), .val (.int p6), .val (.ref b1), .val (.int pr), .val (.int tt), .val (.int got), .unset, .val (.int (own_hx ((gq (i + 1)) &&& (255 : Int32)))), .val (.int (own_hx ((gq (i + 2)) &&& (255 : Int32))))] [(.int (own_hx ((gq (i + 2)) &&& (255 : Int32)))), (.int ((own_hx ((gq (i + 1)) &&& (255 : Int32))) * (16 : Int32)))]))
        refine own_of (fun tgt kon => XS.iadd X8.here hx rfl (hb hby at_125) rfl kon) ?_
        show own_Wp _ _ _ _ (T8.setTop (mkF m 126 #[.val (.int p1), .val (.int p2), .val (.int p3), .val (.int p4), .val (.int p5), .val (.int p6), .val (.ref b1), .val (.int pr), .val (.int tt), .val (.int got), .unset, .val (.int (own_hx ((gq (i + 1)) &&& (255 : Int32)))), .val (.int (own_hx ((gq (i + 2)) &&& (255 : Int32))))] [(.int (((own_hx ((gq (i + 1)) &&& (255 : Int32))) * (16 : Int32)) + (own_hx ((gq (i + 2)) &&& (255 : Int32)))))]))
        refine own_of (fun tgt kon => XS.istore X8.here hx rfl (hb hby at_126) rfl (l' := #[.val (.int p1), .val (.int p2), .val (.int p3), .val (.int p4), .val (.int p5), .val (.int p6), .val (.ref b1), .val (.int pr), .val (.int tt), .val (.int got), .val (.int (((own_hx ((gq (i + 1)) &&& (255 : Int32))) * (16 : Int32)) + (own_hx ((gq (i + 2)) &&& (255 : Int32))))), .val (.int (own_hx ((gq (i + 1)) &&& (255 : Int32)))), .val (.int (own_hx ((gq (i + 2)) &&& (255 : Int32))))]) rfl kon) ?_
        show own_Wp _ _ _ _ (T8.setTop (mkF m 128 #[.val (.int p1), .val (.int p2), .val (.int p3), .val (.int p4), .val (.int p5), .val (.int p6), .val (.ref b1), .val (.int pr), .val (.int tt), .val (.int got), .val (.int (((own_hx ((gq (i + 1)) &&& (255 : Int32))) * (16 : Int32)) + (own_hx ((gq (i + 2)) &&& (255 : Int32))))), .val (.int (own_hx ((gq (i + 1)) &&& (255 : Int32)))), .val (.int (own_hx ((gq (i + 2)) &&& (255 : Int32))))] []))
        refine own_of (fun tgt kon => XS.iload X8.here hx rfl (hb hby at_128) rfl kon) ?_
        show own_Wp _ _ _ _ (T8.setTop (mkF m 130 #[.val (.int p1), .val (.int p2), .val (.int p3), .val (.int p4), .val (.int p5), .val (.int p6), .val (.ref b1), .val (.int pr), .val (.int tt), .val (.int got), .val (.int (((own_hx ((gq (i + 1)) &&& (255 : Int32))) * (16 : Int32)) + (own_hx ((gq (i + 2)) &&& (255 : Int32))))), .val (.int (own_hx ((gq (i + 1)) &&& (255 : Int32)))), .val (.int (own_hx ((gq (i + 2)) &&& (255 : Int32))))] [(.int got)]))
        refine own_of (fun tgt kon => XS.iload X8.here hx rfl (hb hby at_130) rfl kon) ?_
        show own_Wp _ _ _ _ (T8.setTop (mkF m 132 #[.val (.int p1), .val (.int p2), .val (.int p3), .val (.int p4), .val (.int p5), .val (.int p6), .val (.ref b1), .val (.int pr), .val (.int tt), .val (.int got), .val (.int (((own_hx ((gq (i + 1)) &&& (255 : Int32))) * (16 : Int32)) + (own_hx ((gq (i + 2)) &&& (255 : Int32))))), .val (.int (own_hx ((gq (i + 1)) &&& (255 : Int32)))), .val (.int (own_hx ((gq (i + 2)) &&& (255 : Int32))))] [(.int (((own_hx ((gq (i + 1)) &&& (255 : Int32))) * (16 : Int32)) + (own_hx ((gq (i + 2)) &&& (255 : Int32))))), (.int got)]))
        have hc132 : got = (((own_hx ((gq (i + 1)) &&& (255 : Int32))) * (16 : Int32)) + (own_hx ((gq (i + 2)) &&& (255 : Int32)))) := by rw [h_got, if_pos hc61, own_combeq, if_neg (fun q => q.elim hc104 hc109)]
        refine own_of (fun tgt kon => XS.icmpNo X8.here hx rfl (hb hby at_132) rfl (teq hc132).2 kon) ?_
        show own_Wp _ _ _ _ (T8.setTop (mkF m 135 #[.val (.int p1), .val (.int p2), .val (.int p3), .val (.int p4), .val (.int p5), .val (.int p6), .val (.ref b1), .val (.int pr), .val (.int tt), .val (.int got), .val (.int (((own_hx ((gq (i + 1)) &&& (255 : Int32))) * (16 : Int32)) + (own_hx ((gq (i + 2)) &&& (255 : Int32))))), .val (.int (own_hx ((gq (i + 1)) &&& (255 : Int32)))), .val (.int (own_hx ((gq (i + 2)) &&& (255 : Int32))))] []))
        refine own_of (fun tgt kon => XS.iconst X8.here hx rfl (hb hby at_135) kon) ?_
        show own_Wp _ _ _ _ (T8.setTop (mkF m 136 #[.val (.int p1), .val (.int p2), .val (.int p3), .val (.int p4), .val (.int p5), .val (.int p6), .val (.ref b1), .val (.int pr), .val (.int tt), .val (.int got), .val (.int (((own_hx ((gq (i + 1)) &&& (255 : Int32))) * (16 : Int32)) + (own_hx ((gq (i + 2)) &&& (255 : Int32))))), .val (.int (own_hx ((gq (i + 1)) &&& (255 : Int32)))), .val (.int (own_hx ((gq (i + 2)) &&& (255 : Int32))))] [(.int (1 : Int32))]))
        refine own_of (fun tgt kon => XS.goto X8.here hx rfl (pc0 := 136) (pc' := 140) rfl (hb hby at_136) (by decide) (by decide) kon) ?_
        show own_Wp _ _ _ _ (T8.setTop (mkF m 140 #[.val (.int p1), .val (.int p2), .val (.int p3), .val (.int p4), .val (.int p5), .val (.int p6), .val (.ref b1), .val (.int pr), .val (.int tt), .val (.int got), .val (.int (((own_hx ((gq (i + 1)) &&& (255 : Int32))) * (16 : Int32)) + (own_hx ((gq (i + 2)) &&& (255 : Int32))))), .val (.int (own_hx ((gq (i + 1)) &&& (255 : Int32)))), .val (.int (own_hx ((gq (i + 2)) &&& (255 : Int32))))] [(.int (1 : Int32))]))
        refine own_ret X8 hlk (some (.int (1 : Int32))) (own_rtI hrt) (fun fs hr => retN X8 hx (t := .boolean) hrt (by simp) (hb hby at_140) hr) ?_ (by decide) (by decide)
        rw [e8]
        exact ⟨rfl, N8⟩
  · skip
    refine own_of (fun tgt kon => XS.icmpNo X6.here hx rfl (hb hby at_61) rfl (flt hc61).1 kon) ?_
    show own_Wp _ _ _ _ (T6.setTop (mkF m 64 #[.val (.int p1), .val (.int p2), .val (.int p3), .val (.int p4), .val (.int p5), .val (.int p6), .val (.ref b1), .val (.int pr), .val (.int tt), .val (.int got), .unset, .unset, .unset] []))
    refine own_of (fun tgt kon => XS.iconst X6.here hx rfl (hb hby at_64) kon) ?_
    show own_Wp _ _ _ _ (T6.setTop (mkF m 65 #[.val (.int p1), .val (.int p2), .val (.int p3), .val (.int p4), .val (.int p5), .val (.int p6), .val (.ref b1), .val (.int pr), .val (.int tt), .val (.int got), .unset, .unset, .unset] [(.int (-1 : Int32))]))
    refine own_of (fun tgt kon => XS.istore X6.here hx rfl (hb hby at_65) rfl (l' := #[.val (.int p1), .val (.int p2), .val (.int p3), .val (.int p4), .val (.int p5), .val (.int p6), .val (.ref b1), .val (.int pr), .val (.int tt), .val (.int got), .val (.int (-1 : Int32)), .unset, .unset]) rfl kon) ?_
    show own_Wp _ _ _ _ (T6.setTop (mkF m 67 #[.val (.int p1), .val (.int p2), .val (.int p3), .val (.int p4), .val (.int p5), .val (.int p6), .val (.ref b1), .val (.int pr), .val (.int tt), .val (.int got), .val (.int (-1 : Int32)), .unset, .unset] []))
    refine own_of (fun tgt kon => XS.goto X6.here hx rfl (pc0 := 67) (pc' := 128) rfl (hb hby at_67) (by decide) (by decide) kon) ?_
    show own_Wp _ _ _ _ (T6.setTop (mkF m 128 #[.val (.int p1), .val (.int p2), .val (.int p3), .val (.int p4), .val (.int p5), .val (.int p6), .val (.ref b1), .val (.int pr), .val (.int tt), .val (.int got), .val (.int (-1 : Int32)), .unset, .unset] []))
    refine own_of (fun tgt kon => XS.iload X6.here hx rfl (hb hby at_128) rfl kon) ?_
    show own_Wp _ _ _ _ (T6.setTop (mkF m 130 #[.val (.int p1), .val (.int p2), .val (.int p3), .val (.int p4), .val (.int p5), .val (.int p6), .val (.ref b1), .val (.int pr), .val (.int tt), .val (.int got), .val (.int (-1 : Int32)), .unset, .unset] [(.int got)]))
    refine own_of (fun tgt kon => XS.iload X6.here hx rfl (hb hby at_130) rfl kon) ?_
    show own_Wp _ _ _ _ (T6.setTop (mkF m 132 #[.val (.int p1), .val (.int p2), .val (.int p3), .val (.int p4), .val (.int p5), .val (.int p6), .val (.ref b1), .val (.int pr), .val (.int tt), .val (.int got), .val (.int (-1 : Int32)), .unset, .unset] [(.int (-1 : Int32)), (.int got)]))
    have hc132 : got = (-1 : Int32) := by rw [h_got, if_neg hc61]
    refine own_of (fun tgt kon => XS.icmpNo X6.here hx rfl (hb hby at_132) rfl (teq hc132).2 kon) ?_
    show own_Wp _ _ _ _ (T6.setTop (mkF m 135 #[.val (.int p1), .val (.int p2), .val (.int p3), .val (.int p4), .val (.int p5), .val (.int p6), .val (.ref b1), .val (.int pr), .val (.int tt), .val (.int got), .val (.int (-1 : Int32)), .unset, .unset] []))
    refine own_of (fun tgt kon => XS.iconst X6.here hx rfl (hb hby at_135) kon) ?_
    show own_Wp _ _ _ _ (T6.setTop (mkF m 136 #[.val (.int p1), .val (.int p2), .val (.int p3), .val (.int p4), .val (.int p5), .val (.int p6), .val (.ref b1), .val (.int pr), .val (.int tt), .val (.int got), .val (.int (-1 : Int32)), .unset, .unset] [(.int (1 : Int32))]))
    refine own_of (fun tgt kon => XS.goto X6.here hx rfl (pc0 := 136) (pc' := 140) rfl (hb hby at_136) (by decide) (by decide) kon) ?_
    show own_Wp _ _ _ _ (T6.setTop (mkF m 140 #[.val (.int p1), .val (.int p2), .val (.int p3), .val (.int p4), .val (.int p5), .val (.int p6), .val (.ref b1), .val (.int pr), .val (.int tt), .val (.int got), .val (.int (-1 : Int32)), .unset, .unset] [(.int (1 : Int32))]))
    refine own_ret X6 hlk (some (.int (1 : Int32))) (own_rtI hrt) (fun fs hr => retN X6 hx (t := .boolean) hrt (by simp) (hb hby at_140) hr) ?_ (by decide) (by decide)
    rw [e6]
    exact ⟨rfl, N6⟩
set_option maxRecDepth 65536 in
set_option maxHeartbeats 40000000 in
theorem comes_1 {Post : Tables → Env → Array Value → State → Outcome → State → Prop} (hpost : ∀ tb e args s v u, (limb_1_1.after args s (.returned v) u = true ∧ limb_1_2.after args s (.returned v) u = true ∧ True) → FrameEnd s (.returned v) u (Jvm.fieldLocs frame_1_writes args s ++ Jvm.arrayLocs frame_1_arrays args s ++ Jvm.staticLocs frame_1_statics s) 16 128 → Post tb e args s (.returned v) u) :
    ArmFor flags0 classFile x code maxLocals ret World_1 tables_1 room_1 Calls_1 rest_1 Pre_1 Post := by
  intro l hfl _ _ p e ha hc hk s m args below hf hA hF happ hP
  obtain ⟨hcalls, hrest, hpre⟩ := hP
  obtain ⟨-, -, -, hnamed, -, -, -, hat⟩ := (Spec.applies_iff hf).mp happ
  obtain ⟨hg, hn⟩ := and_e (Cond.before_iff.mp (show (Jvm.Cond.and given_1 narrow_1).before args s = true from hpre))
  obtain ⟨g1, g2⟩ := and_e hg
  obtain ⟨g3, g4⟩ := and_e g2
  obtain ⟨g5, g6⟩ := and_e g4
  obtain ⟨g7, g8⟩ := and_e g6
  obtain ⟨g9, g10⟩ := and_e g8
  obtain ⟨g11, g12⟩ := and_e g10
  obtain ⟨w0, w1, w2, w3, w4, w5, rfl⟩ : ∃ w0 w1 w2 w3 w4 w5 : Value, args = #[w0, w1, w2, w3, w4, w5] := by
    have hs : args.size = 6 := by simpa [Cond.value, given_1] using g1
    obtain ⟨L⟩ := args
    match L, hs with
    | [w0, w1, w2, w3, w4, w5], _ => exact ⟨w0, w1, w2, w3, w4, w5, rfl⟩
  have hw := fun d (hd : d ∈ tables_1) => atoms_spec (ws := Jvm.Cond.code x code maxLocals ret :: tables_1) hat d (List.mem_cons_of_mem _ hd)
  have hfit : Fit s := fun {y c} hc i hi => by
    obtain ⟨ha, rfl⟩ := Array.getElem?_eq_some_iff.mp hc
    have q := List.all_eq_true.mp ((Array.all_eq_true_iff_forall_mem.mp hF) _ (Array.getElem_mem ha)) i (List.mem_range.mpr hi)
    simpa [Array.getElem?_eq_getElem hi] using q
  obtain ⟨i0, ei0⟩ := is_v g3
  obtain rfl : w0 = (.int i0) := Option.some.inj ei0
  obtain ⟨i1, ei1⟩ := is_v g5
  obtain rfl : w1 = (.int i1) := Option.some.inj ei1
  obtain ⟨i2, ei2⟩ := is_v g7
  obtain rfl : w2 = (.int i2) := Option.some.inj ei2
  obtain ⟨i3, ei3⟩ := is_v g9
  obtain rfl : w3 = (.int i3) := Option.some.inj ei3
  obtain ⟨i4, ei4⟩ := is_v g11
  obtain rfl : w4 = (.int i4) := Option.some.inj ei4
  obtain ⟨i5, ei5⟩ := is_v g12
  obtain rfl : w5 = (.int i5) := Option.some.inj ei5
  obtain ⟨u1, u2⟩ := and_e hn
  obtain ⟨u3, u4⟩ := and_e u2
  obtain ⟨u5, u6⟩ := and_e u4
  obtain ⟨u7, u8⟩ := and_e u6
  obtain ⟨u9, u10⟩ := and_e u8
  obtain ⟨u11, u12⟩ := and_e u10
  obtain ⟨u13, u14⟩ := and_e u12
  obtain ⟨u15, u16⟩ := and_e u14
  obtain ⟨a1, cl, S_HEX, A1, hat1, ev1⟩ := own_staArr (hw _ (List.mem_of_getElem? (i := 4) rfl)) (hw _ (List.mem_of_getElem? (i := 7) rfl)) u1
  have evs : ∀ idx, (Term.static "com/example/superlink/superlink/PercentDecoding" "HEX" "[I").eval #[(.int i0), (.int i1), (.int i2), (.int i3), (.int i4), (.int i5)] s none idx s = some (.ref a1) := fun _ => ev1
  have hlen := own_lenEq ev1 hat1 u3
  have l256 : (256 : Int32).toInt = 256 := by decide
  have hsz : cl.slots.size = 256 := by omega
  have l48 : (48 : Int32).toInt = 48 := by decide
  have l58 : (58 : Int32).toInt = 58 := by decide
  have l65 : (65 : Int32).toInt = 65 := by decide
  have l71 : (71 : Int32).toInt = 71 := by decide
  have l97 : (97 : Int32).toInt = 97 := by decide
  have l103 : (103 : Int32).toInt = 103 := by decide
  have hel : ∀ k, k < 256 → cl.slots[k]? = some (.int (own_hex k)) := by
    intro k hk
    unfold own_hex
    by_cases y1 : k < 48
    · rw [if_pos y1]; exact own_all1 (lo := 48) evs hat1 (by omega) u5 (by omega) (by omega) rfl
    rw [if_neg (by omega)]
    by_cases y2 : k < 58
    · rw [if_pos y2]; exact own_all2 (lo := 48) (hi := 58) evs hat1 (by omega) u7 (by omega) (by omega) (by omega) rfl
    rw [if_neg (by omega)]
    by_cases y3 : k < 65
    · rw [if_pos y3]; exact own_all2 (lo := 58) (hi := 65) evs hat1 (by omega) u9 (by omega) (by omega) (by omega) rfl
    rw [if_neg (by omega)]
    by_cases y4 : k < 71
    · rw [if_pos y4]; exact own_all2 (lo := 65) (hi := 71) evs hat1 (by omega) u11 (by omega) (by omega) (by omega) rfl
    rw [if_neg (by omega)]
    by_cases y5 : k < 97
    · rw [if_pos y5]; exact own_all2 (lo := 71) (hi := 97) evs hat1 (by omega) u13 (by omega) (by omega) (by omega) rfl
    rw [if_neg (by omega)]
    by_cases y6 : k < 103
    · rw [if_pos y6]; exact own_all2 (lo := 97) (hi := 103) evs hat1 (by omega) u15 (by omega) (by omega) (by omega) rfl
    rw [if_neg (by omega)]
    exact own_all3 (lo := 103) evs hat1 (by omega) u16 (by omega) (by omega) rfl
  have A_HEX : own_Ar s s.heap a1 .int 256 (fun k => .int (own_hex k)) := by
    rw [← hsz]
    exact own_Ar.start A1 (by omega) (fun i hi => hel i (by omega))
  obtain ⟨n, o, h1, h2, h3, _, L, rfl, ⟨rfl, N⟩, hq⟩ := rm0 l s _ hw tables_1 i0 i1 i2 i3 i4 i5 a1 s.heap s.heap.size (Nat.le_refl _) S_HEX A_HEX (Old.start s) p e ha hc hk s m _ below hf ((Spec.applies_iff_loose hf).mp happ).1 ⟨rfl, State.Warmed39.refl s, rfl⟩ trivial
  refine ⟨n, _, h1, h2, h3, hpost _ _ _ _ _ _ ⟨Cond.after_iff.mpr rfl, Cond.after_iff.mpr (eq_i res_at (Term.int_eval (1)) rfl), trivial⟩ ⟨hq.1, hq.2.1, (hq.2.2.sift fun y hy => Or.inr (N y hy)).mono (by decide) (by decide)⟩⟩
theorem main_1_1 : Claimed_1_1 := comes_1 fun _ _ _ _ _ _ h hF => ⟨h.1, hF⟩
theorem main_1_2 : Claimed_1_2 := comes_1 fun _ _ _ _ _ _ h hF => ⟨h.2.1, hF⟩
end Jvm.Pilot.@@N@@
namespace Jvm.Pilot.@@N@@
open Jvm Jvm.ClassFile Sem Op Lib Jvm.Free Jvm.Stand Jvm.Pilot.@@N@@.Jvm.D
/-! MADE BY PROGRAM (witnessworld.py) out of the Statement's table words and the real class files: 9 classes; the members and pool entries that the words name. The judged class is class 1, her method 2. -/
namespace start1
open Jvm.ClassFile
def u (s : String) : CpInfo := .utf8 (stringToUtf16 s)
/-- a pool by its gaps: so many unusable entries, then the entry; so many at the end -/
def gap : Nat → List CpInfo → List CpInfo
  | 0, r => r
  | n + 1, r => .unusable :: gap n r
def poolList (es : List (Nat × CpInfo)) (last : Nat) : List CpInfo := es.foldr (fun e r => gap e.1 (e.2 :: r)) (gap last [])
def pool (es : List (Nat × CpInfo)) (last : Nat) : Array CpInfo := ⟨poolList es last⟩
def fileOf (pool : Array CpInfo) (this : Nat) (attrs : Array Attribute := #[]) (ms : Array MethodInfo := #[]) (fl : Nat := 33) (sup : Nat := 0) (ifs : Array Nat := #[]) (fds : Array FieldInfo := #[]) : ClassFile where
  minorVersion := 0
  majorVersion := 65
  constantPool := pool
  accessFlags := fl
  thisClass := this
  superClass := sup
  interfaces := ifs
  fields := fds
  methods := ms
  attributes := attrs
def plain (name : String) (sup : Option ClassId) : Class where
  name := name
  kind := .ordinary
  loader := none
  accessFlags := 33
  super := sup
  interfaces := #[]
  cf := none
  fields := #[]
  methods := #[]
  instanceTypes := #[]
  staticTypes := #[]
  resolved := #[]
  callSites := []
  init := .initialized
  statics := none
  mirror := none

def pool0 : Array CpInfo := pool [(5, u "<init>"), (0, u "()V"), (1, .class_ 10), (1, u "java/lang/Object")] 113

def k0m0 : Method := { name := "<init>", desc := "()V", sig := { parameters := [], returnType := none }, accessFlags := 1, code := none }
/-- java/lang/Object -/
def k0 : Class := { plain "java/lang/Object" none with
  accessFlags := 33
  interfaces := #[]
  cf := some (fileOf pool0 8 #[] #[{ accessFlags := 1, nameIndex := 5, descriptorIndex := 6, attributes := #[] }] 33 0 #[] #[])
  fields := #[]
  methods := #[k0m0]
  instanceTypes := #[]
  staticTypes := #[]
  resolved := Array.replicate 124 none
  statics := none }

def pool1 : Array CpInfo := pool [(2, .class_ 4), (1, u "java/lang/Object"), (0, u "<init>"), (0, u "()V"), (0, .integer 2147483647), (0, .methodref 9 10), (0, .class_ 11), (0, .nameAndType 12 13), (0, u "com/example/superlink/superlink/PercentDecoding"), (0, u "escapedByte"), (0, u "([BII)I"), (0, .methodref 15 16), (0, .class_ 17), (0, .nameAndType 18 19), (0, u "com/example/superlink/superlink/PercentDecodingEscapedBytePinLaw"), (0, u "hexVal"), (0, u "(I)I"), (3, u "law"), (0, u "(IIIIII)Z")] 4

def k1m0 : Method := { name := "<init>", desc := "()V", sig := { parameters := [], returnType := none }, accessFlags := 2, code := none }
def k1c1 : Code := { maxStack := 2, maxLocals := 1, code := method_2_code, exceptionTable := #[], attributes := #[] }
def k1m1 : Method := { name := "hexVal", desc := "(I)I", sig := { parameters := [.int], returnType := some .int }, accessFlags := 10, code := some k1c1 }
def k1c2 : Code := { maxStack := 3, maxLocals := 13, code := code, exceptionTable := #[], attributes := #[] }
def k1m2 : Method := { name := "law", desc := "(IIIIII)Z", sig := { parameters := [.int, .int, .int, .int, .int, .int], returnType := some .boolean }, accessFlags := 9, code := some k1c2 }
/-- com/example/superlink/superlink/PercentDecodingEscapedBytePinLaw -/
def k1 : Class := { plain "com/example/superlink/superlink/PercentDecodingEscapedBytePinLaw" (some 0) with
  accessFlags := 49
  interfaces := #[]
  cf := some (fileOf pool1 15 #[] #[{ accessFlags := 2, nameIndex := 5, descriptorIndex := 6, attributes := #[] }, { accessFlags := 10, nameIndex := 18, descriptorIndex := 19, attributes := #[] }, { accessFlags := 9, nameIndex := 23, descriptorIndex := 24, attributes := #[] }] 49 2 #[] #[])
  fields := #[]
  methods := #[k1m0, k1m1, k1m2]
  instanceTypes := #[]
  staticTypes := #[]
  resolved := Array.replicate 29 none
  statics := none }

def pool2 : Array CpInfo := pool [(2, .class_ 4), (1, u "java/lang/Object"), (0, u "<init>"), (0, u "()V"), (1, .class_ 10), (1, u "com/example/superlink/superlink/PercentDecoding"), (8, .fieldref 8 20), (0, .nameAndType 21 22), (0, u "HEX"), (0, u "[I"), (29, u "escapedByte"), (72, u "([BII)I")] 9

def k2m0 : Method := { name := "<init>", desc := "()V", sig := { parameters := [], returnType := none }, accessFlags := 2, code := none }
def k2c1 : Code := { maxStack := 5, maxLocals := 4, code := prog_39_method_4_code, exceptionTable := #[], attributes := #[] }
def k2m1 : Method := { name := "escapedByte", desc := "([BII)I", sig := { parameters := [(.array .byte), .int, .int], returnType := some .int }, accessFlags := 8, code := some k2c1 }
/-- com/example/superlink/superlink/PercentDecoding -/
def k2 : Class := { plain "com/example/superlink/superlink/PercentDecoding" (some 0) with
  accessFlags := 48
  interfaces := #[]
  cf := some (fileOf pool2 8 #[] #[{ accessFlags := 2, nameIndex := 5, descriptorIndex := 6, attributes := #[] }, { accessFlags := 8, nameIndex := 52, descriptorIndex := 125, attributes := #[] }] 48 2 #[] #[{ accessFlags := 26, nameIndex := 21, descriptorIndex := 22, attributes := #[] }])
  fields := #[{ name := "HEX", type := (.array .int), accessFlags := 26, slot := 0, constantValue := 0 }]
  methods := #[k2m0, k2m1]
  instanceTypes := #[]
  staticTypes := #[(.array .int)]
  resolved := Array.replicate 135 none
  statics := some 0 }

def pool3 : Array CpInfo := pool [(1, u "java/lang/Cloneable"), (0, .class_ 1), (0, u "java/lang/Object"), (0, .class_ 3)] 3

/-- java/lang/Cloneable -/
def k3 : Class := { plain "java/lang/Cloneable" (some 0) with
  accessFlags := 1537
  interfaces := #[]
  cf := some (fileOf pool3 2 #[] #[] 1537 4 #[] #[])
  fields := #[]
  methods := #[]
  instanceTypes := #[]
  staticTypes := #[]
  resolved := Array.replicate 8 none
  statics := none }

def pool4 : Array CpInfo := pool [(1, u "java/io/Serializable"), (0, .class_ 1), (0, u "java/lang/Object"), (0, .class_ 3)] 3

/-- java/io/Serializable -/
def k4 : Class := { plain "java/io/Serializable" (some 0) with
  accessFlags := 1537
  interfaces := #[]
  cf := some (fileOf pool4 2 #[] #[] 1537 4 #[] #[])
  fields := #[]
  methods := #[]
  instanceTypes := #[]
  staticTypes := #[]
  resolved := Array.replicate 8 none
  statics := none }

/-- the primitive byte -/
def k5 : Class := { plain "byte" none with kind := .primitive 'B', accessFlags := 0x411 }
/-- [B -/
def k6 : Class := { plain "[B" (some 0) with kind := .array 5 .byte, interfaces := #[3, 4], accessFlags := 1041 }

/-- the primitive int -/
def k7 : Class := { plain "int" none with kind := .primitive 'I', accessFlags := 0x411 }
/-- [I -/
def k8 : Class := { plain "[I" (some 0) with kind := .array 7 .int, interfaces := #[3, 4], accessFlags := 1041 }

def heap : Heap := #[{ cls := 2, slots := #[.ref 1], vm := .statics 2 },
  { cls := 8, slots := #[.int (-1), .int (-1), .int (-1), .int (-1), .int (-1), .int (-1), .int (-1), .int (-1), .int (-1), .int (-1), .int (-1), .int (-1), .int (-1), .int (-1), .int (-1), .int (-1), .int (-1), .int (-1), .int (-1), .int (-1), .int (-1), .int (-1), .int (-1), .int (-1), .int (-1), .int (-1), .int (-1), .int (-1), .int (-1), .int (-1), .int (-1), .int (-1), .int (-1), .int (-1), .int (-1), .int (-1), .int (-1), .int (-1), .int (-1), .int (-1), .int (-1), .int (-1), .int (-1), .int (-1), .int (-1), .int (-1), .int (-1), .int (-1), .int 0, .int 1, .int 2, .int 3, .int 4, .int 5, .int 6, .int 7, .int 8, .int 9, .int (-1), .int (-1), .int (-1), .int (-1), .int (-1), .int (-1), .int (-1), .int 10, .int 11, .int 12, .int 13, .int 14, .int 15, .int (-1), .int (-1), .int (-1), .int (-1), .int (-1), .int (-1), .int (-1), .int (-1), .int (-1), .int (-1), .int (-1), .int (-1), .int (-1), .int (-1), .int (-1), .int (-1), .int (-1), .int (-1), .int (-1), .int (-1), .int (-1), .int (-1), .int (-1), .int (-1), .int (-1), .int (-1), .int 10, .int 11, .int 12, .int 13, .int 14, .int 15, .int (-1), .int (-1), .int (-1), .int (-1), .int (-1), .int (-1), .int (-1), .int (-1), .int (-1), .int (-1), .int (-1), .int (-1), .int (-1), .int (-1), .int (-1), .int (-1), .int (-1), .int (-1), .int (-1), .int (-1), .int (-1), .int (-1), .int (-1), .int (-1), .int (-1), .int (-1), .int (-1), .int (-1), .int (-1), .int (-1), .int (-1), .int (-1), .int (-1), .int (-1), .int (-1), .int (-1), .int (-1), .int (-1), .int (-1), .int (-1), .int (-1), .int (-1), .int (-1), .int (-1), .int (-1), .int (-1), .int (-1), .int (-1), .int (-1), .int (-1), .int (-1), .int (-1), .int (-1), .int (-1), .int (-1), .int (-1), .int (-1), .int (-1), .int (-1), .int (-1), .int (-1), .int (-1), .int (-1), .int (-1), .int (-1), .int (-1), .int (-1), .int (-1), .int (-1), .int (-1), .int (-1), .int (-1), .int (-1), .int (-1), .int (-1), .int (-1), .int (-1), .int (-1), .int (-1), .int (-1), .int (-1), .int (-1), .int (-1), .int (-1), .int (-1), .int (-1), .int (-1), .int (-1), .int (-1), .int (-1), .int (-1), .int (-1), .int (-1), .int (-1), .int (-1), .int (-1), .int (-1), .int (-1), .int (-1), .int (-1), .int (-1), .int (-1), .int (-1), .int (-1), .int (-1), .int (-1), .int (-1), .int (-1), .int (-1), .int (-1), .int (-1), .int (-1), .int (-1), .int (-1), .int (-1), .int (-1), .int (-1), .int (-1), .int (-1), .int (-1), .int (-1), .int (-1), .int (-1), .int (-1), .int (-1), .int (-1), .int (-1), .int (-1), .int (-1), .int (-1), .int (-1), .int (-1), .int (-1), .int (-1), .int (-1), .int (-1), .int (-1), .int (-1), .int (-1), .int (-1), .int (-1), .int (-1), .int (-1), .int (-1), .int (-1), .int (-1), .int (-1), .int (-1), .int (-1), .int (-1), .int (-1), .int (-1), .int (-1)], vm := .none }]
def classes : Array Class := #[k0, k1, k2, k3, k4, k5, k6, k7, k8]
def interned : List (Array UInt16 × Addr) := []
def slotsUsed : Nat := 257
def theMethod : MethodId := ⟨1, 2⟩
def args0 : Array Value := #[.int 1, .int 4, .int 37, .int 52, .int 49, .int 0]
def aboutOver (below : List Frame) : State where
  vm := { classes := classes, interned := interned.toArray }
  heap := heap
  slotsUsed := slotsUsed
  threads := #[{ frames := .invoking theMethod args0 :: below }]
def below0 : List Frame := [.native { method := ⟨0, 0⟩, args := #[] }]
def about1 : State := aboutOver below0
def p0 : Program := .bare "" "" ""
def e0 : Env := launch0.env 0 0 0
theorem w_frames : about1.frames = Frame.invoking theMethod args0 :: below0 := rfl
set_option maxRecDepth 65536 in
theorem w_args : argsFit about1.vm theMethod args0 = true := by decide +kernel
set_option maxRecDepth 65536 in
theorem w_heap : heapFits about1 = true := by decide +kernel
set_option maxRecDepth 65536 in
theorem w_runnable : about1.curStatus? = some .runnable := by decide +kernel
set_option maxRecDepth 65536 in
theorem w_alone : about1.alone = true := by decide +kernel
set_option maxRecDepth 65536 in
theorem w_named : about1.methodNamed? x = some theMethod := by decide +kernel
set_option maxRecDepth 65536 in
theorem w_hears : about1.hears theMethod below0 = true := by decide +kernel
set_option maxRecDepth 65536 in
theorem w_ripe : about1.ripe theMethod args0 below0 = true := by decide +kernel
theorem w_running : about1.status = .running := rfl
set_option maxRecDepth 65536 in
theorem w_room : about1.hasRoom e0.platform room_1 = true :=
  launch0.hasRoom_least _ room_1 (by decide +kernel) (by decide +kernel) (by decide +kernel) (by decide +kernel) (by decide +kernel) (by decide +kernel)
theorem allAtoms_all (ts : List Jvm.Cond) (a : Array Jvm.Value) (st : Jvm.State) : (allAtoms ts).before a st = ts.all (fun c => c.before a st) := by
  induction ts with
  | nil => rfl
  | cons c t ih =>
    show (Jvm.Cond.and c (allAtoms t)).before a st = _
    rw [Jvm.Cond.before_and, ih, List.all_cons]
def words1 : List Jvm.Cond := Jvm.Cond.code x code maxLocals ret :: tables_1
/-- a 'code' word, met by the world's own term for the bytes: nothing is compared byte by byte -/
theorem code_word {y : MethodName} {bytes : ByteArray} {mx : Nat} {rt : Option FieldType} {a : Array Value} {s : State} {m : MethodId} {meth : Method} {c : Code} (h1 : s.methodNamed? y = some m) (h2 : s.vm.method? m = some meth) (h3 : meth.code = some c) (h4 : c.code = bytes)
    (h5 : (c.maxLocals == mx && c.exceptionTable.isEmpty && decide (c.maxStack ≤ mostOperands) && decide (meth.sig.returnType = rt) && !meth.locks && decide (parseMethodDescriptor y.desc = some meth.sig)) = true) : (Jvm.Cond.code y bytes mx rt).before a s = true := by
  simp only [Bool.and_eq_true, beq_iff_eq, Bool.not_eq_true', decide_eq_true_eq] at h5
  obtain ⟨⟨⟨⟨⟨g1, g2⟩, g3⟩, g4⟩, g5⟩, g6⟩ := h5
  simp [Cond.before, Cond.holds, Cond.value, h1, h2, h3, h4, g1, g2, g3, g4, g5, g6]
def isCode : Jvm.Cond → Bool
  | .code _ _ _ _ => true
  | _ => false
theorem all_split {L : List Jvm.Cond} {P : Jvm.Cond → Bool} (h1 : L.all (fun c => isCode c || P c) = true) (h2 : ∀ c ∈ L.filter isCode, P c = true) : L.all P = true := by
  refine List.all_eq_true.mpr fun c hc => ?_
  have h := List.all_eq_true.mp h1 c hc
  rcases Bool.eq_false_or_eq_true (isCode c) with hi | hi
  · exact h2 c (List.mem_filter.mpr ⟨hc, hi⟩)
  · simpa [hi] using h
set_option maxRecDepth 65536 in
theorem w_c0 : (Jvm.Cond.code x code maxLocals ret).before args0 about1 = true := code_word (m := ⟨1, 2⟩) (meth := k1m2) (c := k1c2) (by decide +kernel) rfl rfl rfl (by decide +kernel)
set_option maxRecDepth 65536 in
theorem w_c1 : (Jvm.Cond.code ({ cls := "com/example/superlink/superlink/PercentDecoding", name := "escapedByte", desc := "([BII)I" } : Jvm.MethodName) prog_39_method_4_code (4 : Nat) (Option.some Jvm.ClassFile.FieldType.int)).before args0 about1 = true := code_word (m := ⟨2, 1⟩) (meth := k2m1) (c := k2c1) (by decide +kernel) rfl rfl rfl (by decide +kernel)
set_option maxRecDepth 65536 in
theorem w_c2 : (Jvm.Cond.code ({ cls := "com/example/superlink/superlink/PercentDecodingEscapedBytePinLaw", name := "hexVal", desc := "(I)I" } : Jvm.MethodName) method_2_code (1 : Nat) (Option.some Jvm.ClassFile.FieldType.int)).before args0 about1 = true := code_word (m := ⟨1, 1⟩) (meth := k1m1) (c := k1c1) (by decide +kernel) rfl rfl rfl (by decide +kernel)
def codes1 : List Jvm.Cond := [Jvm.Cond.code x code maxLocals ret, Jvm.Cond.code ({ cls := "com/example/superlink/superlink/PercentDecoding", name := "escapedByte", desc := "([BII)I" } : Jvm.MethodName) prog_39_method_4_code (4 : Nat) (Option.some Jvm.ClassFile.FieldType.int), Jvm.Cond.code ({ cls := "com/example/superlink/superlink/PercentDecodingEscapedBytePinLaw", name := "hexVal", desc := "(I)I" } : Jvm.MethodName) method_2_code (1 : Nat) (Option.some Jvm.ClassFile.FieldType.int)]
set_option maxRecDepth 65536 in
theorem codes_eq : words1.filter isCode = codes1 := rfl
theorem w_codes : ∀ c ∈ words1.filter isCode, c.before args0 about1 = true := by
  rw [codes_eq]
  intro c hc
  simp only [codes1, List.mem_cons, List.not_mem_nil, or_false] at hc
  rcases hc with rfl | rfl | rfl
  · exact w_c0
  · exact w_c1
  · exact w_c2
set_option maxRecDepth 65536 in
theorem w_t1 : words1.all (fun c => isCode c || c.before args0 about1) = true := by decide +kernel
theorem w_tables : (allAtoms (Jvm.Cond.code x code maxLocals ret :: tables_1)).before args0 about1 = true := by
  rw [allAtoms_all]
  show words1.all (fun c => c.before args0 about1) = true
  refine all_split ?_ w_codes
  rw [w_t1]
set_option maxRecDepth 65536 in
theorem w_case : (Jvm.Cond.and given_1 narrow_1).before args0 about1 = true := by decide +kernel
theorem w_applies : (headSpec (Jvm.Cond.code x code maxLocals ret :: tables_1) room_1).applies x e0.platform about1 = true :=
  (Spec.applies_iff w_frames).mpr ⟨w_running, w_runnable, w_alone, w_named, w_hears, w_ripe, w_room, w_tables⟩
theorem atStart : AtStart classFile x code maxLocals ret World_1 tables_1 room_1 Calls_1 rest_1 Pre_1 launch0 p0 e0 about1 theMethod args0 below0 :=
  ⟨lists_1, trivial, launch0.admits_env _ _ _, launch0.least_env, fairChoices_fair.cas, fairChoices_fair.clock, w_frames, w_args, w_heap, w_applies, trivial, trivial, w_case⟩
end start1
theorem witness_1 : WitnessClaimed_1 := ⟨start1.p0, start1.e0, start1.about1, start1.theMethod, start1.args0, start1.below0, start1.atStart⟩
end Jvm.Pilot.@@N@@
