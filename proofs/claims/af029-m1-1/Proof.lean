import JvmDerived
import JvmDerived.Pilot.@@N@@Statement
import JvmDerived.Pilot.@@N@@Code
set_option linter.unusedVariables false
set_option linter.unusedSimpArgs false
@@BLOCK:NumsL.lean.txt@@
namespace Jvm.Pilot.@@N@@
open Jvm Jvm.ClassFile Sem Op Lib Jvm.Free Jvm.Stand Jvm.LawKit Jvm.RoadKit Bundle Jvm.Pilot.@@N@@.Jvm.D
section OwnKit
variable {p : Program} {l : Launch} {e : Env} {R : Room} {s : State} {m : MethodId} {args : Array Value} {below : List Frame} {meth : Method} {c : Code} {T : State} {locs : List Loc} {cells slots : Nat} {Z : State} {a0 : Array Value} {h h' : Heap} {K : State → Outcome → Prop}
/-- from here the run comes to an end that K takes -/
def own_Wp (tb : Tables) (e : Env) (below : List Frame) (K : State → Outcome → Prop) (st : State) : Prop := ∃ s₂ o, Steps tb e below st s₂ ∧ K s₂ o
theorem own_of {tb : Tables} {A B : State} (h : ∀ t, Steps tb e below B t → Steps tb e below A t) (w : own_Wp tb e below K B) : own_Wp tb e below K A := by
  obtain ⟨s₂, o, h1, h2⟩ := w
  exact ⟨s₂, o, h _ h1, h2⟩
def own_K (R : Room) (s : State) (below : List Frame) (Q : Option Value → Heap → List Loc → Prop) (s₂ : State) (o : Outcome) : Prop :=
  s₂.status = .running ∧ Ended s₂ below o ∧ ∃ v L, o = .returned v ∧ Q v s₂.heap L ∧ FrameEnd s o s₂ L R.cells R.slots
theorem own_ret {Q : Option Value → Heap → List Loc → Prop} (X : Stand p l e R s m args below meth c T locs cells slots) (hlk : meth.locks = false) (v : Option Value) (hv : meth.sig.returnType = none → v = none) {f : JFrame}
    (hs : ∀ fs, (∀ (f : JFrame) (acts : List Action), f.method = m → f.locked = none → f.entered = [] → (doReturn e (T.setTop f) acts v).1 = T.setFrames fs) → Steps p.tables e below (T.setTop f) (T.setFrames fs))
    (hQ : Q v T.heap locs) (hc : cells ≤ R.cells) (hsl : slots ≤ R.slots) : own_Wp p.tables e below (own_K R s below Q) (T.setTop f) := by
  obtain ⟨fs, hr, hrun, hended, hW, hsame⟩ := X.leave (v := v) hv hlk
  exact ⟨_, _, hs fs hr, hrun, hended, _, _, rfl, hQ, ⟨_, rfl⟩, hW, hsame.mono hc hsl⟩
theorem own_rtI {i : FieldType} {v : Option Value} {r : Option FieldType} (h1 : r = some i) : r = none → v = none := fun h => by rw [h1] at h; cases h
theorem own_retI (X : Stand p l e R s m args below meth c T locs cells slots) (hx : p.tables.exec = Jvm.exec) {pc : Nat} {Ls : Array Slot} {z : Int32} {rest : List Value} (hret : meth.sig.returnType = some .int) (hd : decode c.code pc = .ok (.ireturn, 1)) {fs : List Frame}
    (hl : ∀ (f : JFrame) (acts : List Action), f.method = m → f.locked = none → f.entered = [] → (doReturn e (T.setTop f) acts (some (.int z))).1 = T.setFrames fs) : Steps p.tables e below (T.setTop (mkF m pc Ls (.int z :: rest))) (T.setFrames fs) :=
  retOut X hx hret rfl (Or.inl ⟨rfl, Or.inl rfl, z, rfl⟩) hd hl
theorem own_retJ (X : Stand p l e R s m args below meth c T locs cells slots) (hx : p.tables.exec = Jvm.exec) {pc : Nat} {Ls : Array Slot} {z : Int64} {rest : List Value} (hret : meth.sig.returnType = some .long) (hd : decode c.code pc = .ok (.lreturn, 1)) {fs : List Frame}
    (hl : ∀ (f : JFrame) (acts : List Action), f.method = m → f.locked = none → f.entered = [] → (doReturn e (T.setTop f) acts (some (.long z))).1 = T.setFrames fs) : Steps p.tables e below (T.setTop (mkF m pc Ls (.long z :: rest))) (T.setFrames fs) :=
  retOut X hx hret rfl (Or.inr (Or.inl ⟨rfl, rfl, z, rfl⟩)) hd hl
theorem own_retR (X : Stand p l e R s m args below meth c T locs cells slots) (hx : p.tables.exec = Jvm.exec) {pc : Nat} {Ls : Array Slot} {w : Value} {t : FieldType} {rest : List Value} (hret : meth.sig.returnType = some t) (hw : w.isRef = true) (ht : t.isReference = true) (hn : narrow t w = w) (hd : decode c.code pc = .ok (.areturn, 1)) {fs : List Frame}
    (hl : ∀ (f : JFrame) (acts : List Action), f.method = m → f.locked = none → f.entered = [] → (doReturn e (T.setTop f) acts (some w)).1 = T.setFrames fs) : Steps p.tables e below (T.setTop (mkF m pc Ls (w :: rest))) (T.setFrames fs) :=
  retOut X hx hret hn (Or.inr (Or.inr (Or.inr (Or.inr ⟨rfl, ht, hw⟩)))) hd hl
/-- a method's contract: called so, at the heap h0, it returns as Q says -/
abbrev own_Ctr (l : Launch) (Z : State) (y : MethodName) (bytes : ByteArray) (maxL : Nat) (ret : Option FieldType) (ws : List Jvm.Cond) (rm : Room) (as' : Array Value) (h0 : Heap) (Q : Option Value → Heap → List Loc → Prop) : Prop :=
  MetFree l y (head1 (Jvm.Cond.code y bytes maxL ret :: ws) rm) (fun a U => a = as' ∧ Z.Warmed39 U.vm ∧ U.heap = h0) (fun _ _ _ _ _ => True) (fun _ U o U' => ∃ v L, o = .returned v ∧ Q v U'.heap L ∧ FrameEnd U o U' L rm.cells rm.slots)
theorem own_enter {y : MethodName} {bytes : ByteArray} {maxL : Nat} {ret : Option FieldType} {ws : List Jvm.Cond} {rm : Room} {as' : Array Value} {h0 : Heap} {Q : Option Value → Heap → List Loc → Prop} (hpl : plainFor y = true)
    (body : ∀ (p : Program) (e : Env) (s : State) (m : MethodId) (below : List Frame) (meth : Method) (c : Code) (s₁ : State), Stand p l e rm s m as' below meth c s₁ [] 0 0 → p.tables.exec = Jvm.exec → c.code = bytes → c.maxLocals = maxL → meth.sig.returnType = ret → meth.locks = false → Z.Warmed39 s.vm → s.vm.findClass y.cls = some m.cls → meth.name = y.name → s₁.heap = h0 → own_Wp p.tables e below (own_K rm s below Q) (s₁.setTop (entryFrame m as' maxL))) :
    own_Ctr l Z y bytes maxL ret ws rm as' h0 Q := by
  refine MetFree.of_bodySF hpl hisR ?_
  intro p e s m args below meth c s₁ Bd hml0 hP hK
  obtain ⟨rfl, hZ, hh⟩ := hP
  obtain ⟨s₂, o, h1, h2, h3, h4⟩ := body p e s m below meth c s₁ (Stand.of_body Bd) Bd.exec Bd.bytes hml0 Bd.returns Bd.notSynchronized hZ (findClass_of_methodNamed Bd.named) (name_of_methodNamed Bd.named Bd.method).1 (by rw [← hh, Bd.state]; rfl)
  exact ⟨s₂, o, h1, h2, h3, h4⟩
section Calls
variable {own C : String} {index maxL W : Nat} {y z : MethodName} {bytes : ByteArray} {ret : Option FieldType} {rm : Room} {Q : Option Value → Heap → List Loc → Prop} {argsL rest : List Value} {g : JFrame} {a : Addr}
theorem own_callS (X : Stand p l e R s m args below meth c T locs cells slots) (hx : p.tables.exec = Jvm.exec) (hZ : Z.Warmed39 s.vm) (hown : s.vm.findClass own = some m.cls)
    (w1 : (Jvm.Cond.methodLink own index y).before a0 Z = true) (w2 : (Jvm.Cond.static y).before a0 Z = true) (w3 : (Jvm.Cond.initialized y.cls).before a0 Z = true) (w4 : (Jvm.Cond.code y bytes maxL ret).before a0 Z = true)
    (hy : y.cls ≠ "java/lang/invoke/MethodHandle" ∧ y.cls ≠ "java/lang/invoke/VarHandle") (eT : T.heap = h) (hM : own_Ctr l Z y bytes maxL ret [] rm argsL.toArray h Q)
    (hf : rm.frames + 1 ≤ R.frames) (hl : W + (maxL + 11) + rm.locals ≤ R.locals) (hc : cells + rm.cells ≤ R.cells) (hs : slots + rm.slots ≤ R.slots)
    (hg : g.method = m) (hsize : g.locals.size = c.maxLocals) (hlen : ∀ sig, parseMethodDescriptor y.desc = some sig → argsL.length = sig.parameters.length) (hstack : g.stack = argsL.reverse ++ rest) (hW : 2 * g.monitorRoom + (rest.map fun v => v.category).sum ≤ W) (hdg : decode c.code g.pc = .ok (.invokestatic index, 3))
    (k : ∀ (T' : State) (L : List Loc) (v : Option Value), Stand p l e R s m args below meth c T' (locs ++ L) (cells + rm.cells) (slots + rm.slots) → Q v T'.heap L → own_Wp p.tables e below K (T'.setTop { g with pc := g.pc + 3, stack := v.toList ++ rest })) :
    own_Wp p.tables e below K (T.setTop g) := by
  obtain ⟨v, _, ⟨T', L', k', n'⟩, -, X', ⟨Lc, hQ, l1, y1, z1⟩, st⟩ := Jvm.LawKit.callS X hx hown (mvT hZ w1) (mvT hZ w2) (mvT hZ w3) (mvT hZ w4) hy (backOf (W := W) hM hZ w4 w3 hf hl) hg hsize hlen hstack hW hdg (fun _ _ => ⟨rfl, eT, hc, hs⟩)
  dsimp only [Pt.U, Pt.locs, Pt.cells, Pt.slots] at X' l1 y1 z1 st hQ
  subst l1 y1 z1
  exact own_of st (k _ _ _ X' hQ)
theorem own_callI (X : Stand p l e R s m args below meth c T locs cells slots) (hx : p.tables.exec = Jvm.exec) (hZ : Z.Warmed39 s.vm) (hy1 : y.name = "<init>") (hown : s.vm.findClass own = some m.cls)
    (w1 : (Jvm.Cond.methodLink own index y).before a0 Z = true) (w2 : (Jvm.Cond.instanceMethod y).before a0 Z = true) (w3 : (Jvm.Cond.initialized y.cls).before a0 Z = true) (w4 : (Jvm.Cond.code y bytes maxL none).before a0 Z = true)
    (hy : y.cls ≠ "java/lang/invoke/MethodHandle" ∧ y.cls ≠ "java/lang/invoke/VarHandle") (eT : T.heap = h) (hM : own_Ctr l Z y bytes maxL none [] rm (.ref a :: argsL).toArray h Q)
    (hf : rm.frames + 1 ≤ R.frames) (hl : W + (maxL + 11) + rm.locals ≤ R.locals) (hc : cells + rm.cells ≤ R.cells) (hs : slots + rm.slots ≤ R.slots)
    (hg : g.method = m) (hsize : g.locals.size = c.maxLocals) (hlen : ∀ sig, parseMethodDescriptor y.desc = some sig → argsL.length = sig.parameters.length) (hstack : g.stack = argsL.reverse ++ .ref a :: rest) (hW : 2 * g.monitorRoom + (rest.map fun v => v.category).sum ≤ W) (hdg : decode c.code g.pc = .ok (.invokespecial index, 3))
    (k : ∀ (T' : State) (L : List Loc) (v : Option Value), Stand p l e R s m args below meth c T' (locs ++ L) (cells + rm.cells) (slots + rm.slots) → Q v T'.heap L → own_Wp p.tables e below K (T'.setTop { g with pc := g.pc + 3, stack := v.toList ++ rest })) :
    own_Wp p.tables e below K (T.setTop g) := by
  obtain ⟨v, _, ⟨T', L', k', n'⟩, -, X', ⟨Lc, hQ, l1, y1, z1⟩, st⟩ := X.specialBack hx hy1 hown (mvT hZ w1) (mvT hZ w2) (mvT hZ w4) hy (backOf (W := W) hM hZ w4 w3 hf hl) hg hsize (Steps.refl _) hlen hstack hW hdg (fun _ _ => ⟨rfl, eT, hc, hs⟩)
  dsimp only [Pt.U, Pt.locs, Pt.cells, Pt.slots] at X' l1 y1 z1 st hQ
  subst l1 y1 z1
  exact own_of (fun t q => st.trans q) (k _ _ _ X' hQ)
theorem own_callV (X : Stand p l e R s m args below meth c T locs cells slots) (hx : p.tables.exec = Jvm.exec) (hZ : Z.Warmed39 s.vm) (hown : s.vm.findClass own = some m.cls)
    (w1 : (Jvm.Cond.methodLink own index y).before a0 Z = true) (w2 : (Jvm.Cond.declares y).before a0 Z = true) (w5 : (Jvm.Cond.selects C y y).before a0 Z = true) (w6 : (Jvm.Cond.instanceMethod y).before a0 Z = true) (w3 : (Jvm.Cond.initialized y.cls).before a0 Z = true) (w4 : (Jvm.Cond.code y bytes maxL ret).before a0 Z = true)
    (hy : y.cls ≠ "java/lang/invoke/MethodHandle" ∧ y.cls ≠ "java/lang/invoke/VarHandle") (eT : T.heap = h) (E : Exa Z h a C) (hM : own_Ctr l Z y bytes maxL ret [] rm (.ref a :: argsL).toArray h Q)
    (hf : rm.frames + 1 ≤ R.frames) (hl : W + (maxL + 11) + rm.locals ≤ R.locals) (hc : cells + rm.cells ≤ R.cells) (hs : slots + rm.slots ≤ R.slots)
    (hg : g.method = m) (hsize : g.locals.size = c.maxLocals) (hlen : ∀ sig, parseMethodDescriptor y.desc = some sig → argsL.length = sig.parameters.length) (hstack : g.stack = argsL.reverse ++ .ref a :: rest) (hW : 2 * g.monitorRoom + (rest.map fun v => v.category).sum ≤ W) (hdg : decode c.code g.pc = .ok (.invokevirtual index, 3))
    (k : ∀ (T' : State) (L : List Loc) (v : Option Value), Stand p l e R s m args below meth c T' (locs ++ L) (cells + rm.cells) (slots + rm.slots) → Q v T'.heap L → own_Wp p.tables e below K (T'.setTop { g with pc := g.pc + 3, stack := v.toList ++ rest })) :
    own_Wp p.tables e below K (T.setTop g) := by
  obtain ⟨cq, kq, qa, qb, qc⟩ := isOf hZ eT E
  obtain ⟨v, _, ⟨T', L', k', n'⟩, -, X', ⟨Lc, hQ, l1, y1, z1⟩, st⟩ := X.virtualBack hx hown (mvT hZ w1) (mvT hZ w2) (notFace_of_selects (args := #[]) (mvT hZ w5)) (mvT hZ w5) (mvT hZ w6) hy (backOf (W := W) hM hZ w4 w3 hf hl) qa qc hg hsize (Steps.refl _) hlen hstack hW hdg (fun _ _ => ⟨rfl, eT, hc, hs⟩)
  dsimp only [Pt.U, Pt.locs, Pt.cells, Pt.slots] at X' l1 y1 z1 st hQ
  subst l1 y1 z1
  exact own_of (fun t q => st.trans q) (k _ _ _ X' hQ)
theorem own_callP {nI : Nat} {C0 : String} (X : Stand p l e R s m args below meth c T locs cells slots) (hx : p.tables.exec = Jvm.exec) (hZ : Z.Warmed39 s.vm) (hown : s.vm.findClass own = some m.cls)
    (w1 : (Jvm.Cond.methodLink own index y).before a0 Z = true) (w2 : (Jvm.Cond.instanceMethod y).before a0 Z = true) (wi : (Jvm.Cond.instantiable y.cls nI).before a0 Z = true) (wp : (Jvm.Cond.privateMethod y).before a0 Z = true) (w3 : (Jvm.Cond.initialized y.cls).before a0 Z = true) (w4 : (Jvm.Cond.code y bytes maxL ret).before a0 Z = true)
    (hy : y.cls ≠ "java/lang/invoke/MethodHandle" ∧ y.cls ≠ "java/lang/invoke/VarHandle") (eT : T.heap = h) (E : Exa Z h a C0) (hM : own_Ctr l Z y bytes maxL ret [] rm (.ref a :: argsL).toArray h Q)
    (hf : rm.frames + 1 ≤ R.frames) (hl : W + (maxL + 11) + rm.locals ≤ R.locals) (hc : cells + rm.cells ≤ R.cells) (hs : slots + rm.slots ≤ R.slots)
    (hg : g.method = m) (hsize : g.locals.size = c.maxLocals) (hlen : ∀ sig, parseMethodDescriptor y.desc = some sig → argsL.length = sig.parameters.length) (hstack : g.stack = argsL.reverse ++ .ref a :: rest) (hW : 2 * g.monitorRoom + (rest.map fun v => v.category).sum ≤ W) (hdg : decode c.code g.pc = .ok (.invokevirtual index, 3))
    (k : ∀ (T' : State) (L : List Loc) (v : Option Value), Stand p l e R s m args below meth c T' (locs ++ L) (cells + rm.cells) (slots + rm.slots) → Q v T'.heap L → own_Wp p.tables e below K (T'.setTop { g with pc := g.pc + 3, stack := v.toList ++ rest })) :
    own_Wp p.tables e below K (T.setTop g) := by
  obtain ⟨cq, q1, q2⟩ := E.cell
  obtain ⟨ci, ki, i1, i2, -, i4, -⟩ := Cond.instantiable_spec (mvT (args := args) hZ wi)
  simp only [Bool.or_eq_false_iff] at i4
  have hpr : s.PrivateAt y := Cond.privateMethod_at (mvP hZ wp (args := #[]))
  have hsel : (Jvm.Cond.selects y.cls y y).before args s = true := selects_self_of_private i1 i2 i4.1 hpr (mvT hZ w2) hy
  obtain ⟨v, _, ⟨T', L', k', n'⟩, -, X', ⟨Lc, hQ, l1, y1, z1⟩, st⟩ := X.privateBack hx hown (mvT hZ w1) (mvT hZ w2) hsel hpr (mvT hZ w4) hy (backOf (W := W) hM hZ w4 w3 hf hl) hg hsize (Steps.refl _) (by rw [eT]; exact q1) q2 hlen hstack hW hdg (fun _ _ => ⟨rfl, eT, hc, hs⟩)
  dsimp only [Pt.U, Pt.locs, Pt.cells, Pt.slots] at X' l1 y1 z1 st hQ
  subst l1 y1 z1
  exact own_of (fun t q => st.trans q) (k _ _ _ X' hQ)
end Calls
end OwnKit
section OwnArr
variable {p : Program} {l : Launch} {e : Env} {R : Room} {s : State} {m : MethodId} {args : Array Value} {below : List Frame} {meth : Method} {c : Code} {T : State} {locs : List Loc} {cells slots : Nat} {Z : State} {a0 : Array Value} {h h' : Heap} {K : State → Outcome → Prop}
variable {a b : Addr} {ty : FieldType} {n sl : Nat} {f : Nat → Value} {v : Value} {ws : List Addr}
theorem own_nat {j : Int32} {i : Nat} (hj : j.toInt = (i : Int)) : j.toNatClampNeg = i := by
  show j.toInt.toNat = i
  rw [hj]; exact Int.toNat_natCast i
theorem own_nneg {j : Int32} {i : Nat} (hj : j.toInt = (i : Int)) : ¬ j < 0 := by
  rw [Int32.lt_iff_toInt_lt, hj]
  show ¬ ((i : Int) < 0)
  omega
/-- the array at a: its kind, its length, its elements -/
def own_Ar (Z : State) (h : Heap) (a : Addr) (ty : FieldType) (n : Nat) (f : Nat → Value) : Prop := n < 2147483648 ∧ ∃ c : Cell, Arr Z h a c ty ∧ c.slots.size = n ∧ ∀ i, i < n → c.slots[i]? = some (f i)
def own_set (f : Nat → Value) (i : Nat) (v : Value) : Nat → Value := fun k => if k = i then v else f k
theorem own_set_eq (f : Nat → Value) (i : Nat) (v : Value) : own_set f i v i = v := if_pos rfl
theorem own_set_ne {f : Nat → Value} {i k : Nat} {v : Value} (q : k ≠ i) : own_set f i v k = f k := if_neg q
theorem own_Ar.lt (F : own_Ar Z h a ty n f) : a < h.size := by obtain ⟨_, c, A, -⟩ := F; exact A.lt
theorem own_Ar.ext (F : own_Ar Z h a ty n f) (E : Ext h h') : own_Ar Z h' a ty n f := by obtain ⟨q, c, A, r⟩ := F; exact ⟨q, c, A.ext E, r⟩
theorem own_Ar.other (F : own_Ar Z h a ty n f) (W : Wr h h' b sl v) (q : a ≠ b) : own_Ar Z h' a ty n f := by obtain ⟨q0, c, A, r⟩ := F; exact ⟨q0, c, A.other W q, r⟩
theorem own_Ar.keep (F : own_Ar Z h a ty n f) (K : Keep h h' ws) (q : a ∉ ws) : own_Ar Z h' a ty n f := by obtain ⟨q0, c, A, r⟩ := F; exact ⟨q0, c, ⟨K.2.1 a c A.1 q, A.2⟩, r⟩
theorem own_Ar.fn {f' : Nat → Value} (F : own_Ar Z h a ty n f) (q : ∀ i, i < n → f i = f' i) : own_Ar Z h a ty n f' := by obtain ⟨q0, c, A, r1, r2⟩ := F; exact ⟨q0, c, A, r1, fun i hi => by rw [← q i hi]; exact r2 i hi⟩
theorem own_Ar.new {k : ClassId} {z : Int32} (A : Arr Z h a (newA k ty z) ty) (q : ¬ z < 0) (e : z.toNatClampNeg = n) : own_Ar Z h a ty n (fun _ => defaultValue ty) := by
  refine ⟨by rw [← e]; exact (back32 q).2, _, A, by rw [sz_new, e], fun i hi => ?_⟩
  simp [newA, e, hi]
theorem own_Ar.start (A : Arr Z h a c' ty) (hs : c'.slots.size < 2147483648) (H : ∀ i, i < c'.slots.size → c'.slots[i]? = some (f i)) : own_Ar Z h a ty c'.slots.size f := ⟨hs, _, A, rfl, H⟩
section Steps
variable {j : Int32} {i : Nat} {g : JFrame} {rest : List Value}
theorem own_in {cl : Cell} (hj : j.toInt = (i : Int)) (hi : i < n) (hsz : cl.slots.size = n) : ¬ (j < 0 ∨ cl.slots.size ≤ j.toNatClampNeg) := by
  rw [own_nat hj, hsz]
  rintro (q | q)
  · exact own_nneg hj q
  · omega
theorem own_iaload {v : Int32} (X : Stand p l e R s m args below meth c T locs cells slots) (hx : p.tables.exec = Jvm.exec) (hZ : Z.Warmed39 s.vm) (eT : T.heap = h) (A : own_Ar Z h a .int n f) (hj : j.toInt = (i : Int)) (hi : i < n) (hv : f i = .int v)
    (hg : g.method = m) (hs : g.stack = .int j :: .ref a :: rest) (hd : decode c.code g.pc = .ok (.iaload, 1)) (k : own_Wp p.tables e below K (T.setTop { g with pc := g.pc + 1, stack := .int v :: rest })) : own_Wp p.tables e below K (T.setTop g) := by
  obtain ⟨-, cl, A, hsz, H⟩ := A
  exact own_of (X.iaload hx (by rw [eT]; exact A.1) (State.isArrayOf_alike hZ.alike A.2.1) A.2.2 (own_in hj hi hsz) (by rw [own_nat hj, H i hi, hv]) hg hs hd) k
theorem own_laload {v : Int64} (X : Stand p l e R s m args below meth c T locs cells slots) (hx : p.tables.exec = Jvm.exec) (hZ : Z.Warmed39 s.vm) (eT : T.heap = h) (A : own_Ar Z h a .long n f) (hj : j.toInt = (i : Int)) (hi : i < n) (hv : f i = .long v)
    (hg : g.method = m) (hs : g.stack = .int j :: .ref a :: rest) (hd : decode c.code g.pc = .ok (.laload, 1)) (k : own_Wp p.tables e below K (T.setTop { g with pc := g.pc + 1, stack := .long v :: rest })) : own_Wp p.tables e below K (T.setTop g) := by
  obtain ⟨-, cl, A, hsz, H⟩ := A
  exact own_of (X.laload hx (by rw [eT]; exact A.1) (State.isArrayOf_alike hZ.alike A.2.1) A.2.2 (own_in hj hi hsz) (by rw [own_nat hj, H i hi, hv]) hg hs hd) k
theorem own_baload {v : Int32} (X : Stand p l e R s m args below meth c T locs cells slots) (hx : p.tables.exec = Jvm.exec) (hZ : Z.Warmed39 s.vm) (eT : T.heap = h) (A : own_Ar Z h a .byte n f) (hj : j.toInt = (i : Int)) (hi : i < n) (hv : f i = .int v)
    (hg : g.method = m) (hs : g.stack = .int j :: .ref a :: rest) (hd : decode c.code g.pc = .ok (.baload, 1)) (k : own_Wp p.tables e below K (T.setTop { g with pc := g.pc + 1, stack := .int v :: rest })) : own_Wp p.tables e below K (T.setTop g) := by
  obtain ⟨-, cl, A, hsz, H⟩ := A
  exact own_of (X.baloadBytes hx (by rw [eT]; exact A.1) (State.isArrayOf_alike hZ.alike A.2.1) A.2.2 (own_in hj hi hsz) (by rw [own_nat hj, H i hi, hv]) hg hs hd) k
theorem own_zaload {v : Int32} (X : Stand p l e R s m args below meth c T locs cells slots) (hx : p.tables.exec = Jvm.exec) (hZ : Z.Warmed39 s.vm) (eT : T.heap = h) (A : own_Ar Z h a .boolean n f) (hj : j.toInt = (i : Int)) (hi : i < n) (hv : f i = .int v)
    (hg : g.method = m) (hs : g.stack = .int j :: .ref a :: rest) (hd : decode c.code g.pc = .ok (.baload, 1)) (k : own_Wp p.tables e below K (T.setTop { g with pc := g.pc + 1, stack := .int v :: rest })) : own_Wp p.tables e below K (T.setTop g) := by
  obtain ⟨-, cl, A, hsz, H⟩ := A
  exact own_of (X.baloadBooleans hx (by rw [eT]; exact A.1) (State.isArrayOf_alike hZ.alike A.2.1) A.2.2 (own_in hj hi hsz) (by rw [own_nat hj, H i hi, hv]) hg hs hd) k
theorem own_aaload {C : String} {v : Value} (X : Stand p l e R s m args below meth c T locs cells slots) (hx : p.tables.exec = Jvm.exec) (hZ : Z.Warmed39 s.vm) (eT : T.heap = h) (A : own_Ar Z h a (.object C) n f) (hj : j.toInt = (i : Int)) (hi : i < n) (hv : f i = v)
    (hg : g.method = m) (hs : g.stack = .int j :: .ref a :: rest) (hd : decode c.code g.pc = .ok (.aaload, 1)) (k : own_Wp p.tables e below K (T.setTop { g with pc := g.pc + 1, stack := v :: rest })) : own_Wp p.tables e below K (T.setTop g) := by
  obtain ⟨-, cl, A, hsz, H⟩ := A
  exact own_of (X.aaload hx (by rw [eT]; exact A.1) (State.isArrayOf_alike hZ.alike A.2.1) rfl A.2.2 (own_in hj hi hsz) (by rw [own_nat hj, H i hi, hv]) hg hs hd) k
theorem own_len {z : Int32} (X : Stand p l e R s m args below meth c T locs cells slots) (hx : p.tables.exec = Jvm.exec) (hZ : Z.Warmed39 s.vm) (eT : T.heap = h) (A : own_Ar Z h a ty n f) (hz : z.toInt = (n : Int))
    (hg : g.method = m) (hs : g.stack = .ref a :: rest) (hd : decode c.code g.pc = .ok (.arraylength, 1)) (k : own_Wp p.tables e below K (T.setTop { g with pc := g.pc + 1, stack := .int z :: rest })) : own_Wp p.tables e below K (T.setTop g) := by
  obtain ⟨-, cl, A, hsz, H⟩ := A
  have q : cl.slots.size.toInt32 = z := by rw [hsz, ← own_nat hz]; exact (back32 (own_nneg hz)).1
  rw [← q] at k
  exact own_of (X.arraylength hx (by rw [eT]; exact A.1) (State.isArrayOf_alike hZ.alike A.2.1) hg hs hd) k
theorem own_Ar.set {cl : Cell} {hn : n < 2147483648} (A : Arr Z h a cl ty) (hsz : cl.slots.size = n) (H : ∀ i, i < n → cl.slots[i]? = some (f i)) (hi : i < n) (W : Wr h h' a i v) : own_Ar Z h' a ty n (own_set f i v) := by
  refine ⟨hn, _, A.same W, by rw [sz_set]; exact hsz, fun q hq => ?_⟩
  by_cases e : q = i
  · subst e; rw [own_set_eq]; simp [Cell.setSlot, hsz, hq]
  · rw [own_set_ne e, ← H q hq]; exact Array.getElem?_setIfInBounds_ne (Ne.symm e)
theorem own_stI {x : Int32} (X : Stand p l e R s m args below meth c T locs cells slots) (hx : p.tables.exec = Jvm.exec) (hZ : Z.Warmed39 s.vm) (eT : T.heap = h) (A : own_Ar Z h a .int n f) (hj : j.toInt = (i : Int)) (hi : i < n)
    (hg : g.method = m) (hs : g.stack = .int x :: .int j :: .ref a :: rest) (hd : decode c.code g.pc = .ok (.iastore, 1)) :
    ∃ T' h', Stand p l e R s m args below meth c T' (locs ++ [⟨a, i⟩]) cells slots ∧ T'.heap = h' ∧ Wr h h' a i (.int x) ∧ own_Ar Z h' a .int n (own_set f i (.int x)) ∧ ∀ target, Steps p.tables e below (T'.setTop { g with pc := g.pc + 1, stack := rest }) target → Steps p.tables e below (T.setTop g) target := by
  obtain ⟨hn, cl, A, hsz, H⟩ := A
  obtain ⟨T', h', X', e', W, st⟩ := stI X hx hZ eT A (own_in hj hi hsz) hg hs hd
  rw [own_nat hj] at X' W
  exact ⟨T', h', X', e', W, own_Ar.set (hn := hn) A hsz H hi W, st⟩
theorem own_stJ {x : Int64} (X : Stand p l e R s m args below meth c T locs cells slots) (hx : p.tables.exec = Jvm.exec) (hZ : Z.Warmed39 s.vm) (eT : T.heap = h) (A : own_Ar Z h a .long n f) (hj : j.toInt = (i : Int)) (hi : i < n)
    (hg : g.method = m) (hs : g.stack = .long x :: .int j :: .ref a :: rest) (hd : decode c.code g.pc = .ok (.lastore, 1)) :
    ∃ T' h', Stand p l e R s m args below meth c T' (locs ++ [⟨a, i⟩]) cells slots ∧ T'.heap = h' ∧ Wr h h' a i (.long x) ∧ own_Ar Z h' a .long n (own_set f i (.long x)) ∧ ∀ target, Steps p.tables e below (T'.setTop { g with pc := g.pc + 1, stack := rest }) target → Steps p.tables e below (T.setTop g) target := by
  obtain ⟨hn, cl, A, hsz, H⟩ := A
  obtain ⟨T', h', X', e', W, st⟩ := stJ X hx hZ eT A (own_in hj hi hsz) hg hs hd
  rw [own_nat hj] at X' W
  exact ⟨T', h', X', e', W, own_Ar.set (hn := hn) A hsz H hi W, st⟩
theorem own_stB {x : Int32} (X : Stand p l e R s m args below meth c T locs cells slots) (hx : p.tables.exec = Jvm.exec) (hZ : Z.Warmed39 s.vm) (eT : T.heap = h) (A : own_Ar Z h a .byte n f) (hj : j.toInt = (i : Int)) (hi : i < n)
    (hg : g.method = m) (hs : g.stack = .int x :: .int j :: .ref a :: rest) (hd : decode c.code g.pc = .ok (.bastore, 1)) :
    ∃ T' h', Stand p l e R s m args below meth c T' (locs ++ [⟨a, i⟩]) cells slots ∧ T'.heap = h' ∧ Wr h h' a i (.int x.toInt8.toInt32) ∧ own_Ar Z h' a .byte n (own_set f i (.int x.toInt8.toInt32)) ∧ ∀ target, Steps p.tables e below (T'.setTop { g with pc := g.pc + 1, stack := rest }) target → Steps p.tables e below (T.setTop g) target := by
  obtain ⟨hn, cl, A, hsz, H⟩ := A
  obtain ⟨T', h', X', e', W, st⟩ := stB X hx hZ eT A (own_in hj hi hsz) hg hs hd
  rw [own_nat hj] at X' W
  exact ⟨T', h', X', e', W, own_Ar.set (hn := hn) A hsz H hi W, st⟩
end Steps
theorem own_more {cells' slots' : Nat} (X : Stand p l e R s m args below meth c T locs cells slots) (h1 : cells ≤ cells') (h2 : slots ≤ slots') : Stand p l e R s m args below meth c T locs cells' slots' := { X with same := X.same.mono h1 h2 }
section Start
variable {C nm d : String}
theorem own_refArr {t : Term} (ha : (Jvm.Cond.arrayOf t ty).value args s none s [] = some true) : ∃ (a : Addr) (cl : Cell), Arr s s.heap a cl ty ∧ s.arrayAt? a = some cl ∧ t.eval args s none [] s = some (.ref a) := by
  obtain ⟨a, ev⟩ : ∃ a, t.eval args s none [] s = some (.ref a) := by
    simp only [Cond.value] at ha
    split at ha
    · cases ha
    · split at ha
      · exact ⟨_, by assumption⟩
      · cases ha
      · cases ha
  obtain ⟨cl, A⟩ := Arr.start ev ha
  exact ⟨a, cl, A, IntBox.arrayAt_of A.1 A.2.1 A.2.2, ev⟩
theorem own_exaRef {t : Term} {K : String} (h : (Jvm.Cond.exactly t K).value args s none s [] = some true) : ∃ a, Exa s s.heap a K ∧ t.eval args s none [] s = some (.ref a) := by
  obtain ⟨a', c', cell, k, e1, -⟩ := Cond.exactly_spec (Cond.before_iff.mpr h)
  exact ⟨a', Exa.start e1 h, e1⟩
theorem own_fldOf {t : Term} {v : Value} {O : String} (ev : t.eval args s none [] s = some (.ref a)) (e : (Term.field t O nm d).eval args s none [] s = some v) : Fld s s.heap a O nm d v := by
  simp only [Term.eval, ev, Option.bind_eq_bind, Option.bind_some] at e
  exact Fld.start e
theorem own_fldI {t : Term} {x : Int32} {O : String} (ev : t.eval args s none [] s = some (.ref a)) (h : (Jvm.Cond.eq (.field t O nm d) (.int x)).value args s none s [] = some true) : Fld s s.heap a O nm d (.int x) := by
  cases he : (Term.field t O nm d).eval args s none [] s with
  | none => simp [Cond.value, he] at h
  | some w =>
    have : w = .int x := by
      simp only [Cond.value, he] at h
      rw [show (Term.int x).eval args s none [] s = some (.int x) from rfl] at h
      cases w <;> simp at h
      subst h; rfl
    subst this
    exact own_fldOf ev he
theorem own_isRef {t : Term} (h : (Jvm.Cond.isRef t).value args s none s [] = some true) : ∃ v, t.eval args s none [] s = some v ∧ (v = .null ∨ ∃ b, v = .ref b) := by
  simp only [Cond.value] at h
  cases he : t.eval args s none [] s with
  | none => simp [he] at h
  | some w => rw [he] at h; cases w <;> simp at h <;> simp
theorem own_notZero {t : Term} {x : Int32} (ev : t.eval args s none [] s = some (.int x)) (h : (Jvm.Cond.not (Jvm.Cond.eq t (.int 0))).value args s none s [] = some true) : ¬ x = 0 := by
  intro q
  subst q
  simp [Cond.value, ev, Term.eval] at h
theorem own_ltOf {x y : Int32} {i k : Nat} (h1 : x.toInt = (i : Int)) (h2 : y.toInt = (k : Int)) (h : i < k) : x < y := by
  rw [Int32.lt_iff_toInt_lt, h1, h2]; omega
theorem own_Ar.some {cl : Cell} (A : Arr Z h a cl ty) (hs : cl.slots.size < 2147483648) : own_Ar Z h a ty cl.slots.size (fun k => (cl.slots[k]?).getD .null) :=
  ⟨hs, _, A, rfl, fun i hi => by simp [Array.getElem?_eq_getElem hi]⟩
/-- a static that holds an array, at the start -/
theorem own_staArr (hi : (Jvm.Cond.initialized C).before args s = true) (hl : (Jvm.Cond.laysStatic C nm d).before args s = true) (ha : (Jvm.Cond.arrayOf (.static C nm d) ty).value args s none s [] = some true) :
    ∃ (a : Addr) (cl : Cell), Sta s s.heap C nm d (.ref a) ∧ Arr s s.heap a cl ty ∧ s.arrayAt? a = some cl ∧ (Term.static C nm d).eval args s none [] s = some (.ref a) := by
  obtain ⟨a, ev⟩ : ∃ a, (Term.static C nm d).eval args s none [] s = some (.ref a) := by
    simp only [Cond.value] at ha
    split at ha
    · cases ha
    · split at ha
      · exact ⟨_, by assumption⟩
      · cases ha
      · cases ha
  obtain ⟨cl, A⟩ := Arr.start ev ha
  exact ⟨a, cl, Sta.start ev (Or.inr ⟨hi, hl⟩), A, IntBox.arrayAt_of A.1 A.2.1 A.2.2, ev⟩
/-- an element that the case names -/
theorem own_elemEq {t i b : Term} {x : Int32} {cl : Cell} {jj : Int32} {idx : List Nat} (ev : t.eval args s none idx s = some (.ref a)) (hat : s.arrayAt? a = some cl) (hi : i.eval args s none idx s = some (.int jj)) (hb : b.eval args s none idx s = some (.int x)) (h : (Jvm.Cond.eq (.elem t i) b).value args s none s idx = some true) : ¬ jj < 0 ∧ cl.slots[jj.toNatClampNeg]? = some (.int x) := by
  simp only [Cond.value, hb] at h
  cases he : (Term.elem t i).eval args s none idx s with
  | none => simp [he] at h
  | some w =>
    obtain ⟨a', j', cl', q1, q2, q3, q4, q5⟩ := Term.elem_spec he
    cases ev.symm.trans q1
    cases hi.symm.trans q2
    cases hat.symm.trans q3
    rw [he] at h
    cases w <;> simp at h
    subst h
    exact ⟨fun z => q4 (Or.inl z), q5⟩
theorem own_lenEq {t : Term} {x : Int32} {cl : Cell} (ev : t.eval args s none [] s = some (.ref a)) (hat : s.arrayAt? a = some cl) (h : (Jvm.Cond.eq (.length t) (.int x)).value args s none s [] = some true) : (cl.slots.size : Int) = x.toInt := by
  simp only [Cond.value, Term.eval, ev, hat, Option.bind_eq_bind, Option.bind_some] at h
  by_cases q : cl.slots.size < 2147483648
  · simp [q] at h
    rw [← h]
    exact (Int32.toInt_ofNat_of_lt q).symm
  · simp [q] at h
theorem own_or {A B : Jvm.Cond} {idx : List Nat} (h : (Jvm.Cond.or A B).value args s none s idx = some true) : A.value args s none s idx = some true ∨ B.value args s none s idx = some true := by
  simp only [Cond.value] at h
  split at h
  · exact Or.inr h
  · exact Or.inl h
theorem own_leV {A B : Term} {x y : Int32} {idx : List Nat} (ha : A.eval args s none idx s = some (.int x)) (hb : B.eval args s none idx s = some (.int y)) (h : (Jvm.Cond.le A B).value args s none s idx = some true) : x.toInt ≤ y.toInt := by
  rw [Cond.le_ints ha hb] at h
  exact Int32.le_iff_toInt_le.mp (by simpa using h)
theorem own_ltV {A B : Term} {x y : Int32} {idx : List Nat} (ha : A.eval args s none idx s = some (.int x)) (hb : B.eval args s none idx s = some (.int y)) (h : (Jvm.Cond.lt A B).value args s none s idx = some true) : x.toInt < y.toInt := by
  simp only [Cond.value, ha, hb] at h
  exact Int32.lt_iff_toInt_lt.mp (by simpa using h)
theorem own_idx {k : Nat} (hk : k < 2147483648) : (k.toInt32).toInt = (k : Int) := Int32.toInt_ofNat_of_lt hk
section Elems
variable {t b : Term} {cl : Cell} {x lo hi : Int32} {k : Nat}
theorem own_elemK (ev : ∀ idx, t.eval args s none idx s = some (.ref a)) (hat : s.arrayAt? a = some cl) (hk : k < 2147483648) (hb : b.eval args s none [k] s = some (.int x)) (h : (Jvm.Cond.eq (.elem t (.index 0)) b).value args s none s [k] = some true) : cl.slots[k]? = some (.int x) := by
  have q := (own_elemEq (ev _) hat (Term.index_eval k) hb h).2
  rwa [own_nat (own_idx hk)] at q
theorem own_all1 (ev : ∀ idx, t.eval args s none idx s = some (.ref a)) (hat : s.arrayAt? a = some cl) (hn : cl.slots.size < 2147483648) (h : (Jvm.Cond.all t (.or (.le (.int lo) (.index 0)) (.eq (.elem t (.index 0)) b))).value args s none s [] = some true) (hk : k < cl.slots.size) (h1 : (k : Int) < lo.toInt) (hb : b.eval args s none [k] s = some (.int x)) : cl.slots[k]? = some (.int x) := by
  rcases own_or (Cond.all_elim (ev _) hat h k hk) with q | q
  · have := own_leV rfl (Term.index_eval k) q; rw [own_idx (by omega)] at this; omega
  · exact own_elemK ev hat (by omega) hb q
theorem own_all2 (ev : ∀ idx, t.eval args s none idx s = some (.ref a)) (hat : s.arrayAt? a = some cl) (hn : cl.slots.size < 2147483648) (h : (Jvm.Cond.all t (.or (.lt (.index 0) (.int lo)) (.or (.le (.int hi) (.index 0)) (.eq (.elem t (.index 0)) b)))).value args s none s [] = some true) (hk : k < cl.slots.size) (h1 : lo.toInt ≤ (k : Int)) (h2 : (k : Int) < hi.toInt) (hb : b.eval args s none [k] s = some (.int x)) : cl.slots[k]? = some (.int x) := by
  rcases own_or (Cond.all_elim (ev _) hat h k hk) with q | q
  · have := own_ltV (Term.index_eval k) rfl q; rw [own_idx (by omega)] at this; omega
  · rcases own_or q with q | q
    · have := own_leV rfl (Term.index_eval k) q; rw [own_idx (by omega)] at this; omega
    · exact own_elemK ev hat (by omega) hb q
theorem own_all3 (ev : ∀ idx, t.eval args s none idx s = some (.ref a)) (hat : s.arrayAt? a = some cl) (hn : cl.slots.size < 2147483648) (h : (Jvm.Cond.all t (.or (.lt (.index 0) (.int lo)) (.eq (.elem t (.index 0)) b))).value args s none s [] = some true) (hk : k < cl.slots.size) (h1 : lo.toInt ≤ (k : Int)) (hb : b.eval args s none [k] s = some (.int x)) : cl.slots[k]? = some (.int x) := by
  rcases own_or (Cond.all_elim (ev _) hat h k hk) with q | q
  · have := own_ltV (Term.index_eval k) rfl q; rw [own_idx (by omega)] at this; omega
  · exact own_elemK ev hat (by omega) hb q
theorem own_one (ev : ∀ idx, t.eval args s none idx s = some (.ref a)) (hat : s.arrayAt? a = some cl) (h : (Jvm.Cond.eq (.elem t (.int lo)) (.int x)).value args s none s [] = some true) (hk : lo.toInt = (k : Int)) : cl.slots[k]? = some (.int x) := by
  have q := (own_elemEq (ev _) hat rfl rfl h).2
  rwa [own_nat hk] at q
end Elems
end Start
end OwnArr
theorem own_pn0 : plainName "com/example/iota_flow/iotaflow/definition/OperatorOrdersPinLaw" = true := by first | (simp [plainName, overriddenIn]; done) | decide +kernel
theorem d1_0 : decode method_2_code 0 = .ok (.iload_n 0, 1) := by decide +kernel
theorem d1_1 : decode method_2_code 1 = .ok (.ifCond .ne 7, 3) := by decide +kernel
theorem d1_4 : decode method_2_code 4 = .ok (.getstatic 7, 3) := by decide +kernel
theorem d1_7 : decode method_2_code 7 = .ok (.areturn, 1) := by decide +kernel
theorem d1_8 : decode method_2_code 8 = .ok (.iload_n 0, 1) := by decide +kernel
theorem d1_9 : decode method_2_code 9 = .ok (.iconst 1, 1) := by decide +kernel
theorem d1_10 : decode method_2_code 10 = .ok (.if_icmp .ne 7, 3) := by decide +kernel
theorem d1_13 : decode method_2_code 13 = .ok (.getstatic 13, 3) := by decide +kernel
theorem d1_16 : decode method_2_code 16 = .ok (.areturn, 1) := by decide +kernel
theorem d1_17 : decode method_2_code 17 = .ok (.iload_n 0, 1) := by decide +kernel
theorem d1_18 : decode method_2_code 18 = .ok (.iconst 2, 1) := by decide +kernel
theorem d1_19 : decode method_2_code 19 = .ok (.if_icmp .ne 7, 3) := by decide +kernel
theorem d1_22 : decode method_2_code 22 = .ok (.getstatic 16, 3) := by decide +kernel
theorem d1_25 : decode method_2_code 25 = .ok (.areturn, 1) := by decide +kernel
theorem d1_26 : decode method_2_code 26 = .ok (.iload_n 0, 1) := by decide +kernel
theorem d1_27 : decode method_2_code 27 = .ok (.iconst 3, 1) := by decide +kernel
theorem d1_28 : decode method_2_code 28 = .ok (.if_icmp .ne 7, 3) := by decide +kernel
theorem d1_31 : decode method_2_code 31 = .ok (.getstatic 19, 3) := by decide +kernel
theorem d1_34 : decode method_2_code 34 = .ok (.areturn, 1) := by decide +kernel
theorem d1_35 : decode method_2_code 35 = .ok (.iload_n 0, 1) := by decide +kernel
theorem d1_36 : decode method_2_code 36 = .ok (.iconst 4, 1) := by decide +kernel
theorem d1_37 : decode method_2_code 37 = .ok (.if_icmp .ne 7, 3) := by decide +kernel
theorem d1_40 : decode method_2_code 40 = .ok (.getstatic 22, 3) := by decide +kernel
theorem d1_43 : decode method_2_code 43 = .ok (.areturn, 1) := by decide +kernel
theorem d1_44 : decode method_2_code 44 = .ok (.getstatic 25, 3) := by decide +kernel
theorem d1_47 : decode method_2_code 47 = .ok (.areturn, 1) := by decide +kernel
def Q_rmpick (Z : State) (p1 : Int32) (o0 : Addr) (o1 : Addr) (o2 : Addr) (o3 : Addr) (o4 : Addr) (o5 : Addr) (r : Addr) (h0 : Heap) (n0 : Nat) (v : Option Value) (h : Heap) (L : List Loc) : Prop := v = some (.ref r) ∧ Fr n0 L ∧ h = h0
set_option maxRecDepth 65536 in
set_option maxHeartbeats 40000000 in
theorem rmpick (l : Launch) (Z : State) (a0 : Array Value) (hw : ∀ d ∈ tables_1, d.before a0 Z = true) (ws : List Jvm.Cond) (p1 : Int32) (o0 : Addr) (o1 : Addr) (o2 : Addr) (o3 : Addr) (o4 : Addr) (o5 : Addr) (r : Addr) (h0 : Heap) (n0 : Nat) (Z0 : n0 ≤ h0.size) (S0 : Sta Z h0 "com/example/iota_flow/iotaflow/definition/Expression$Operator" "EQUAL" "Lcom/example/iota_flow/iotaflow/definition/Expression$Operator;" (.ref o0)) (S1 : Sta Z h0 "com/example/iota_flow/iotaflow/definition/Expression$Operator" "NOT_EQUAL" "Lcom/example/iota_flow/iotaflow/definition/Expression$Operator;" (.ref o1)) (S2 : Sta Z h0 "com/example/iota_flow/iotaflow/definition/Expression$Operator" "LESS" "Lcom/example/iota_flow/iotaflow/definition/Expression$Operator;" (.ref o2)) (S3 : Sta Z h0 "com/example/iota_flow/iotaflow/definition/Expression$Operator" "AT_MOST" "Lcom/example/iota_flow/iotaflow/definition/Expression$Operator;" (.ref o3)) (S4 : Sta Z h0 "com/example/iota_flow/iotaflow/definition/Expression$Operator" "GREATER" "Lcom/example/iota_flow/iotaflow/definition/Expression$Operator;" (.ref o4)) (S5 : Sta Z h0 "com/example/iota_flow/iotaflow/definition/Expression$Operator" "AT_LEAST" "Lcom/example/iota_flow/iotaflow/definition/Expression$Operator;" (.ref o5)) (hr0 : p1 = (0 : Int32) → r = o0) (hr1 : ¬ (p1 = (0 : Int32)) → p1 = (1 : Int32) → r = o1) (hr2 : ¬ (p1 = (0 : Int32)) → ¬ (p1 = (1 : Int32)) → p1 = (2 : Int32) → r = o2) (hr3 : ¬ (p1 = (0 : Int32)) → ¬ (p1 = (1 : Int32)) → ¬ (p1 = (2 : Int32)) → p1 = (3 : Int32) → r = o3) (hr4 : ¬ (p1 = (0 : Int32)) → ¬ (p1 = (1 : Int32)) → ¬ (p1 = (2 : Int32)) → ¬ (p1 = (3 : Int32)) → p1 = (4 : Int32) → r = o4) (hr5 : ¬ (p1 = (0 : Int32)) → ¬ (p1 = (1 : Int32)) → ¬ (p1 = (2 : Int32)) → ¬ (p1 = (3 : Int32)) → ¬ (p1 = (4 : Int32)) → r = o5) :
    own_Ctr l Z (⟨"com/example/iota_flow/iotaflow/definition/OperatorOrdersPinLaw", "pick", "(I)Lcom/example/iota_flow/iotaflow/definition/Expression$Operator;"⟩ : MethodName) method_2_code 1 (some (.object "com/example/iota_flow/iotaflow/definition/Expression$Operator")) ws ({ frames := 0, cells := 0, slots := 0, locals := 0 } : Room) #[(.int p1)] h0 (Q_rmpick Z p1 o0 o1 o2 o3 o4 o5 r h0 n0) := by
  refine own_enter (plainFor_of_name own_pn0) ?_
  intro p e s m below meth c s₁ X0 hx hby hml hrt hlk hZ hown hnm e0
  have N0 := Fr.nil n0
  have Zs := Z0
  rw [show entryFrame m #[(.int p1)] 1 = mkF m 0 #[.val (.int p1)] [] from by first | (simp [entryFrame, mkF, argsToLocals, Value.category]; done) | rfl]
  show own_Wp _ _ _ _ (s₁.setTop (mkF m 0 #[.val (.int p1)] []))
  refine own_of (fun tgt kon => XS.iloadN X0.here hx rfl (hb hby d1_0) rfl kon) ?_
  show own_Wp _ _ _ _ (s₁.setTop (mkF m 1 #[.val (.int p1)] [(.int p1)]))
  by_cases hc1 : p1 = (0 : Int32)
  · skip
    refine own_of (fun tgt kon => XS.ifNo X0.here hx rfl (hb hby d1_1) rfl ((if0 _ _).trans (teq hc1).2) kon) ?_
    show own_Wp _ _ _ _ (s₁.setTop (mkF m 4 #[.val (.int p1)] []))
    obtain ⟨T1, X1, e1, st1⟩ := getS2 X0 hx hZ hown (host := "") (Or.inl (hw _ (List.mem_of_getElem? (i := 5) rfl))) Via.refl e0 S0 (g := (mkF m 4 #[.val (.int p1)] [])) rfl (hb hby d1_4)
    refine own_of st1 ?_
    show own_Wp _ _ _ _ (T1.setTop (mkF m 7 #[.val (.int p1)] [(.ref o0)]))
    refine own_ret X1 hlk (some (.ref o0)) (own_rtI hrt) (fun fs hr => own_retR X1 hx hrt rfl rfl rfl (hb hby d1_7) hr) ?_ (by decide) (by decide)
    rw [e1]
    exact ⟨by rw [hr0 hc1], N0, rfl⟩
  · skip
    refine own_of (fun tgt kon => XS.ifYes X0.here hx rfl (pc0 := 1) (pc' := 8) rfl (hb hby d1_1) rfl ((if0 _ _).trans (feq hc1).2) (by decide) (by decide) kon) ?_
    show own_Wp _ _ _ _ (s₁.setTop (mkF m 8 #[.val (.int p1)] []))
    refine own_of (fun tgt kon => XS.iloadN X0.here hx rfl (hb hby d1_8) rfl kon) ?_
    show own_Wp _ _ _ _ (s₁.setTop (mkF m 9 #[.val (.int p1)] [(.int p1)]))
    refine own_of (fun tgt kon => XS.iconst X0.here hx rfl (hb hby d1_9) kon) ?_
    show own_Wp _ _ _ _ (s₁.setTop (mkF m 10 #[.val (.int p1)] [(.int (1 : Int32)), (.int p1)]))
    by_cases hc10 : p1 = (1 : Int32)
    · skip
      refine own_of (fun tgt kon => XS.icmpNo X0.here hx rfl (hb hby d1_10) rfl (teq hc10).2 kon) ?_
      show own_Wp _ _ _ _ (s₁.setTop (mkF m 13 #[.val (.int p1)] []))
      obtain ⟨T2, X2, e2, st2⟩ := getS2 X0 hx hZ hown (host := "") (Or.inl (hw _ (List.mem_of_getElem? (i := 50) rfl))) Via.refl e0 S1 (g := (mkF m 13 #[.val (.int p1)] [])) rfl (hb hby d1_13)
      refine own_of st2 ?_
      show own_Wp _ _ _ _ (T2.setTop (mkF m 16 #[.val (.int p1)] [(.ref o1)]))
      refine own_ret X2 hlk (some (.ref o1)) (own_rtI hrt) (fun fs hr => own_retR X2 hx hrt rfl rfl rfl (hb hby d1_16) hr) ?_ (by decide) (by decide)
      rw [e2]
      exact ⟨by rw [hr1 hc1 hc10], N0, rfl⟩
    · skip
      refine own_of (fun tgt kon => XS.icmpYes X0.here hx rfl (pc0 := 10) (pc' := 17) rfl (hb hby d1_10) rfl (feq hc10).2 (by decide) (by decide) kon) ?_
      show own_Wp _ _ _ _ (s₁.setTop (mkF m 17 #[.val (.int p1)] []))
      refine own_of (fun tgt kon => XS.iloadN X0.here hx rfl (hb hby d1_17) rfl kon) ?_
      show own_Wp _ _ _ _ (s₁.setTop (mkF m 18 #[.val (.int p1)] [(.int p1)]))
      refine own_of (fun tgt kon => XS.iconst X0.here hx rfl (hb hby d1_18) kon) ?_
      show own_Wp _ _ _ _ (s₁.setTop (mkF m 19 #[.val (.int p1)] [(.int (2 : Int32)), (.int p1)]))
      by_cases hc19 : p1 = (2 : Int32)
      · skip
        refine own_of (fun tgt kon => XS.icmpNo X0.here hx rfl (hb hby d1_19) rfl (teq hc19).2 kon) ?_
        show own_Wp _ _ _ _ (s₁.setTop (mkF m 22 #[.val (.int p1)] []))
        obtain ⟨T3, X3, e3, st3⟩ := getS2 X0 hx hZ hown (host := "") (Or.inl (hw _ (List.mem_of_getElem? (i := 48) rfl))) Via.refl e0 S2 (g := (mkF m 22 #[.val (.int p1)] [])) rfl (hb hby d1_22)
        refine own_of st3 ?_
        show own_Wp _ _ _ _ (T3.setTop (mkF m 25 #[.val (.int p1)] [(.ref o2)]))
        refine own_ret X3 hlk (some (.ref o2)) (own_rtI hrt) (fun fs hr => own_retR X3 hx hrt rfl rfl rfl (hb hby d1_25) hr) ?_ (by decide) (by decide)
        rw [e3]
        exact ⟨by rw [hr2 hc1 hc10 hc19], N0, rfl⟩
      · skip
        refine own_of (fun tgt kon => XS.icmpYes X0.here hx rfl (pc0 := 19) (pc' := 26) rfl (hb hby d1_19) rfl (feq hc19).2 (by decide) (by decide) kon) ?_
        show own_Wp _ _ _ _ (s₁.setTop (mkF m 26 #[.val (.int p1)] []))
        refine own_of (fun tgt kon => XS.iloadN X0.here hx rfl (hb hby d1_26) rfl kon) ?_
        show own_Wp _ _ _ _ (s₁.setTop (mkF m 27 #[.val (.int p1)] [(.int p1)]))
        refine own_of (fun tgt kon => XS.iconst X0.here hx rfl (hb hby d1_27) kon) ?_
        show own_Wp _ _ _ _ (s₁.setTop (mkF m 28 #[.val (.int p1)] [(.int (3 : Int32)), (.int p1)]))
        by_cases hc28 : p1 = (3 : Int32)
        · skip
          refine own_of (fun tgt kon => XS.icmpNo X0.here hx rfl (hb hby d1_28) rfl (teq hc28).2 kon) ?_
          show own_Wp _ _ _ _ (s₁.setTop (mkF m 31 #[.val (.int p1)] []))
          obtain ⟨T4, X4, e4, st4⟩ := getS2 X0 hx hZ hown (host := "") (Or.inl (hw _ (List.mem_of_getElem? (i := 44) rfl))) Via.refl e0 S3 (g := (mkF m 31 #[.val (.int p1)] [])) rfl (hb hby d1_31)
          refine own_of st4 ?_
          show own_Wp _ _ _ _ (T4.setTop (mkF m 34 #[.val (.int p1)] [(.ref o3)]))
          refine own_ret X4 hlk (some (.ref o3)) (own_rtI hrt) (fun fs hr => own_retR X4 hx hrt rfl rfl rfl (hb hby d1_34) hr) ?_ (by decide) (by decide)
          rw [e4]
          exact ⟨by rw [hr3 hc1 hc10 hc19 hc28], N0, rfl⟩
        · skip
          refine own_of (fun tgt kon => XS.icmpYes X0.here hx rfl (pc0 := 28) (pc' := 35) rfl (hb hby d1_28) rfl (feq hc28).2 (by decide) (by decide) kon) ?_
          show own_Wp _ _ _ _ (s₁.setTop (mkF m 35 #[.val (.int p1)] []))
          refine own_of (fun tgt kon => XS.iloadN X0.here hx rfl (hb hby d1_35) rfl kon) ?_
          show own_Wp _ _ _ _ (s₁.setTop (mkF m 36 #[.val (.int p1)] [(.int p1)]))
          refine own_of (fun tgt kon => XS.iconst X0.here hx rfl (hb hby d1_36) kon) ?_
          show own_Wp _ _ _ _ (s₁.setTop (mkF m 37 #[.val (.int p1)] [(.int (4 : Int32)), (.int p1)]))
          by_cases hc37 : p1 = (4 : Int32)
          · skip
            refine own_of (fun tgt kon => XS.icmpNo X0.here hx rfl (hb hby d1_37) rfl (teq hc37).2 kon) ?_
            show own_Wp _ _ _ _ (s₁.setTop (mkF m 40 #[.val (.int p1)] []))
            obtain ⟨T5, X5, e5, st5⟩ := getS2 X0 hx hZ hown (host := "") (Or.inl (hw _ (List.mem_of_getElem? (i := 53) rfl))) Via.refl e0 S4 (g := (mkF m 40 #[.val (.int p1)] [])) rfl (hb hby d1_40)
            refine own_of st5 ?_
            show own_Wp _ _ _ _ (T5.setTop (mkF m 43 #[.val (.int p1)] [(.ref o4)]))
            refine own_ret X5 hlk (some (.ref o4)) (own_rtI hrt) (fun fs hr => own_retR X5 hx hrt rfl rfl rfl (hb hby d1_43) hr) ?_ (by decide) (by decide)
            rw [e5]
            exact ⟨by rw [hr4 hc1 hc10 hc19 hc28 hc37], N0, rfl⟩
          · skip
            refine own_of (fun tgt kon => XS.icmpYes X0.here hx rfl (pc0 := 37) (pc' := 44) rfl (hb hby d1_37) rfl (feq hc37).2 (by decide) (by decide) kon) ?_
            show own_Wp _ _ _ _ (s₁.setTop (mkF m 44 #[.val (.int p1)] []))
            obtain ⟨T6, X6, e6, st6⟩ := getS2 X0 hx hZ hown (host := "") (Or.inl (hw _ (List.mem_of_getElem? (i := 51) rfl))) Via.refl e0 S5 (g := (mkF m 44 #[.val (.int p1)] [])) rfl (hb hby d1_44)
            refine own_of st6 ?_
            show own_Wp _ _ _ _ (T6.setTop (mkF m 47 #[.val (.int p1)] [(.ref o5)]))
            refine own_ret X6 hlk (some (.ref o5)) (own_rtI hrt) (fun fs hr => own_retR X6 hx hrt rfl rfl rfl (hb hby d1_47) hr) ?_ (by decide) (by decide)
            rw [e6]
            exact ⟨by rw [hr5 hc1 hc10 hc19 hc28 hc37], N0, rfl⟩
theorem own_pn1 : plainName "com/example/iota_flow/iotaflow/definition/Expression$Operator" = true := by first | (simp [plainName, overriddenIn]; done) | decide +kernel
theorem d7_0 : decode prog_16_method_4_code 0 = .ok (.aload_n 0, 1) := by decide +kernel
theorem d7_1 : decode prog_16_method_4_code 1 = .ok (.getstatic 3, 3) := by decide +kernel
theorem d7_4 : decode prog_16_method_4_code 4 = .ok (.if_acmp .eq 14, 3) := by decide +kernel
theorem d7_18 : decode prog_16_method_4_code 18 = .ok (.iconst 0, 1) := by decide +kernel
theorem d7_19 : decode prog_16_method_4_code 19 = .ok (.ireturn, 1) := by decide +kernel
theorem d7_7 : decode prog_16_method_4_code 7 = .ok (.aload_n 0, 1) := by decide +kernel
theorem d7_8 : decode prog_16_method_4_code 8 = .ok (.getstatic 7, 3) := by decide +kernel
theorem d7_11 : decode prog_16_method_4_code 11 = .ok (.if_acmp .eq 7, 3) := by decide +kernel
theorem d7_14 : decode prog_16_method_4_code 14 = .ok (.iconst 1, 1) := by decide +kernel
theorem d7_15 : decode prog_16_method_4_code 15 = .ok (.goto 4, 3) := by decide +kernel
def Q_rmord (Z : State) (a1 : Addr) (o0 : Addr) (o1 : Addr) (r : Int32) (h0 : Heap) (n0 : Nat) (v : Option Value) (h : Heap) (L : List Loc) : Prop := v = some (.int r) ∧ Fr n0 L ∧ h = h0
set_option maxRecDepth 65536 in
set_option maxHeartbeats 40000000 in
theorem rmord (l : Launch) (Z : State) (a0 : Array Value) (hw : ∀ d ∈ tables_1, d.before a0 Z = true) (ws : List Jvm.Cond) (a1 : Addr) (o0 : Addr) (o1 : Addr) (r : Int32) (h0 : Heap) (n0 : Nat) (Z0 : n0 ≤ h0.size) (S0 : Sta Z h0 "com/example/iota_flow/iotaflow/definition/Expression$Operator" "EQUAL" "Lcom/example/iota_flow/iotaflow/definition/Expression$Operator;" (.ref o0)) (S1 : Sta Z h0 "com/example/iota_flow/iotaflow/definition/Expression$Operator" "NOT_EQUAL" "Lcom/example/iota_flow/iotaflow/definition/Expression$Operator;" (.ref o1)) (hr0 : a1 = o0 → r = 0) (hr1 : ¬ a1 = o0 → a1 = o1 → r = 0) (hr2 : ¬ a1 = o0 → ¬ a1 = o1 → r = 1) :
    own_Ctr l Z (⟨"com/example/iota_flow/iotaflow/definition/Expression$Operator", "orders", "()Z"⟩ : MethodName) prog_16_method_4_code 1 (some .boolean) ws ({ frames := 0, cells := 0, slots := 0, locals := 0 } : Room) #[(.ref a1)] h0 (Q_rmord Z a1 o0 o1 r h0 n0) := by
  refine own_enter (plainFor_of_name own_pn1) ?_
  intro p e s m below meth c s₁ X0 hx hby hml hrt hlk hZ hown hnm e0
  have N0 := Fr.nil n0
  have Zs := Z0
  rw [show entryFrame m #[(.ref a1)] 1 = mkF m 0 #[.val (.ref a1)] [] from by first | (simp [entryFrame, mkF, argsToLocals, Value.category]; done) | rfl]
  show own_Wp _ _ _ _ (s₁.setTop (mkF m 0 #[.val (.ref a1)] []))
  refine own_of (fun tgt kon => XS.aloadN X0.here hx rfl (hb hby d7_0) rfl rfl kon) ?_
  show own_Wp _ _ _ _ (s₁.setTop (mkF m 1 #[.val (.ref a1)] [(.ref a1)]))
  obtain ⟨T1, X1, e1, st1⟩ := getS2 X0 hx hZ hown (host := "") (Or.inl (hw _ (List.mem_of_getElem? (i := 43) rfl))) Via.refl e0 S0 (g := (mkF m 1 #[.val (.ref a1)] [(.ref a1)])) rfl (hb hby d7_1)
  refine own_of st1 ?_
  show own_Wp _ _ _ _ (T1.setTop (mkF m 4 #[.val (.ref a1)] [(.ref o0), (.ref a1)]))
  by_cases hc4 : a1 = o0
  · skip
    refine own_of (fun tgt kon => Jvm.RoadKit.acmp (g := (mkF m 4 #[.val (.ref a1)] [(.ref o0), (.ref a1)])) X1 hx rfl rfl rfl (pc0 := 4) (pc' := 18) (same := true) rfl (hb hby d7_4) rfl (decide_eq_true (congrArg Value.ref hc4)) (by decide) (by decide) kon) ?_
    show own_Wp _ _ _ _ (T1.setTop (mkF m 18 #[.val (.ref a1)] []))
    refine own_of (fun tgt kon => XS.iconst X1.here hx rfl (hb hby d7_18) kon) ?_
    show own_Wp _ _ _ _ (T1.setTop (mkF m 19 #[.val (.ref a1)] [(.int (0 : Int32))]))
    refine own_ret X1 hlk (some (.int (0 : Int32))) (own_rtI hrt) (fun fs hr => retN X1 hx (t := .boolean) hrt (by simp) (hb hby d7_19) hr) ?_ (by decide) (by decide)
    rw [e1]
    exact ⟨by first | rw [hr0 hc4] | rw [hr1 hc4 hc11] | rw [hr2 hc4 hc11], N0, rfl⟩
  · skip
    refine own_of (fun tgt kon => Jvm.RoadKit.acmp (g := (mkF m 4 #[.val (.ref a1)] [(.ref o0), (.ref a1)])) X1 hx rfl rfl rfl (pc0 := 4) (pc' := 7) (same := false) rfl (hb hby d7_4) rfl (decide_eq_false fun q => hc4 (Value.ref.inj q)) (by decide) (by decide) kon) ?_
    show own_Wp _ _ _ _ (T1.setTop (mkF m 7 #[.val (.ref a1)] []))
    refine own_of (fun tgt kon => XS.aloadN X1.here hx rfl (hb hby d7_7) rfl rfl kon) ?_
    show own_Wp _ _ _ _ (T1.setTop (mkF m 8 #[.val (.ref a1)] [(.ref a1)]))
    obtain ⟨T2, X2, e2, st2⟩ := getS2 X1 hx hZ hown (host := "") (Or.inl (hw _ (List.mem_of_getElem? (i := 46) rfl))) Via.refl e1 S1 (g := (mkF m 8 #[.val (.ref a1)] [(.ref a1)])) rfl (hb hby d7_8)
    refine own_of st2 ?_
    show own_Wp _ _ _ _ (T2.setTop (mkF m 11 #[.val (.ref a1)] [(.ref o1), (.ref a1)]))
    by_cases hc11 : a1 = o1
    · skip
      refine own_of (fun tgt kon => Jvm.RoadKit.acmp (g := (mkF m 11 #[.val (.ref a1)] [(.ref o1), (.ref a1)])) X2 hx rfl rfl rfl (pc0 := 11) (pc' := 18) (same := true) rfl (hb hby d7_11) rfl (decide_eq_true (congrArg Value.ref hc11)) (by decide) (by decide) kon) ?_
      show own_Wp _ _ _ _ (T2.setTop (mkF m 18 #[.val (.ref a1)] []))
      refine own_of (fun tgt kon => XS.iconst X2.here hx rfl (hb hby d7_18) kon) ?_
      show own_Wp _ _ _ _ (T2.setTop (mkF m 19 #[.val (.ref a1)] [(.int (0 : Int32))]))
      refine own_ret X2 hlk (some (.int (0 : Int32))) (own_rtI hrt) (fun fs hr => retN X2 hx (t := .boolean) hrt (by simp) (hb hby d7_19) hr) ?_ (by decide) (by decide)
      rw [e2]
      exact ⟨by first | rw [hr0 hc4] | rw [hr1 hc4 hc11] | rw [hr2 hc4 hc11], N0, rfl⟩
    · skip
      refine own_of (fun tgt kon => Jvm.RoadKit.acmp (g := (mkF m 11 #[.val (.ref a1)] [(.ref o1), (.ref a1)])) X2 hx rfl rfl rfl (pc0 := 11) (pc' := 14) (same := false) rfl (hb hby d7_11) rfl (decide_eq_false fun q => hc11 (Value.ref.inj q)) (by decide) (by decide) kon) ?_
      show own_Wp _ _ _ _ (T2.setTop (mkF m 14 #[.val (.ref a1)] []))
      refine own_of (fun tgt kon => XS.iconst X2.here hx rfl (hb hby d7_14) kon) ?_
      show own_Wp _ _ _ _ (T2.setTop (mkF m 15 #[.val (.ref a1)] [(.int (1 : Int32))]))
      refine own_of (fun tgt kon => XS.goto X2.here hx rfl (pc0 := 15) (pc' := 19) rfl (hb hby d7_15) (by decide) (by decide) kon) ?_
      show own_Wp _ _ _ _ (T2.setTop (mkF m 19 #[.val (.ref a1)] [(.int (1 : Int32))]))
      refine own_ret X2 hlk (some (.int (1 : Int32))) (own_rtI hrt) (fun fs hr => retN X2 hx (t := .boolean) hrt (by simp) (hb hby d7_19) hr) ?_ (by decide) (by decide)
      rw [e2]
      exact ⟨by first | rw [hr0 hc4] | rw [hr1 hc4 hc11] | rw [hr2 hc4 hc11], N0, rfl⟩
theorem own_pn2 : plainName "jdk/internal/util/Preconditions" = true := by first | (simp [plainName, overriddenIn]; done) | decide +kernel
theorem d6_0 : decode jdk_41_method_11_code 0 = .ok (.iload_n 0, 1) := by decide +kernel
theorem d6_1 : decode jdk_41_method_11_code 1 = .ok (.ifCond .lt 8, 3) := by decide +kernel
theorem d6_4 : decode jdk_41_method_11_code 4 = .ok (.iload_n 0, 1) := by decide +kernel
theorem d6_5 : decode jdk_41_method_11_code 5 = .ok (.iload_n 1, 1) := by decide +kernel
theorem d6_6 : decode jdk_41_method_11_code 6 = .ok (.if_icmp .lt 10, 3) := by decide +kernel
theorem d6_16 : decode jdk_41_method_11_code 16 = .ok (.iload_n 0, 1) := by decide +kernel
theorem d6_17 : decode jdk_41_method_11_code 17 = .ok (.ireturn, 1) := by decide +kernel
def Q_rmpcn (Z : State) (p1 : Int32) (p2 : Int32) (i : Nat) (n : Nat) (h0 : Heap) (n0 : Nat) (v : Option Value) (h : Heap) (L : List Loc) : Prop := v = some (.int p1) ∧ Fr n0 L ∧ h = h0
set_option maxRecDepth 65536 in
set_option maxHeartbeats 40000000 in
theorem rmpcn (l : Launch) (Z : State) (a0 : Array Value) (hw : ∀ d ∈ tables_1, d.before a0 Z = true) (ws : List Jvm.Cond) (p1 : Int32) (p2 : Int32) (i : Nat) (n : Nat) (h0 : Heap) (n0 : Nat) (Z0 : n0 ≤ h0.size) (hj : p1.toInt = (i : Int)) (hz : p2.toInt = (n : Int)) (hi : i < n) :
    own_Ctr l Z (⟨"jdk/internal/util/Preconditions", "checkIndex", "(IILjava/util/function/BiFunction;)I"⟩ : MethodName) jdk_41_method_11_code 3 (some .int) ws ({ frames := 0, cells := 0, slots := 0, locals := 0 } : Room) #[(.int p1), (.int p2), .null] h0 (Q_rmpcn Z p1 p2 i n h0 n0) := by
  refine own_enter (plainFor_of_name own_pn2) ?_
  intro p e s m below meth c s₁ X0 hx hby hml hrt hlk hZ hown hnm e0
  have N0 := Fr.nil n0
  have Zs := Z0
  rw [show entryFrame m #[(.int p1), (.int p2), .null] 3 = mkF m 0 #[.val (.int p1), .val (.int p2), .val .null] [] from by first | (simp [entryFrame, mkF, argsToLocals, Value.category]; done) | rfl]
  show own_Wp _ _ _ _ (s₁.setTop (mkF m 0 #[.val (.int p1), .val (.int p2), .val .null] []))
  refine own_of (fun tgt kon => XS.iloadN X0.here hx rfl (hb hby d6_0) rfl kon) ?_
  show own_Wp _ _ _ _ (s₁.setTop (mkF m 1 #[.val (.int p1), .val (.int p2), .val .null] [(.int p1)]))
  have hc1 : ¬ (p1 < (0 : Int32)) := own_nneg hj
  refine own_of (fun tgt kon => XS.ifNo X0.here hx rfl (hb hby d6_1) rfl ((if0 _ _).trans (flt hc1).1) kon) ?_
  show own_Wp _ _ _ _ (s₁.setTop (mkF m 4 #[.val (.int p1), .val (.int p2), .val .null] []))
  refine own_of (fun tgt kon => XS.iloadN X0.here hx rfl (hb hby d6_4) rfl kon) ?_
  show own_Wp _ _ _ _ (s₁.setTop (mkF m 5 #[.val (.int p1), .val (.int p2), .val .null] [(.int p1)]))
  refine own_of (fun tgt kon => XS.iloadN X0.here hx rfl (hb hby d6_5) rfl kon) ?_
  show own_Wp _ _ _ _ (s₁.setTop (mkF m 6 #[.val (.int p1), .val (.int p2), .val .null] [(.int p2), (.int p1)]))
  have hc6 : p1 < p2 := own_ltOf hj hz hi
  refine own_of (fun tgt kon => XS.icmpYes X0.here hx rfl (pc0 := 6) (pc' := 16) rfl (hb hby d6_6) rfl (tlt hc6).1 (by decide) (by decide) kon) ?_
  show own_Wp _ _ _ _ (s₁.setTop (mkF m 16 #[.val (.int p1), .val (.int p2), .val .null] []))
  refine own_of (fun tgt kon => XS.iloadN X0.here hx rfl (hb hby d6_16) rfl kon) ?_
  show own_Wp _ _ _ _ (s₁.setTop (mkF m 17 #[.val (.int p1), .val (.int p2), .val .null] [(.int p1)]))
  refine own_ret X0 hlk (some (.int p1)) (own_rtI hrt) (fun fs hr => own_retI X0 hx hrt (hb hby d6_17) hr) ?_ (by decide) (by decide)
  rw [e0]
  exact ⟨rfl, N0, rfl⟩
def Q_rmpcr (Z : State) (p1 : Int32) (p2 : Int32) (a3 : Addr) (i : Nat) (n : Nat) (h0 : Heap) (n0 : Nat) (v : Option Value) (h : Heap) (L : List Loc) : Prop := v = some (.int p1) ∧ Fr n0 L ∧ h = h0
set_option maxRecDepth 65536 in
set_option maxHeartbeats 40000000 in
theorem rmpcr (l : Launch) (Z : State) (a0 : Array Value) (hw : ∀ d ∈ tables_1, d.before a0 Z = true) (ws : List Jvm.Cond) (p1 : Int32) (p2 : Int32) (a3 : Addr) (i : Nat) (n : Nat) (h0 : Heap) (n0 : Nat) (Z0 : n0 ≤ h0.size) (hj : p1.toInt = (i : Int)) (hz : p2.toInt = (n : Int)) (hi : i < n) :
    own_Ctr l Z (⟨"jdk/internal/util/Preconditions", "checkIndex", "(IILjava/util/function/BiFunction;)I"⟩ : MethodName) jdk_41_method_11_code 3 (some .int) ws ({ frames := 0, cells := 0, slots := 0, locals := 0 } : Room) #[(.int p1), (.int p2), (.ref a3)] h0 (Q_rmpcr Z p1 p2 a3 i n h0 n0) := by
  refine own_enter (plainFor_of_name own_pn2) ?_
  intro p e s m below meth c s₁ X0 hx hby hml hrt hlk hZ hown hnm e0
  have N0 := Fr.nil n0
  have Zs := Z0
  rw [show entryFrame m #[(.int p1), (.int p2), (.ref a3)] 3 = mkF m 0 #[.val (.int p1), .val (.int p2), .val (.ref a3)] [] from by first | (simp [entryFrame, mkF, argsToLocals, Value.category]; done) | rfl]
  show own_Wp _ _ _ _ (s₁.setTop (mkF m 0 #[.val (.int p1), .val (.int p2), .val (.ref a3)] []))
  refine own_of (fun tgt kon => XS.iloadN X0.here hx rfl (hb hby d6_0) rfl kon) ?_
  show own_Wp _ _ _ _ (s₁.setTop (mkF m 1 #[.val (.int p1), .val (.int p2), .val (.ref a3)] [(.int p1)]))
  have hc1 : ¬ (p1 < (0 : Int32)) := own_nneg hj
  refine own_of (fun tgt kon => XS.ifNo X0.here hx rfl (hb hby d6_1) rfl ((if0 _ _).trans (flt hc1).1) kon) ?_
  show own_Wp _ _ _ _ (s₁.setTop (mkF m 4 #[.val (.int p1), .val (.int p2), .val (.ref a3)] []))
  refine own_of (fun tgt kon => XS.iloadN X0.here hx rfl (hb hby d6_4) rfl kon) ?_
  show own_Wp _ _ _ _ (s₁.setTop (mkF m 5 #[.val (.int p1), .val (.int p2), .val (.ref a3)] [(.int p1)]))
  refine own_of (fun tgt kon => XS.iloadN X0.here hx rfl (hb hby d6_5) rfl kon) ?_
  show own_Wp _ _ _ _ (s₁.setTop (mkF m 6 #[.val (.int p1), .val (.int p2), .val (.ref a3)] [(.int p2), (.int p1)]))
  have hc6 : p1 < p2 := own_ltOf hj hz hi
  refine own_of (fun tgt kon => XS.icmpYes X0.here hx rfl (pc0 := 6) (pc' := 16) rfl (hb hby d6_6) rfl (tlt hc6).1 (by decide) (by decide) kon) ?_
  show own_Wp _ _ _ _ (s₁.setTop (mkF m 16 #[.val (.int p1), .val (.int p2), .val (.ref a3)] []))
  refine own_of (fun tgt kon => XS.iloadN X0.here hx rfl (hb hby d6_16) rfl kon) ?_
  show own_Wp _ _ _ _ (s₁.setTop (mkF m 17 #[.val (.int p1), .val (.int p2), .val (.ref a3)] [(.int p1)]))
  refine own_ret X0 hlk (some (.int p1)) (own_rtI hrt) (fun fs hr => own_retI X0 hx hrt (hb hby d6_17) hr) ?_ (by decide) (by decide)
  rw [e0]
  exact ⟨rfl, N0, rfl⟩
theorem own_pn3 : plainName "java/lang/String" = true := by first | (simp [plainName, overriddenIn]; done) | decide +kernel
theorem d5_0 : decode jdk_42_method_155_code 0 = .ok (.iload_n 0, 1) := by decide +kernel
theorem d5_1 : decode jdk_42_method_155_code 1 = .ok (.iload_n 1, 1) := by decide +kernel
theorem d5_2 : decode jdk_42_method_155_code 2 = .ok (.getstatic 1053, 3) := by decide +kernel
theorem d5_5 : decode jdk_42_method_155_code 5 = .ok (.invokestatic 1059, 3) := by decide +kernel
theorem own_pd0 : parseMethodDescriptor "(IILjava/util/function/BiFunction;)I" = some ⟨[.int, .int, (.object "java/util/function/BiFunction")], some .int⟩ := by decide +kernel
theorem d5_8 : decode jdk_42_method_155_code 8 = .ok (.pop, 1) := by decide +kernel
theorem d5_9 : decode jdk_42_method_155_code 9 = .ok (.return_, 1) := by decide +kernel
def Q_rmci (Z : State) (p1 : Int32) (p2 : Int32) (vF : Value) (i : Nat) (n : Nat) (h0 : Heap) (n0 : Nat) (v : Option Value) (h : Heap) (L : List Loc) : Prop := v = none ∧ Fr n0 L ∧ h = h0
set_option maxRecDepth 65536 in
set_option maxHeartbeats 40000000 in
theorem rmci (l : Launch) (Z : State) (a0 : Array Value) (hw : ∀ d ∈ tables_1, d.before a0 Z = true) (ws : List Jvm.Cond) (p1 : Int32) (p2 : Int32) (vF : Value) (i : Nat) (n : Nat) (h0 : Heap) (n0 : Nat) (Z0 : n0 ≤ h0.size) (S_F : Sta Z h0 "jdk/internal/util/Preconditions" "SIOOBE_FORMATTER" "Ljava/util/function/BiFunction;" vF) (hF : vF = .null ∨ ∃ b, vF = .ref b) (hj : p1.toInt = (i : Int)) (hz : p2.toInt = (n : Int)) (hi : i < n) :
    own_Ctr l Z (⟨"java/lang/String", "checkIndex", "(II)V"⟩ : MethodName) jdk_42_method_155_code 2 none ws ({ frames := 1, cells := 0, slots := 0, locals := 14 } : Room) #[(.int p1), (.int p2)] h0 (Q_rmci Z p1 p2 vF i n h0 n0) := by
  refine own_enter (plainFor_of_name own_pn3) ?_
  intro p e s m below meth c s₁ X0 hx hby hml hrt hlk hZ hown hnm e0
  have N0 := Fr.nil n0
  have Zs := Z0
  rw [show entryFrame m #[(.int p1), (.int p2)] 2 = mkF m 0 #[.val (.int p1), .val (.int p2)] [] from by first | (simp [entryFrame, mkF, argsToLocals, Value.category]; done) | rfl]
  show own_Wp _ _ _ _ (s₁.setTop (mkF m 0 #[.val (.int p1), .val (.int p2)] []))
  rcases hF with rfl | ⟨b0, rfl⟩
  · skip
    show own_Wp _ _ _ _ (s₁.setTop (mkF m 0 #[.val (.int p1), .val (.int p2)] []))
    refine own_of (fun tgt kon => XS.iloadN X0.here hx rfl (hb hby d5_0) rfl kon) ?_
    show own_Wp _ _ _ _ (s₁.setTop (mkF m 1 #[.val (.int p1), .val (.int p2)] [(.int p1)]))
    refine own_of (fun tgt kon => XS.iloadN X0.here hx rfl (hb hby d5_1) rfl kon) ?_
    show own_Wp _ _ _ _ (s₁.setTop (mkF m 2 #[.val (.int p1), .val (.int p2)] [(.int p2), (.int p1)]))
    obtain ⟨T1, X1, e1, st1⟩ := getS2 X0 hx hZ hown (host := "") (Or.inl (hw _ (List.mem_of_getElem? (i := 33) rfl))) Via.refl e0 S_F (g := (mkF m 2 #[.val (.int p1), .val (.int p2)] [(.int p2), (.int p1)])) rfl (hb hby d5_2)
    refine own_of st1 ?_
    show own_Wp _ _ _ _ (T1.setTop (mkF m 5 #[.val (.int p1), .val (.int p2)] [.null, (.int p2), (.int p1)]))
    refine own_callS X1 hx hZ (y := (⟨"jdk/internal/util/Preconditions", "checkIndex", "(IILjava/util/function/BiFunction;)I"⟩ : MethodName)) (argsL := [(.int p1), (.int p2), .null]) (rest := []) (W := 0) hown (hw _ (List.mem_of_getElem? (i := 35) rfl)) (hw _ (List.mem_of_getElem? (i := 36) rfl)) (hw _ (List.mem_of_getElem? (i := 34) rfl)) (hw _ (List.mem_of_getElem? (i := 37) rfl)) (by decide) e1 (rmpcn l Z a0 hw [] p1 p2 i n h0 n0 Zs hj hz hi) (by decide) (by decide) (by decide) (by decide) (g := (mkF m 5 #[.val (.int p1), .val (.int p2)] [.null, (.int p2), (.int p1)])) rfl (by rw [hml]; rfl) (lenOf own_pd0 rfl) rfl (by show 2 * 0 + _ ≤ _; exact Nat.le_of_eq rfl) (hb hby d5_5) ?_
    rintro T2 L2 _ X2 ⟨rfl, N2q, e2⟩
    have N2 := Fr.app N0 N2q
    show own_Wp _ _ _ _ (T2.setTop (mkF m 8 #[.val (.int p1), .val (.int p2)] [(.int p1)]))
    refine own_of (fun tgt kon => XS.pop X2.here hx rfl (hb hby d5_8) rfl rfl kon) ?_
    show own_Wp _ _ _ _ (T2.setTop (mkF m 9 #[.val (.int p1), .val (.int p2)] []))
    refine own_ret X2 hlk none (fun _ => rfl) (fun fs hr => X2.returnOut hx hrt (hb hby d5_9) hr) ?_ (by decide) (by decide)
    rw [e2]
    exact ⟨rfl, N2, rfl⟩
  · skip
    show own_Wp _ _ _ _ (s₁.setTop (mkF m 0 #[.val (.int p1), .val (.int p2)] []))
    refine own_of (fun tgt kon => XS.iloadN X0.here hx rfl (hb hby d5_0) rfl kon) ?_
    show own_Wp _ _ _ _ (s₁.setTop (mkF m 1 #[.val (.int p1), .val (.int p2)] [(.int p1)]))
    refine own_of (fun tgt kon => XS.iloadN X0.here hx rfl (hb hby d5_1) rfl kon) ?_
    show own_Wp _ _ _ _ (s₁.setTop (mkF m 2 #[.val (.int p1), .val (.int p2)] [(.int p2), (.int p1)]))
    obtain ⟨T3, X3, e3, st3⟩ := getS2 X0 hx hZ hown (host := "") (Or.inl (hw _ (List.mem_of_getElem? (i := 33) rfl))) Via.refl e0 S_F (g := (mkF m 2 #[.val (.int p1), .val (.int p2)] [(.int p2), (.int p1)])) rfl (hb hby d5_2)
    refine own_of st3 ?_
    show own_Wp _ _ _ _ (T3.setTop (mkF m 5 #[.val (.int p1), .val (.int p2)] [(.ref b0), (.int p2), (.int p1)]))
    refine own_callS X3 hx hZ (y := (⟨"jdk/internal/util/Preconditions", "checkIndex", "(IILjava/util/function/BiFunction;)I"⟩ : MethodName)) (argsL := [(.int p1), (.int p2), (.ref b0)]) (rest := []) (W := 0) hown (hw _ (List.mem_of_getElem? (i := 35) rfl)) (hw _ (List.mem_of_getElem? (i := 36) rfl)) (hw _ (List.mem_of_getElem? (i := 34) rfl)) (hw _ (List.mem_of_getElem? (i := 37) rfl)) (by decide) e3 (rmpcr l Z a0 hw [] p1 p2 b0 i n h0 n0 Zs hj hz hi) (by decide) (by decide) (by decide) (by decide) (g := (mkF m 5 #[.val (.int p1), .val (.int p2)] [(.ref b0), (.int p2), (.int p1)])) rfl (by rw [hml]; rfl) (lenOf own_pd0 rfl) rfl (by show 2 * 0 + _ ≤ _; exact Nat.le_of_eq rfl) (hb hby d5_5) ?_
    rintro T4 L4 _ X4 ⟨rfl, N4q, e4⟩
    have N4 := Fr.app N0 N4q
    show own_Wp _ _ _ _ (T4.setTop (mkF m 8 #[.val (.int p1), .val (.int p2)] [(.int p1)]))
    refine own_of (fun tgt kon => XS.pop X4.here hx rfl (hb hby d5_8) rfl rfl kon) ?_
    show own_Wp _ _ _ _ (T4.setTop (mkF m 9 #[.val (.int p1), .val (.int p2)] []))
    refine own_ret X4 hlk none (fun _ => rfl) (fun fs hr => X4.returnOut hx hrt (hb hby d5_9) hr) ?_ (by decide) (by decide)
    rw [e4]
    exact ⟨rfl, N4, rfl⟩
theorem own_pn4 : plainName "java/lang/StringLatin1" = true := by first | (simp [plainName, overriddenIn]; done) | decide +kernel
theorem d4_0 : decode jdk_43_method_2_code 0 = .ok (.iload_n 1, 1) := by decide +kernel
theorem d4_1 : decode jdk_43_method_2_code 1 = .ok (.aload_n 0, 1) := by decide +kernel
theorem d4_2 : decode jdk_43_method_2_code 2 = .ok (.arraylength, 1) := by decide +kernel
theorem d4_3 : decode jdk_43_method_2_code 3 = .ok (.invokestatic 9, 3) := by decide +kernel
theorem own_pd1 : parseMethodDescriptor "(II)V" = some ⟨[.int, .int], none⟩ := by decide +kernel
theorem d4_6 : decode jdk_43_method_2_code 6 = .ok (.aload_n 0, 1) := by decide +kernel
theorem d4_7 : decode jdk_43_method_2_code 7 = .ok (.iload_n 1, 1) := by decide +kernel
theorem d4_8 : decode jdk_43_method_2_code 8 = .ok (.baload, 1) := by decide +kernel
theorem d4_9 : decode jdk_43_method_2_code 9 = .ok (.sipush 255, 3) := by decide +kernel
theorem d4_12 : decode jdk_43_method_2_code 12 = .ok (.iand, 1) := by decide +kernel
theorem d4_13 : decode jdk_43_method_2_code 13 = .ok (.i2c, 1) := by decide +kernel
theorem d4_14 : decode jdk_43_method_2_code 14 = .ok (.ireturn, 1) := by decide +kernel
def Q_rmlc (Z : State) (a1 : Addr) (p2 : Int32) (vF : Value) (i : Nat) (n : Nat) (z : Int32) (f : Nat → Value) (w : Int32) (h0 : Heap) (n0 : Nat) (v : Option Value) (h : Heap) (L : List Loc) : Prop := v = some (.int (nar .char ((w &&& (255 : Int32)).toUInt32.toUInt16.toUInt32.toInt32))) ∧ Fr n0 L ∧ h = h0
set_option maxRecDepth 65536 in
set_option maxHeartbeats 40000000 in
theorem rmlc (l : Launch) (Z : State) (a0 : Array Value) (hw : ∀ d ∈ tables_1, d.before a0 Z = true) (ws : List Jvm.Cond) (a1 : Addr) (p2 : Int32) (vF : Value) (i : Nat) (n : Nat) (z : Int32) (f : Nat → Value) (w : Int32) (h0 : Heap) (n0 : Nat) (Z0 : n0 ≤ h0.size) (S_F : Sta Z h0 "jdk/internal/util/Preconditions" "SIOOBE_FORMATTER" "Ljava/util/function/BiFunction;" vF) (hF : vF = .null ∨ ∃ b, vF = .ref b) (A : own_Ar Z h0 a1 .byte n f) (hj : p2.toInt = (i : Int)) (hz : z.toInt = (n : Int)) (hi : i < n) (hv : f i = .int w) :
    own_Ctr l Z (⟨"java/lang/StringLatin1", "charAt", "([BI)C"⟩ : MethodName) jdk_43_method_2_code 2 (some .char) ws ({ frames := 2, cells := 0, slots := 0, locals := 27 } : Room) #[(.ref a1), (.int p2)] h0 (Q_rmlc Z a1 p2 vF i n z f w h0 n0) := by
  refine own_enter (plainFor_of_name own_pn4) ?_
  intro p e s m below meth c s₁ X0 hx hby hml hrt hlk hZ hown hnm e0
  have N0 := Fr.nil n0
  have Zs := Z0
  rw [show entryFrame m #[(.ref a1), (.int p2)] 2 = mkF m 0 #[.val (.ref a1), .val (.int p2)] [] from by first | (simp [entryFrame, mkF, argsToLocals, Value.category]; done) | rfl]
  show own_Wp _ _ _ _ (s₁.setTop (mkF m 0 #[.val (.ref a1), .val (.int p2)] []))
  refine own_of (fun tgt kon => XS.iloadN X0.here hx rfl (hb hby d4_0) rfl kon) ?_
  show own_Wp _ _ _ _ (s₁.setTop (mkF m 1 #[.val (.ref a1), .val (.int p2)] [(.int p2)]))
  refine own_of (fun tgt kon => XS.aloadN X0.here hx rfl (hb hby d4_1) rfl rfl kon) ?_
  show own_Wp _ _ _ _ (s₁.setTop (mkF m 2 #[.val (.ref a1), .val (.int p2)] [(.ref a1), (.int p2)]))
  refine own_len X0 hx hZ e0 A (z := z) hz (g := (mkF m 2 #[.val (.ref a1), .val (.int p2)] [(.ref a1), (.int p2)])) rfl rfl (hb hby d4_2) ?_
  show own_Wp _ _ _ _ (s₁.setTop (mkF m 3 #[.val (.ref a1), .val (.int p2)] [(.int z), (.int p2)]))
  refine own_callS X0 hx hZ (y := (⟨"java/lang/String", "checkIndex", "(II)V"⟩ : MethodName)) (argsL := [(.int p2), (.int z)]) (rest := []) (W := 0) hown (hw _ (List.mem_of_getElem? (i := 30) rfl)) (hw _ (List.mem_of_getElem? (i := 31) rfl)) (hw _ (List.mem_of_getElem? (i := 14) rfl)) (hw _ (List.mem_of_getElem? (i := 32) rfl)) (by decide) e0 (rmci l Z a0 hw [] p2 z vF i n h0 n0 Zs S_F hF hj hz hi) (by decide) (by decide) (by decide) (by decide) (g := (mkF m 3 #[.val (.ref a1), .val (.int p2)] [(.int z), (.int p2)])) rfl (by rw [hml]; rfl) (lenOf own_pd1 rfl) rfl (by show 2 * 0 + _ ≤ _; exact Nat.le_of_eq rfl) (hb hby d4_3) ?_
  rintro T1 L1 _ X1 ⟨rfl, N1q, e1⟩
  have N1 := Fr.app N0 N1q
  show own_Wp _ _ _ _ (T1.setTop (mkF m 6 #[.val (.ref a1), .val (.int p2)] []))
  refine own_of (fun tgt kon => XS.aloadN X1.here hx rfl (hb hby d4_6) rfl rfl kon) ?_
  show own_Wp _ _ _ _ (T1.setTop (mkF m 7 #[.val (.ref a1), .val (.int p2)] [(.ref a1)]))
  refine own_of (fun tgt kon => XS.iloadN X1.here hx rfl (hb hby d4_7) rfl kon) ?_
  show own_Wp _ _ _ _ (T1.setTop (mkF m 8 #[.val (.ref a1), .val (.int p2)] [(.int p2), (.ref a1)]))
  refine own_baload X1 hx hZ e1 A (j := p2) (i := i) (v := w) hj hi hv (g := (mkF m 8 #[.val (.ref a1), .val (.int p2)] [(.int p2), (.ref a1)])) rfl rfl (hb hby d4_8) ?_
  show own_Wp _ _ _ _ (T1.setTop (mkF m 9 #[.val (.ref a1), .val (.int p2)] [(.int w)]))
  refine own_of (fun tgt kon => XS.sipush X1.here hx rfl (hb hby d4_9) kon) ?_
  show own_Wp _ _ _ _ (T1.setTop (mkF m 12 #[.val (.ref a1), .val (.int p2)] [(.int (255 : Int32)), (.int w)]))
  refine own_of (fun tgt kon => XS.iand X1.here hx rfl (hb hby d4_12) rfl kon) ?_
  show own_Wp _ _ _ _ (T1.setTop (mkF m 13 #[.val (.ref a1), .val (.int p2)] [(.int (w &&& (255 : Int32)))]))
  refine own_of (fun tgt kon => XS.i2c X1.here hx rfl (hb hby d4_13) rfl kon) ?_
  show own_Wp _ _ _ _ (T1.setTop (mkF m 14 #[.val (.ref a1), .val (.int p2)] [(.int ((w &&& (255 : Int32)).toUInt32.toUInt16.toUInt32.toInt32))]))
  refine own_ret X1 hlk (some (.int (nar .char ((w &&& (255 : Int32)).toUInt32.toUInt16.toUInt32.toInt32)))) (own_rtI hrt) (fun fs hr => retN X1 hx (t := .char) hrt (by simp) (hb hby d4_14) hr) ?_ (by decide) (by decide)
  rw [e1]
  exact ⟨rfl, N1, rfl⟩
theorem d3_0 : decode jdk_42_method_154_code 0 = .ok (.getstatic 38, 3) := by decide +kernel
theorem d3_3 : decode jdk_42_method_154_code 3 = .ok (.ifCond .eq 14, 3) := by decide +kernel
theorem d3_6 : decode jdk_42_method_154_code 6 = .ok (.aload_n 0, 1) := by decide +kernel
theorem d3_7 : decode jdk_42_method_154_code 7 = .ok (.getfield 15, 3) := by decide +kernel
theorem d3_10 : decode jdk_42_method_154_code 10 = .ok (.ifCond .ne 7, 3) := by decide +kernel
theorem d3_13 : decode jdk_42_method_154_code 13 = .ok (.iconst 1, 1) := by decide +kernel
theorem d3_14 : decode jdk_42_method_154_code 14 = .ok (.goto 4, 3) := by decide +kernel
theorem d3_18 : decode jdk_42_method_154_code 18 = .ok (.ireturn, 1) := by decide +kernel
def Q_rmil (Z : State) (a1 : Addr) (cs : Int32) (h0 : Heap) (n0 : Nat) (v : Option Value) (h : Heap) (L : List Loc) : Prop := v = some (.int 1) ∧ Fr n0 L ∧ h = h0
set_option maxRecDepth 65536 in
set_option maxHeartbeats 40000000 in
theorem rmil (l : Launch) (Z : State) (a0 : Array Value) (hw : ∀ d ∈ tables_1, d.before a0 Z = true) (ws : List Jvm.Cond) (a1 : Addr) (cs : Int32) (h0 : Heap) (n0 : Nat) (Z0 : n0 ≤ h0.size) (S_C : Sta Z h0 "java/lang/String" "COMPACT_STRINGS" "Z" (.int cs)) (hcs : ¬ cs = 0) (F_coder : Fld Z h0 a1 "java/lang/String" "coder" "B" (.int (0 : Int32))) :
    own_Ctr l Z (⟨"java/lang/String", "isLatin1", "()Z"⟩ : MethodName) jdk_42_method_154_code 1 (some .boolean) ws ({ frames := 0, cells := 0, slots := 0, locals := 0 } : Room) #[(.ref a1)] h0 (Q_rmil Z a1 cs h0 n0) := by
  refine own_enter (plainFor_of_name own_pn3) ?_
  intro p e s m below meth c s₁ X0 hx hby hml hrt hlk hZ hown hnm e0
  have N0 := Fr.nil n0
  have Zs := Z0
  rw [show entryFrame m #[(.ref a1)] 1 = mkF m 0 #[.val (.ref a1)] [] from by first | (simp [entryFrame, mkF, argsToLocals, Value.category]; done) | rfl]
  show own_Wp _ _ _ _ (s₁.setTop (mkF m 0 #[.val (.ref a1)] []))
  obtain ⟨T1, X1, e1, st1⟩ := getS2 X0 hx hZ hown (host := "") (Or.inl (hw _ (List.mem_of_getElem? (i := 21) rfl))) Via.refl e0 S_C (g := (mkF m 0 #[.val (.ref a1)] [])) rfl (hb hby d3_0)
  refine own_of st1 ?_
  show own_Wp _ _ _ _ (T1.setTop (mkF m 3 #[.val (.ref a1)] [(.int cs)]))
  have hc3 : ¬ (cs = (0 : Int32)) := hcs
  refine own_of (fun tgt kon => XS.ifNo X1.here hx rfl (hb hby d3_3) rfl ((if0 _ _).trans (feq hc3).1) kon) ?_
  show own_Wp _ _ _ _ (T1.setTop (mkF m 6 #[.val (.ref a1)] []))
  refine own_of (fun tgt kon => XS.aloadN X1.here hx rfl (hb hby d3_6) rfl rfl kon) ?_
  show own_Wp _ _ _ _ (T1.setTop (mkF m 7 #[.val (.ref a1)] [(.ref a1)]))
  obtain ⟨T2, X2, e2, st2⟩ := getF X1 hx hZ hown (host := "") (Or.inl (hw _ (List.mem_of_getElem? (i := 22) rfl))) Via.refl e1 F_coder (g := (mkF m 7 #[.val (.ref a1)] [(.ref a1)])) rfl rfl (hb hby d3_7)
  refine own_of st2 ?_
  show own_Wp _ _ _ _ (T2.setTop (mkF m 10 #[.val (.ref a1)] [(.int (0 : Int32))]))
  have hc10 : (0 : Int32) = (0 : Int32) := rfl
  refine own_of (fun tgt kon => XS.ifNo X2.here hx rfl (hb hby d3_10) rfl ((if0 _ _).trans (teq hc10).2) kon) ?_
  show own_Wp _ _ _ _ (T2.setTop (mkF m 13 #[.val (.ref a1)] []))
  refine own_of (fun tgt kon => XS.iconst X2.here hx rfl (hb hby d3_13) kon) ?_
  show own_Wp _ _ _ _ (T2.setTop (mkF m 14 #[.val (.ref a1)] [(.int (1 : Int32))]))
  refine own_of (fun tgt kon => XS.goto X2.here hx rfl (pc0 := 14) (pc' := 18) rfl (hb hby d3_14) (by decide) (by decide) kon) ?_
  show own_Wp _ _ _ _ (T2.setTop (mkF m 18 #[.val (.ref a1)] [(.int (1 : Int32))]))
  refine own_ret X2 hlk (some (.int (1 : Int32))) (own_rtI hrt) (fun fs hr => retN X2 hx (t := .boolean) hrt (by simp) (hb hby d3_18) hr) ?_ (by decide) (by decide)
  rw [e2]
  exact ⟨rfl, N0, rfl⟩
theorem d2_0 : decode jdk_42_method_56_code 0 = .ok (.aload_n 0, 1) := by decide +kernel
theorem d2_1 : decode jdk_42_method_56_code 1 = .ok (.invokevirtual 492, 3) := by decide +kernel
theorem own_pd2 : parseMethodDescriptor "()Z" = some ⟨[], some .boolean⟩ := by decide +kernel
theorem d2_4 : decode jdk_42_method_56_code 4 = .ok (.ifCond .eq 12, 3) := by decide +kernel
theorem d2_7 : decode jdk_42_method_56_code 7 = .ok (.aload_n 0, 1) := by decide +kernel
theorem d2_8 : decode jdk_42_method_56_code 8 = .ok (.getfield 9, 3) := by decide +kernel
theorem d2_11 : decode jdk_42_method_56_code 11 = .ok (.iload_n 1, 1) := by decide +kernel
theorem d2_12 : decode jdk_42_method_56_code 12 = .ok (.invokestatic 495, 3) := by decide +kernel
theorem own_pd3 : parseMethodDescriptor "([BI)C" = some ⟨[(.array .byte), .int], some .char⟩ := by decide +kernel
theorem d2_15 : decode jdk_42_method_56_code 15 = .ok (.ireturn, 1) := by decide +kernel
def Q_rmca (Z : State) (a1 : Addr) (p2 : Int32) (a3 : Addr) (cs : Int32) (vF : Value) (i : Nat) (n : Nat) (z : Int32) (f : Nat → Value) (w : Int32) (h0 : Heap) (n0 : Nat) (v : Option Value) (h : Heap) (L : List Loc) : Prop := v = some (.int (nar .char (nar .char ((w &&& (255 : Int32)).toUInt32.toUInt16.toUInt32.toInt32)))) ∧ Fr n0 L ∧ h = h0
set_option maxRecDepth 65536 in
set_option maxHeartbeats 40000000 in
theorem rmca (l : Launch) (Z : State) (a0 : Array Value) (hw : ∀ d ∈ tables_1, d.before a0 Z = true) (ws : List Jvm.Cond) (a1 : Addr) (p2 : Int32) (a3 : Addr) (cs : Int32) (vF : Value) (i : Nat) (n : Nat) (z : Int32) (f : Nat → Value) (w : Int32) (h0 : Heap) (n0 : Nat) (Z0 : n0 ≤ h0.size) (S_C : Sta Z h0 "java/lang/String" "COMPACT_STRINGS" "Z" (.int cs)) (hcs : ¬ cs = 0) (S_F : Sta Z h0 "jdk/internal/util/Preconditions" "SIOOBE_FORMATTER" "Ljava/util/function/BiFunction;" vF) (hF : vF = .null ∨ ∃ b, vF = .ref b) (E_a1 : Exa Z h0 a1 "java/lang/String") (F_coder : Fld Z h0 a1 "java/lang/String" "coder" "B" (.int (0 : Int32))) (F_value : Fld Z h0 a1 "java/lang/String" "value" "[B" (.ref a3)) (A : own_Ar Z h0 a3 .byte n f) (hj : p2.toInt = (i : Int)) (hz : z.toInt = (n : Int)) (hi : i < n) (hv : f i = .int w) :
    own_Ctr l Z (⟨"java/lang/String", "charAt", "(I)C"⟩ : MethodName) jdk_42_method_56_code 2 (some .char) ws ({ frames := 3, cells := 0, slots := 0, locals := 40 } : Room) #[(.ref a1), (.int p2)] h0 (Q_rmca Z a1 p2 a3 cs vF i n z f w h0 n0) := by
  refine own_enter (plainFor_of_name own_pn3) ?_
  intro p e s m below meth c s₁ X0 hx hby hml hrt hlk hZ hown hnm e0
  have N0 := Fr.nil n0
  have Zs := Z0
  rw [show entryFrame m #[(.ref a1), (.int p2)] 2 = mkF m 0 #[.val (.ref a1), .val (.int p2)] [] from by first | (simp [entryFrame, mkF, argsToLocals, Value.category]; done) | rfl]
  show own_Wp _ _ _ _ (s₁.setTop (mkF m 0 #[.val (.ref a1), .val (.int p2)] []))
  refine own_of (fun tgt kon => XS.aloadN X0.here hx rfl (hb hby d2_0) rfl rfl kon) ?_
  show own_Wp _ _ _ _ (s₁.setTop (mkF m 1 #[.val (.ref a1), .val (.int p2)] [(.ref a1)]))
  refine own_callV X0 hx hZ (C := "java/lang/String") (y := (⟨"java/lang/String", "isLatin1", "()Z"⟩ : MethodName)) (a := a1) (argsL := []) (rest := []) (W := 0) hown (hw _ (List.mem_of_getElem? (i := 16) rfl)) (hw _ (List.mem_of_getElem? (i := 17) rfl)) (hw _ (List.mem_of_getElem? (i := 19) rfl)) (hw _ (List.mem_of_getElem? (i := 18) rfl)) (hw _ (List.mem_of_getElem? (i := 14) rfl)) (hw _ (List.mem_of_getElem? (i := 20) rfl)) (by decide) e0 E_a1 (rmil l Z a0 hw [] a1 cs h0 n0 Zs S_C hcs F_coder) (by decide) (by decide) (by decide) (by decide) (g := (mkF m 1 #[.val (.ref a1), .val (.int p2)] [(.ref a1)])) rfl (by rw [hml]; rfl) (lenOf own_pd2 rfl) rfl (by show 2 * 0 + _ ≤ _; exact Nat.le_of_eq rfl) (hb hby d2_1) ?_
  rintro T1 L1 _ X1 ⟨rfl, N1q, e1⟩
  have N1 := Fr.app N0 N1q
  show own_Wp _ _ _ _ (T1.setTop (mkF m 4 #[.val (.ref a1), .val (.int p2)] [(.int (1 : Int32))]))
  have hc4 : ¬ ((1 : Int32) = (0 : Int32)) := by decide
  refine own_of (fun tgt kon => XS.ifNo X1.here hx rfl (hb hby d2_4) rfl ((if0 _ _).trans (feq hc4).1) kon) ?_
  show own_Wp _ _ _ _ (T1.setTop (mkF m 7 #[.val (.ref a1), .val (.int p2)] []))
  refine own_of (fun tgt kon => XS.aloadN X1.here hx rfl (hb hby d2_7) rfl rfl kon) ?_
  show own_Wp _ _ _ _ (T1.setTop (mkF m 8 #[.val (.ref a1), .val (.int p2)] [(.ref a1)]))
  obtain ⟨T2, X2, e2, st2⟩ := getF X1 hx hZ hown (host := "") (Or.inl (hw _ (List.mem_of_getElem? (i := 24) rfl))) Via.refl e1 F_value (g := (mkF m 8 #[.val (.ref a1), .val (.int p2)] [(.ref a1)])) rfl rfl (hb hby d2_8)
  refine own_of st2 ?_
  show own_Wp _ _ _ _ (T2.setTop (mkF m 11 #[.val (.ref a1), .val (.int p2)] [(.ref a3)]))
  refine own_of (fun tgt kon => XS.iloadN X2.here hx rfl (hb hby d2_11) rfl kon) ?_
  show own_Wp _ _ _ _ (T2.setTop (mkF m 12 #[.val (.ref a1), .val (.int p2)] [(.int p2), (.ref a3)]))
  refine own_callS X2 hx hZ (y := (⟨"java/lang/StringLatin1", "charAt", "([BI)C"⟩ : MethodName)) (argsL := [(.ref a3), (.int p2)]) (rest := []) (W := 0) hown (hw _ (List.mem_of_getElem? (i := 26) rfl)) (hw _ (List.mem_of_getElem? (i := 27) rfl)) (hw _ (List.mem_of_getElem? (i := 28) rfl)) (hw _ (List.mem_of_getElem? (i := 29) rfl)) (by decide) e2 (rmlc l Z a0 hw [] a3 p2 vF i n z f w h0 n0 Zs S_F hF A hj hz hi hv) (by decide) (by decide) (by decide) (by decide) (g := (mkF m 12 #[.val (.ref a1), .val (.int p2)] [(.int p2), (.ref a3)])) rfl (by rw [hml]; rfl) (lenOf own_pd3 rfl) rfl (by show 2 * 0 + _ ≤ _; exact Nat.le_of_eq rfl) (hb hby d2_12) ?_
  rintro T3 L3 _ X3 ⟨rfl, N3q, e3⟩
  have N3 := Fr.app N1 N3q
  show own_Wp _ _ _ _ (T3.setTop (mkF m 15 #[.val (.ref a1), .val (.int p2)] [(.int (nar .char ((w &&& (255 : Int32)).toUInt32.toUInt16.toUInt32.toInt32)))]))
  refine own_ret X3 hlk (some (.int (nar .char (nar .char ((w &&& (255 : Int32)).toUInt32.toUInt16.toUInt32.toInt32))))) (own_rtI hrt) (fun fs hr => retN X3 hx (t := .char) hrt (by simp) (hb hby d2_15) hr) ?_ (by decide) (by decide)
  rw [e3]
  exact ⟨rfl, N3, rfl⟩
theorem own_rem6 {x k : Int32} (h : k = (x &&& (2147483647 : Int32)) % (6 : Int32)) : k = 0 ∨ k = 1 ∨ k = 2 ∨ k = 3 ∨ k = 4 ∨ k = 5 := by
  have h1 := Jvm.Kit.i32_mask x 2147483647 (k := 31) (by decide) (by decide)
  have h2 : k.toInt = (x.toInt % 2 ^ 31) % 6 := by
    rw [h, Jvm.Kit.i32_rem_nonneg (by rw [h1]; omega), h1]; rfl
  have q : k.toInt = 0 ∨ k.toInt = 1 ∨ k.toInt = 2 ∨ k.toInt = 3 ∨ k.toInt = 4 ∨ k.toInt = 5 := by omega
  have e : ∀ z : Int32, k.toInt = z.toInt → k = z := fun z q => Int32.toInt_inj.mp q
  rcases q with q | q | q | q | q | q
  · exact Or.inl (e 0 q)
  · exact Or.inr (Or.inl (e 1 q))
  · exact Or.inr (Or.inr (Or.inl (e 2 q)))
  · exact Or.inr (Or.inr (Or.inr (Or.inl (e 3 q))))
  · exact Or.inr (Or.inr (Or.inr (Or.inr (Or.inl (e 4 q)))))
  · exact Or.inr (Or.inr (Or.inr (Or.inr (Or.inr (e 5 q)))))
theorem own_pd4 : parseMethodDescriptor "(I)Lcom/example/iota_flow/iotaflow/definition/Expression$Operator;" = some ⟨[.int], some (.object "com/example/iota_flow/iotaflow/definition/Expression$Operator")⟩ := by decide +kernel
theorem own_pd5 : parseMethodDescriptor "(I)C" = some ⟨[.int], some .char⟩ := by decide +kernel
def Q_rm0 (Z : State) (p1 : Int32) (o0 : Addr) (o1 : Addr) (o2 : Addr) (o3 : Addr) (o4 : Addr) (o5 : Addr) (s0 : Addr) (s1 : Addr) (s2 : Addr) (s3 : Addr) (s4 : Addr) (s5 : Addr) (v0 : Addr) (v1 : Addr) (v2 : Addr) (v3 : Addr) (v4 : Addr) (v5 : Addr) (f0 : Nat → Value) (f1 : Nat → Value) (f2 : Nat → Value) (f3 : Nat → Value) (f4 : Nat → Value) (f5 : Nat → Value) (cs : Int32) (vF : Value) (h0 : Heap) (n0 : Nat) (v : Option Value) (h : Heap) (L : List Loc) : Prop := v = some (.int 1) ∧ Fr n0 L
set_option maxRecDepth 65536 in
set_option maxHeartbeats 40000000 in
theorem rm0 (l : Launch) (Z : State) (a0 : Array Value) (hw : ∀ d ∈ tables_1, d.before a0 Z = true) (ws : List Jvm.Cond) (p1 : Int32) (o0 : Addr) (o1 : Addr) (o2 : Addr) (o3 : Addr) (o4 : Addr) (o5 : Addr) (s0 : Addr) (s1 : Addr) (s2 : Addr) (s3 : Addr) (s4 : Addr) (s5 : Addr) (v0 : Addr) (v1 : Addr) (v2 : Addr) (v3 : Addr) (v4 : Addr) (v5 : Addr) (f0 : Nat → Value) (f1 : Nat → Value) (f2 : Nat → Value) (f3 : Nat → Value) (f4 : Nat → Value) (f5 : Nat → Value) (cs : Int32) (vF : Value) (h0 : Heap) (n0 : Nat) (Z0 : n0 ≤ h0.size) (S0 : Sta Z h0 "com/example/iota_flow/iotaflow/definition/Expression$Operator" "EQUAL" "Lcom/example/iota_flow/iotaflow/definition/Expression$Operator;" (.ref o0)) (S1 : Sta Z h0 "com/example/iota_flow/iotaflow/definition/Expression$Operator" "NOT_EQUAL" "Lcom/example/iota_flow/iotaflow/definition/Expression$Operator;" (.ref o1)) (S2 : Sta Z h0 "com/example/iota_flow/iotaflow/definition/Expression$Operator" "LESS" "Lcom/example/iota_flow/iotaflow/definition/Expression$Operator;" (.ref o2)) (S3 : Sta Z h0 "com/example/iota_flow/iotaflow/definition/Expression$Operator" "AT_MOST" "Lcom/example/iota_flow/iotaflow/definition/Expression$Operator;" (.ref o3)) (S4 : Sta Z h0 "com/example/iota_flow/iotaflow/definition/Expression$Operator" "GREATER" "Lcom/example/iota_flow/iotaflow/definition/Expression$Operator;" (.ref o4)) (S5 : Sta Z h0 "com/example/iota_flow/iotaflow/definition/Expression$Operator" "AT_LEAST" "Lcom/example/iota_flow/iotaflow/definition/Expression$Operator;" (.ref o5)) (S_C : Sta Z h0 "java/lang/String" "COMPACT_STRINGS" "Z" (.int cs)) (hcs : ¬ cs = 0) (S_F : Sta Z h0 "jdk/internal/util/Preconditions" "SIOOBE_FORMATTER" "Ljava/util/function/BiFunction;" vF) (hF : vF = .null ∨ ∃ b, vF = .ref b) (E_o0 : Exa Z h0 o0 "com/example/iota_flow/iotaflow/definition/Expression$Operator") (Fs0 : Fld Z h0 o0 "com/example/iota_flow/iotaflow/definition/Expression$Operator" "symbol" "Ljava/lang/String;" (.ref s0)) (E_s0 : Exa Z h0 s0 "java/lang/String") (Fc0 : Fld Z h0 s0 "java/lang/String" "coder" "B" (.int (0 : Int32))) (Fv0 : Fld Z h0 s0 "java/lang/String" "value" "[B" (.ref v0)) (A0 : own_Ar Z h0 v0 .byte 2 f0) (hv0 : f0 0 = .int (61 : Int32)) (E_o1 : Exa Z h0 o1 "com/example/iota_flow/iotaflow/definition/Expression$Operator") (Fs1 : Fld Z h0 o1 "com/example/iota_flow/iotaflow/definition/Expression$Operator" "symbol" "Ljava/lang/String;" (.ref s1)) (E_s1 : Exa Z h0 s1 "java/lang/String") (Fc1 : Fld Z h0 s1 "java/lang/String" "coder" "B" (.int (0 : Int32))) (Fv1 : Fld Z h0 s1 "java/lang/String" "value" "[B" (.ref v1)) (A1 : own_Ar Z h0 v1 .byte 2 f1) (hv1 : f1 0 = .int (33 : Int32)) (E_o2 : Exa Z h0 o2 "com/example/iota_flow/iotaflow/definition/Expression$Operator") (Fs2 : Fld Z h0 o2 "com/example/iota_flow/iotaflow/definition/Expression$Operator" "symbol" "Ljava/lang/String;" (.ref s2)) (E_s2 : Exa Z h0 s2 "java/lang/String") (Fc2 : Fld Z h0 s2 "java/lang/String" "coder" "B" (.int (0 : Int32))) (Fv2 : Fld Z h0 s2 "java/lang/String" "value" "[B" (.ref v2)) (A2 : own_Ar Z h0 v2 .byte 1 f2) (hv2 : f2 0 = .int (60 : Int32)) (E_o3 : Exa Z h0 o3 "com/example/iota_flow/iotaflow/definition/Expression$Operator") (Fs3 : Fld Z h0 o3 "com/example/iota_flow/iotaflow/definition/Expression$Operator" "symbol" "Ljava/lang/String;" (.ref s3)) (E_s3 : Exa Z h0 s3 "java/lang/String") (Fc3 : Fld Z h0 s3 "java/lang/String" "coder" "B" (.int (0 : Int32))) (Fv3 : Fld Z h0 s3 "java/lang/String" "value" "[B" (.ref v3)) (A3 : own_Ar Z h0 v3 .byte 2 f3) (hv3 : f3 0 = .int (60 : Int32)) (E_o4 : Exa Z h0 o4 "com/example/iota_flow/iotaflow/definition/Expression$Operator") (Fs4 : Fld Z h0 o4 "com/example/iota_flow/iotaflow/definition/Expression$Operator" "symbol" "Ljava/lang/String;" (.ref s4)) (E_s4 : Exa Z h0 s4 "java/lang/String") (Fc4 : Fld Z h0 s4 "java/lang/String" "coder" "B" (.int (0 : Int32))) (Fv4 : Fld Z h0 s4 "java/lang/String" "value" "[B" (.ref v4)) (A4 : own_Ar Z h0 v4 .byte 1 f4) (hv4 : f4 0 = .int (62 : Int32)) (E_o5 : Exa Z h0 o5 "com/example/iota_flow/iotaflow/definition/Expression$Operator") (Fs5 : Fld Z h0 o5 "com/example/iota_flow/iotaflow/definition/Expression$Operator" "symbol" "Ljava/lang/String;" (.ref s5)) (E_s5 : Exa Z h0 s5 "java/lang/String") (Fc5 : Fld Z h0 s5 "java/lang/String" "coder" "B" (.int (0 : Int32))) (Fv5 : Fld Z h0 s5 "java/lang/String" "value" "[B" (.ref v5)) (A5 : own_Ar Z h0 v5 .byte 2 f5) (hv5 : f5 0 = .int (62 : Int32)) (ne01 : o0 ≠ o1) (ne02 : o0 ≠ o2) (ne03 : o0 ≠ o3) (ne04 : o0 ≠ o4) (ne05 : o0 ≠ o5) (ne12 : o1 ≠ o2) (ne13 : o1 ≠ o3) (ne14 : o1 ≠ o4) (ne15 : o1 ≠ o5) :
    own_Ctr l Z x code maxLocals ret ws room_1 #[(.int p1)] h0 (Q_rm0 Z p1 o0 o1 o2 o3 o4 o5 s0 s1 s2 s3 s4 s5 v0 v1 v2 v3 v4 v5 f0 f1 f2 f3 f4 f5 cs vF h0 n0) := by
  refine own_enter (plainFor_of_name own_pn0) ?_
  intro p e s m below meth c s₁ X0 hx hby hml hrt hlk hZ hown hnm e0
  have N0 := Fr.nil n0
  have Zs := Z0
  rw [show entryFrame m #[(.int p1)] maxLocals = mkF m 0 #[.val (.int p1), .unset, .unset, .unset, .unset, .unset] [] from by first | (simp [entryFrame, mkF, argsToLocals, Value.category, maxLocals]; done) | rfl]
  show own_Wp _ _ _ _ (s₁.setTop (mkF m 0 #[.val (.int p1), .unset, .unset, .unset, .unset, .unset] []))
  refine own_of (fun tgt kon => XS.iloadN X0.here hx rfl (hb hby at_0) rfl kon) ?_
  show own_Wp _ _ _ _ (s₁.setTop (mkF m 1 #[.val (.int p1), .unset, .unset, .unset, .unset, .unset] [(.int p1)]))
  refine own_of (X0.ldcInt hx hown (mvT hZ (hw _ (List.mem_of_getElem? (i := 0) rfl))) (g := (mkF m 1 #[.val (.int p1), .unset, .unset, .unset, .unset, .unset] [(.int p1)])) rfl (hb hby at_1)) ?_
  show own_Wp _ _ _ _ (s₁.setTop (mkF m 3 #[.val (.int p1), .unset, .unset, .unset, .unset, .unset] [(.int (2147483647 : Int32)), (.int p1)]))
  refine own_of (fun tgt kon => XS.iand X0.here hx rfl (hb hby at_3) rfl kon) ?_
  show own_Wp _ _ _ _ (s₁.setTop (mkF m 4 #[.val (.int p1), .unset, .unset, .unset, .unset, .unset] [(.int (p1 &&& (2147483647 : Int32)))]))
  refine own_of (fun tgt kon => XS.bipush X0.here hx rfl (hb hby at_4) kon) ?_
  show own_Wp _ _ _ _ (s₁.setTop (mkF m 6 #[.val (.int p1), .unset, .unset, .unset, .unset, .unset] [(.int (6 : Int32)), (.int (p1 &&& (2147483647 : Int32)))]))
  refine own_of (fun tgt kon => iremM X0 hx rfl (hb hby at_6) rfl (by decide) kon) ?_
  show own_Wp _ _ _ _ (s₁.setTop (mkF m 7 #[.val (.int p1), .unset, .unset, .unset, .unset, .unset] [(.int ((p1 &&& (2147483647 : Int32)) % (6 : Int32)))]))
  obtain ⟨kk, h_kk⟩ : ∃ q : Int32, q = ((p1 &&& (2147483647 : Int32)) % (6 : Int32)) := ⟨_, rfl⟩
  rw [← h_kk]
  refine own_of (fun tgt kon => XS.istoreN X0.here hx rfl (hb hby at_7) rfl (l' := #[.val (.int p1), .val (.int kk), .unset, .unset, .unset, .unset]) rfl kon) ?_
  show own_Wp _ _ _ _ (s₁.setTop (mkF m 8 #[.val (.int p1), .val (.int kk), .unset, .unset, .unset, .unset] []))
  have hk6 : kk = 0 ∨ kk = 1 ∨ kk = 2 ∨ kk = 3 ∨ kk = 4 ∨ kk = 5 := own_rem6 h_kk
  clear h_kk
  rcases hk6 with rfl | rfl | rfl | rfl | rfl | rfl
  · skip
    show own_Wp _ _ _ _ (s₁.setTop (mkF m 8 #[.val (.int p1), .val (.int (0 : Int32)), .unset, .unset, .unset, .unset] []))
    refine own_of (fun tgt kon => XS.iloadN X0.here hx rfl (hb hby at_8) rfl kon) ?_
    show own_Wp _ _ _ _ (s₁.setTop (mkF m 9 #[.val (.int p1), .val (.int (0 : Int32)), .unset, .unset, .unset, .unset] [(.int (0 : Int32))]))
    refine own_callS X0 hx hZ (y := (⟨"com/example/iota_flow/iotaflow/definition/OperatorOrdersPinLaw", "pick", "(I)Lcom/example/iota_flow/iotaflow/definition/Expression$Operator;"⟩ : MethodName)) (argsL := [(.int (0 : Int32))]) (rest := []) (W := 0) hown (hw _ (List.mem_of_getElem? (i := 1) rfl)) (hw _ (List.mem_of_getElem? (i := 2) rfl)) (hw _ (List.mem_of_getElem? (i := 3) rfl)) (hw _ (List.mem_of_getElem? (i := 4) rfl)) (by decide) e0 (rmpick l Z a0 hw [] (0 : Int32) o0 o1 o2 o3 o4 o5 o0 h0 n0 Zs S0 S1 S2 S3 S4 S5 (fun _ => rfl) (fun h _ => absurd rfl h) (fun h _ _ => absurd rfl h) (fun h _ _ _ => absurd rfl h) (fun h _ _ _ _ => absurd rfl h) (fun h _ _ _ _ => absurd rfl h)) (by decide) (by decide) (by decide) (by decide) (g := (mkF m 9 #[.val (.int p1), .val (.int (0 : Int32)), .unset, .unset, .unset, .unset] [(.int (0 : Int32))])) rfl (by rw [hml]; rfl) (lenOf own_pd4 rfl) rfl (by show 2 * 0 + _ ≤ _; exact Nat.le_of_eq rfl) (hb hby at_9) ?_
    rintro T1 L1 _ X1 ⟨rfl, N1q, e1⟩
    have N1 := Fr.app N0 N1q
    show own_Wp _ _ _ _ (T1.setTop (mkF m 12 #[.val (.int p1), .val (.int (0 : Int32)), .unset, .unset, .unset, .unset] [(.ref o0)]))
    refine own_of (fun tgt kon => XS.astoreN X1.here hx rfl (hb hby at_12) rfl rfl (l' := #[.val (.int p1), .val (.int (0 : Int32)), .val (.ref o0), .unset, .unset, .unset]) rfl kon) ?_
    show own_Wp _ _ _ _ (T1.setTop (mkF m 13 #[.val (.int p1), .val (.int (0 : Int32)), .val (.ref o0), .unset, .unset, .unset] []))
    refine own_of (fun tgt kon => XS.iloadN X1.here hx rfl (hb hby at_13) rfl kon) ?_
    show own_Wp _ _ _ _ (T1.setTop (mkF m 14 #[.val (.int p1), .val (.int (0 : Int32)), .val (.ref o0), .unset, .unset, .unset] [(.int (0 : Int32))]))
    refine own_of (fun tgt kon => XS.iconst X1.here hx rfl (hb hby at_14) kon) ?_
    show own_Wp _ _ _ _ (T1.setTop (mkF m 15 #[.val (.int p1), .val (.int (0 : Int32)), .val (.ref o0), .unset, .unset, .unset] [(.int (2 : Int32)), (.int (0 : Int32))]))
    have hc15 : (0 : Int32) < (2 : Int32) := by decide
    refine own_of (fun tgt kon => XS.icmpYes X1.here hx rfl (pc0 := 15) (pc' := 22) rfl (hb hby at_15) rfl (tlt hc15).1 (by decide) (by decide) kon) ?_
    show own_Wp _ _ _ _ (T1.setTop (mkF m 22 #[.val (.int p1), .val (.int (0 : Int32)), .val (.ref o0), .unset, .unset, .unset] []))
    refine own_of (fun tgt kon => XS.iconst X1.here hx rfl (hb hby at_22) kon) ?_
    show own_Wp _ _ _ _ (T1.setTop (mkF m 23 #[.val (.int p1), .val (.int (0 : Int32)), .val (.ref o0), .unset, .unset, .unset] [(.int (0 : Int32))]))
    refine own_of (fun tgt kon => XS.istoreN X1.here hx rfl (hb hby at_23) rfl (l' := #[.val (.int p1), .val (.int (0 : Int32)), .val (.ref o0), .val (.int (0 : Int32)), .unset, .unset]) rfl kon) ?_
    show own_Wp _ _ _ _ (T1.setTop (mkF m 24 #[.val (.int p1), .val (.int (0 : Int32)), .val (.ref o0), .val (.int (0 : Int32)), .unset, .unset] []))
    refine own_of (fun tgt kon => XS.aloadN X1.here hx rfl (hb hby at_24) rfl rfl kon) ?_
    show own_Wp _ _ _ _ (T1.setTop (mkF m 25 #[.val (.int p1), .val (.int (0 : Int32)), .val (.ref o0), .val (.int (0 : Int32)), .unset, .unset] [(.ref o0)]))
    obtain ⟨T2, X2, e2, st2⟩ := getF X1 hx hZ hown (host := "") (Or.inl (hw _ (List.mem_of_getElem? (i := 8) rfl))) Via.refl e1 Fs0 (g := (mkF m 25 #[.val (.int p1), .val (.int (0 : Int32)), .val (.ref o0), .val (.int (0 : Int32)), .unset, .unset] [(.ref o0)])) rfl rfl (hb hby at_25)
    refine own_of st2 ?_
    show own_Wp _ _ _ _ (T2.setTop (mkF m 28 #[.val (.int p1), .val (.int (0 : Int32)), .val (.ref o0), .val (.int (0 : Int32)), .unset, .unset] [(.ref s0)]))
    refine own_of (fun tgt kon => XS.iconst X2.here hx rfl (hb hby at_28) kon) ?_
    show own_Wp _ _ _ _ (T2.setTop (mkF m 29 #[.val (.int p1), .val (.int (0 : Int32)), .val (.ref o0), .val (.int (0 : Int32)), .unset, .unset] [(.int (0 : Int32)), (.ref s0)]))
    refine own_callV X2 hx hZ (C := "java/lang/String") (y := (⟨"java/lang/String", "charAt", "(I)C"⟩ : MethodName)) (a := s0) (argsL := [(.int (0 : Int32))]) (rest := []) (W := 0) hown (hw _ (List.mem_of_getElem? (i := 10) rfl)) (hw _ (List.mem_of_getElem? (i := 11) rfl)) (hw _ (List.mem_of_getElem? (i := 13) rfl)) (hw _ (List.mem_of_getElem? (i := 12) rfl)) (hw _ (List.mem_of_getElem? (i := 14) rfl)) (hw _ (List.mem_of_getElem? (i := 15) rfl)) (by decide) e2 E_s0 (rmca l Z a0 hw [] s0 (0 : Int32) v0 cs vF 0 2 (2 : Int32) f0 (61 : Int32) h0 n0 Zs S_C hcs S_F hF E_s0 Fc0 Fv0 A0 (by decide) (by decide) (by decide) hv0) (by decide) (by decide) (by decide) (by decide) (g := (mkF m 29 #[.val (.int p1), .val (.int (0 : Int32)), .val (.ref o0), .val (.int (0 : Int32)), .unset, .unset] [(.int (0 : Int32)), (.ref s0)])) rfl (by rw [hml]; rfl) (lenOf own_pd5 rfl) rfl (by show 2 * 0 + _ ≤ _; exact Nat.le_of_eq rfl) (hb hby at_29) ?_
    rintro T3 L3 _ X3 ⟨rfl, N3q, e3⟩
    have N3 := Fr.app N1 N3q
    show own_Wp _ _ _ _ (T3.setTop (mkF m 32 #[.val (.int p1), .val (.int (0 : Int32)), .val (.ref o0), .val (.int (0 : Int32)), .unset, .unset] [(.int (nar .char (nar .char (((61 : Int32) &&& (255 : Int32)).toUInt32.toUInt16.toUInt32.toInt32))))]))
    refine own_of (fun tgt kon => XS.istore X3.here hx rfl (hb hby at_32) rfl (l' := #[.val (.int p1), .val (.int (0 : Int32)), .val (.ref o0), .val (.int (0 : Int32)), .val (.int (nar .char (nar .char (((61 : Int32) &&& (255 : Int32)).toUInt32.toUInt16.toUInt32.toInt32)))), .unset]) rfl kon) ?_
    show own_Wp _ _ _ _ (T3.setTop (mkF m 34 #[.val (.int p1), .val (.int (0 : Int32)), .val (.ref o0), .val (.int (0 : Int32)), .val (.int (nar .char (nar .char (((61 : Int32) &&& (255 : Int32)).toUInt32.toUInt16.toUInt32.toInt32)))), .unset] []))
    refine own_of (fun tgt kon => XS.iload X3.here hx rfl (hb hby at_34) rfl kon) ?_
    show own_Wp _ _ _ _ (T3.setTop (mkF m 36 #[.val (.int p1), .val (.int (0 : Int32)), .val (.ref o0), .val (.int (0 : Int32)), .val (.int (nar .char (nar .char (((61 : Int32) &&& (255 : Int32)).toUInt32.toUInt16.toUInt32.toInt32)))), .unset] [(.int (nar .char (nar .char (((61 : Int32) &&& (255 : Int32)).toUInt32.toUInt16.toUInt32.toInt32))))]))
    refine own_of (fun tgt kon => XS.bipush X3.here hx rfl (hb hby at_36) kon) ?_
    show own_Wp _ _ _ _ (T3.setTop (mkF m 38 #[.val (.int p1), .val (.int (0 : Int32)), .val (.ref o0), .val (.int (0 : Int32)), .val (.int (nar .char (nar .char (((61 : Int32) &&& (255 : Int32)).toUInt32.toUInt16.toUInt32.toInt32)))), .unset] [(.int (60 : Int32)), (.int (nar .char (nar .char (((61 : Int32) &&& (255 : Int32)).toUInt32.toUInt16.toUInt32.toInt32))))]))
    have hc38 : ¬ ((nar .char (nar .char (((61 : Int32) &&& (255 : Int32)).toUInt32.toUInt16.toUInt32.toInt32))) = (60 : Int32)) := by decide
    refine own_of (fun tgt kon => XS.icmpNo X3.here hx rfl (hb hby at_38) rfl (feq hc38).1 kon) ?_
    show own_Wp _ _ _ _ (T3.setTop (mkF m 41 #[.val (.int p1), .val (.int (0 : Int32)), .val (.ref o0), .val (.int (0 : Int32)), .val (.int (nar .char (nar .char (((61 : Int32) &&& (255 : Int32)).toUInt32.toUInt16.toUInt32.toInt32)))), .unset] []))
    refine own_of (fun tgt kon => XS.iload X3.here hx rfl (hb hby at_41) rfl kon) ?_
    show own_Wp _ _ _ _ (T3.setTop (mkF m 43 #[.val (.int p1), .val (.int (0 : Int32)), .val (.ref o0), .val (.int (0 : Int32)), .val (.int (nar .char (nar .char (((61 : Int32) &&& (255 : Int32)).toUInt32.toUInt16.toUInt32.toInt32)))), .unset] [(.int (nar .char (nar .char (((61 : Int32) &&& (255 : Int32)).toUInt32.toUInt16.toUInt32.toInt32))))]))
    refine own_of (fun tgt kon => XS.bipush X3.here hx rfl (hb hby at_43) kon) ?_
    show own_Wp _ _ _ _ (T3.setTop (mkF m 45 #[.val (.int p1), .val (.int (0 : Int32)), .val (.ref o0), .val (.int (0 : Int32)), .val (.int (nar .char (nar .char (((61 : Int32) &&& (255 : Int32)).toUInt32.toUInt16.toUInt32.toInt32)))), .unset] [(.int (62 : Int32)), (.int (nar .char (nar .char (((61 : Int32) &&& (255 : Int32)).toUInt32.toUInt16.toUInt32.toInt32))))]))
    have hc45 : ¬ ((nar .char (nar .char (((61 : Int32) &&& (255 : Int32)).toUInt32.toUInt16.toUInt32.toInt32))) = (62 : Int32)) := by decide
    refine own_of (fun tgt kon => XS.icmpYes X3.here hx rfl (pc0 := 45) (pc' := 52) rfl (hb hby at_45) rfl (feq hc45).2 (by decide) (by decide) kon) ?_
    show own_Wp _ _ _ _ (T3.setTop (mkF m 52 #[.val (.int p1), .val (.int (0 : Int32)), .val (.ref o0), .val (.int (0 : Int32)), .val (.int (nar .char (nar .char (((61 : Int32) &&& (255 : Int32)).toUInt32.toUInt16.toUInt32.toInt32)))), .unset] []))
    refine own_of (fun tgt kon => XS.iconst X3.here hx rfl (hb hby at_52) kon) ?_
    show own_Wp _ _ _ _ (T3.setTop (mkF m 53 #[.val (.int p1), .val (.int (0 : Int32)), .val (.ref o0), .val (.int (0 : Int32)), .val (.int (nar .char (nar .char (((61 : Int32) &&& (255 : Int32)).toUInt32.toUInt16.toUInt32.toInt32)))), .unset] [(.int (0 : Int32))]))
    refine own_of (fun tgt kon => XS.istore X3.here hx rfl (hb hby at_53) rfl (l' := #[.val (.int p1), .val (.int (0 : Int32)), .val (.ref o0), .val (.int (0 : Int32)), .val (.int (nar .char (nar .char (((61 : Int32) &&& (255 : Int32)).toUInt32.toUInt16.toUInt32.toInt32)))), .val (.int (0 : Int32))]) rfl kon) ?_
    show own_Wp _ _ _ _ (T3.setTop (mkF m 55 #[.val (.int p1), .val (.int (0 : Int32)), .val (.ref o0), .val (.int (0 : Int32)), .val (.int (nar .char (nar .char (((61 : Int32) &&& (255 : Int32)).toUInt32.toUInt16.toUInt32.toInt32)))), .val (.int (0 : Int32))] []))
    refine own_of (fun tgt kon => XS.aloadN X3.here hx rfl (hb hby at_55) rfl rfl kon) ?_
    show own_Wp _ _ _ _ (T3.setTop (mkF m 56 #[.val (.int p1), .val (.int (0 : Int32)), .val (.ref o0), .val (.int (0 : Int32)), .val (.int (nar .char (nar .char (((61 : Int32) &&& (255 : Int32)).toUInt32.toUInt16.toUInt32.toInt32)))), .val (.int (0 : Int32))] [(.ref o0)]))
    refine own_callV X3 hx hZ (C := "com/example/iota_flow/iotaflow/definition/Expression$Operator") (y := (⟨"com/example/iota_flow/iotaflow/definition/Expression$Operator", "orders", "()Z"⟩ : MethodName)) (a := o0) (argsL := []) (rest := []) (W := 0) hown (hw _ (List.mem_of_getElem? (i := 38) rfl)) (hw _ (List.mem_of_getElem? (i := 39) rfl)) (hw _ (List.mem_of_getElem? (i := 41) rfl)) (hw _ (List.mem_of_getElem? (i := 40) rfl)) (hw _ (List.mem_of_getElem? (i := 6) rfl)) (hw _ (List.mem_of_getElem? (i := 42) rfl)) (by decide) e3 E_o0 (rmord l Z a0 hw [] o0 o0 o1 (0 : Int32) h0 n0 Zs S0 S1 (fun _ => rfl) (fun h => absurd rfl h) (fun h => absurd rfl h)) (by decide) (by decide) (by decide) (by decide) (g := (mkF m 56 #[.val (.int p1), .val (.int (0 : Int32)), .val (.ref o0), .val (.int (0 : Int32)), .val (.int (nar .char (nar .char (((61 : Int32) &&& (255 : Int32)).toUInt32.toUInt16.toUInt32.toInt32)))), .val (.int (0 : Int32))] [(.ref o0)])) rfl (by rw [hml]; rfl) (lenOf own_pd2 rfl) rfl (by show 2 * 0 + _ ≤ _; exact Nat.le_of_eq rfl) (hb hby at_56) ?_
    rintro T4 L4 _ X4 ⟨rfl, N4q, e4⟩
    have N4 := Fr.app N3 N4q
    show own_Wp _ _ _ _ (T4.setTop (mkF m 59 #[.val (.int p1), .val (.int (0 : Int32)), .val (.ref o0), .val (.int (0 : Int32)), .val (.int (nar .char (nar .char (((61 : Int32) &&& (255 : Int32)).toUInt32.toUInt16.toUInt32.toInt32)))), .val (.int (0 : Int32))] [(.int (0 : Int32))]))
    refine own_of (fun tgt kon => XS.iloadN X4.here hx rfl (hb hby at_59) rfl kon) ?_
    show own_Wp _ _ _ _ (T4.setTop (mkF m 60 #[.val (.int p1), .val (.int (0 : Int32)), .val (.ref o0), .val (.int (0 : Int32)), .val (.int (nar .char (nar .char (((61 : Int32) &&& (255 : Int32)).toUInt32.toUInt16.toUInt32.toInt32)))), .val (.int (0 : Int32))] [(.int (0 : Int32)), (.int (0 : Int32))]))
    have hc60 : (0 : Int32) = (0 : Int32) := by decide
    refine own_of (fun tgt kon => XS.icmpNo X4.here hx rfl (hb hby at_60) rfl (teq hc60).2 kon) ?_
    show own_Wp _ _ _ _ (T4.setTop (mkF m 63 #[.val (.int p1), .val (.int (0 : Int32)), .val (.ref o0), .val (.int (0 : Int32)), .val (.int (nar .char (nar .char (((61 : Int32) &&& (255 : Int32)).toUInt32.toUInt16.toUInt32.toInt32)))), .val (.int (0 : Int32))] []))
    refine own_of (fun tgt kon => XS.iloadN X4.here hx rfl (hb hby at_63) rfl kon) ?_
    show own_Wp _ _ _ _ (T4.setTop (mkF m 64 #[.val (.int p1), .val (.int (0 : Int32)), .val (.ref o0), .val (.int (0 : Int32)), .val (.int (nar .char (nar .char (((61 : Int32) &&& (255 : Int32)).toUInt32.toUInt16.toUInt32.toInt32)))), .val (.int (0 : Int32))] [(.int (0 : Int32))]))
    refine own_of (fun tgt kon => XS.iload X4.here hx rfl (hb hby at_64) rfl kon) ?_
    show own_Wp _ _ _ _ (T4.setTop (mkF m 66 #[.val (.int p1), .val (.int (0 : Int32)), .val (.ref o0), .val (.int (0 : Int32)), .val (.int (nar .char (nar .char (((61 : Int32) &&& (255 : Int32)).toUInt32.toUInt16.toUInt32.toInt32)))), .val (.int (0 : Int32))] [(.int (0 : Int32)), (.int (0 : Int32))]))
    have hc66 : (0 : Int32) = (0 : Int32) := by decide
    refine own_of (fun tgt kon => XS.icmpNo X4.here hx rfl (hb hby at_66) rfl (teq hc66).2 kon) ?_
    show own_Wp _ _ _ _ (T4.setTop (mkF m 69 #[.val (.int p1), .val (.int (0 : Int32)), .val (.ref o0), .val (.int (0 : Int32)), .val (.int (nar .char (nar .char (((61 : Int32) &&& (255 : Int32)).toUInt32.toUInt16.toUInt32.toInt32)))), .val (.int (0 : Int32))] []))
    refine own_of (fun tgt kon => XS.iconst X4.here hx rfl (hb hby at_69) kon) ?_
    show own_Wp _ _ _ _ (T4.setTop (mkF m 70 #[.val (.int p1), .val (.int (0 : Int32)), .val (.ref o0), .val (.int (0 : Int32)), .val (.int (nar .char (nar .char (((61 : Int32) &&& (255 : Int32)).toUInt32.toUInt16.toUInt32.toInt32)))), .val (.int (0 : Int32))] [(.int (1 : Int32))]))
    refine own_of (fun tgt kon => XS.goto X4.here hx rfl (pc0 := 70) (pc' := 74) rfl (hb hby at_70) (by decide) (by decide) kon) ?_
    show own_Wp _ _ _ _ (T4.setTop (mkF m 74 #[.val (.int p1), .val (.int (0 : Int32)), .val (.ref o0), .val (.int (0 : Int32)), .val (.int (nar .char (nar .char (((61 : Int32) &&& (255 : Int32)).toUInt32.toUInt16.toUInt32.toInt32)))), .val (.int (0 : Int32))] [(.int (1 : Int32))]))
    refine own_ret X4 hlk (some (.int (1 : Int32))) (own_rtI hrt) (fun fs hr => retN X4 hx (t := .boolean) hrt (by simp) (hb hby at_74) hr) ?_ (by decide) (by decide)
    rw [e4]
    exact ⟨rfl, N4⟩
  · skip
    show own_Wp _ _ _ _ (s₁.setTop (mkF m 8 #[.val (.int p1), .val (.int (1 : Int32)), .unset, .unset, .unset, .unset] []))
    refine own_of (fun tgt kon => XS.iloadN X0.here hx rfl (hb hby at_8) rfl kon) ?_
    show own_Wp _ _ _ _ (s₁.setTop (mkF m 9 #[.val (.int p1), .val (.int (1 : Int32)), .unset, .unset, .unset, .unset] [(.int (1 : Int32))]))
    refine own_callS X0 hx hZ (y := (⟨"com/example/iota_flow/iotaflow/definition/OperatorOrdersPinLaw", "pick", "(I)Lcom/example/iota_flow/iotaflow/definition/Expression$Operator;"⟩ : MethodName)) (argsL := [(.int (1 : Int32))]) (rest := []) (W := 0) hown (hw _ (List.mem_of_getElem? (i := 1) rfl)) (hw _ (List.mem_of_getElem? (i := 2) rfl)) (hw _ (List.mem_of_getElem? (i := 3) rfl)) (hw _ (List.mem_of_getElem? (i := 4) rfl)) (by decide) e0 (rmpick l Z a0 hw [] (1 : Int32) o0 o1 o2 o3 o4 o5 o1 h0 n0 Zs S0 S1 S2 S3 S4 S5 (fun h => absurd h (by decide)) (fun _ _ => rfl) (fun _ h _ => absurd rfl h) (fun _ h _ _ => absurd rfl h) (fun _ h _ _ _ => absurd rfl h) (fun _ h _ _ _ => absurd rfl h)) (by decide) (by decide) (by decide) (by decide) (g := (mkF m 9 #[.val (.int p1), .val (.int (1 : Int32)), .unset, .unset, .unset, .unset] [(.int (1 : Int32))])) rfl (by rw [hml]; rfl) (lenOf own_pd4 rfl) rfl (by show 2 * 0 + _ ≤ _; exact Nat.le_of_eq rfl) (hb hby at_9) ?_
    rintro T5 L5 _ X5 ⟨rfl, N5q, e5⟩
    have N5 := Fr.app N0 N5q
    show own_Wp _ _ _ _ (T5.setTop (mkF m 12 #[.val (.int p1), .val (.int (1 : Int32)), .unset, .unset, .unset, .unset] [(.ref o1)]))
    refine own_of (fun tgt kon => XS.astoreN X5.here hx rfl (hb hby at_12) rfl rfl (l' := #[.val (.int p1), .val (.int (1 : Int32)), .val (.ref o1), .unset, .unset, .unset]) rfl kon) ?_
    show own_Wp _ _ _ _ (T5.setTop (mkF m 13 #[.val (.int p1), .val (.int (1 : Int32)), .val (.ref o1), .unset, .unset, .unset] []))
    refine own_of (fun tgt kon => XS.iloadN X5.here hx rfl (hb hby at_13) rfl kon) ?_
    show own_Wp _ _ _ _ (T5.setTop (mkF m 14 #[.val (.int p1), .val (.int (1 : Int32)), .val (.ref o1), .unset, .unset, .unset] [(.int (1 : Int32))]))
    refine own_of (fun tgt kon => XS.iconst X5.here hx rfl (hb hby at_14) kon) ?_
    show own_Wp _ _ _ _ (T5.setTop (mkF m 15 #[.val (.int p1), .val (.int (1 : Int32)), .val (.ref o1), .unset, .unset, .unset] [(.int (2 : Int32)), (.int (1 : Int32))]))
    have hc15 : (1 : Int32) < (2 : Int32) := by decide
    refine own_of (fun tgt kon => XS.icmpYes X5.here hx rfl (pc0 := 15) (pc' := 22) rfl (hb hby at_15) rfl (tlt hc15).1 (by decide) (by decide) kon) ?_
    show own_Wp _ _ _ _ (T5.setTop (mkF m 22 #[.val (.int p1), .val (.int (1 : Int32)), .val (.ref o1), .unset, .unset, .unset] []))
    refine own_of (fun tgt kon => XS.iconst X5.here hx rfl (hb hby at_22) kon) ?_
    show own_Wp _ _ _ _ (T5.setTop (mkF m 23 #[.val (.int p1), .val (.int (1 : Int32)), .val (.ref o1), .unset, .unset, .unset] [(.int (0 : Int32))]))
    refine own_of (fun tgt kon => XS.istoreN X5.here hx rfl (hb hby at_23) rfl (l' := #[.val (.int p1), .val (.int (1 : Int32)), .val (.ref o1), .val (.int (0 : Int32)), .unset, .unset]) rfl kon) ?_
    show own_Wp _ _ _ _ (T5.setTop (mkF m 24 #[.val (.int p1), .val (.int (1 : Int32)), .val (.ref o1), .val (.int (0 : Int32)), .unset, .unset] []))
    refine own_of (fun tgt kon => XS.aloadN X5.here hx rfl (hb hby at_24) rfl rfl kon) ?_
    show own_Wp _ _ _ _ (T5.setTop (mkF m 25 #[.val (.int p1), .val (.int (1 : Int32)), .val (.ref o1), .val (.int (0 : Int32)), .unset, .unset] [(.ref o1)]))
    obtain ⟨T6, X6, e6, st6⟩ := getF X5 hx hZ hown (host := "") (Or.inl (hw _ (List.mem_of_getElem? (i := 8) rfl))) Via.refl e5 Fs1 (g := (mkF m 25 #[.val (.int p1), .val (.int (1 : Int32)), .val (.ref o1), .val (.int (0 : Int32)), .unset, .unset] [(.ref o1)])) rfl rfl (hb hby at_25)
    refine own_of st6 ?_
    show own_Wp _ _ _ _ (T6.setTop (mkF m 28 #[.val (.int p1), .val (.int (1 : Int32)), .val (.ref o1), .val (.int (0 : Int32)), .unset, .unset] [(.ref s1)]))
    refine own_of (fun tgt kon => XS.iconst X6.here hx rfl (hb hby at_28) kon) ?_
    show own_Wp _ _ _ _ (T6.setTop (mkF m 29 #[.val (.int p1), .val (.int (1 : Int32)), .val (.ref o1), .val (.int (0 : Int32)), .unset, .unset] [(.int (0 : Int32)), (.ref s1)]))
    refine own_callV X6 hx hZ (C := "java/lang/String") (y := (⟨"java/lang/String", "charAt", "(I)C"⟩ : MethodName)) (a := s1) (argsL := [(.int (0 : Int32))]) (rest := []) (W := 0) hown (hw _ (List.mem_of_getElem? (i := 10) rfl)) (hw _ (List.mem_of_getElem? (i := 11) rfl)) (hw _ (List.mem_of_getElem? (i := 13) rfl)) (hw _ (List.mem_of_getElem? (i := 12) rfl)) (hw _ (List.mem_of_getElem? (i := 14) rfl)) (hw _ (List.mem_of_getElem? (i := 15) rfl)) (by decide) e6 E_s1 (rmca l Z a0 hw [] s1 (0 : Int32) v1 cs vF 0 2 (2 : Int32) f1 (33 : Int32) h0 n0 Zs S_C hcs S_F hF E_s1 Fc1 Fv1 A1 (by decide) (by decide) (by decide) hv1) (by decide) (by decide) (by decide) (by decide) (g := (mkF m 29 #[.val (.int p1), .val (.int (1 : Int32)), .val (.ref o1), .val (.int (0 : Int32)), .unset, .unset] [(.int (0 : Int32)), (.ref s1)])) rfl (by rw [hml]; rfl) (lenOf own_pd5 rfl) rfl (by show 2 * 0 + _ ≤ _; exact Nat.le_of_eq rfl) (hb hby at_29) ?_
    rintro T7 L7 _ X7 ⟨rfl, N7q, e7⟩
    have N7 := Fr.app N5 N7q
    show own_Wp _ _ _ _ (T7.setTop (mkF m 32 #[.val (.int p1), .val (.int (1 : Int32)), .val (.ref o1), .val (.int (0 : Int32)), .unset, .unset] [(.int (nar .char (nar .char (((33 : Int32) &&& (255 : Int32)).toUInt32.toUInt16.toUInt32.toInt32))))]))
    refine own_of (fun tgt kon => XS.istore X7.here hx rfl (hb hby at_32) rfl (l' := #[.val (.int p1), .val (.int (1 : Int32)), .val (.ref o1), .val (.int (0 : Int32)), .val (.int (nar .char (nar .char (((33 : Int32) &&& (255 : Int32)).toUInt32.toUInt16.toUInt32.toInt32)))), .unset]) rfl kon) ?_
    show own_Wp _ _ _ _ (T7.setTop (mkF m 34 #[.val (.int p1), .val (.int (1 : Int32)), .val (.ref o1), .val (.int (0 : Int32)), .val (.int (nar .char (nar .char (((33 : Int32) &&& (255 : Int32)).toUInt32.toUInt16.toUInt32.toInt32)))), .unset] []))
    refine own_of (fun tgt kon => XS.iload X7.here hx rfl (hb hby at_34) rfl kon) ?_
    show own_Wp _ _ _ _ (T7.setTop (mkF m 36 #[.val (.int p1), .val (.int (1 : Int32)), .val (.ref o1), .val (.int (0 : Int32)), .val (.int (nar .char (nar .char (((33 : Int32) &&& (255 : Int32)).toUInt32.toUInt16.toUInt32.toInt32)))), .unset] [(.int (nar .char (nar .char (((33 : Int32) &&& (255 : Int32)).toUInt32.toUInt16.toUInt32.toInt32))))]))
    refine own_of (fun tgt kon => XS.bipush X7.here hx rfl (hb hby at_36) kon) ?_
    show own_Wp _ _ _ _ (T7.setTop (mkF m 38 #[.val (.int p1), .val (.int (1 : Int32)), .val (.ref o1), .val (.int (0 : Int32)), .val (.int (nar .char (nar .char (((33 : Int32) &&& (255 : Int32)).toUInt32.toUInt16.toUInt32.toInt32)))), .unset] [(.int (60 : Int32)), (.int (nar .char (nar .char (((33 : Int32) &&& (255 : Int32)).toUInt32.toUInt16.toUInt32.toInt32))))]))
    have hc38 : ¬ ((nar .char (nar .char (((33 : Int32) &&& (255 : Int32)).toUInt32.toUInt16.toUInt32.toInt32))) = (60 : Int32)) := by decide
    refine own_of (fun tgt kon => XS.icmpNo X7.here hx rfl (hb hby at_38) rfl (feq hc38).1 kon) ?_
    show own_Wp _ _ _ _ (T7.setTop (mkF m 41 #[.val (.int p1), .val (.int (1 : Int32)), .val (.ref o1), .val (.int (0 : Int32)), .val (.int (nar .char (nar .char (((33 : Int32) &&& (255 : Int32)).toUInt32.toUInt16.toUInt32.toInt32)))), .unset] []))
    refine own_of (fun tgt kon => XS.iload X7.here hx rfl (hb hby at_41) rfl kon) ?_
    show own_Wp _ _ _ _ (T7.setTop (mkF m 43 #[.val (.int p1), .val (.int (1 : Int32)), .val (.ref o1), .val (.int (0 : Int32)), .val (.int (nar .char (nar .char (((33 : Int32) &&& (255 : Int32)).toUInt32.toUInt16.toUInt32.toInt32)))), .unset] [(.int (nar .char (nar .char (((33 : Int32) &&& (255 : Int32)).toUInt32.toUInt16.toUInt32.toInt32))))]))
    refine own_of (fun tgt kon => XS.bipush X7.here hx rfl (hb hby at_43) kon) ?_
    show own_Wp _ _ _ _ (T7.setTop (mkF m 45 #[.val (.int p1), .val (.int (1 : Int32)), .val (.ref o1), .val (.int (0 : Int32)), .val (.int (nar .char (nar .char (((33 : Int32) &&& (255 : Int32)).toUInt32.toUInt16.toUInt32.toInt32)))), .unset] [(.int (62 : Int32)), (.int (nar .char (nar .char (((33 : Int32) &&& (255 : Int32)).toUInt32.toUInt16.toUInt32.toInt32))))]))
    have hc45 : ¬ ((nar .char (nar .char (((33 : Int32) &&& (255 : Int32)).toUInt32.toUInt16.toUInt32.toInt32))) = (62 : Int32)) := by decide
    refine own_of (fun tgt kon => XS.icmpYes X7.here hx rfl (pc0 := 45) (pc' := 52) rfl (hb hby at_45) rfl (feq hc45).2 (by decide) (by decide) kon) ?_
    show own_Wp _ _ _ _ (T7.setTop (mkF m 52 #[.val (.int p1), .val (.int (1 : Int32)), .val (.ref o1), .val (.int (0 : Int32)), .val (.int (nar .char (nar .char (((33 : Int32) &&& (255 : Int32)).toUInt32.toUInt16.toUInt32.toInt32)))), .unset] []))
    refine own_of (fun tgt kon => XS.iconst X7.here hx rfl (hb hby at_52) kon) ?_
    show own_Wp _ _ _ _ (T7.setTop (mkF m 53 #[.val (.int p1), .val (.int (1 : Int32)), .val (.ref o1), .val (.int (0 : Int32)), .val (.int (nar .char (nar .char (((33 : Int32) &&& (255 : Int32)).toUInt32.toUInt16.toUInt32.toInt32)))), .unset] [(.int (0 : Int32))]))
    refine own_of (fun tgt kon => XS.istore X7.here hx rfl (hb hby at_53) rfl (l' := #[.val (.int p1), .val (.int (1 : Int32)), .val (.ref o1), .val (.int (0 : Int32)), .val (.int (nar .char (nar .char (((33 : Int32) &&& (255 : Int32)).toUInt32.toUInt16.toUInt32.toInt32)))), .val (.int (0 : Int32))]) rfl kon) ?_
    show own_Wp _ _ _ _ (T7.setTop (mkF m 55 #[.val (.int p1), .val (.int (1 : Int32)), .val (.ref o1), .val (.int (0 : Int32)), .val (.int (nar .char (nar .char (((33 : Int32) &&& (255 : Int32)).toUInt32.toUInt16.toUInt32.toInt32)))), .val (.int (0 : Int32))] []))
    refine own_of (fun tgt kon => XS.aloadN X7.here hx rfl (hb hby at_55) rfl rfl kon) ?_
    show own_Wp _ _ _ _ (T7.setTop (mkF m 56 #[.val (.int p1), .val (.int (1 : Int32)), .val (.ref o1), .val (.int (0 : Int32)), .val (.int (nar .char (nar .char (((33 : Int32) &&& (255 : Int32)).toUInt32.toUInt16.toUInt32.toInt32)))), .val (.int (0 : Int32))] [(.ref o1)]))
    refine own_callV X7 hx hZ (C := "com/example/iota_flow/iotaflow/definition/Expression$Operator") (y := (⟨"com/example/iota_flow/iotaflow/definition/Expression$Operator", "orders", "()Z"⟩ : MethodName)) (a := o1) (argsL := []) (rest := []) (W := 0) hown (hw _ (List.mem_of_getElem? (i := 38) rfl)) (hw _ (List.mem_of_getElem? (i := 39) rfl)) (hw _ (List.mem_of_getElem? (i := 41) rfl)) (hw _ (List.mem_of_getElem? (i := 40) rfl)) (hw _ (List.mem_of_getElem? (i := 6) rfl)) (hw _ (List.mem_of_getElem? (i := 42) rfl)) (by decide) e7 E_o1 (rmord l Z a0 hw [] o1 o0 o1 (0 : Int32) h0 n0 Zs S0 S1 (fun h => absurd h.symm ne01) (fun _ _ => rfl) (fun _ h => absurd rfl h)) (by decide) (by decide) (by decide) (by decide) (g := (mkF m 56 #[.val (.int p1), .val (.int (1 : Int32)), .val (.ref o1), .val (.int (0 : Int32)), .val (.int (nar .char (nar .char (((33 : Int32) &&& (255 : Int32)).toUInt32.toUInt16.toUInt32.toInt32)))), .val (.int (0 : Int32))] [(.ref o1)])) rfl (by rw [hml]; rfl) (lenOf own_pd2 rfl) rfl (by show 2 * 0 + _ ≤ _; exact Nat.le_of_eq rfl) (hb hby at_56) ?_
    rintro T8 L8 _ X8 ⟨rfl, N8q, e8⟩
    have N8 := Fr.app N7 N8q
    show own_Wp _ _ _ _ (T8.setTop (mkF m 59 #[.val (.int p1), .val (.int (1 : Int32)), .val (.ref o1), .val (.int (0 : Int32)), .val (.int (nar .char (nar .char (((33 : Int32) &&& (255 : Int32)).toUInt32.toUInt16.toUInt32.toInt32)))), .val (.int (0 : Int32))] [(.int (0 : Int32))]))
    refine own_of (fun tgt kon => XS.iloadN X8.here hx rfl (hb hby at_59) rfl kon) ?_
    show own_Wp _ _ _ _ (T8.setTop (mkF m 60 #[.val (.int p1), .val (.int (1 : Int32)), .val (.ref o1), .val (.int (0 : Int32)), .val (.int (nar .char (nar .char (((33 : Int32) &&& (255 : Int32)).toUInt32.toUInt16.toUInt32.toInt32)))), .val (.int (0 : Int32))] [(.int (0 : Int32)), (.int (0 : Int32))]))
    have hc60 : (0 : Int32) = (0 : Int32) := by decide
    refine own_of (fun tgt kon => XS.icmpNo X8.here hx rfl (hb hby at_60) rfl (teq hc60).2 kon) ?_
    show own_Wp _ _ _ _ (T8.setTop (mkF m 63 #[.val (.int p1), .val (.int (1 : Int32)), .val (.ref o1), .val (.int (0 : Int32)), .val (.int (nar .char (nar .char (((33 : Int32) &&& (255 : Int32)).toUInt32.toUInt16.toUInt32.toInt32)))), .val (.int (0 : Int32))] []))
    refine own_of (fun tgt kon => XS.iloadN X8.here hx rfl (hb hby at_63) rfl kon) ?_
    show own_Wp _ _ _ _ (T8.setTop (mkF m 64 #[.val (.int p1), .val (.int (1 : Int32)), .val (.ref o1), .val (.int (0 : Int32)), .val (.int (nar .char (nar .char (((33 : Int32) &&& (255 : Int32)).toUInt32.toUInt16.toUInt32.toInt32)))), .val (.int (0 : Int32))] [(.int (0 : Int32))]))
    refine own_of (fun tgt kon => XS.iload X8.here hx rfl (hb hby at_64) rfl kon) ?_
    show own_Wp _ _ _ _ (T8.setTop (mkF m 66 #[.val (.int p1), .val (.int (1 : Int32)), .val (.ref o1), .val (.int (0 : Int32)), .val (.int (nar .char (nar .char (((33 : Int32) &&& (255 : Int32)).toUInt32.toUInt16.toUInt32.toInt32)))), .val (.int (0 : Int32))] [(.int (0 : Int32)), (.int (0 : Int32))]))
    have hc66 : (0 : Int32) = (0 : Int32) := by decide
    refine own_of (fun tgt kon => XS.icmpNo X8.here hx rfl (hb hby at_66) rfl (teq hc66).2 kon) ?_
    show own_Wp _ _ _ _ (T8.setTop (mkF m 69 #[.val (.int p1), .val (.int (1 : Int32)), .val (.ref o1), .val (.int (0 : Int32)), .val (.int (nar .char (nar .char (((33 : Int32) &&& (255 : Int32)).toUInt32.toUInt16.toUInt32.toInt32)))), .val (.int (0 : Int32))] []))
    refine own_of (fun tgt kon => XS.iconst X8.here hx rfl (hb hby at_69) kon) ?_
    show own_Wp _ _ _ _ (T8.setTop (mkF m 70 #[.val (.int p1), .val (.int (1 : Int32)), .val (.ref o1), .val (.int (0 : Int32)), .val (.int (nar .char (nar .char (((33 : Int32) &&& (255 : Int32)).toUInt32.toUInt16.toUInt32.toInt32)))), .val (.int (0 : Int32))] [(.int (1 : Int32))]))
    refine own_of (fun tgt kon => XS.goto X8.here hx rfl (pc0 := 70) (pc' := 74) rfl (hb hby at_70) (by decide) (by decide) kon) ?_
    show own_Wp _ _ _ _ (T8.setTop (mkF m 74 #[.val (.int p1), .val (.int (1 : Int32)), .val (.ref o1), .val (.int (0 : Int32)), .val (.int (nar .char (nar .char (((33 : Int32) &&& (255 : Int32)).toUInt32.toUInt16.toUInt32.toInt32)))), .val (.int (0 : Int32))] [(.int (1 : Int32))]))
    refine own_ret X8 hlk (some (.int (1 : Int32))) (own_rtI hrt) (fun fs hr => retN X8 hx (t := .boolean) hrt (by simp) (hb hby at_74) hr) ?_ (by decide) (by decide)
    rw [e8]
    exact ⟨rfl, N8⟩
  · skip
    show own_Wp _ _ _ _ (s₁.setTop (mkF m 8 #[.val (.int p1), .val (.int (2 : Int32)), .unset, .unset, .unset, .unset] []))
    refine own_of (fun tgt kon => XS.iloadN X0.here hx rfl (hb hby at_8) rfl kon) ?_
    show own_Wp _ _ _ _ (s₁.setTop (mkF m 9 #[.val (.int p1), .val (.int (2 : Int32)), .unset, .unset, .unset, .unset] [(.int (2 : Int32))]))
    refine own_callS X0 hx hZ (y := (⟨"com/example/iota_flow/iotaflow/definition/OperatorOrdersPinLaw", "pick", "(I)Lcom/example/iota_flow/iotaflow/definition/Expression$Operator;"⟩ : MethodName)) (argsL := [(.int (2 : Int32))]) (rest := []) (W := 0) hown (hw _ (List.mem_of_getElem? (i := 1) rfl)) (hw _ (List.mem_of_getElem? (i := 2) rfl)) (hw _ (List.mem_of_getElem? (i := 3) rfl)) (hw _ (List.mem_of_getElem? (i := 4) rfl)) (by decide) e0 (rmpick l Z a0 hw [] (2 : Int32) o0 o1 o2 o3 o4 o5 o2 h0 n0 Zs S0 S1 S2 S3 S4 S5 (fun h => absurd h (by decide)) (fun _ h => absurd h (by decide)) (fun _ _ _ => rfl) (fun _ _ h _ => absurd rfl h) (fun _ _ h _ _ => absurd rfl h) (fun _ _ h _ _ => absurd rfl h)) (by decide) (by decide) (by decide) (by decide) (g := (mkF m 9 #[.val (.int p1), .val (.int (2 : Int32)), .unset, .unset, .unset, .unset] [(.int (2 : Int32))])) rfl (by rw [hml]; rfl) (lenOf own_pd4 rfl) rfl (by show 2 * 0 + _ ≤ _; exact Nat.le_of_eq rfl) (hb hby at_9) ?_
    rintro T9 L9 _ X9 ⟨rfl, N9q, e9⟩
    have N9 := Fr.app N0 N9q
    show own_Wp _ _ _ _ (T9.setTop (mkF m 12 #[.val (.int p1), .val (.int (2 : Int32)), .unset, .unset, .unset, .unset] [(.ref o2)]))
    refine own_of (fun tgt kon => XS.astoreN X9.here hx rfl (hb hby at_12) rfl rfl (l' := #[.val (.int p1), .val (.int (2 : Int32)), .val (.ref o2), .unset, .unset, .unset]) rfl kon) ?_
    show own_Wp _ _ _ _ (T9.setTop (mkF m 13 #[.val (.int p1), .val (.int (2 : Int32)), .val (.ref o2), .unset, .unset, .unset] []))
    refine own_of (fun tgt kon => XS.iloadN X9.here hx rfl (hb hby at_13) rfl kon) ?_
    show own_Wp _ _ _ _ (T9.setTop (mkF m 14 #[.val (.int p1), .val (.int (2 : Int32)), .val (.ref o2), .unset, .unset, .unset] [(.int (2 : Int32))]))
    refine own_of (fun tgt kon => XS.iconst X9.here hx rfl (hb hby at_14) kon) ?_
    show own_Wp _ _ _ _ (T9.setTop (mkF m 15 #[.val (.int p1), .val (.int (2 : Int32)), .val (.ref o2), .unset, .unset, .unset] [(.int (2 : Int32)), (.int (2 : Int32))]))
    have hc15 : ¬ ((2 : Int32) < (2 : Int32)) := by decide
    refine own_of (fun tgt kon => XS.icmpNo X9.here hx rfl (hb hby at_15) rfl (flt hc15).1 kon) ?_
    show own_Wp _ _ _ _ (T9.setTop (mkF m 18 #[.val (.int p1), .val (.int (2 : Int32)), .val (.ref o2), .unset, .unset, .unset] []))
    refine own_of (fun tgt kon => XS.iconst X9.here hx rfl (hb hby at_18) kon) ?_
    show own_Wp _ _ _ _ (T9.setTop (mkF m 19 #[.val (.int p1), .val (.int (2 : Int32)), .val (.ref o2), .unset, .unset, .unset] [(.int (1 : Int32))]))
    refine own_of (fun tgt kon => XS.goto X9.here hx rfl (pc0 := 19) (pc' := 23) rfl (hb hby at_19) (by decide) (by decide) kon) ?_
    show own_Wp _ _ _ _ (T9.setTop (mkF m 23 #[.val (.int p1), .val (.int (2 : Int32)), .val (.ref o2), .unset, .unset, .unset] [(.int (1 : Int32))]))
    refine own_of (fun tgt kon => XS.istoreN X9.here hx rfl (hb hby at_23) rfl (l' := #[.val (.int p1), .val (.int (2 : Int32)), .val (.ref o2), .val (.int (1 : Int32)), .unset, .unset]) rfl kon) ?_
    show own_Wp _ _ _ _ (T9.setTop (mkF m 24 #[.val (.int p1), .val (.int (2 : Int32)), .val (.ref o2), .val (.int (1 : Int32)), .unset, .unset] []))
    refine own_of (fun tgt kon => XS.aloadN X9.here hx rfl (hb hby at_24) rfl rfl kon) ?_
    show own_Wp _ _ _ _ (T9.setTop (mkF m 25 #[.val (.int p1), .val (.int (2 : Int32)), .val (.ref o2), .val (.int (1 : Int32)), .unset, .unset] [(.ref o2)]))
    obtain ⟨T10, X10, e10, st10⟩ := getF X9 hx hZ hown (host := "") (Or.inl (hw _ (List.mem_of_getElem? (i := 8) rfl))) Via.refl e9 Fs2 (g := (mkF m 25 #[.val (.int p1), .val (.int (2 : Int32)), .val (.ref o2), .val (.int (1 : Int32)), .unset, .unset] [(.ref o2)])) rfl rfl (hb hby at_25)
    refine own_of st10 ?_
    show own_Wp _ _ _ _ (T10.setTop (mkF m 28 #[.val (.int p1), .val (.int (2 : Int32)), .val (.ref o2), .val (.int (1 : Int32)), .unset, .unset] [(.ref s2)]))
    refine own_of (fun tgt kon => XS.iconst X10.here hx rfl (hb hby at_28) kon) ?_
    show own_Wp _ _ _ _ (T10.setTop (mkF m 29 #[.val (.int p1), .val (.int (2 : Int32)), .val (.ref o2), .val (.int (1 : Int32)), .unset, .unset] [(.int (0 : Int32)), (.ref s2)]))
    refine own_callV X10 hx hZ (C := "java/lang/String") (y := (⟨"java/lang/String", "charAt", "(I)C"⟩ : MethodName)) (a := s2) (argsL := [(.int (0 : Int32))]) (rest := []) (W := 0) hown (hw _ (List.mem_of_getElem? (i := 10) rfl)) (hw _ (List.mem_of_getElem? (i := 11) rfl)) (hw _ (List.mem_of_getElem? (i := 13) rfl)) (hw _ (List.mem_of_getElem? (i := 12) rfl)) (hw _ (List.mem_of_getElem? (i := 14) rfl)) (hw _ (List.mem_of_getElem? (i := 15) rfl)) (by decide) e10 E_s2 (rmca l Z a0 hw [] s2 (0 : Int32) v2 cs vF 0 1 (1 : Int32) f2 (60 : Int32) h0 n0 Zs S_C hcs S_F hF E_s2 Fc2 Fv2 A2 (by decide) (by decide) (by decide) hv2) (by decide) (by decide) (by decide) (by decide) (g := (mkF m 29 #[.val (.int p1), .val (.int (2 : Int32)), .val (.ref o2), .val (.int (1 : Int32)), .unset, .unset] [(.int (0 : Int32)), (.ref s2)])) rfl (by rw [hml]; rfl) (lenOf own_pd5 rfl) rfl (by show 2 * 0 + _ ≤ _; exact Nat.le_of_eq rfl) (hb hby at_29) ?_
    rintro T11 L11 _ X11 ⟨rfl, N11q, e11⟩
    have N11 := Fr.app N9 N11q
    show own_Wp _ _ _ _ (T11.setTop (mkF m 32 #[.val (.int p1), .val (.int (2 : Int32)), .val (.ref o2), .val (.int (1 : Int32)), .unset, .unset] [(.int (nar .char (nar .char (((60 : Int32) &&& (255 : Int32)).toUInt32.toUInt16.toUInt32.toInt32))))]))
    refine own_of (fun tgt kon => XS.istore X11.here hx rfl (hb hby at_32) rfl (l' := #[.val (.int p1), .val (.int (2 : Int32)), .val (.ref o2), .val (.int (1 : Int32)), .val (.int (nar .char (nar .char (((60 : Int32) &&& (255 : Int32)).toUInt32.toUInt16.toUInt32.toInt32)))), .unset]) rfl kon) ?_
    show own_Wp _ _ _ _ (T11.setTop (mkF m 34 #[.val (.int p1), .val (.int (2 : Int32)), .val (.ref o2), .val (.int (1 : Int32)), .val (.int (nar .char (nar .char (((60 : Int32) &&& (255 : Int32)).toUInt32.toUInt16.toUInt32.toInt32)))), .unset] []))
    refine own_of (fun tgt kon => XS.iload X11.here hx rfl (hb hby at_34) rfl kon) ?_
    show own_Wp _ _ _ _ (T11.setTop (mkF m 36 #[.val (.int p1), .val (.int (2 : Int32)), .val (.ref o2), .val (.int (1 : Int32)), .val (.int (nar .char (nar .char (((60 : Int32) &&& (255 : Int32)).toUInt32.toUInt16.toUInt32.toInt32)))), .unset] [(.int (nar .char (nar .char (((60 : Int32) &&& (255 : Int32)).toUInt32.toUInt16.toUInt32.toInt32))))]))
    refine own_of (fun tgt kon => XS.bipush X11.here hx rfl (hb hby at_36) kon) ?_
    show own_Wp _ _ _ _ (T11.setTop (mkF m 38 #[.val (.int p1), .val (.int (2 : Int32)), .val (.ref o2), .val (.int (1 : Int32)), .val (.int (nar .char (nar .char (((60 : Int32) &&& (255 : Int32)).toUInt32.toUInt16.toUInt32.toInt32)))), .unset] [(.int (60 : Int32)), (.int (nar .char (nar .char (((60 : Int32) &&& (255 : Int32)).toUInt32.toUInt16.toUInt32.toInt32))))]))
    have hc38 : (nar .char (nar .char (((60 : Int32) &&& (255 : Int32)).toUInt32.toUInt16.toUInt32.toInt32))) = (60 : Int32) := by decide
    refine own_of (fun tgt kon => XS.icmpYes X11.here hx rfl (pc0 := 38) (pc' := 48) rfl (hb hby at_38) rfl (teq hc38).1 (by decide) (by decide) kon) ?_
    show own_Wp _ _ _ _ (T11.setTop (mkF m 48 #[.val (.int p1), .val (.int (2 : Int32)), .val (.ref o2), .val (.int (1 : Int32)), .val (.int (nar .char (nar .char (((60 : Int32) &&& (255 : Int32)).toUInt32.toUInt16.toUInt32.toInt32)))), .unset] []))
    refine own_of (fun tgt kon => XS.iconst X11.here hx rfl (hb hby at_48) kon) ?_
    show own_Wp _ _ _ _ (T11.setTop (mkF m 49 #[.val (.int p1), .val (.int (2 : Int32)), .val (.ref o2), .val (.int (1 : Int32)), .val (.int (nar .char (nar .char (((60 : Int32) &&& (255 : Int32)).toUInt32.toUInt16.toUInt32.toInt32)))), .unset] [(.int (1 : Int32))]))
    refine own_of (fun tgt kon => XS.goto X11.here hx rfl (pc0 := 49) (pc' := 53) rfl (hb hby at_49) (by decide) (by decide) kon) ?_
    show own_Wp _ _ _ _ (T11.setTop (mkF m 53 #[.val (.int p1), .val (.int (2 : Int32)), .val (.ref o2), .val (.int (1 : Int32)), .val (.int (nar .char (nar .char (((60 : Int32) &&& (255 : Int32)).toUInt32.toUInt16.toUInt32.toInt32)))), .unset] [(.int (1 : Int32))]))
    refine own_of (fun tgt kon => XS.istore X11.here hx rfl (hb hby at_53) rfl (l' := #[.val (.int p1), .val (.int (2 : Int32)), .val (.ref o2), .val (.int (1 : Int32)), .val (.int (nar .char (nar .char (((60 : Int32) &&& (255 : Int32)).toUInt32.toUInt16.toUInt32.toInt32)))), .val (.int (1 : Int32))]) rfl kon) ?_
    show own_Wp _ _ _ _ (T11.setTop (mkF m 55 #[.val (.int p1), .val (.int (2 : Int32)), .val (.ref o2), .val (.int (1 : Int32)), .val (.int (nar .char (nar .char (((60 : Int32) &&& (255 : Int32)).toUInt32.toUInt16.toUInt32.toInt32)))), .val (.int (1 : Int32))] []))
    refine own_of (fun tgt kon => XS.aloadN X11.here hx rfl (hb hby at_55) rfl rfl kon) ?_
    show own_Wp _ _ _ _ (T11.setTop (mkF m 56 #[.val (.int p1), .val (.int (2 : Int32)), .val (.ref o2), .val (.int (1 : Int32)), .val (.int (nar .char (nar .char (((60 : Int32) &&& (255 : Int32)).toUInt32.toUInt16.toUInt32.toInt32)))), .val (.int (1 : Int32))] [(.ref o2)]))
    refine own_callV X11 hx hZ (C := "com/example/iota_flow/iotaflow/definition/Expression$Operator") (y := (⟨"com/example/iota_flow/iotaflow/definition/Expression$Operator", "orders", "()Z"⟩ : MethodName)) (a := o2) (argsL := []) (rest := []) (W := 0) hown (hw _ (List.mem_of_getElem? (i := 38) rfl)) (hw _ (List.mem_of_getElem? (i := 39) rfl)) (hw _ (List.mem_of_getElem? (i := 41) rfl)) (hw _ (List.mem_of_getElem? (i := 40) rfl)) (hw _ (List.mem_of_getElem? (i := 6) rfl)) (hw _ (List.mem_of_getElem? (i := 42) rfl)) (by decide) e11 E_o2 (rmord l Z a0 hw [] o2 o0 o1 (1 : Int32) h0 n0 Zs S0 S1 (fun h => absurd h.symm ne02) (fun _ h => absurd h.symm ne12) (fun _ _ => rfl)) (by decide) (by decide) (by decide) (by decide) (g := (mkF m 56 #[.val (.int p1), .val (.int (2 : Int32)), .val (.ref o2), .val (.int (1 : Int32)), .val (.int (nar .char (nar .char (((60 : Int32) &&& (255 : Int32)).toUInt32.toUInt16.toUInt32.toInt32)))), .val (.int (1 : Int32))] [(.ref o2)])) rfl (by rw [hml]; rfl) (lenOf own_pd2 rfl) rfl (by show 2 * 0 + _ ≤ _; exact Nat.le_of_eq rfl) (hb hby at_56) ?_
    rintro T12 L12 _ X12 ⟨rfl, N12q, e12⟩
    have N12 := Fr.app N11 N12q
    show own_Wp _ _ _ _ (T12.setTop (mkF m 59 #[.val (.int p1), .val (.int (2 : Int32)), .val (.ref o2), .val (.int (1 : Int32)), .val (.int (nar .char (nar .char (((60 : Int32) &&& (255 : Int32)).toUInt32.toUInt16.toUInt32.toInt32)))), .val (.int (1 : Int32))] [(.int (1 : Int32))]))
    refine own_of (fun tgt kon => XS.iloadN X12.here hx rfl (hb hby at_59) rfl kon) ?_
    show own_Wp _ _ _ _ (T12.setTop (mkF m 60 #[.val (.int p1), .val (.int (2 : Int32)), .val (.ref o2), .val (.int (1 : Int32)), .val (.int (nar .char (nar .char (((60 : Int32) &&& (255 : Int32)).toUInt32.toUInt16.toUInt32.toInt32)))), .val (.int (1 : Int32))] [(.int (1 : Int32)), (.int (1 : Int32))]))
    have hc60 : (1 : Int32) = (1 : Int32) := by decide
    refine own_of (fun tgt kon => XS.icmpNo X12.here hx rfl (hb hby at_60) rfl (teq hc60).2 kon) ?_
    show own_Wp _ _ _ _ (T12.setTop (mkF m 63 #[.val (.int p1), .val (.int (2 : Int32)), .val (.ref o2), .val (.int (1 : Int32)), .val (.int (nar .char (nar .char (((60 : Int32) &&& (255 : Int32)).toUInt32.toUInt16.toUInt32.toInt32)))), .val (.int (1 : Int32))] []))
    refine own_of (fun tgt kon => XS.iloadN X12.here hx rfl (hb hby at_63) rfl kon) ?_
    show own_Wp _ _ _ _ (T12.setTop (mkF m 64 #[.val (.int p1), .val (.int (2 : Int32)), .val (.ref o2), .val (.int (1 : Int32)), .val (.int (nar .char (nar .char (((60 : Int32) &&& (255 : Int32)).toUInt32.toUInt16.toUInt32.toInt32)))), .val (.int (1 : Int32))] [(.int (1 : Int32))]))
    refine own_of (fun tgt kon => XS.iload X12.here hx rfl (hb hby at_64) rfl kon) ?_
    show own_Wp _ _ _ _ (T12.setTop (mkF m 66 #[.val (.int p1), .val (.int (2 : Int32)), .val (.ref o2), .val (.int (1 : Int32)), .val (.int (nar .char (nar .char (((60 : Int32) &&& (255 : Int32)).toUInt32.toUInt16.toUInt32.toInt32)))), .val (.int (1 : Int32))] [(.int (1 : Int32)), (.int (1 : Int32))]))
    have hc66 : (1 : Int32) = (1 : Int32) := by decide
    refine own_of (fun tgt kon => XS.icmpNo X12.here hx rfl (hb hby at_66) rfl (teq hc66).2 kon) ?_
    show own_Wp _ _ _ _ (T12.setTop (mkF m 69 #[.val (.int p1), .val (.int (2 : Int32)), .val (.ref o2), .val (.int (1 : Int32)), .val (.int (nar .char (nar .char (((60 : Int32) &&& (255 : Int32)).toUInt32.toUInt16.toUInt32.toInt32)))), .val (.int (1 : Int32))] []))
    refine own_of (fun tgt kon => XS.iconst X12.here hx rfl (hb hby at_69) kon) ?_
    show own_Wp _ _ _ _ (T12.setTop (mkF m 70 #[.val (.int p1), .val (.int (2 : Int32)), .val (.ref o2), .val (.int (1 : Int32)), .val (.int (nar .char (nar .char (((60 : Int32) &&& (255 : Int32)).toUInt32.toUInt16.toUInt32.toInt32)))), .val (.int (1 : Int32))] [(.int (1 : Int32))]))
    refine own_of (fun tgt kon => XS.goto X12.here hx rfl (pc0 := 70) (pc' := 74) rfl (hb hby at_70) (by decide) (by decide) kon) ?_
    show own_Wp _ _ _ _ (T12.setTop (mkF m 74 #[.val (.int p1), .val (.int (2 : Int32)), .val (.ref o2), .val (.int (1 : Int32)), .val (.int (nar .char (nar .char (((60 : Int32) &&& (255 : Int32)).toUInt32.toUInt16.toUInt32.toInt32)))), .val (.int (1 : Int32))] [(.int (1 : Int32))]))
    refine own_ret X12 hlk (some (.int (1 : Int32))) (own_rtI hrt) (fun fs hr => retN X12 hx (t := .boolean) hrt (by simp) (hb hby at_74) hr) ?_ (by decide) (by decide)
    rw [e12]
    exact ⟨rfl, N12⟩
  · skip
    show own_Wp _ _ _ _ (s₁.setTop (mkF m 8 #[.val (.int p1), .val (.int (3 : Int32)), .unset, .unset, .unset, .unset] []))
    refine own_of (fun tgt kon => XS.iloadN X0.here hx rfl (hb hby at_8) rfl kon) ?_
    show own_Wp _ _ _ _ (s₁.setTop (mkF m 9 #[.val (.int p1), .val (.int (3 : Int32)), .unset, .unset, .unset, .unset] [(.int (3 : Int32))]))
    refine own_callS X0 hx hZ (y := (⟨"com/example/iota_flow/iotaflow/definition/OperatorOrdersPinLaw", "pick", "(I)Lcom/example/iota_flow/iotaflow/definition/Expression$Operator;"⟩ : MethodName)) (argsL := [(.int (3 : Int32))]) (rest := []) (W := 0) hown (hw _ (List.mem_of_getElem? (i := 1) rfl)) (hw _ (List.mem_of_getElem? (i := 2) rfl)) (hw _ (List.mem_of_getElem? (i := 3) rfl)) (hw _ (List.mem_of_getElem? (i := 4) rfl)) (by decide) e0 (rmpick l Z a0 hw [] (3 : Int32) o0 o1 o2 o3 o4 o5 o3 h0 n0 Zs S0 S1 S2 S3 S4 S5 (fun h => absurd h (by decide)) (fun _ h => absurd h (by decide)) (fun _ _ h => absurd h (by decide)) (fun _ _ _ _ => rfl) (fun _ _ _ h _ => absurd rfl h) (fun _ _ _ h _ => absurd rfl h)) (by decide) (by decide) (by decide) (by decide) (g := (mkF m 9 #[.val (.int p1), .val (.int (3 : Int32)), .unset, .unset, .unset, .unset] [(.int (3 : Int32))])) rfl (by rw [hml]; rfl) (lenOf own_pd4 rfl) rfl (by show 2 * 0 + _ ≤ _; exact Nat.le_of_eq rfl) (hb hby at_9) ?_
    rintro T13 L13 _ X13 ⟨rfl, N13q, e13⟩
    have N13 := Fr.app N0 N13q
    show own_Wp _ _ _ _ (T13.setTop (mkF m 12 #[.val (.int p1), .val (.int (3 : Int32)), .unset, .unset, .unset, .unset] [(.ref o3)]))
    refine own_of (fun tgt kon => XS.astoreN X13.here hx rfl (hb hby at_12) rfl rfl (l' := #[.val (.int p1), .val (.int (3 : Int32)), .val (.ref o3), .unset, .unset, .unset]) rfl kon) ?_
    show own_Wp _ _ _ _ (T13.setTop (mkF m 13 #[.val (.int p1), .val (.int (3 : Int32)), .val (.ref o3), .unset, .unset, .unset] []))
    refine own_of (fun tgt kon => XS.iloadN X13.here hx rfl (hb hby at_13) rfl kon) ?_
    show own_Wp _ _ _ _ (T13.setTop (mkF m 14 #[.val (.int p1), .val (.int (3 : Int32)), .val (.ref o3), .unset, .unset, .unset] [(.int (3 : Int32))]))
    refine own_of (fun tgt kon => XS.iconst X13.here hx rfl (hb hby at_14) kon) ?_
    show own_Wp _ _ _ _ (T13.setTop (mkF m 15 #[.val (.int p1), .val (.int (3 : Int32)), .val (.ref o3), .unset, .unset, .unset] [(.int (2 : Int32)), (.int (3 : Int32))]))
    have hc15 : ¬ ((3 : Int32) < (2 : Int32)) := by decide
    refine own_of (fun tgt kon => XS.icmpNo X13.here hx rfl (hb hby at_15) rfl (flt hc15).1 kon) ?_
    show own_Wp _ _ _ _ (T13.setTop (mkF m 18 #[.val (.int p1), .val (.int (3 : Int32)), .val (.ref o3), .unset, .unset, .unset] []))
    refine own_of (fun tgt kon => XS.iconst X13.here hx rfl (hb hby at_18) kon) ?_
    show own_Wp _ _ _ _ (T13.setTop (mkF m 19 #[.val (.int p1), .val (.int (3 : Int32)), .val (.ref o3), .unset, .unset, .unset] [(.int (1 : Int32))]))
    refine own_of (fun tgt kon => XS.goto X13.here hx rfl (pc0 := 19) (pc' := 23) rfl (hb hby at_19) (by decide) (by decide) kon) ?_
    show own_Wp _ _ _ _ (T13.setTop (mkF m 23 #[.val (.int p1), .val (.int (3 : Int32)), .val (.ref o3), .unset, .unset, .unset] [(.int (1 : Int32))]))
    refine own_of (fun tgt kon => XS.istoreN X13.here hx rfl (hb hby at_23) rfl (l' := #[.val (.int p1), .val (.int (3 : Int32)), .val (.ref o3), .val (.int (1 : Int32)), .unset, .unset]) rfl kon) ?_
    show own_Wp _ _ _ _ (T13.setTop (mkF m 24 #[.val (.int p1), .val (.int (3 : Int32)), .val (.ref o3), .val (.int (1 : Int32)), .unset, .unset] []))
    refine own_of (fun tgt kon => XS.aloadN X13.here hx rfl (hb hby at_24) rfl rfl kon) ?_
    show own_Wp _ _ _ _ (T13.setTop (mkF m 25 #[.val (.int p1), .val (.int (3 : Int32)), .val (.ref o3), .val (.int (1 : Int32)), .unset, .unset] [(.ref o3)]))
    obtain ⟨T14, X14, e14, st14⟩ := getF X13 hx hZ hown (host := "") (Or.inl (hw _ (List.mem_of_getElem? (i := 8) rfl))) Via.refl e13 Fs3 (g := (mkF m 25 #[.val (.int p1), .val (.int (3 : Int32)), .val (.ref o3), .val (.int (1 : Int32)), .unset, .unset] [(.ref o3)])) rfl rfl (hb hby at_25)
    refine own_of st14 ?_
    show own_Wp _ _ _ _ (T14.setTop (mkF m 28 #[.val (.int p1), .val (.int (3 : Int32)), .val (.ref o3), .val (.int (1 : Int32)), .unset, .unset] [(.ref s3)]))
    refine own_of (fun tgt kon => XS.iconst X14.here hx rfl (hb hby at_28) kon) ?_
    show own_Wp _ _ _ _ (T14.setTop (mkF m 29 #[.val (.int p1), .val (.int (3 : Int32)), .val (.ref o3), .val (.int (1 : Int32)), .unset, .unset] [(.int (0 : Int32)), (.ref s3)]))
    refine own_callV X14 hx hZ (C := "java/lang/String") (y := (⟨"java/lang/String", "charAt", "(I)C"⟩ : MethodName)) (a := s3) (argsL := [(.int (0 : Int32))]) (rest := []) (W := 0) hown (hw _ (List.mem_of_getElem? (i := 10) rfl)) (hw _ (List.mem_of_getElem? (i := 11) rfl)) (hw _ (List.mem_of_getElem? (i := 13) rfl)) (hw _ (List.mem_of_getElem? (i := 12) rfl)) (hw _ (List.mem_of_getElem? (i := 14) rfl)) (hw _ (List.mem_of_getElem? (i := 15) rfl)) (by decide) e14 E_s3 (rmca l Z a0 hw [] s3 (0 : Int32) v3 cs vF 0 2 (2 : Int32) f3 (60 : Int32) h0 n0 Zs S_C hcs S_F hF E_s3 Fc3 Fv3 A3 (by decide) (by decide) (by decide) hv3) (by decide) (by decide) (by decide) (by decide) (g := (mkF m 29 #[.val (.int p1), .val (.int (3 : Int32)), .val (.ref o3), .val (.int (1 : Int32)), .unset, .unset] [(.int (0 : Int32)), (.ref s3)])) rfl (by rw [hml]; rfl) (lenOf own_pd5 rfl) rfl (by show 2 * 0 + _ ≤ _; exact Nat.le_of_eq rfl) (hb hby at_29) ?_
    rintro T15 L15 _ X15 ⟨rfl, N15q, e15⟩
    have N15 := Fr.app N13 N15q
    show own_Wp _ _ _ _ (T15.setTop (mkF m 32 #[.val (.int p1), .val (.int (3 : Int32)), .val (.ref o3), .val (.int (1 : Int32)), .unset, .unset] [(.int (nar .char (nar .char (((60 : Int32) &&& (255 : Int32)).toUInt32.toUInt16.toUInt32.toInt32))))]))
    refine own_of (fun tgt kon => XS.istore X15.here hx rfl (hb hby at_32) rfl (l' := #[.val (.int p1), .val (.int (3 : Int32)), .val (.ref o3), .val (.int (1 : Int32)), .val (.int (nar .char (nar .char (((60 : Int32) &&& (255 : Int32)).toUInt32.toUInt16.toUInt32.toInt32)))), .unset]) rfl kon) ?_
    show own_Wp _ _ _ _ (T15.setTop (mkF m 34 #[.val (.int p1), .val (.int (3 : Int32)), .val (.ref o3), .val (.int (1 : Int32)), .val (.int (nar .char (nar .char (((60 : Int32) &&& (255 : Int32)).toUInt32.toUInt16.toUInt32.toInt32)))), .unset] []))
    refine own_of (fun tgt kon => XS.iload X15.here hx rfl (hb hby at_34) rfl kon) ?_
    show own_Wp _ _ _ _ (T15.setTop (mkF m 36 #[.val (.int p1), .val (.int (3 : Int32)), .val (.ref o3), .val (.int (1 : Int32)), .val (.int (nar .char (nar .char (((60 : Int32) &&& (255 : Int32)).toUInt32.toUInt16.toUInt32.toInt32)))), .unset] [(.int (nar .char (nar .char (((60 : Int32) &&& (255 : Int32)).toUInt32.toUInt16.toUInt32.toInt32))))]))
    refine own_of (fun tgt kon => XS.bipush X15.here hx rfl (hb hby at_36) kon) ?_
    show own_Wp _ _ _ _ (T15.setTop (mkF m 38 #[.val (.int p1), .val (.int (3 : Int32)), .val (.ref o3), .val (.int (1 : Int32)), .val (.int (nar .char (nar .char (((60 : Int32) &&& (255 : Int32)).toUInt32.toUInt16.toUInt32.toInt32)))), .unset] [(.int (60 : Int32)), (.int (nar .char (nar .char (((60 : Int32) &&& (255 : Int32)).toUInt32.toUInt16.toUInt32.toInt32))))]))
    have hc38 : (nar .char (nar .char (((60 : Int32) &&& (255 : Int32)).toUInt32.toUInt16.toUInt32.toInt32))) = (60 : Int32) := by decide
    refine own_of (fun tgt kon => XS.icmpYes X15.here hx rfl (pc0 := 38) (pc' := 48) rfl (hb hby at_38) rfl (teq hc38).1 (by decide) (by decide) kon) ?_
    show own_Wp _ _ _ _ (T15.setTop (mkF m 48 #[.val (.int p1), .val (.int (3 : Int32)), .val (.ref o3), .val (.int (1 : Int32)), .val (.int (nar .char (nar .char (((60 : Int32) &&& (255 : Int32)).toUInt32.toUInt16.toUInt32.toInt32)))), .unset] []))
    refine own_of (fun tgt kon => XS.iconst X15.here hx rfl (hb hby at_48) kon) ?_
    show own_Wp _ _ _ _ (T15.setTop (mkF m 49 #[.val (.int p1), .val (.int (3 : Int32)), .val (.ref o3), .val (.int (1 : Int32)), .val (.int (nar .char (nar .char (((60 : Int32) &&& (255 : Int32)).toUInt32.toUInt16.toUInt32.toInt32)))), .unset] [(.int (1 : Int32))]))
    refine own_of (fun tgt kon => XS.goto X15.here hx rfl (pc0 := 49) (pc' := 53) rfl (hb hby at_49) (by decide) (by decide) kon) ?_
    show own_Wp _ _ _ _ (T15.setTop (mkF m 53 #[.val (.int p1), .val (.int (3 : Int32)), .val (.ref o3), .val (.int (1 : Int32)), .val (.int (nar .char (nar .char (((60 : Int32) &&& (255 : Int32)).toUInt32.toUInt16.toUInt32.toInt32)))), .unset] [(.int (1 : Int32))]))
    refine own_of (fun tgt kon => XS.istore X15.here hx rfl (hb hby at_53) rfl (l' := #[.val (.int p1), .val (.int (3 : Int32)), .val (.ref o3), .val (.int (1 : Int32)), .val (.int (nar .char (nar .char (((60 : Int32) &&& (255 : Int32)).toUInt32.toUInt16.toUInt32.toInt32)))), .val (.int (1 : Int32))]) rfl kon) ?_
    show own_Wp _ _ _ _ (T15.setTop (mkF m 55 #[.val (.int p1), .val (.int (3 : Int32)), .val (.ref o3), .val (.int (1 : Int32)), .val (.int (nar .char (nar .char (((60 : Int32) &&& (255 : Int32)).toUInt32.toUInt16.toUInt32.toInt32)))), .val (.int (1 : Int32))] []))
    refine own_of (fun tgt kon => XS.aloadN X15.here hx rfl (hb hby at_55) rfl rfl kon) ?_
    show own_Wp _ _ _ _ (T15.setTop (mkF m 56 #[.val (.int p1), .val (.int (3 : Int32)), .val (.ref o3), .val (.int (1 : Int32)), .val (.int (nar .char (nar .char (((60 : Int32) &&& (255 : Int32)).toUInt32.toUInt16.toUInt32.toInt32)))), .val (.int (1 : Int32))] [(.ref o3)]))
    refine own_callV X15 hx hZ (C := "com/example/iota_flow/iotaflow/definition/Expression$Operator") (y := (⟨"com/example/iota_flow/iotaflow/definition/Expression$Operator", "orders", "()Z"⟩ : MethodName)) (a := o3) (argsL := []) (rest := []) (W := 0) hown (hw _ (List.mem_of_getElem? (i := 38) rfl)) (hw _ (List.mem_of_getElem? (i := 39) rfl)) (hw _ (List.mem_of_getElem? (i := 41) rfl)) (hw _ (List.mem_of_getElem? (i := 40) rfl)) (hw _ (List.mem_of_getElem? (i := 6) rfl)) (hw _ (List.mem_of_getElem? (i := 42) rfl)) (by decide) e15 E_o3 (rmord l Z a0 hw [] o3 o0 o1 (1 : Int32) h0 n0 Zs S0 S1 (fun h => absurd h.symm ne03) (fun _ h => absurd h.symm ne13) (fun _ _ => rfl)) (by decide) (by decide) (by decide) (by decide) (g := (mkF m 56 #[.val (.int p1), .val (.int (3 : Int32)), .val (.ref o3), .val (.int (1 : Int32)), .val (.int (nar .char (nar .char (((60 : Int32) &&& (255 : Int32)).toUInt32.toUInt16.toUInt32.toInt32)))), .val (.int (1 : Int32))] [(.ref o3)])) rfl (by rw [hml]; rfl) (lenOf own_pd2 rfl) rfl (by show 2 * 0 + _ ≤ _; exact Nat.le_of_eq rfl) (hb hby at_56) ?_
    rintro T16 L16 _ X16 ⟨rfl, N16q, e16⟩
    have N16 := Fr.app N15 N16q
    show own_Wp _ _ _ _ (T16.setTop (mkF m 59 #[.val (.int p1), .val (.int (3 : Int32)), .val (.ref o3), .val (.int (1 : Int32)), .val (.int (nar .char (nar .char (((60 : Int32) &&& (255 : Int32)).toUInt32.toUInt16.toUInt32.toInt32)))), .val (.int (1 : Int32))] [(.int (1 : Int32))]))
    refine own_of (fun tgt kon => XS.iloadN X16.here hx rfl (hb hby at_59) rfl kon) ?_
    show own_Wp _ _ _ _ (T16.setTop (mkF m 60 #[.val (.int p1), .val (.int (3 : Int32)), .val (.ref o3), .val (.int (1 : Int32)), .val (.int (nar .char (nar .char (((60 : Int32) &&& (255 : Int32)).toUInt32.toUInt16.toUInt32.toInt32)))), .val (.int (1 : Int32))] [(.int (1 : Int32)), (.int (1 : Int32))]))
    have hc60 : (1 : Int32) = (1 : Int32) := by decide
    refine own_of (fun tgt kon => XS.icmpNo X16.here hx rfl (hb hby at_60) rfl (teq hc60).2 kon) ?_
    show own_Wp _ _ _ _ (T16.setTop (mkF m 63 #[.val (.int p1), .val (.int (3 : Int32)), .val (.ref o3), .val (.int (1 : Int32)), .val (.int (nar .char (nar .char (((60 : Int32) &&& (255 : Int32)).toUInt32.toUInt16.toUInt32.toInt32)))), .val (.int (1 : Int32))] []))
    refine own_of (fun tgt kon => XS.iloadN X16.here hx rfl (hb hby at_63) rfl kon) ?_
    show own_Wp _ _ _ _ (T16.setTop (mkF m 64 #[.val (.int p1), .val (.int (3 : Int32)), .val (.ref o3), .val (.int (1 : Int32)), .val (.int (nar .char (nar .char (((60 : Int32) &&& (255 : Int32)).toUInt32.toUInt16.toUInt32.toInt32)))), .val (.int (1 : Int32))] [(.int (1 : Int32))]))
    refine own_of (fun tgt kon => XS.iload X16.here hx rfl (hb hby at_64) rfl kon) ?_
    show own_Wp _ _ _ _ (T16.setTop (mkF m 66 #[.val (.int p1), .val (.int (3 : Int32)), .val (.ref o3), .val (.int (1 : Int32)), .val (.int (nar .char (nar .char (((60 : Int32) &&& (255 : Int32)).toUInt32.toUInt16.toUInt32.toInt32)))), .val (.int (1 : Int32))] [(.int (1 : Int32)), (.int (1 : Int32))]))
    have hc66 : (1 : Int32) = (1 : Int32) := by decide
    refine own_of (fun tgt kon => XS.icmpNo X16.here hx rfl (hb hby at_66) rfl (teq hc66).2 kon) ?_
    show own_Wp _ _ _ _ (T16.setTop (mkF m 69 #[.val (.int p1), .val (.int (3 : Int32)), .val (.ref o3), .val (.int (1 : Int32)), .val (.int (nar .char (nar .char (((60 : Int32) &&& (255 : Int32)).toUInt32.toUInt16.toUInt32.toInt32)))), .val (.int (1 : Int32))] []))
    refine own_of (fun tgt kon => XS.iconst X16.here hx rfl (hb hby at_69) kon) ?_
    show own_Wp _ _ _ _ (T16.setTop (mkF m 70 #[.val (.int p1), .val (.int (3 : Int32)), .val (.ref o3), .val (.int (1 : Int32)), .val (.int (nar .char (nar .char (((60 : Int32) &&& (255 : Int32)).toUInt32.toUInt16.toUInt32.toInt32)))), .val (.int (1 : Int32))] [(.int (1 : Int32))]))
    refine own_of (fun tgt kon => XS.goto X16.here hx rfl (pc0 := 70) (pc' := 74) rfl (hb hby at_70) (by decide) (by decide) kon) ?_
    show own_Wp _ _ _ _ (T16.setTop (mkF m 74 #[.val (.int p1), .val (.int (3 : Int32)), .val (.ref o3), .val (.int (1 : Int32)), .val (.int (nar .char (nar .char (((60 : Int32) &&& (255 : Int32)).toUInt32.toUInt16.toUInt32.toInt32)))), .val (.int (1 : Int32))] [(.int (1 : Int32))]))
    refine own_ret X16 hlk (some (.int (1 : Int32))) (own_rtI hrt) (fun fs hr => retN X16 hx (t := .boolean) hrt (by simp) (hb hby at_74) hr) ?_ (by decide) (by decide)
    rw [e16]
    exact ⟨rfl, N16⟩
  · skip
    show own_Wp _ _ _ _ (s₁.setTop (mkF m 8 #[.val (.int p1), .val (.int (4 : Int32)), .unset, .unset, .unset, .unset] []))
    refine own_of (fun tgt kon => XS.iloadN X0.here hx rfl (hb hby at_8) rfl kon) ?_
    show own_Wp _ _ _ _ (s₁.setTop (mkF m 9 #[.val (.int p1), .val (.int (4 : Int32)), .unset, .unset, .unset, .unset] [(.int (4 : Int32))]))
    refine own_callS X0 hx hZ (y := (⟨"com/example/iota_flow/iotaflow/definition/OperatorOrdersPinLaw", "pick", "(I)Lcom/example/iota_flow/iotaflow/definition/Expression$Operator;"⟩ : MethodName)) (argsL := [(.int (4 : Int32))]) (rest := []) (W := 0) hown (hw _ (List.mem_of_getElem? (i := 1) rfl)) (hw _ (List.mem_of_getElem? (i := 2) rfl)) (hw _ (List.mem_of_getElem? (i := 3) rfl)) (hw _ (List.mem_of_getElem? (i := 4) rfl)) (by decide) e0 (rmpick l Z a0 hw [] (4 : Int32) o0 o1 o2 o3 o4 o5 o4 h0 n0 Zs S0 S1 S2 S3 S4 S5 (fun h => absurd h (by decide)) (fun _ h => absurd h (by decide)) (fun _ _ h => absurd h (by decide)) (fun _ _ _ h => absurd h (by decide)) (fun _ _ _ _ _ => rfl) (fun _ _ _ _ h => absurd rfl h)) (by decide) (by decide) (by decide) (by decide) (g := (mkF m 9 #[.val (.int p1), .val (.int (4 : Int32)), .unset, .unset, .unset, .unset] [(.int (4 : Int32))])) rfl (by rw [hml]; rfl) (lenOf own_pd4 rfl) rfl (by show 2 * 0 + _ ≤ _; exact Nat.le_of_eq rfl) (hb hby at_9) ?_
    rintro T17 L17 _ X17 ⟨rfl, N17q, e17⟩
    have N17 := Fr.app N0 N17q
    show own_Wp _ _ _ _ (T17.setTop (mkF m 12 #[.val (.int p1), .val (.int (4 : Int32)), .unset, .unset, .unset, .unset] [(.ref o4)]))
    refine own_of (fun tgt kon => XS.astoreN X17.here hx rfl (hb hby at_12) rfl rfl (l' := #[.val (.int p1), .val (.int (4 : Int32)), .val (.ref o4), .unset, .unset, .unset]) rfl kon) ?_
    show own_Wp _ _ _ _ (T17.setTop (mkF m 13 #[.val (.int p1), .val (.int (4 : Int32)), .val (.ref o4), .unset, .unset, .unset] []))
    refine own_of (fun tgt kon => XS.iloadN X17.here hx rfl (hb hby at_13) rfl kon) ?_
    show own_Wp _ _ _ _ (T17.setTop (mkF m 14 #[.val (.int p1), .val (.int (4 : Int32)), .val (.ref o4), .unset, .unset, .unset] [(.int (4 : Int32))]))
    refine own_of (fun tgt kon => XS.iconst X17.here hx rfl (hb hby at_14) kon) ?_
    show own_Wp _ _ _ _ (T17.setTop (mkF m 15 #[.val (.int p1), .val (.int (4 : Int32)), .val (.ref o4), .unset, .unset, .unset] [(.int (2 : Int32)), (.int (4 : Int32))]))
    have hc15 : ¬ ((4 : Int32) < (2 : Int32)) := by decide
    refine own_of (fun tgt kon => XS.icmpNo X17.here hx rfl (hb hby at_15) rfl (flt hc15).1 kon) ?_
    show own_Wp _ _ _ _ (T17.setTop (mkF m 18 #[.val (.int p1), .val (.int (4 : Int32)), .val (.ref o4), .unset, .unset, .unset] []))
    refine own_of (fun tgt kon => XS.iconst X17.here hx rfl (hb hby at_18) kon) ?_
    show own_Wp _ _ _ _ (T17.setTop (mkF m 19 #[.val (.int p1), .val (.int (4 : Int32)), .val (.ref o4), .unset, .unset, .unset] [(.int (1 : Int32))]))
    refine own_of (fun tgt kon => XS.goto X17.here hx rfl (pc0 := 19) (pc' := 23) rfl (hb hby at_19) (by decide) (by decide) kon) ?_
    show own_Wp _ _ _ _ (T17.setTop (mkF m 23 #[.val (.int p1), .val (.int (4 : Int32)), .val (.ref o4), .unset, .unset, .unset] [(.int (1 : Int32))]))
    refine own_of (fun tgt kon => XS.istoreN X17.here hx rfl (hb hby at_23) rfl (l' := #[.val (.int p1), .val (.int (4 : Int32)), .val (.ref o4), .val (.int (1 : Int32)), .unset, .unset]) rfl kon) ?_
    show own_Wp _ _ _ _ (T17.setTop (mkF m 24 #[.val (.int p1), .val (.int (4 : Int32)), .val (.ref o4), .val (.int (1 : Int32)), .unset, .unset] []))
    refine own_of (fun tgt kon => XS.aloadN X17.here hx rfl (hb hby at_24) rfl rfl kon) ?_
    show own_Wp _ _ _ _ (T17.setTop (mkF m 25 #[.val (.int p1), .val (.int (4 : Int32)), .val (.ref o4), .val (.int (1 : Int32)), .unset, .unset] [(.ref o4)]))
    obtain ⟨T18, X18, e18, st18⟩ := getF X17 hx hZ hown (host := "") (Or.inl (hw _ (List.mem_of_getElem? (i := 8) rfl))) Via.refl e17 Fs4 (g := (mkF m 25 #[.val (.int p1), .val (.int (4 : Int32)), .val (.ref o4), .val (.int (1 : Int32)), .unset, .unset] [(.ref o4)])) rfl rfl (hb hby at_25)
    refine own_of st18 ?_
    show own_Wp _ _ _ _ (T18.setTop (mkF m 28 #[.val (.int p1), .val (.int (4 : Int32)), .val (.ref o4), .val (.int (1 : Int32)), .unset, .unset] [(.ref s4)]))
    refine own_of (fun tgt kon => XS.iconst X18.here hx rfl (hb hby at_28) kon) ?_
    show own_Wp _ _ _ _ (T18.setTop (mkF m 29 #[.val (.int p1), .val (.int (4 : Int32)), .val (.ref o4), .val (.int (1 : Int32)), .unset, .unset] [(.int (0 : Int32)), (.ref s4)]))
    refine own_callV X18 hx hZ (C := "java/lang/String") (y := (⟨"java/lang/String", "charAt", "(I)C"⟩ : MethodName)) (a := s4) (argsL := [(.int (0 : Int32))]) (rest := []) (W := 0) hown (hw _ (List.mem_of_getElem? (i := 10) rfl)) (hw _ (List.mem_of_getElem? (i := 11) rfl)) (hw _ (List.mem_of_getElem? (i := 13) rfl)) (hw _ (List.mem_of_getElem? (i := 12) rfl)) (hw _ (List.mem_of_getElem? (i := 14) rfl)) (hw _ (List.mem_of_getElem? (i := 15) rfl)) (by decide) e18 E_s4 (rmca l Z a0 hw [] s4 (0 : Int32) v4 cs vF 0 1 (1 : Int32) f4 (62 : Int32) h0 n0 Zs S_C hcs S_F hF E_s4 Fc4 Fv4 A4 (by decide) (by decide) (by decide) hv4) (by decide) (by decide) (by decide) (by decide) (g := (mkF m 29 #[.val (.int p1), .val (.int (4 : Int32)), .val (.ref o4), .val (.int (1 : Int32)), .unset, .unset] [(.int (0 : Int32)), (.ref s4)])) rfl (by rw [hml]; rfl) (lenOf own_pd5 rfl) rfl (by show 2 * 0 + _ ≤ _; exact Nat.le_of_eq rfl) (hb hby at_29) ?_
    rintro T19 L19 _ X19 ⟨rfl, N19q, e19⟩
    have N19 := Fr.app N17 N19q
    show own_Wp _ _ _ _ (T19.setTop (mkF m 32 #[.val (.int p1), .val (.int (4 : Int32)), .val (.ref o4), .val (.int (1 : Int32)), .unset, .unset] [(.int (nar .char (nar .char (((62 : Int32) &&& (255 : Int32)).toUInt32.toUInt16.toUInt32.toInt32))))]))
    refine own_of (fun tgt kon => XS.istore X19.here hx rfl (hb hby at_32) rfl (l' := #[.val (.int p1), .val (.int (4 : Int32)), .val (.ref o4), .val (.int (1 : Int32)), .val (.int (nar .char (nar .char (((62 : Int32) &&& (255 : Int32)).toUInt32.toUInt16.toUInt32.toInt32)))), .unset]) rfl kon) ?_
    show own_Wp _ _ _ _ (T19.setTop (mkF m 34 #[.val (.int p1), .val (.int (4 : Int32)), .val (.ref o4), .val (.int (1 : Int32)), .val (.int (nar .char (nar .char (((62 : Int32) &&& (255 : Int32)).toUInt32.toUInt16.toUInt32.toInt32)))), .unset] []))
    refine own_of (fun tgt kon => XS.iload X19.here hx rfl (hb hby at_34) rfl kon) ?_
    show own_Wp _ _ _ _ (T19.setTop (mkF m 36 #[.val (.int p1), .val (.int (4 : Int32)), .val (.ref o4), .val (.int (1 : Int32)), .val (.int (nar .char (nar .char (((62 : Int32) &&& (255 : Int32)).toUInt32.toUInt16.toUInt32.toInt32)))), .unset] [(.int (nar .char (nar .char (((62 : Int32) &&& (255 : Int32)).toUInt32.toUInt16.toUInt32.toInt32))))]))
    refine own_of (fun tgt kon => XS.bipush X19.here hx rfl (hb hby at_36) kon) ?_
    show own_Wp _ _ _ _ (T19.setTop (mkF m 38 #[.val (.int p1), .val (.int (4 : Int32)), .val (.ref o4), .val (.int (1 : Int32)), .val (.int (nar .char (nar .char (((62 : Int32) &&& (255 : Int32)).toUInt32.toUInt16.toUInt32.toInt32)))), .unset] [(.int (60 : Int32)), (.int (nar .char (nar .char (((62 : Int32) &&& (255 : Int32)).toUInt32.toUInt16.toUInt32.toInt32))))]))
    have hc38 : ¬ ((nar .char (nar .char (((62 : Int32) &&& (255 : Int32)).toUInt32.toUInt16.toUInt32.toInt32))) = (60 : Int32)) := by decide
    refine own_of (fun tgt kon => XS.icmpNo X19.here hx rfl (hb hby at_38) rfl (feq hc38).1 kon) ?_
    show own_Wp _ _ _ _ (T19.setTop (mkF m 41 #[.val (.int p1), .val (.int (4 : Int32)), .val (.ref o4), .val (.int (1 : Int32)), .val (.int (nar .char (nar .char (((62 : Int32) &&& (255 : Int32)).toUInt32.toUInt16.toUInt32.toInt32)))), .unset] []))
    refine own_of (fun tgt kon => XS.iload X19.here hx rfl (hb hby at_41) rfl kon) ?_
    show own_Wp _ _ _ _ (T19.setTop (mkF m 43 #[.val (.int p1), .val (.int (4 : Int32)), .val (.ref o4), .val (.int (1 : Int32)), .val (.int (nar .char (nar .char (((62 : Int32) &&& (255 : Int32)).toUInt32.toUInt16.toUInt32.toInt32)))), .unset] [(.int (nar .char (nar .char (((62 : Int32) &&& (255 : Int32)).toUInt32.toUInt16.toUInt32.toInt32))))]))
    refine own_of (fun tgt kon => XS.bipush X19.here hx rfl (hb hby at_43) kon) ?_
    show own_Wp _ _ _ _ (T19.setTop (mkF m 45 #[.val (.int p1), .val (.int (4 : Int32)), .val (.ref o4), .val (.int (1 : Int32)), .val (.int (nar .char (nar .char (((62 : Int32) &&& (255 : Int32)).toUInt32.toUInt16.toUInt32.toInt32)))), .unset] [(.int (62 : Int32)), (.int (nar .char (nar .char (((62 : Int32) &&& (255 : Int32)).toUInt32.toUInt16.toUInt32.toInt32))))]))
    have hc45 : (nar .char (nar .char (((62 : Int32) &&& (255 : Int32)).toUInt32.toUInt16.toUInt32.toInt32))) = (62 : Int32) := by decide
    refine own_of (fun tgt kon => XS.icmpNo X19.here hx rfl (hb hby at_45) rfl (teq hc45).2 kon) ?_
    show own_Wp _ _ _ _ (T19.setTop (mkF m 48 #[.val (.int p1), .val (.int (4 : Int32)), .val (.ref o4), .val (.int (1 : Int32)), .val (.int (nar .char (nar .char (((62 : Int32) &&& (255 : Int32)).toUInt32.toUInt16.toUInt32.toInt32)))), .unset] []))
    refine own_of (fun tgt kon => XS.iconst X19.here hx rfl (hb hby at_48) kon) ?_
    show own_Wp _ _ _ _ (T19.setTop (mkF m 49 #[.val (.int p1), .val (.int (4 : Int32)), .val (.ref o4), .val (.int (1 : Int32)), .val (.int (nar .char (nar .char (((62 : Int32) &&& (255 : Int32)).toUInt32.toUInt16.toUInt32.toInt32)))), .unset] [(.int (1 : Int32))]))
    refine own_of (fun tgt kon => XS.goto X19.here hx rfl (pc0 := 49) (pc' := 53) rfl (hb hby at_49) (by decide) (by decide) kon) ?_
    show own_Wp _ _ _ _ (T19.setTop (mkF m 53 #[.val (.int p1), .val (.int (4 : Int32)), .val (.ref o4), .val (.int (1 : Int32)), .val (.int (nar .char (nar .char (((62 : Int32) &&& (255 : Int32)).toUInt32.toUInt16.toUInt32.toInt32)))), .unset] [(.int (1 : Int32))]))
    refine own_of (fun tgt kon => XS.istore X19.here hx rfl (hb hby at_53) rfl (l' := #[.val (.int p1), .val (.int (4 : Int32)), .val (.ref o4), .val (.int (1 : Int32)), .val (.int (nar .char (nar .char (((62 : Int32) &&& (255 : Int32)).toUInt32.toUInt16.toUInt32.toInt32)))), .val (.int (1 : Int32))]) rfl kon) ?_
    show own_Wp _ _ _ _ (T19.setTop (mkF m 55 #[.val (.int p1), .val (.int (4 : Int32)), .val (.ref o4), .val (.int (1 : Int32)), .val (.int (nar .char (nar .char (((62 : Int32) &&& (255 : Int32)).toUInt32.toUInt16.toUInt32.toInt32)))), .val (.int (1 : Int32))] []))
    refine own_of (fun tgt kon => XS.aloadN X19.here hx rfl (hb hby at_55) rfl rfl kon) ?_
    show own_Wp _ _ _ _ (T19.setTop (mkF m 56 #[.val (.int p1), .val (.int (4 : Int32)), .val (.ref o4), .val (.int (1 : Int32)), .val (.int (nar .char (nar .char (((62 : Int32) &&& (255 : Int32)).toUInt32.toUInt16.toUInt32.toInt32)))), .val (.int (1 : Int32))] [(.ref o4)]))
    refine own_callV X19 hx hZ (C := "com/example/iota_flow/iotaflow/definition/Expression$Operator") (y := (⟨"com/example/iota_flow/iotaflow/definition/Expression$Operator", "orders", "()Z"⟩ : MethodName)) (a := o4) (argsL := []) (rest := []) (W := 0) hown (hw _ (List.mem_of_getElem? (i := 38) rfl)) (hw _ (List.mem_of_getElem? (i := 39) rfl)) (hw _ (List.mem_of_getElem? (i := 41) rfl)) (hw _ (List.mem_of_getElem? (i := 40) rfl)) (hw _ (List.mem_of_getElem? (i := 6) rfl)) (hw _ (List.mem_of_getElem? (i := 42) rfl)) (by decide) e19 E_o4 (rmord l Z a0 hw [] o4 o0 o1 (1 : Int32) h0 n0 Zs S0 S1 (fun h => absurd h.symm ne04) (fun _ h => absurd h.symm ne14) (fun _ _ => rfl)) (by decide) (by decide) (by decide) (by decide) (g := (mkF m 56 #[.val (.int p1), .val (.int (4 : Int32)), .val (.ref o4), .val (.int (1 : Int32)), .val (.int (nar .char (nar .char (((62 : Int32) &&& (255 : Int32)).toUInt32.toUInt16.toUInt32.toInt32)))), .val (.int (1 : Int32))] [(.ref o4)])) rfl (by rw [hml]; rfl) (lenOf own_pd2 rfl) rfl (by show 2 * 0 + _ ≤ _; exact Nat.le_of_eq rfl) (hb hby at_56) ?_
    rintro T20 L20 _ X20 ⟨rfl, N20q, e20⟩
    have N20 := Fr.app N19 N20q
    show own_Wp _ _ _ _ (T20.setTop (mkF m 59 #[.val (.int p1), .val (.int (4 : Int32)), .val (.ref o4), .val (.int (1 : Int32)), .val (.int (nar .char (nar .char (((62 : Int32) &&& (255 : Int32)).toUInt32.toUInt16.toUInt32.toInt32)))), .val (.int (1 : Int32))] [(.int (1 : Int32))]))
    refine own_of (fun tgt kon => XS.iloadN X20.here hx rfl (hb hby at_59) rfl kon) ?_
    show own_Wp _ _ _ _ (T20.setTop (mkF m 60 #[.val (.int p1), .val (.int (4 : Int32)), .val (.ref o4), .val (.int (1 : Int32)), .val (.int (nar .char (nar .char (((62 : Int32) &&& (255 : Int32)).toUInt32.toUInt16.toUInt32.toInt32)))), .val (.int (1 : Int32))] [(.int (1 : Int32)), (.int (1 : Int32))]))
    have hc60 : (1 : Int32) = (1 : Int32) := by decide
    refine own_of (fun tgt kon => XS.icmpNo X20.here hx rfl (hb hby at_60) rfl (teq hc60).2 kon) ?_
    show own_Wp _ _ _ _ (T20.setTop (mkF m 63 #[.val (.int p1), .val (.int (4 : Int32)), .val (.ref o4), .val (.int (1 : Int32)), .val (.int (nar .char (nar .char (((62 : Int32) &&& (255 : Int32)).toUInt32.toUInt16.toUInt32.toInt32)))), .val (.int (1 : Int32))] []))
    refine own_of (fun tgt kon => XS.iloadN X20.here hx rfl (hb hby at_63) rfl kon) ?_
    show own_Wp _ _ _ _ (T20.setTop (mkF m 64 #[.val (.int p1), .val (.int (4 : Int32)), .val (.ref o4), .val (.int (1 : Int32)), .val (.int (nar .char (nar .char (((62 : Int32) &&& (255 : Int32)).toUInt32.toUInt16.toUInt32.toInt32)))), .val (.int (1 : Int32))] [(.int (1 : Int32))]))
    refine own_of (fun tgt kon => XS.iload X20.here hx rfl (hb hby at_64) rfl kon) ?_
    show own_Wp _ _ _ _ (T20.setTop (mkF m 66 #[.val (.int p1), .val (.int (4 : Int32)), .val (.ref o4), .val (.int (1 : Int32)), .val (.int (nar .char (nar .char (((62 : Int32) &&& (255 : Int32)).toUInt32.toUInt16.toUInt32.toInt32)))), .val (.int (1 : Int32))] [(.int (1 : Int32)), (.int (1 : Int32))]))
    have hc66 : (1 : Int32) = (1 : Int32) := by decide
    refine own_of (fun tgt kon => XS.icmpNo X20.here hx rfl (hb hby at_66) rfl (teq hc66).2 kon) ?_
    show own_Wp _ _ _ _ (T20.setTop (mkF m 69 #[.val (.int p1), .val (.int (4 : Int32)), .val (.ref o4), .val (.int (1 : Int32)), .val (.int (nar .char (nar .char (((62 : Int32) &&& (255 : Int32)).toUInt32.toUInt16.toUInt32.toInt32)))), .val (.int (1 : Int32))] []))
    refine own_of (fun tgt kon => XS.iconst X20.here hx rfl (hb hby at_69) kon) ?_
    show own_Wp _ _ _ _ (T20.setTop (mkF m 70 #[.val (.int p1), .val (.int (4 : Int32)), .val (.ref o4), .val (.int (1 : Int32)), .val (.int (nar .char (nar .char (((62 : Int32) &&& (255 : Int32)).toUInt32.toUInt16.toUInt32.toInt32)))), .val (.int (1 : Int32))] [(.int (1 : Int32))]))
    refine own_of (fun tgt kon => XS.goto X20.here hx rfl (pc0 := 70) (pc' := 74) rfl (hb hby at_70) (by decide) (by decide) kon) ?_
    show own_Wp _ _ _ _ (T20.setTop (mkF m 74 #[.val (.int p1), .val (.int (4 : Int32)), .val (.ref o4), .val (.int (1 : Int32)), .val (.int (nar .char (nar .char (((62 : Int32) &&& (255 : Int32)).toUInt32.toUInt16.toUInt32.toInt32)))), .val (.int (1 : Int32))] [(.int (1 : Int32))]))
    refine own_ret X20 hlk (some (.int (1 : Int32))) (own_rtI hrt) (fun fs hr => retN X20 hx (t := .boolean) hrt (by simp) (hb hby at_74) hr) ?_ (by decide) (by decide)
    rw [e20]
    exact ⟨rfl, N20⟩
  · skip
    show own_Wp _ _ _ _ (s₁.setTop (mkF m 8 #[.val (.int p1), .val (.int (5 : Int32)), .unset, .unset, .unset, .unset] []))
    refine own_of (fun tgt kon => XS.iloadN X0.here hx rfl (hb hby at_8) rfl kon) ?_
    show own_Wp _ _ _ _ (s₁.setTop (mkF m 9 #[.val (.int p1), .val (.int (5 : Int32)), .unset, .unset, .unset, .unset] [(.int (5 : Int32))]))
    refine own_callS X0 hx hZ (y := (⟨"com/example/iota_flow/iotaflow/definition/OperatorOrdersPinLaw", "pick", "(I)Lcom/example/iota_flow/iotaflow/definition/Expression$Operator;"⟩ : MethodName)) (argsL := [(.int (5 : Int32))]) (rest := []) (W := 0) hown (hw _ (List.mem_of_getElem? (i := 1) rfl)) (hw _ (List.mem_of_getElem? (i := 2) rfl)) (hw _ (List.mem_of_getElem? (i := 3) rfl)) (hw _ (List.mem_of_getElem? (i := 4) rfl)) (by decide) e0 (rmpick l Z a0 hw [] (5 : Int32) o0 o1 o2 o3 o4 o5 o5 h0 n0 Zs S0 S1 S2 S3 S4 S5 (fun h => absurd h (by decide)) (fun _ h => absurd h (by decide)) (fun _ _ h => absurd h (by decide)) (fun _ _ _ h => absurd h (by decide)) (fun _ _ _ _ h => absurd h (by decide)) (fun _ _ _ _ _ => rfl)) (by decide) (by decide) (by decide) (by decide) (g := (mkF m 9 #[.val (.int p1), .val (.int (5 : Int32)), .unset, .unset, .unset, .unset] [(.int (5 : Int32))])) rfl (by rw [hml]; rfl) (lenOf own_pd4 rfl) rfl (by show 2 * 0 + _ ≤ _; exact Nat.le_of_eq rfl) (hb hby at_9) ?_
    rintro T21 L21 _ X21 ⟨rfl, N21q, e21⟩
    have N21 := Fr.app N0 N21q
    show own_Wp _ _ _ _ (T21.setTop (mkF m 12 #[.val (.int p1), .val (.int (5 : Int32)), .unset, .unset, .unset, .unset] [(.ref o5)]))
    refine own_of (fun tgt kon => XS.astoreN X21.here hx rfl (hb hby at_12) rfl rfl (l' := #[.val (.int p1), .val (.int (5 : Int32)), .val (.ref o5), .unset, .unset, .unset]) rfl kon) ?_
    show own_Wp _ _ _ _ (T21.setTop (mkF m 13 #[.val (.int p1), .val (.int (5 : Int32)), .val (.ref o5), .unset, .unset, .unset] []))
    refine own_of (fun tgt kon => XS.iloadN X21.here hx rfl (hb hby at_13) rfl kon) ?_
    show own_Wp _ _ _ _ (T21.setTop (mkF m 14 #[.val (.int p1), .val (.int (5 : Int32)), .val (.ref o5), .unset, .unset, .unset] [(.int (5 : Int32))]))
    refine own_of (fun tgt kon => XS.iconst X21.here hx rfl (hb hby at_14) kon) ?_
    show own_Wp _ _ _ _ (T21.setTop (mkF m 15 #[.val (.int p1), .val (.int (5 : Int32)), .val (.ref o5), .unset, .unset, .unset] [(.int (2 : Int32)), (.int (5 : Int32))]))
    have hc15 : ¬ ((5 : Int32) < (2 : Int32)) := by decide
    refine own_of (fun tgt kon => XS.icmpNo X21.here hx rfl (hb hby at_15) rfl (flt hc15).1 kon) ?_
    show own_Wp _ _ _ _ (T21.setTop (mkF m 18 #[.val (.int p1), .val (.int (5 : Int32)), .val (.ref o5), .unset, .unset, .unset] []))
    refine own_of (fun tgt kon => XS.iconst X21.here hx rfl (hb hby at_18) kon) ?_
    show own_Wp _ _ _ _ (T21.setTop (mkF m 19 #[.val (.int p1), .val (.int (5 : Int32)), .val (.ref o5), .unset, .unset, .unset] [(.int (1 : Int32))]))
    refine own_of (fun tgt kon => XS.goto X21.here hx rfl (pc0 := 19) (pc' := 23) rfl (hb hby at_19) (by decide) (by decide) kon) ?_
    show own_Wp _ _ _ _ (T21.setTop (mkF m 23 #[.val (.int p1), .val (.int (5 : Int32)), .val (.ref o5), .unset, .unset, .unset] [(.int (1 : Int32))]))
    refine own_of (fun tgt kon => XS.istoreN X21.here hx rfl (hb hby at_23) rfl (l' := #[.val (.int p1), .val (.int (5 : Int32)), .val (.ref o5), .val (.int (1 : Int32)), .unset, .unset]) rfl kon) ?_
    show own_Wp _ _ _ _ (T21.setTop (mkF m 24 #[.val (.int p1), .val (.int (5 : Int32)), .val (.ref o5), .val (.int (1 : Int32)), .unset, .unset] []))
    refine own_of (fun tgt kon => XS.aloadN X21.here hx rfl (hb hby at_24) rfl rfl kon) ?_
    show own_Wp _ _ _ _ (T21.setTop (mkF m 25 #[.val (.int p1), .val (.int (5 : Int32)), .val (.ref o5), .val (.int (1 : Int32)), .unset, .unset] [(.ref o5)]))
    obtain ⟨T22, X22, e22, st22⟩ := getF X21 hx hZ hown (host := "") (Or.inl (hw _ (List.mem_of_getElem? (i := 8) rfl))) Via.refl e21 Fs5 (g := (mkF m 25 #[.val (.int p1), .val (.int (5 : Int32)), .val (.ref o5), .val (.int (1 : Int32)), .unset, .unset] [(.ref o5)])) rfl rfl (hb hby at_25)
    refine own_of st22 ?_
    show own_Wp _ _ _ _ (T22.setTop (mkF m 28 #[.val (.int p1), .val (.int (5 : Int32)), .val (.ref o5), .val (.int (1 : Int32)), .unset, .unset] [(.ref s5)]))
    refine own_of (fun tgt kon => XS.iconst X22.here hx rfl (hb hby at_28) kon) ?_
    show own_Wp _ _ _ _ (T22.setTop (mkF m 29 #[.val (.int p1), .val (.int (5 : Int32)), .val (.ref o5), .val (.int (1 : Int32)), .unset, .unset] [(.int (0 : Int32)), (.ref s5)]))
    refine own_callV X22 hx hZ (C := "java/lang/String") (y := (⟨"java/lang/String", "charAt", "(I)C"⟩ : MethodName)) (a := s5) (argsL := [(.int (0 : Int32))]) (rest := []) (W := 0) hown (hw _ (List.mem_of_getElem? (i := 10) rfl)) (hw _ (List.mem_of_getElem? (i := 11) rfl)) (hw _ (List.mem_of_getElem? (i := 13) rfl)) (hw _ (List.mem_of_getElem? (i := 12) rfl)) (hw _ (List.mem_of_getElem? (i := 14) rfl)) (hw _ (List.mem_of_getElem? (i := 15) rfl)) (by decide) e22 E_s5 (rmca l Z a0 hw [] s5 (0 : Int32) v5 cs vF 0 2 (2 : Int32) f5 (62 : Int32) h0 n0 Zs S_C hcs S_F hF E_s5 Fc5 Fv5 A5 (by decide) (by decide) (by decide) hv5) (by decide) (by decide) (by decide) (by decide) (g := (mkF m 29 #[.val (.int p1), .val (.int (5 : Int32)), .val (.ref o5), .val (.int (1 : Int32)), .unset, .unset] [(.int (0 : Int32)), (.ref s5)])) rfl (by rw [hml]; rfl) (lenOf own_pd5 rfl) rfl (by show 2 * 0 + _ ≤ _; exact Nat.le_of_eq rfl) (hb hby at_29) ?_
    rintro T23 L23 _ X23 ⟨rfl, N23q, e23⟩
    have N23 := Fr.app N21 N23q
    show own_Wp _ _ _ _ (T23.setTop (mkF m 32 #[.val (.int p1), .val (.int (5 : Int32)), .val (.ref o5), .val (.int (1 : Int32)), .unset, .unset] [(.int (nar .char (nar .char (((62 : Int32) &&& (255 : Int32)).toUInt32.toUInt16.toUInt32.toInt32))))]))
    refine own_of (fun tgt kon => XS.istore X23.here hx rfl (hb hby at_32) rfl (l' := #[.val (.int p1), .val (.int (5 : Int32)), .val (.ref o5), .val (.int (1 : Int32)), .val (.int (nar .char (nar .char (((62 : Int32) &&& (255 : Int32)).toUInt32.toUInt16.toUInt32.toInt32)))), .unset]) rfl kon) ?_
    show own_Wp _ _ _ _ (T23.setTop (mkF m 34 #[.val (.int p1), .val (.int (5 : Int32)), .val (.ref o5), .val (.int (1 : Int32)), .val (.int (nar .char (nar .char (((62 : Int32) &&& (255 : Int32)).toUInt32.toUInt16.toUInt32.toInt32)))), .unset] []))
    refine own_of (fun tgt kon => XS.iload X23.here hx rfl (hb hby at_34) rfl kon) ?_
    show own_Wp _ _ _ _ (T23.setTop (mkF m 36 #[.val (.int p1), .val (.int (5 : Int32)), .val (.ref o5), .val (.int (1 : Int32)), .val (.int (nar .char (nar .char (((62 : Int32) &&& (255 : Int32)).toUInt32.toUInt16.toUInt32.toInt32)))), .unset] [(.int (nar .char (nar .char (((62 : Int32) &&& (255 : Int32)).toUInt32.toUInt16.toUInt32.toInt32))))]))
    refine own_of (fun tgt kon => XS.bipush X23.here hx rfl (hb hby at_36) kon) ?_
    show own_Wp _ _ _ _ (T23.setTop (mkF m 38 #[.val (.int p1), .val (.int (5 : Int32)), .val (.ref o5), .val (.int (1 : Int32)), .val (.int (nar .char (nar .char (((62 : Int32) &&& (255 : Int32)).toUInt32.toUInt16.toUInt32.toInt32)))), .unset] [(.int (60 : Int32)), (.int (nar .char (nar .char (((62 : Int32) &&& (255 : Int32)).toUInt32.toUInt16.toUInt32.toInt32))))]))
    have hc38 : ¬ ((nar .char (nar .char (((62 : Int32) &&& (255 : Int32)).toUInt32.toUInt16.toUInt32.toInt32))) = (60 : Int32)) := by decide
    refine own_of (fun tgt kon => XS.icmpNo X23.here hx rfl (hb hby at_38) rfl (feq hc38).1 kon) ?_
    show own_Wp _ _ _ _ (T23.setTop (mkF m 41 #[.val (.int p1), .val (.int (5 : Int32)), .val (.ref o5), .val (.int (1 : Int32)), .val (.int (nar .char (nar .char (((62 : Int32) &&& (255 : Int32)).toUInt32.toUInt16.toUInt32.toInt32)))), .unset] []))
    refine own_of (fun tgt kon => XS.iload X23.here hx rfl (hb hby at_41) rfl kon) ?_
    show own_Wp _ _ _ _ (T23.setTop (mkF m 43 #[.val (.int p1), .val (.int (5 : Int32)), .val (.ref o5), .val (.int (1 : Int32)), .val (.int (nar .char (nar .char (((62 : Int32) &&& (255 : Int32)).toUInt32.toUInt16.toUInt32.toInt32)))), .unset] [(.int (nar .char (nar .char (((62 : Int32) &&& (255 : Int32)).toUInt32.toUInt16.toUInt32.toInt32))))]))
    refine own_of (fun tgt kon => XS.bipush X23.here hx rfl (hb hby at_43) kon) ?_
    show own_Wp _ _ _ _ (T23.setTop (mkF m 45 #[.val (.int p1), .val (.int (5 : Int32)), .val (.ref o5), .val (.int (1 : Int32)), .val (.int (nar .char (nar .char (((62 : Int32) &&& (255 : Int32)).toUInt32.toUInt16.toUInt32.toInt32)))), .unset] [(.int (62 : Int32)), (.int (nar .char (nar .char (((62 : Int32) &&& (255 : Int32)).toUInt32.toUInt16.toUInt32.toInt32))))]))
    have hc45 : (nar .char (nar .char (((62 : Int32) &&& (255 : Int32)).toUInt32.toUInt16.toUInt32.toInt32))) = (62 : Int32) := by decide
    refine own_of (fun tgt kon => XS.icmpNo X23.here hx rfl (hb hby at_45) rfl (teq hc45).2 kon) ?_
    show own_Wp _ _ _ _ (T23.setTop (mkF m 48 #[.val (.int p1), .val (.int (5 : Int32)), .val (.ref o5), .val (.int (1 : Int32)), .val (.int (nar .char (nar .char (((62 : Int32) &&& (255 : Int32)).toUInt32.toUInt16.toUInt32.toInt32)))), .unset] []))
    refine own_of (fun tgt kon => XS.iconst X23.here hx rfl (hb hby at_48) kon) ?_
    show own_Wp _ _ _ _ (T23.setTop (mkF m 49 #[.val (.int p1), .val (.int (5 : Int32)), .val (.ref o5), .val (.int (1 : Int32)), .val (.int (nar .char (nar .char (((62 : Int32) &&& (255 : Int32)).toUInt32.toUInt16.toUInt32.toInt32)))), .unset] [(.int (1 : Int32))]))
    refine own_of (fun tgt kon => XS.goto X23.here hx rfl (pc0 := 49) (pc' := 53) rfl (hb hby at_49) (by decide) (by decide) kon) ?_
    show own_Wp _ _ _ _ (T23.setTop (mkF m 53 #[.val (.int p1), .val (.int (5 : Int32)), .val (.ref o5), .val (.int (1 : Int32)), .val (.int (nar .char (nar .char (((62 : Int32) &&& (255 : Int32)).toUInt32.toUInt16.toUInt32.toInt32)))), .unset] [(.int (1 : Int32))]))
    refine own_of (fun tgt kon => XS.istore X23.here hx rfl (hb hby at_53) rfl (l' := #[.val (.int p1), .val (.int (5 : Int32)), .val (.ref o5), .val (.int (1 : Int32)), .val (.int (nar .char (nar .char (((62 : Int32) &&& (255 : Int32)).toUInt32.toUInt16.toUInt32.toInt32)))), .val (.int (1 : Int32))]) rfl kon) ?_
    show own_Wp _ _ _ _ (T23.setTop (mkF m 55 #[.val (.int p1), .val (.int (5 : Int32)), .val (.ref o5), .val (.int (1 : Int32)), .val (.int (nar .char (nar .char (((62 : Int32) &&& (255 : Int32)).toUInt32.toUInt16.toUInt32.toInt32)))), .val (.int (1 : Int32))] []))
    refine own_of (fun tgt kon => XS.aloadN X23.here hx rfl (hb hby at_55) rfl rfl kon) ?_
    show own_Wp _ _ _ _ (T23.setTop (mkF m 56 #[.val (.int p1), .val (.int (5 : Int32)), .val (.ref o5), .val (.int (1 : Int32)), .val (.int (nar .char (nar .char (((62 : Int32) &&& (255 : Int32)).toUInt32.toUInt16.toUInt32.toInt32)))), .val (.int (1 : Int32))] [(.ref o5)]))
    refine own_callV X23 hx hZ (C := "com/example/iota_flow/iotaflow/definition/Expression$Operator") (y := (⟨"com/example/iota_flow/iotaflow/definition/Expression$Operator", "orders", "()Z"⟩ : MethodName)) (a := o5) (argsL := []) (rest := []) (W := 0) hown (hw _ (List.mem_of_getElem? (i := 38) rfl)) (hw _ (List.mem_of_getElem? (i := 39) rfl)) (hw _ (List.mem_of_getElem? (i := 41) rfl)) (hw _ (List.mem_of_getElem? (i := 40) rfl)) (hw _ (List.mem_of_getElem? (i := 6) rfl)) (hw _ (List.mem_of_getElem? (i := 42) rfl)) (by decide) e23 E_o5 (rmord l Z a0 hw [] o5 o0 o1 (1 : Int32) h0 n0 Zs S0 S1 (fun h => absurd h.symm ne05) (fun _ h => absurd h.symm ne15) (fun _ _ => rfl)) (by decide) (by decide) (by decide) (by decide) (g := (mkF m 56 #[.val (.int p1), .val (.int (5 : Int32)), .val (.ref o5), .val (.int (1 : Int32)), .val (.int (nar .char (nar .char (((62 : Int32) &&& (255 : Int32)).toUInt32.toUInt16.toUInt32.toInt32)))), .val (.int (1 : Int32))] [(.ref o5)])) rfl (by rw [hml]; rfl) (lenOf own_pd2 rfl) rfl (by show 2 * 0 + _ ≤ _; exact Nat.le_of_eq rfl) (hb hby at_56) ?_
    rintro T24 L24 _ X24 ⟨rfl, N24q, e24⟩
    have N24 := Fr.app N23 N24q
    show own_Wp _ _ _ _ (T24.setTop (mkF m 59 #[.val (.int p1), .val (.int (5 : Int32)), .val (.ref o5), .val (.int (1 : Int32)), .val (.int (nar .char (nar .char (((62 : Int32) &&& (255 : Int32)).toUInt32.toUInt16.toUInt32.toInt32)))), .val (.int (1 : Int32))] [(.int (1 : Int32))]))
    refine own_of (fun tgt kon => XS.iloadN X24.here hx rfl (hb hby at_59) rfl kon) ?_
    show own_Wp _ _ _ _ (T24.setTop (mkF m 60 #[.val (.int p1), .val (.int (5 : Int32)), .val (.ref o5), .val (.int (1 : Int32)), .val (.int (nar .char (nar .char (((62 : Int32) &&& (255 : Int32)).toUInt32.toUInt16.toUInt32.toInt32)))), .val (.int (1 : Int32))] [(.int (1 : Int32)), (.int (1 : Int32))]))
    have hc60 : (1 : Int32) = (1 : Int32) := by decide
    refine own_of (fun tgt kon => XS.icmpNo X24.here hx rfl (hb hby at_60) rfl (teq hc60).2 kon) ?_
    show own_Wp _ _ _ _ (T24.setTop (mkF m 63 #[.val (.int p1), .val (.int (5 : Int32)), .val (.ref o5), .val (.int (1 : Int32)), .val (.int (nar .char (nar .char (((62 : Int32) &&& (255 : Int32)).toUInt32.toUInt16.toUInt32.toInt32)))), .val (.int (1 : Int32))] []))
    refine own_of (fun tgt kon => XS.iloadN X24.here hx rfl (hb hby at_63) rfl kon) ?_
    show own_Wp _ _ _ _ (T24.setTop (mkF m 64 #[.val (.int p1), .val (.int (5 : Int32)), .val (.ref o5), .val (.int (1 : Int32)), .val (.int (nar .char (nar .char (((62 : Int32) &&& (255 : Int32)).toUInt32.toUInt16.toUInt32.toInt32)))), .val (.int (1 : Int32))] [(.int (1 : Int32))]))
    refine own_of (fun tgt kon => XS.iload X24.here hx rfl (hb hby at_64) rfl kon) ?_
    show own_Wp _ _ _ _ (T24.setTop (mkF m 66 #[.val (.int p1), .val (.int (5 : Int32)), .val (.ref o5), .val (.int (1 : Int32)), .val (.int (nar .char (nar .char (((62 : Int32) &&& (255 : Int32)).toUInt32.toUInt16.toUInt32.toInt32)))), .val (.int (1 : Int32))] [(.int (1 : Int32)), (.int (1 : Int32))]))
    have hc66 : (1 : Int32) = (1 : Int32) := by decide
    refine own_of (fun tgt kon => XS.icmpNo X24.here hx rfl (hb hby at_66) rfl (teq hc66).2 kon) ?_
    show own_Wp _ _ _ _ (T24.setTop (mkF m 69 #[.val (.int p1), .val (.int (5 : Int32)), .val (.ref o5), .val (.int (1 : Int32)), .val (.int (nar .char (nar .char (((62 : Int32) &&& (255 : Int32)).toUInt32.toUInt16.toUInt32.toInt32)))), .val (.int (1 : Int32))] []))
    refine own_of (fun tgt kon => XS.iconst X24.here hx rfl (hb hby at_69) kon) ?_
    show own_Wp _ _ _ _ (T24.setTop (mkF m 70 #[.val (.int p1), .val (.int (5 : Int32)), .val (.ref o5), .val (.int (1 : Int32)), .val (.int (nar .char (nar .char (((62 : Int32) &&& (255 : Int32)).toUInt32.toUInt16.toUInt32.toInt32)))), .val (.int (1 : Int32))] [(.int (1 : Int32))]))
    refine own_of (fun tgt kon => XS.goto X24.here hx rfl (pc0 := 70) (pc' := 74) rfl (hb hby at_70) (by decide) (by decide) kon) ?_
    show own_Wp _ _ _ _ (T24.setTop (mkF m 74 #[.val (.int p1), .val (.int (5 : Int32)), .val (.ref o5), .val (.int (1 : Int32)), .val (.int (nar .char (nar .char (((62 : Int32) &&& (255 : Int32)).toUInt32.toUInt16.toUInt32.toInt32)))), .val (.int (1 : Int32))] [(.int (1 : Int32))]))
    refine own_ret X24 hlk (some (.int (1 : Int32))) (own_rtI hrt) (fun fs hr => retN X24 hx (t := .boolean) hrt (by simp) (hb hby at_74) hr) ?_ (by decide) (by decide)
    rw [e24]
    exact ⟨rfl, N24⟩
set_option maxRecDepth 65536 in
set_option maxHeartbeats 40000000 in
theorem comes_1 {Post : Tables → Env → Array Value → State → Outcome → State → Prop} (hpost : ∀ tb e args s v u, (limb_1_1.after args s (.returned v) u = true ∧ limb_1_2.after args s (.returned v) u = true ∧ True) → FrameEnd s (.returned v) u (Jvm.fieldLocs frame_1_writes args s ++ Jvm.arrayLocs frame_1_arrays args s ++ Jvm.staticLocs frame_1_statics s) 0 0 → Post tb e args s (.returned v) u) :
    ArmFor flags0 classFile x code maxLocals ret World_1 tables_1 room_1 Calls_1 rest_1 Pre_1 Post := by
  intro l hfl _ _ p e ha hc hk s m args below hf hA hF happ hP
  obtain ⟨hcalls, hrest, hpre⟩ := hP
  obtain ⟨-, -, -, hnamed, -, -, -, hat⟩ := (Spec.applies_iff hf).mp happ
  obtain ⟨hg, hn⟩ := and_e (Cond.before_iff.mp (show (Jvm.Cond.and given_1 narrow_1).before args s = true from hpre))
  obtain ⟨g1, g2⟩ := and_e hg
  obtain ⟨w0, rfl⟩ : ∃ w0 : Value, args = #[w0] := by
    have hs : args.size = 1 := by simpa [Cond.value, given_1] using g1
    obtain ⟨L⟩ := args
    match L, hs with
    | [w0], _ => exact ⟨w0, rfl⟩
  have hw := fun d (hd : d ∈ tables_1) => atoms_spec (ws := Jvm.Cond.code x code maxLocals ret :: tables_1) hat d (List.mem_cons_of_mem _ hd)
  have hfit : Fit s := fun {y c} hc i hi => by
    obtain ⟨ha, rfl⟩ := Array.getElem?_eq_some_iff.mp hc
    have q := List.all_eq_true.mp ((Array.all_eq_true_iff_forall_mem.mp hF) _ (Array.getElem_mem ha)) i (List.mem_range.mpr hi)
    simpa [Array.getElem?_eq_getElem hi] using q
  obtain ⟨hsets, hown0⟩ := atoms_of _ (rest_1_c_eq ▸ (show rest_1_c.before _ s = true from hrest))
  have hr0 := Cond.before_iff.mp hown0
  obtain ⟨i0, ei0⟩ := is_v g2
  obtain rfl : w0 = (.int i0) := Option.some.inj ei0
  obtain ⟨u1, u2⟩ := and_e hn
  obtain ⟨u3, u4⟩ := and_e u2
  obtain ⟨u5, u6⟩ := and_e u4
  obtain ⟨u7, u8⟩ := and_e u6
  obtain ⟨u9, u10⟩ := and_e u8
  obtain ⟨u11, u12⟩ := and_e u10
  obtain ⟨u13, u14⟩ := and_e u12
  obtain ⟨u15, u16⟩ := and_e u14
  obtain ⟨u17, u18⟩ := and_e u16
  obtain ⟨u19, u20⟩ := and_e u18
  obtain ⟨u21, u22⟩ := and_e u20
  obtain ⟨u23, u24⟩ := and_e u22
  obtain ⟨u25, u26⟩ := and_e u24
  obtain ⟨u27, u28⟩ := and_e u26
  obtain ⟨u29, u30⟩ := and_e u28
  obtain ⟨u31, u32⟩ := and_e u30
  obtain ⟨u33, u34⟩ := and_e u32
  obtain ⟨u35, u36⟩ := and_e u34
  obtain ⟨u37, u38⟩ := and_e u36
  obtain ⟨u39, u40⟩ := and_e u38
  obtain ⟨u41, u42⟩ := and_e u40
  obtain ⟨u43, u44⟩ := and_e u42
  obtain ⟨u45, u46⟩ := and_e u44
  obtain ⟨u47, u48⟩ := and_e u46
  obtain ⟨u49, u50⟩ := and_e u48
  obtain ⟨u51, u52⟩ := and_e u50
  obtain ⟨u53, u54⟩ := and_e u52
  obtain ⟨u55, u56⟩ := and_e u54
  obtain ⟨u57, u58⟩ := and_e u56
  obtain ⟨u59, u60⟩ := and_e u58
  obtain ⟨u61, u62⟩ := and_e u60
  obtain ⟨u63, u64⟩ := and_e u62
  obtain ⟨u65, u66⟩ := and_e u64
  obtain ⟨u67, u68⟩ := and_e u66
  obtain ⟨u69, u70⟩ := and_e u68
  obtain ⟨u71, u72⟩ := and_e u70
  obtain ⟨u73, u74⟩ := and_e u72
  obtain ⟨u75, u76⟩ := and_e u74
  obtain ⟨u77, u78⟩ := and_e u76
  obtain ⟨u79, u80⟩ := and_e u78
  obtain ⟨u81, u82⟩ := and_e u80
  obtain ⟨u83, u84⟩ := and_e u82
  obtain ⟨u85, u86⟩ := and_e u84
  obtain ⟨u87, u88⟩ := and_e u86
  obtain ⟨u89, u90⟩ := and_e u88
  obtain ⟨o0, E_o0, ev0⟩ := own_exaRef u1
  have S0 := Sta.start ev0 (Or.inr ⟨(hw _ (List.mem_of_getElem? (i := 6) rfl)), (hw _ (List.mem_of_getElem? (i := 7) rfl))⟩)
  have Fo0 := own_fldI ev0 u27
  obtain ⟨s0, E_s0, evs0⟩ := own_exaRef u3
  have Fs0 := own_fldOf ev0 evs0
  have Fc0 := own_fldI evs0 u5
  obtain ⟨v0, cl0, Ar0, hat0, evv0⟩ := own_refArr u7
  have Fv0 := own_fldOf evs0 evv0
  have hl0 := own_lenEq evv0 hat0 u9
  have hz0 : cl0.slots.size = 2 := by rw [show (2 : Int32).toInt = 2 from by decide] at hl0; omega
  have A0 := own_Ar.some Ar0 (by omega)
  rw [hz0] at A0
  have hv0 : (cl0.slots[0]?).getD .null = .int (61 : Int32) := by rw [(own_elemEq (jj := 0) evv0 hat0 rfl rfl u11).2 |> (fun q => (q : cl0.slots[0]? = _))]; rfl
  obtain ⟨o1, E_o1, ev1⟩ := own_exaRef u29
  have S1 := Sta.start ev1 (Or.inr ⟨(hw _ (List.mem_of_getElem? (i := 6) rfl)), (hw _ (List.mem_of_getElem? (i := 47) rfl))⟩)
  have Fo1 := own_fldI ev1 u31
  obtain ⟨s1, E_s1, evs1⟩ := own_exaRef u47
  have Fs1 := own_fldOf ev1 evs1
  have Fc1 := own_fldI evs1 u49
  obtain ⟨v1, cl1, Ar1, hat1, evv1⟩ := own_refArr u51
  have Fv1 := own_fldOf evs1 evv1
  have hl1 := own_lenEq evv1 hat1 u53
  have hz1 : cl1.slots.size = 2 := by rw [show (2 : Int32).toInt = 2 from by decide] at hl1; omega
  have A1 := own_Ar.some Ar1 (by omega)
  rw [hz1] at A1
  have hv1 : (cl1.slots[0]?).getD .null = .int (33 : Int32) := by rw [(own_elemEq (jj := 0) evv1 hat1 rfl rfl u55).2 |> (fun q => (q : cl1.slots[0]? = _))]; rfl
  obtain ⟨o2, E_o2, ev2⟩ := own_exaRef u33
  have S2 := Sta.start ev2 (Or.inr ⟨(hw _ (List.mem_of_getElem? (i := 6) rfl)), (hw _ (List.mem_of_getElem? (i := 49) rfl))⟩)
  have Fo2 := own_fldI ev2 u45
  obtain ⟨s2, E_s2, evs2⟩ := own_exaRef u35
  have Fs2 := own_fldOf ev2 evs2
  have Fc2 := own_fldI evs2 u37
  obtain ⟨v2, cl2, Ar2, hat2, evv2⟩ := own_refArr u39
  have Fv2 := own_fldOf evs2 evv2
  have hl2 := own_lenEq evv2 hat2 u41
  have hz2 : cl2.slots.size = 1 := by rw [show (1 : Int32).toInt = 1 from by decide] at hl2; omega
  have A2 := own_Ar.some Ar2 (by omega)
  rw [hz2] at A2
  have hv2 : (cl2.slots[0]?).getD .null = .int (60 : Int32) := by rw [(own_elemEq (jj := 0) evv2 hat2 rfl rfl u43).2 |> (fun q => (q : cl2.slots[0]? = _))]; rfl
  obtain ⟨o3, E_o3, ev3⟩ := own_exaRef u13
  have S3 := Sta.start ev3 (Or.inr ⟨(hw _ (List.mem_of_getElem? (i := 6) rfl)), (hw _ (List.mem_of_getElem? (i := 45) rfl))⟩)
  have Fo3 := own_fldI ev3 u25
  obtain ⟨s3, E_s3, evs3⟩ := own_exaRef u15
  have Fs3 := own_fldOf ev3 evs3
  have Fc3 := own_fldI evs3 u17
  obtain ⟨v3, cl3, Ar3, hat3, evv3⟩ := own_refArr u19
  have Fv3 := own_fldOf evs3 evv3
  have hl3 := own_lenEq evv3 hat3 u21
  have hz3 : cl3.slots.size = 2 := by rw [show (2 : Int32).toInt = 2 from by decide] at hl3; omega
  have A3 := own_Ar.some Ar3 (by omega)
  rw [hz3] at A3
  have hv3 : (cl3.slots[0]?).getD .null = .int (60 : Int32) := by rw [(own_elemEq (jj := 0) evv3 hat3 rfl rfl u23).2 |> (fun q => (q : cl3.slots[0]? = _))]; rfl
  obtain ⟨o4, E_o4, ev4⟩ := own_exaRef u71
  have S4 := Sta.start ev4 (Or.inr ⟨(hw _ (List.mem_of_getElem? (i := 6) rfl)), (hw _ (List.mem_of_getElem? (i := 54) rfl))⟩)
  have Fo4 := own_fldI ev4 u83
  obtain ⟨s4, E_s4, evs4⟩ := own_exaRef u73
  have Fs4 := own_fldOf ev4 evs4
  have Fc4 := own_fldI evs4 u75
  obtain ⟨v4, cl4, Ar4, hat4, evv4⟩ := own_refArr u77
  have Fv4 := own_fldOf evs4 evv4
  have hl4 := own_lenEq evv4 hat4 u79
  have hz4 : cl4.slots.size = 1 := by rw [show (1 : Int32).toInt = 1 from by decide] at hl4; omega
  have A4 := own_Ar.some Ar4 (by omega)
  rw [hz4] at A4
  have hv4 : (cl4.slots[0]?).getD .null = .int (62 : Int32) := by rw [(own_elemEq (jj := 0) evv4 hat4 rfl rfl u81).2 |> (fun q => (q : cl4.slots[0]? = _))]; rfl
  obtain ⟨o5, E_o5, ev5⟩ := own_exaRef u57
  have S5 := Sta.start ev5 (Or.inr ⟨(hw _ (List.mem_of_getElem? (i := 6) rfl)), (hw _ (List.mem_of_getElem? (i := 52) rfl))⟩)
  have Fo5 := own_fldI ev5 u69
  obtain ⟨s5, E_s5, evs5⟩ := own_exaRef u59
  have Fs5 := own_fldOf ev5 evs5
  have Fc5 := own_fldI evs5 u61
  obtain ⟨v5, cl5, Ar5, hat5, evv5⟩ := own_refArr u63
  have Fv5 := own_fldOf evs5 evv5
  have hl5 := own_lenEq evv5 hat5 u65
  have hz5 : cl5.slots.size = 2 := by rw [show (2 : Int32).toInt = 2 from by decide] at hl5; omega
  have A5 := own_Ar.some Ar5 (by omega)
  rw [hz5] at A5
  have hv5 : (cl5.slots[0]?).getD .null = .int (62 : Int32) := by rw [(own_elemEq (jj := 0) evv5 hat5 rfl rfl u67).2 |> (fun q => (q : cl5.slots[0]? = _))]; rfl
  obtain ⟨cs, evc⟩ := is_v (Cond.before_iff.mp (hsets _ (List.mem_of_getElem? (i := 1) rfl)))
  have S_C := Sta.start evc (Or.inl (hsets _ (List.mem_of_getElem? (i := 0) rfl)))
  have hcs := own_notZero evc (Cond.before_iff.mp (hsets _ (List.mem_of_getElem? (i := 2) rfl)))
  obtain ⟨vF, evf, hF⟩ := own_isRef (Cond.before_iff.mp (hsets _ (List.mem_of_getElem? (i := 8) rfl)))
  have S_F := Sta.start evf (Or.inl (hsets _ (List.mem_of_getElem? (i := 7) rfl)))
  obtain ⟨n, o, h1, h2, h3, _, L, rfl, ⟨rfl, N⟩, hq⟩ := rm0 l s _ hw tables_1 i0 o0 o1 o2 o3 o4 o5 s0 s1 s2 s3 s4 s5 v0 v1 v2 v3 v4 v5 _ _ _ _ _ _ cs vF s.heap s.heap.size (Nat.le_refl _) S0 S1 S2 S3 S4 S5 S_C hcs S_F hF E_o0 Fs0 E_s0 Fc0 Fv0 A0 hv0 E_o1 Fs1 E_s1 Fc1 Fv1 A1 hv1 E_o2 Fs2 E_s2 Fc2 Fv2 A2 hv2 E_o3 Fs3 E_s3 Fc3 Fv3 A3 hv3 E_o4 Fs4 E_s4 Fc4 Fv4 A4 hv4 E_o5 Fs5 E_s5 Fc5 Fv5 A5 hv5 (Fo0.ne Fo1 (by decide)) (Fo0.ne Fo2 (by decide)) (Fo0.ne Fo3 (by decide)) (Fo0.ne Fo4 (by decide)) (Fo0.ne Fo5 (by decide)) (Fo1.ne Fo2 (by decide)) (Fo1.ne Fo3 (by decide)) (Fo1.ne Fo4 (by decide)) (Fo1.ne Fo5 (by decide)) p e ha hc hk s m _ below hf ((Spec.applies_iff_loose hf).mp happ).1 ⟨rfl, State.Warmed39.refl s, rfl⟩ trivial
  refine ⟨n, _, h1, h2, h3, hpost _ _ _ _ _ _ ⟨Cond.after_iff.mpr rfl, Cond.after_iff.mpr (eq_i res_at (Term.int_eval (1)) rfl), trivial⟩ ⟨hq.1, hq.2.1, (hq.2.2.sift fun y hy => Or.inr (N y hy)).mono (by decide) (by decide)⟩⟩
theorem main_1_1 : Claimed_1_1 := comes_1 fun _ _ _ _ _ _ h hF => ⟨h.1, hF⟩
theorem main_1_2 : Claimed_1_2 := comes_1 fun _ _ _ _ _ _ h hF => ⟨h.2.1, hF⟩
end Jvm.Pilot.@@N@@
namespace Jvm.Pilot.@@N@@
open Jvm Jvm.ClassFile Sem Op Lib Jvm.Free Jvm.Stand Jvm.Pilot.@@N@@.Jvm.D
/-! MADE BY PROGRAM (witnessworld.py) out of the Statement's table words and the real class files: 18 classes; the members and pool entries that the words name. The judged class is class 1, her method 2. -/
namespace start1
open Jvm.ClassFile
def u (s : String) : CpInfo := .utf8 (stringToUtf16 s)
/-- a pool by its gaps: so many unusable entries, then the entry; so many at the end -/
def gap : Nat → List CpInfo → List CpInfo
  | 0, r => r
  | n + 1, r => .unusable :: gap n r
def poolList (es : List (Nat × CpInfo)) (last : Nat) : List CpInfo := es.foldr (fun e r => gap e.1 (e.2 :: r)) (gap last [])
def pool (es : List (Nat × CpInfo)) (last : Nat) : Array CpInfo := ⟨poolList es last⟩
def fileOf (pool : Array CpInfo) (this : Nat) (attrs : Array Attribute := #[]) (ms : Array MethodInfo := #[]) (fl : Nat := 33) (sup : Nat := 0) (ifs : Array Nat := #[]) (fds : Array FieldInfo := #[]) : ClassFile where
  minorVersion := 0
  majorVersion := 65
  constantPool := pool
  accessFlags := fl
  thisClass := this
  superClass := sup
  interfaces := ifs
  fields := fds
  methods := ms
  attributes := attrs
def plain (name : String) (sup : Option ClassId) : Class where
  name := name
  kind := .ordinary
  loader := none
  accessFlags := 33
  super := sup
  interfaces := #[]
  cf := none
  fields := #[]
  methods := #[]
  instanceTypes := #[]
  staticTypes := #[]
  resolved := #[]
  callSites := []
  init := .initialized
  statics := none
  mirror := none

def pool0 : Array CpInfo := pool [(5, u "<init>"), (0, u "()V"), (1, .class_ 10), (1, u "java/lang/Object")] 113

def k0m0 : Method := { name := "<init>", desc := "()V", sig := { parameters := [], returnType := none }, accessFlags := 1, code := none }
/-- java/lang/Object -/
def k0 : Class := { plain "java/lang/Object" none with
  accessFlags := 33
  interfaces := #[]
  cf := some (fileOf pool0 8 #[] #[{ accessFlags := 1, nameIndex := 5, descriptorIndex := 6, attributes := #[] }] 33 0 #[] #[])
  fields := #[]
  methods := #[k0m0]
  instanceTypes := #[]
  staticTypes := #[]
  resolved := Array.replicate 124 none
  statics := none }

def pool1 : Array CpInfo := pool [(2, .class_ 4), (1, u "java/lang/Object"), (0, u "<init>"), (0, u "()V"), (0, .fieldref 8 9), (0, .class_ 10), (0, .nameAndType 11 12), (0, u "com/example/iota_flow/iotaflow/definition/Expression$Operator"), (0, u "EQUAL"), (0, u "Lcom/example/iota_flow/iotaflow/definition/Expression$Operator;"), (0, .fieldref 8 14), (0, .nameAndType 15 12), (0, u "NOT_EQUAL"), (0, .fieldref 8 17), (0, .nameAndType 18 12), (0, u "LESS"), (0, .fieldref 8 20), (0, .nameAndType 21 12), (0, u "AT_MOST"), (0, .fieldref 8 23), (0, .nameAndType 24 12), (0, u "GREATER"), (0, .fieldref 8 26), (0, .nameAndType 27 12), (0, u "AT_LEAST"), (0, .integer 2147483647), (0, .methodref 30 31), (0, .class_ 32), (0, .nameAndType 33 34), (0, u "com/example/iota_flow/iotaflow/definition/OperatorOrdersPinLaw"), (0, u "pick"), (0, u "(I)Lcom/example/iota_flow/iotaflow/definition/Expression$Operator;"), (0, .fieldref 8 36), (0, .nameAndType 37 38), (0, u "symbol"), (0, u "Ljava/lang/String;"), (0, .methodref 40 41), (0, .class_ 42), (0, .nameAndType 43 44), (0, u "java/lang/String"), (0, u "charAt"), (0, u "(I)C"), (0, .methodref 8 46), (0, .nameAndType 47 48), (0, u "orders"), (0, u "()Z"), (3, u "law"), (0, u "(I)Z")] 6

def k1m0 : Method := { name := "<init>", desc := "()V", sig := { parameters := [], returnType := none }, accessFlags := 1, code := none }
def k1c1 : Code := { maxStack := 2, maxLocals := 1, code := method_2_code, exceptionTable := #[], attributes := #[] }
def k1m1 : Method := { name := "pick", desc := "(I)Lcom/example/iota_flow/iotaflow/definition/Expression$Operator;", sig := { parameters := [.int], returnType := some (.object "com/example/iota_flow/iotaflow/definition/Expression$Operator") }, accessFlags := 10, code := some k1c1 }
def k1c2 : Code := { maxStack := 2, maxLocals := 6, code := code, exceptionTable := #[], attributes := #[] }
def k1m2 : Method := { name := "law", desc := "(I)Z", sig := { parameters := [.int], returnType := some .boolean }, accessFlags := 9, code := some k1c2 }
/-- com/example/iota_flow/iotaflow/definition/OperatorOrdersPinLaw -/
def k1 : Class := { plain "com/example/iota_flow/iotaflow/definition/OperatorOrdersPinLaw" (some 0) with
  accessFlags := 49
  interfaces := #[]
  cf := some (fileOf pool1 30 #[] #[{ accessFlags := 1, nameIndex := 5, descriptorIndex := 6, attributes := #[] }, { accessFlags := 10, nameIndex := 33, descriptorIndex := 34, attributes := #[] }, { accessFlags := 9, nameIndex := 52, descriptorIndex := 53, attributes := #[] }] 49 2 #[] #[])
  fields := #[]
  methods := #[k1m0, k1m1, k1m2]
  instanceTypes := #[]
  staticTypes := #[]
  resolved := Array.replicate 60 none
  statics := none }

def pool2 : Array CpInfo := pool [(1, .class_ 2), (0, u "java/lang/constant/Constable"), (0, .class_ 4), (0, u "java/lang/Object")] 6

/-- java/lang/constant/Constable -/
def k2 : Class := { plain "java/lang/constant/Constable" (some 0) with
  accessFlags := 1537
  interfaces := #[]
  cf := some (fileOf pool2 1 #[] #[] 1537 3 #[] #[])
  fields := #[]
  methods := #[]
  instanceTypes := #[]
  staticTypes := #[]
  resolved := Array.replicate 11 none
  statics := none }

def pool3 : Array CpInfo := pool [(1, .class_ 2), (0, u "java/lang/Comparable"), (0, .class_ 4), (0, u "java/lang/Object")] 7

/-- java/lang/Comparable -/
def k3 : Class := { plain "java/lang/Comparable" (some 0) with
  accessFlags := 1537
  interfaces := #[]
  cf := some (fileOf pool3 1 #[] #[] 1537 3 #[] #[])
  fields := #[]
  methods := #[]
  instanceTypes := #[]
  staticTypes := #[]
  resolved := Array.replicate 12 none
  statics := none }

def pool4 : Array CpInfo := pool [(1, .class_ 2), (0, u "java/io/Serializable"), (0, .class_ 4), (0, u "java/lang/Object")] 2

/-- java/io/Serializable -/
def k4 : Class := { plain "java/io/Serializable" (some 0) with
  accessFlags := 1537
  interfaces := #[]
  cf := some (fileOf pool4 1 #[] #[] 1537 3 #[] #[])
  fields := #[]
  methods := #[]
  instanceTypes := #[]
  staticTypes := #[]
  resolved := Array.replicate 7 none
  statics := none }

def pool5 : Array CpInfo := pool [(2, .class_ 4), (1, u "java/lang/Enum"), (0, u "name"), (0, u "Ljava/lang/String;"), (2, u "ordinal"), (0, u "I"), (1, .class_ 14), (1, u "java/lang/Object"), (4, u "hash"), (86, .class_ 108), (1, u "java/lang/Enum$EnumDesc"), (2, .class_ 112), (0, u "java/lang/constant/Constable"), (0, .class_ 114), (0, u "java/lang/Comparable"), (0, .class_ 116), (0, u "java/io/Serializable")] 87

/-- java/lang/Enum -/
def k5 : Class := { plain "java/lang/Enum" (some 0) with
  accessFlags := 1057
  interfaces := #[2, 3, 4]
  cf := some (fileOf pool5 2 #[.nestMembers #[106]] #[] 1057 12 #[111, 113, 115] #[{ accessFlags := 18, nameIndex := 5, descriptorIndex := 6, attributes := #[] }, { accessFlags := 18, nameIndex := 9, descriptorIndex := 10, attributes := #[] }, { accessFlags := 2, nameIndex := 19, descriptorIndex := 10, attributes := #[] }])
  fields := #[{ name := "name", type := (.object "java/lang/String"), accessFlags := 18, slot := 0, constantValue := 0 }, { name := "ordinal", type := .int, accessFlags := 18, slot := 1, constantValue := 0 }, { name := "hash", type := .int, accessFlags := 2, slot := 2, constantValue := 0 }]
  methods := #[]
  instanceTypes := #[(.object "java/lang/String"), .int, .int]
  staticTypes := #[]
  resolved := Array.replicate 204 none
  statics := none }

def pool6 : Array CpInfo := pool [(1, .class_ 2), (0, u "com/example/iota_flow/iotaflow/definition/Expression$Operator"), (0, .fieldref 1 4), (0, .nameAndType 5 6), (0, u "EQUAL"), (0, u "Lcom/example/iota_flow/iotaflow/definition/Expression$Operator;"), (0, .fieldref 1 8), (0, .nameAndType 9 6), (0, u "NOT_EQUAL"), (2, u "LESS"), (2, u "AT_MOST"), (2, u "GREATER"), (2, u "AT_LEAST"), (2, u "$VALUES"), (0, u "[Lcom/example/iota_flow/iotaflow/definition/Expression$Operator;"), (6, .class_ 34), (1, u "java/lang/Enum"), (8, u "symbol"), (0, u "Ljava/lang/String;"), (2, u "test"), (0, u "Ljava/util/function/IntPredicate;"), (40, u "orders"), (0, u "()Z"), (14, .class_ 106), (0, u "com/example/iota_flow/iotaflow/definition/Expression")] 34

def k6c0 : Code := { maxStack := 2, maxLocals := 1, code := prog_16_method_4_code, exceptionTable := #[], attributes := #[] }
def k6m0 : Method := { name := "orders", desc := "()Z", sig := { parameters := [], returnType := some .boolean }, accessFlags := 0, code := some k6c0 }
/-- com/example/iota_flow/iotaflow/definition/Expression$Operator -/
def k6 : Class := { plain "com/example/iota_flow/iotaflow/definition/Expression$Operator" (some 5) with
  accessFlags := 16433
  interfaces := #[]
  cf := some (fileOf pool6 1 #[.nestHost 105] #[{ accessFlags := 0, nameIndex := 89, descriptorIndex := 90, attributes := #[] }] 16433 32 #[] #[{ accessFlags := 16409, nameIndex := 5, descriptorIndex := 6, attributes := #[] }, { accessFlags := 16409, nameIndex := 9, descriptorIndex := 6, attributes := #[] }, { accessFlags := 16409, nameIndex := 12, descriptorIndex := 6, attributes := #[] }, { accessFlags := 16409, nameIndex := 15, descriptorIndex := 6, attributes := #[] }, { accessFlags := 16409, nameIndex := 18, descriptorIndex := 6, attributes := #[] }, { accessFlags := 16409, nameIndex := 21, descriptorIndex := 6, attributes := #[] }, { accessFlags := 16, nameIndex := 43, descriptorIndex := 44, attributes := #[] }, { accessFlags := 18, nameIndex := 47, descriptorIndex := 48, attributes := #[] }, { accessFlags := 4122, nameIndex := 24, descriptorIndex := 25, attributes := #[] }])
  fields := #[{ name := "EQUAL", type := (.object "com/example/iota_flow/iotaflow/definition/Expression$Operator"), accessFlags := 16409, slot := 0, constantValue := 0 }, { name := "NOT_EQUAL", type := (.object "com/example/iota_flow/iotaflow/definition/Expression$Operator"), accessFlags := 16409, slot := 1, constantValue := 0 }, { name := "LESS", type := (.object "com/example/iota_flow/iotaflow/definition/Expression$Operator"), accessFlags := 16409, slot := 2, constantValue := 0 }, { name := "AT_MOST", type := (.object "com/example/iota_flow/iotaflow/definition/Expression$Operator"), accessFlags := 16409, slot := 3, constantValue := 0 }, { name := "GREATER", type := (.object "com/example/iota_flow/iotaflow/definition/Expression$Operator"), accessFlags := 16409, slot := 4, constantValue := 0 }, { name := "AT_LEAST", type := (.object "com/example/iota_flow/iotaflow/definition/Expression$Operator"), accessFlags := 16409, slot := 5, constantValue := 0 }, { name := "symbol", type := (.object "java/lang/String"), accessFlags := 16, slot := 3, constantValue := 0 }, { name := "test", type := (.object "java/util/function/IntPredicate"), accessFlags := 18, slot := 4, constantValue := 0 }, { name := "$VALUES", type := (.array (.object "com/example/iota_flow/iotaflow/definition/Expression$Operator")), accessFlags := 4122, slot := 6, constantValue := 0 }]
  methods := #[k6m0]
  instanceTypes := #[(.object "java/lang/String"), .int, .int, (.object "java/lang/String"), (.object "java/util/function/IntPredicate")]
  staticTypes := #[(.object "com/example/iota_flow/iotaflow/definition/Expression$Operator"), (.object "com/example/iota_flow/iotaflow/definition/Expression$Operator"), (.object "com/example/iota_flow/iotaflow/definition/Expression$Operator"), (.object "com/example/iota_flow/iotaflow/definition/Expression$Operator"), (.object "com/example/iota_flow/iotaflow/definition/Expression$Operator"), (.object "com/example/iota_flow/iotaflow/definition/Expression$Operator"), (.array (.object "com/example/iota_flow/iotaflow/definition/Expression$Operator"))]
  resolved := Array.replicate 141 none
  statics := some 0 }

def pool7 : Array CpInfo := pool [(2, .class_ 4), (1, u "java/lang/CharSequence"), (42, .class_ 48), (0, u "java/lang/CharSequence$1CodePointIterator"), (10, .class_ 60), (0, u "java/lang/CharSequence$1CharIterator"), (5, .class_ 67), (0, u "java/lang/Object")] 63

/-- java/lang/CharSequence -/
def k7 : Class := { plain "java/lang/CharSequence" (some 0) with
  accessFlags := 1537
  interfaces := #[]
  cf := some (fileOf pool7 2 #[.nestMembers #[47, 59]] #[] 1537 66 #[] #[])
  fields := #[]
  methods := #[]
  instanceTypes := #[]
  staticTypes := #[]
  resolved := Array.replicate 131 none
  statics := none }

def pool8 : Array CpInfo := pool [(1, .class_ 2), (0, u "java/lang/constant/ConstantDesc"), (0, .class_ 4), (0, u "java/lang/Object")] 32

/-- java/lang/constant/ConstantDesc -/
def k8 : Class := { plain "java/lang/constant/ConstantDesc" (some 0) with
  accessFlags := 1537
  interfaces := #[]
  cf := some (fileOf pool8 1 #[] #[] 1537 3 #[] #[])
  fields := #[]
  methods := #[]
  instanceTypes := #[]
  staticTypes := #[]
  resolved := Array.replicate 37 none
  statics := none }

def pool9 : Array CpInfo := pool [(2, .class_ 4), (1, u "java/lang/Object"), (0, u "<init>"), (0, u "()V"), (2, .fieldref 10 11), (0, .class_ 12), (0, .nameAndType 13 14), (0, u "java/lang/String"), (0, u "value"), (0, u "[B"), (0, .fieldref 10 16), (0, .nameAndType 17 18), (0, u "coder"), (0, u "B"), (2, u "hash"), (0, u "I"), (2, u "hashIsZero"), (0, u "Z"), (11, .fieldref 10 39), (0, .nameAndType 40 26), (0, u "COMPACT_STRINGS"), (66, .class_ 109), (1, u "java/lang/StringLatin1"), (32, u "()Z"), (220, u "([BI)C"), (27, u "(II)V"), (35, u "(I)C"), (64, .methodref 10 493), (0, .nameAndType 494 142), (0, u "isLatin1"), (0, .methodref 107 496), (0, .nameAndType 497 363), (0, u "charAt"), (3, u "checkIndex"), (73, .class_ 576), (0, u "java/lang/CharSequence"), (22, u "CASE_INSENSITIVE_ORDER"), (0, u "Ljava/util/Comparator;"), (452, .fieldref 1054 1055), (0, .class_ 1056), (0, .nameAndType 1057 1058), (0, u "jdk/internal/util/Preconditions"), (0, u "SIOOBE_FORMATTER"), (0, u "Ljava/util/function/BiFunction;"), (0, .methodref 1054 1060), (0, .nameAndType 501 1061), (0, u "(IILjava/util/function/BiFunction;)I"), (39, u "serialPersistentFields"), (0, u "[Ljava/io/ObjectStreamField;"), (0, .class_ 1104), (0, u "java/lang/String$CaseInsensitiveComparator"), (1, .class_ 1107), (0, u "java/io/Serializable"), (0, .class_ 1109), (0, u "java/lang/Comparable"), (0, .class_ 1111), (0, u "java/lang/constant/Constable"), (0, .class_ 1113), (0, u "java/lang/constant/ConstantDesc"), (2, u "serialVersionUID"), (0, u "J"), (3, u "REPL"), (0, u "C"), (2, u "LATIN1"), (1, u "UTF16")] 323

def k9m0 : Method := { name := "<init>", desc := "()V", sig := { parameters := [], returnType := none }, accessFlags := 1, code := none }
def k9c1 : Code := { maxStack := 2, maxLocals := 2, code := jdk_42_method_56_code, exceptionTable := #[], attributes := #[] }
def k9m1 : Method := { name := "charAt", desc := "(I)C", sig := { parameters := [.int], returnType := some .char }, accessFlags := 1, code := some k9c1 }
def k9c2 : Code := { maxStack := 1, maxLocals := 1, code := jdk_42_method_154_code, exceptionTable := #[], attributes := #[] }
def k9m2 : Method := { name := "isLatin1", desc := "()Z", sig := { parameters := [], returnType := some .boolean }, accessFlags := 0, code := some k9c2 }
def k9c3 : Code := { maxStack := 3, maxLocals := 2, code := jdk_42_method_155_code, exceptionTable := #[], attributes := #[] }
def k9m3 : Method := { name := "checkIndex", desc := "(II)V", sig := { parameters := [.int, .int], returnType := none }, accessFlags := 8, code := some k9c3 }
/-- java/lang/String -/
def k9 : Class := { plain "java/lang/String" (some 0) with
  accessFlags := 49
  interfaces := #[4, 3, 7, 2, 8]
  cf := some (fileOf pool9 10 #[.nestMembers #[1103]] #[{ accessFlags := 1, nameIndex := 5, descriptorIndex := 6, attributes := #[] }, { accessFlags := 1, nameIndex := 497, descriptorIndex := 427, attributes := #[] }, { accessFlags := 0, nameIndex := 494, descriptorIndex := 142, attributes := #[] }, { accessFlags := 8, nameIndex := 501, descriptorIndex := 391, attributes := #[] }] 49 2 #[1106, 1108, 575, 1110, 1112] #[{ accessFlags := 18, nameIndex := 13, descriptorIndex := 14, attributes := #[] }, { accessFlags := 18, nameIndex := 17, descriptorIndex := 18, attributes := #[] }, { accessFlags := 2, nameIndex := 21, descriptorIndex := 22, attributes := #[] }, { accessFlags := 2, nameIndex := 25, descriptorIndex := 26, attributes := #[] }, { accessFlags := 26, nameIndex := 1116, descriptorIndex := 1117, attributes := #[] }, { accessFlags := 24, nameIndex := 40, descriptorIndex := 26, attributes := #[] }, { accessFlags := 26, nameIndex := 1101, descriptorIndex := 1102, attributes := #[] }, { accessFlags := 26, nameIndex := 1121, descriptorIndex := 1122, attributes := #[] }, { accessFlags := 25, nameIndex := 599, descriptorIndex := 600, attributes := #[] }, { accessFlags := 24, nameIndex := 1125, descriptorIndex := 18, attributes := #[] }, { accessFlags := 24, nameIndex := 1127, descriptorIndex := 18, attributes := #[] }])
  fields := #[{ name := "value", type := (.array .byte), accessFlags := 18, slot := 0, constantValue := 0 }, { name := "coder", type := .byte, accessFlags := 18, slot := 1, constantValue := 0 }, { name := "hash", type := .int, accessFlags := 2, slot := 2, constantValue := 0 }, { name := "hashIsZero", type := .boolean, accessFlags := 2, slot := 3, constantValue := 0 }, { name := "serialVersionUID", type := .long, accessFlags := 26, slot := 0, constantValue := 0 }, { name := "COMPACT_STRINGS", type := .boolean, accessFlags := 24, slot := 1, constantValue := 0 }, { name := "serialPersistentFields", type := (.array (.object "java/io/ObjectStreamField")), accessFlags := 26, slot := 2, constantValue := 0 }, { name := "REPL", type := .char, accessFlags := 26, slot := 3, constantValue := 0 }, { name := "CASE_INSENSITIVE_ORDER", type := (.object "java/util/Comparator"), accessFlags := 25, slot := 4, constantValue := 0 }, { name := "LATIN1", type := .byte, accessFlags := 24, slot := 5, constantValue := 0 }, { name := "UTF16", type := .byte, accessFlags := 24, slot := 6, constantValue := 0 }]
  methods := #[k9m0, k9m1, k9m2, k9m3]
  instanceTypes := #[(.array .byte), .byte, .int, .boolean]
  staticTypes := #[.long, .boolean, (.array (.object "java/io/ObjectStreamField")), .char, (.object "java/util/Comparator"), .byte, .byte]
  resolved := Array.replicate 1451 none
  statics := some 1 }

def pool10 : Array CpInfo := pool [(1, .class_ 2), (0, u "java/lang/String"), (1, .class_ 6), (1, u "java/lang/Object"), (0, u "<init>"), (0, u "()V"), (0, .methodref 1 10), (0, .nameAndType 11 12), (0, u "checkIndex"), (0, u "(II)V"), (1, .class_ 16), (1, u "java/lang/StringLatin1"), (36, u "([BI)C"), (67, u "$assertionsDisabled"), (0, u "Z"), (98, .class_ 223), (1, u "java/lang/StringLatin1$LinesSpliterator"), (28, u "charAt"), (137, .class_ 391), (0, u "java/lang/StringLatin1$CharsSpliterator")] 3

def k10m0 : Method := { name := "<init>", desc := "()V", sig := { parameters := [], returnType := none }, accessFlags := 0, code := none }
def k10c1 : Code := { maxStack := 2, maxLocals := 2, code := jdk_43_method_2_code, exceptionTable := #[], attributes := #[] }
def k10m1 : Method := { name := "charAt", desc := "([BI)C", sig := { parameters := [(.array .byte), .int], returnType := some .char }, accessFlags := 9, code := some k10c1 }
/-- java/lang/StringLatin1 -/
def k10 : Class := { plain "java/lang/StringLatin1" (some 0) with
  accessFlags := 48
  interfaces := #[]
  cf := some (fileOf pool10 14 #[.nestMembers #[390, 221]] #[{ accessFlags := 0, nameIndex := 7, descriptorIndex := 8, attributes := #[] }, { accessFlags := 9, nameIndex := 252, descriptorIndex := 53, attributes := #[] }] 48 4 #[] #[{ accessFlags := 4120, nameIndex := 121, descriptorIndex := 122, attributes := #[] }])
  fields := #[{ name := "$assertionsDisabled", type := .boolean, accessFlags := 4120, slot := 0, constantValue := 0 }]
  methods := #[k10m0, k10m1]
  instanceTypes := #[]
  staticTypes := #[.boolean]
  resolved := Array.replicate 395 none
  statics := none }

def pool11 : Array CpInfo := pool [(2, .class_ 4), (1, u "java/lang/Object"), (0, u "<init>"), (0, u "()V"), (17, .class_ 26), (1, u "jdk/internal/util/Preconditions"), (6, u "checkIndex"), (21, .class_ 56), (0, u "jdk/internal/util/Preconditions$4"), (57, .class_ 115), (0, u "jdk/internal/util/Preconditions$1"), (7, u "SIOOBE_FORMATTER"), (0, u "Ljava/util/function/BiFunction;"), (0, .class_ 126), (0, u "jdk/internal/util/Preconditions$2"), (3, u "AIOOBE_FORMATTER"), (0, .class_ 132), (0, u "jdk/internal/util/Preconditions$3"), (3, u "IOOBE_FORMATTER"), (41, u "(IILjava/util/function/BiFunction;)I")] 15

def k11m0 : Method := { name := "<init>", desc := "()V", sig := { parameters := [], returnType := none }, accessFlags := 1, code := none }
def k11c1 : Code := { maxStack := 3, maxLocals := 3, code := jdk_41_method_11_code, exceptionTable := #[], attributes := #[] }
def k11m1 : Method := { name := "checkIndex", desc := "(IILjava/util/function/BiFunction;)I", sig := { parameters := [.int, .int, (.object "java/util/function/BiFunction")], returnType := some .int }, accessFlags := 9, code := some k11c1 }
/-- jdk/internal/util/Preconditions -/
def k11 : Class := { plain "jdk/internal/util/Preconditions" (some 0) with
  accessFlags := 33
  interfaces := #[]
  cf := some (fileOf pool11 24 #[.nestMembers #[55, 131, 125, 114]] #[{ accessFlags := 1, nameIndex := 5, descriptorIndex := 6, attributes := #[] }, { accessFlags := 9, nameIndex := 33, descriptorIndex := 178, attributes := #[] }] 33 2 #[] #[{ accessFlags := 25, nameIndex := 123, descriptorIndex := 124, attributes := #[] }, { accessFlags := 25, nameIndex := 130, descriptorIndex := 124, attributes := #[] }, { accessFlags := 25, nameIndex := 136, descriptorIndex := 124, attributes := #[] }])
  fields := #[{ name := "SIOOBE_FORMATTER", type := (.object "java/util/function/BiFunction"), accessFlags := 25, slot := 0, constantValue := 0 }, { name := "AIOOBE_FORMATTER", type := (.object "java/util/function/BiFunction"), accessFlags := 25, slot := 1, constantValue := 0 }, { name := "IOOBE_FORMATTER", type := (.object "java/util/function/BiFunction"), accessFlags := 25, slot := 2, constantValue := 0 }]
  methods := #[k11m0, k11m1]
  instanceTypes := #[]
  staticTypes := #[(.object "java/util/function/BiFunction"), (.object "java/util/function/BiFunction"), (.object "java/util/function/BiFunction")]
  resolved := Array.replicate 194 none
  statics := some 2 }

def pool12 : Array CpInfo := pool [(9, u "<init>"), (6, .class_ 18), (1, u "java/lang/Object"), (0, u "()V"), (1, .class_ 23), (1, u "jdk/internal/util/ArraysSupport"), (0, u "LOG2_ARRAY_LONG_INDEX_SCALE"), (0, u "I"), (2, u "U"), (0, u "Ljdk/internal/misc/Unsafe;"), (8, u "BIG_ENDIAN"), (0, u "Z"), (8, u "LOG2_BYTE_BIT_SIZE"), (4, u "LOG2_ARRAY_INT_INDEX_SCALE"), (54, u "JLA"), (0, u "Ljdk/internal/access/JavaLangAccess;"), (11, u "LOG2_ARRAY_BOOLEAN_INDEX_SCALE"), (9, u "LOG2_ARRAY_BYTE_INDEX_SCALE"), (5, u "LOG2_ARRAY_CHAR_INDEX_SCALE"), (5, u "LOG2_ARRAY_SHORT_INDEX_SCALE"), (18, u "LOG2_ARRAY_FLOAT_INDEX_SCALE"), (24, u "LOG2_ARRAY_DOUBLE_INDEX_SCALE"), (89, u "T_BOOLEAN"), (2, u "T_CHAR"), (1, u "T_FLOAT"), (1, u "T_DOUBLE"), (1, u "T_BYTE"), (1, u "T_SHORT"), (1, u "T_INT"), (1, u "T_LONG"), (1, u "SOFT_MAX_ARRAY_LENGTH")] 83

def k12m0 : Method := { name := "<init>", desc := "()V", sig := { parameters := [], returnType := none }, accessFlags := 2, code := none }
/-- jdk/internal/util/ArraysSupport -/
def k12 : Class := { plain "jdk/internal/util/ArraysSupport" (some 0) with
  accessFlags := 33
  interfaces := #[]
  cf := some (fileOf pool12 21 #[] #[{ accessFlags := 2, nameIndex := 9, descriptorIndex := 19, attributes := #[] }] 33 16 #[] #[{ accessFlags := 24, nameIndex := 28, descriptorIndex := 29, attributes := #[] }, { accessFlags := 26, nameIndex := 38, descriptorIndex := 39, attributes := #[] }, { accessFlags := 25, nameIndex := 121, descriptorIndex := 25, attributes := #[] }, { accessFlags := 25, nameIndex := 131, descriptorIndex := 25, attributes := #[] }, { accessFlags := 25, nameIndex := 137, descriptorIndex := 25, attributes := #[] }, { accessFlags := 25, nameIndex := 143, descriptorIndex := 25, attributes := #[] }, { accessFlags := 25, nameIndex := 53, descriptorIndex := 25, attributes := #[] }, { accessFlags := 25, nameIndex := 24, descriptorIndex := 25, attributes := #[] }, { accessFlags := 25, nameIndex := 162, descriptorIndex := 25, attributes := #[] }, { accessFlags := 25, nameIndex := 187, descriptorIndex := 25, attributes := #[] }, { accessFlags := 26, nameIndex := 48, descriptorIndex := 25, attributes := #[] }, { accessFlags := 25, nameIndex := 277, descriptorIndex := 25, attributes := #[] }, { accessFlags := 25, nameIndex := 280, descriptorIndex := 25, attributes := #[] }, { accessFlags := 25, nameIndex := 282, descriptorIndex := 25, attributes := #[] }, { accessFlags := 25, nameIndex := 284, descriptorIndex := 25, attributes := #[] }, { accessFlags := 25, nameIndex := 286, descriptorIndex := 25, attributes := #[] }, { accessFlags := 25, nameIndex := 288, descriptorIndex := 25, attributes := #[] }, { accessFlags := 25, nameIndex := 290, descriptorIndex := 25, attributes := #[] }, { accessFlags := 25, nameIndex := 292, descriptorIndex := 25, attributes := #[] }, { accessFlags := 26, nameIndex := 108, descriptorIndex := 109, attributes := #[] }, { accessFlags := 25, nameIndex := 294, descriptorIndex := 25, attributes := #[] }])
  fields := #[{ name := "U", type := (.object "jdk/internal/misc/Unsafe"), accessFlags := 24, slot := 0, constantValue := 0 }, { name := "BIG_ENDIAN", type := .boolean, accessFlags := 26, slot := 1, constantValue := 0 }, { name := "LOG2_ARRAY_BOOLEAN_INDEX_SCALE", type := .int, accessFlags := 25, slot := 2, constantValue := 0 }, { name := "LOG2_ARRAY_BYTE_INDEX_SCALE", type := .int, accessFlags := 25, slot := 3, constantValue := 0 }, { name := "LOG2_ARRAY_CHAR_INDEX_SCALE", type := .int, accessFlags := 25, slot := 4, constantValue := 0 }, { name := "LOG2_ARRAY_SHORT_INDEX_SCALE", type := .int, accessFlags := 25, slot := 5, constantValue := 0 }, { name := "LOG2_ARRAY_INT_INDEX_SCALE", type := .int, accessFlags := 25, slot := 6, constantValue := 0 }, { name := "LOG2_ARRAY_LONG_INDEX_SCALE", type := .int, accessFlags := 25, slot := 7, constantValue := 0 }, { name := "LOG2_ARRAY_FLOAT_INDEX_SCALE", type := .int, accessFlags := 25, slot := 8, constantValue := 0 }, { name := "LOG2_ARRAY_DOUBLE_INDEX_SCALE", type := .int, accessFlags := 25, slot := 9, constantValue := 0 }, { name := "LOG2_BYTE_BIT_SIZE", type := .int, accessFlags := 26, slot := 10, constantValue := 0 }, { name := "T_BOOLEAN", type := .int, accessFlags := 25, slot := 11, constantValue := 0 }, { name := "T_CHAR", type := .int, accessFlags := 25, slot := 12, constantValue := 0 }, { name := "T_FLOAT", type := .int, accessFlags := 25, slot := 13, constantValue := 0 }, { name := "T_DOUBLE", type := .int, accessFlags := 25, slot := 14, constantValue := 0 }, { name := "T_BYTE", type := .int, accessFlags := 25, slot := 15, constantValue := 0 }, { name := "T_SHORT", type := .int, accessFlags := 25, slot := 16, constantValue := 0 }, { name := "T_INT", type := .int, accessFlags := 25, slot := 17, constantValue := 0 }, { name := "T_LONG", type := .int, accessFlags := 25, slot := 18, constantValue := 0 }, { name := "JLA", type := (.object "jdk/internal/access/JavaLangAccess"), accessFlags := 26, slot := 19, constantValue := 0 }, { name := "SOFT_MAX_ARRAY_LENGTH", type := .int, accessFlags := 25, slot := 20, constantValue := 0 }]
  methods := #[k12m0]
  instanceTypes := #[]
  staticTypes := #[(.object "jdk/internal/misc/Unsafe"), .boolean, .int, .int, .int, .int, .int, .int, .int, .int, .int, .int, .int, .int, .int, .int, .int, .int, .int, (.object "jdk/internal/access/JavaLangAccess"), .int]
  resolved := Array.replicate 378 none
  statics := none }

def pool13 : Array CpInfo := pool [(1, u "java/lang/Cloneable"), (0, .class_ 1), (0, u "java/lang/Object"), (0, .class_ 3)] 3

/-- java/lang/Cloneable -/
def k13 : Class := { plain "java/lang/Cloneable" (some 0) with
  accessFlags := 1537
  interfaces := #[]
  cf := some (fileOf pool13 2 #[] #[] 1537 4 #[] #[])
  fields := #[]
  methods := #[]
  instanceTypes := #[]
  staticTypes := #[]
  resolved := Array.replicate 8 none
  statics := none }

/-- the primitive byte -/
def k14 : Class := { plain "byte" none with kind := .primitive 'B', accessFlags := 0x411 }
/-- [B -/
def k15 : Class := { plain "[B" (some 0) with kind := .array 14 .byte, interfaces := #[13, 4], accessFlags := 1041 }

/-- the primitive int -/
def k16 : Class := { plain "int" none with kind := .primitive 'I', accessFlags := 0x411 }
/-- [I -/
def k17 : Class := { plain "[I" (some 0) with kind := .array 16 .int, interfaces := #[13, 4], accessFlags := 1041 }

def heap : Heap := #[{ cls := 6, slots := #[.ref 5, .ref 8, .ref 11, .ref 14, .ref 17, .ref 20, .null], vm := .statics 6 },
  { cls := 9, slots := #[.long 0, .int 1, .null, .int 0, .null, .int 0, .int 0], vm := .statics 9 },
  { cls := 11, slots := #[.null, .null, .null], vm := .statics 11 },
  { cls := 15, slots := #[.int 61, .int 61], vm := .none },
  { cls := 9, slots := #[.ref 3, .int 0, .int 0, .int 0], vm := .none },
  { cls := 6, slots := #[.null, .int 0, .int 0, .ref 4, .null], vm := .none },
  { cls := 15, slots := #[.int 33, .int 61], vm := .none },
  { cls := 9, slots := #[.ref 6, .int 0, .int 0, .int 0], vm := .none },
  { cls := 6, slots := #[.null, .int 1, .int 0, .ref 7, .null], vm := .none },
  { cls := 15, slots := #[.int 60], vm := .none },
  { cls := 9, slots := #[.ref 9, .int 0, .int 0, .int 0], vm := .none },
  { cls := 6, slots := #[.null, .int 2, .int 0, .ref 10, .null], vm := .none },
  { cls := 15, slots := #[.int 60, .int 61], vm := .none },
  { cls := 9, slots := #[.ref 12, .int 0, .int 0, .int 0], vm := .none },
  { cls := 6, slots := #[.null, .int 3, .int 0, .ref 13, .null], vm := .none },
  { cls := 15, slots := #[.int 62], vm := .none },
  { cls := 9, slots := #[.ref 15, .int 0, .int 0, .int 0], vm := .none },
  { cls := 6, slots := #[.null, .int 4, .int 0, .ref 16, .null], vm := .none },
  { cls := 15, slots := #[.int 62, .int 61], vm := .none },
  { cls := 9, slots := #[.ref 18, .int 0, .int 0, .int 0], vm := .none },
  { cls := 6, slots := #[.null, .int 5, .int 0, .ref 19, .null], vm := .none }]
def classes : Array Class := #[k0, k1, k2, k3, k4, k5, k6, k7, k8, k9, k10, k11, k12, k13, k14, k15, k16, k17]
def interned : List (Array UInt16 × Addr) := []
def slotsUsed : Nat := 81
def theMethod : MethodId := ⟨1, 2⟩
def args0 : Array Value := #[.int 5]
def aboutOver (below : List Frame) : State where
  vm := { classes := classes, interned := interned.toArray }
  heap := heap
  slotsUsed := slotsUsed
  threads := #[{ frames := .invoking theMethod args0 :: below }]
def below0 : List Frame := [.native { method := ⟨0, 0⟩, args := #[] }]
def about1 : State := aboutOver below0
def p0 : Program := .bare "" "" ""
def e0 : Env := launch0.env 0 0 0
theorem w_frames : about1.frames = Frame.invoking theMethod args0 :: below0 := rfl
set_option maxRecDepth 65536 in
theorem w_args : argsFit about1.vm theMethod args0 = true := by decide +kernel
set_option maxRecDepth 65536 in
theorem w_heap : heapFits about1 = true := by decide +kernel
set_option maxRecDepth 65536 in
theorem w_runnable : about1.curStatus? = some .runnable := by decide +kernel
set_option maxRecDepth 65536 in
theorem w_alone : about1.alone = true := by decide +kernel
set_option maxRecDepth 65536 in
theorem w_named : about1.methodNamed? x = some theMethod := by decide +kernel
set_option maxRecDepth 65536 in
theorem w_hears : about1.hears theMethod below0 = true := by decide +kernel
set_option maxRecDepth 65536 in
theorem w_ripe : about1.ripe theMethod args0 below0 = true := by decide +kernel
theorem w_running : about1.status = .running := rfl
set_option maxRecDepth 65536 in
theorem w_room : about1.hasRoom e0.platform room_1 = true :=
  launch0.hasRoom_least _ room_1 (by decide +kernel) (by decide +kernel) (by decide +kernel) (by decide +kernel) (by decide +kernel) (by decide +kernel)
theorem allAtoms_all (ts : List Jvm.Cond) (a : Array Jvm.Value) (st : Jvm.State) : (allAtoms ts).before a st = ts.all (fun c => c.before a st) := by
  induction ts with
  | nil => rfl
  | cons c t ih =>
    show (Jvm.Cond.and c (allAtoms t)).before a st = _
    rw [Jvm.Cond.before_and, ih, List.all_cons]
def words1 : List Jvm.Cond := Jvm.Cond.code x code maxLocals ret :: tables_1
/-- a 'code' word, met by the world's own term for the bytes: nothing is compared byte by byte -/
theorem code_word {y : MethodName} {bytes : ByteArray} {mx : Nat} {rt : Option FieldType} {a : Array Value} {s : State} {m : MethodId} {meth : Method} {c : Code} (h1 : s.methodNamed? y = some m) (h2 : s.vm.method? m = some meth) (h3 : meth.code = some c) (h4 : c.code = bytes)
    (h5 : (c.maxLocals == mx && c.exceptionTable.isEmpty && decide (c.maxStack ≤ mostOperands) && decide (meth.sig.returnType = rt) && !meth.locks && decide (parseMethodDescriptor y.desc = some meth.sig)) = true) : (Jvm.Cond.code y bytes mx rt).before a s = true := by
  simp only [Bool.and_eq_true, beq_iff_eq, Bool.not_eq_true', decide_eq_true_eq] at h5
  obtain ⟨⟨⟨⟨⟨g1, g2⟩, g3⟩, g4⟩, g5⟩, g6⟩ := h5
  simp [Cond.before, Cond.holds, Cond.value, h1, h2, h3, h4, g1, g2, g3, g4, g5, g6]
def isCode : Jvm.Cond → Bool
  | .code _ _ _ _ => true
  | _ => false
theorem all_split {L : List Jvm.Cond} {P : Jvm.Cond → Bool} (h1 : L.all (fun c => isCode c || P c) = true) (h2 : ∀ c ∈ L.filter isCode, P c = true) : L.all P = true := by
  refine List.all_eq_true.mpr fun c hc => ?_
  have h := List.all_eq_true.mp h1 c hc
  rcases Bool.eq_false_or_eq_true (isCode c) with hi | hi
  · exact h2 c (List.mem_filter.mpr ⟨hc, hi⟩)
  · simpa [hi] using h
set_option maxRecDepth 65536 in
theorem w_c0 : (Jvm.Cond.code x code maxLocals ret).before args0 about1 = true := code_word (m := ⟨1, 2⟩) (meth := k1m2) (c := k1c2) (by decide +kernel) rfl rfl rfl (by decide +kernel)
set_option maxRecDepth 65536 in
theorem w_c1 : (Jvm.Cond.code ({ cls := "com/example/iota_flow/iotaflow/definition/OperatorOrdersPinLaw", name := "pick", desc := "(I)Lcom/example/iota_flow/iotaflow/definition/Expression$Operator;" } : Jvm.MethodName) method_2_code (1 : Nat) (Option.some (Jvm.ClassFile.FieldType.object "com/example/iota_flow/iotaflow/definition/Expression$Operator"))).before args0 about1 = true := code_word (m := ⟨1, 1⟩) (meth := k1m1) (c := k1c1) (by decide +kernel) rfl rfl rfl (by decide +kernel)
set_option maxRecDepth 65536 in
theorem w_c2 : (Jvm.Cond.code ({ cls := "java/lang/String", name := "charAt", desc := "(I)C" } : Jvm.MethodName) jdk_42_method_56_code (2 : Nat) (Option.some Jvm.ClassFile.FieldType.char)).before args0 about1 = true := code_word (m := ⟨9, 1⟩) (meth := k9m1) (c := k9c1) (by decide +kernel) rfl rfl rfl (by decide +kernel)
set_option maxRecDepth 65536 in
theorem w_c3 : (Jvm.Cond.code ({ cls := "java/lang/String", name := "isLatin1", desc := "()Z" } : Jvm.MethodName) jdk_42_method_154_code (1 : Nat) (Option.some Jvm.ClassFile.FieldType.boolean)).before args0 about1 = true := code_word (m := ⟨9, 2⟩) (meth := k9m2) (c := k9c2) (by decide +kernel) rfl rfl rfl (by decide +kernel)
set_option maxRecDepth 65536 in
theorem w_c4 : (Jvm.Cond.code ({ cls := "java/lang/StringLatin1", name := "charAt", desc := "([BI)C" } : Jvm.MethodName) jdk_43_method_2_code (2 : Nat) (Option.some Jvm.ClassFile.FieldType.char)).before args0 about1 = true := code_word (m := ⟨10, 1⟩) (meth := k10m1) (c := k10c1) (by decide +kernel) rfl rfl rfl (by decide +kernel)
set_option maxRecDepth 65536 in
theorem w_c5 : (Jvm.Cond.code ({ cls := "java/lang/String", name := "checkIndex", desc := "(II)V" } : Jvm.MethodName) jdk_42_method_155_code (2 : Nat) (Option.none : Option Jvm.ClassFile.FieldType)).before args0 about1 = true := code_word (m := ⟨9, 3⟩) (meth := k9m3) (c := k9c3) (by decide +kernel) rfl rfl rfl (by decide +kernel)
set_option maxRecDepth 65536 in
theorem w_c6 : (Jvm.Cond.code ({ cls := "jdk/internal/util/Preconditions", name := "checkIndex", desc := "(IILjava/util/function/BiFunction;)I" } : Jvm.MethodName) jdk_41_method_11_code (3 : Nat) (Option.some Jvm.ClassFile.FieldType.int)).before args0 about1 = true := code_word (m := ⟨11, 1⟩) (meth := k11m1) (c := k11c1) (by decide +kernel) rfl rfl rfl (by decide +kernel)
set_option maxRecDepth 65536 in
theorem w_c7 : (Jvm.Cond.code ({ cls := "com/example/iota_flow/iotaflow/definition/Expression$Operator", name := "orders", desc := "()Z" } : Jvm.MethodName) prog_16_method_4_code (1 : Nat) (Option.some Jvm.ClassFile.FieldType.boolean)).before args0 about1 = true := code_word (m := ⟨6, 0⟩) (meth := k6m0) (c := k6c0) (by decide +kernel) rfl rfl rfl (by decide +kernel)
def codes1 : List Jvm.Cond := [Jvm.Cond.code x code maxLocals ret, Jvm.Cond.code ({ cls := "com/example/iota_flow/iotaflow/definition/OperatorOrdersPinLaw", name := "pick", desc := "(I)Lcom/example/iota_flow/iotaflow/definition/Expression$Operator;" } : Jvm.MethodName) method_2_code (1 : Nat) (Option.some (Jvm.ClassFile.FieldType.object "com/example/iota_flow/iotaflow/definition/Expression$Operator")), Jvm.Cond.code ({ cls := "java/lang/String", name := "charAt", desc := "(I)C" } : Jvm.MethodName) jdk_42_method_56_code (2 : Nat) (Option.some Jvm.ClassFile.FieldType.char), Jvm.Cond.code ({ cls := "java/lang/String", name := "isLatin1", desc := "()Z" } : Jvm.MethodName) jdk_42_method_154_code (1 : Nat) (Option.some Jvm.ClassFile.FieldType.boolean), Jvm.Cond.code ({ cls := "java/lang/StringLatin1", name := "charAt", desc := "([BI)C" } : Jvm.MethodName) jdk_43_method_2_code (2 : Nat) (Option.some Jvm.ClassFile.FieldType.char), Jvm.Cond.code ({ cls := "java/lang/String", name := "checkIndex", desc := "(II)V" } : Jvm.MethodName) jdk_42_method_155_code (2 : Nat) (Option.none : Option Jvm.ClassFile.FieldType), Jvm.Cond.code ({ cls := "jdk/internal/util/Preconditions", name := "checkIndex", desc := "(IILjava/util/function/BiFunction;)I" } : Jvm.MethodName) jdk_41_method_11_code (3 : Nat) (Option.some Jvm.ClassFile.FieldType.int), Jvm.Cond.code ({ cls := "com/example/iota_flow/iotaflow/definition/Expression$Operator", name := "orders", desc := "()Z" } : Jvm.MethodName) prog_16_method_4_code (1 : Nat) (Option.some Jvm.ClassFile.FieldType.boolean)]
set_option maxRecDepth 65536 in
theorem codes_eq : words1.filter isCode = codes1 := rfl
theorem w_codes : ∀ c ∈ words1.filter isCode, c.before args0 about1 = true := by
  rw [codes_eq]
  intro c hc
  simp only [codes1, List.mem_cons, List.not_mem_nil, or_false] at hc
  rcases hc with rfl | rfl | rfl | rfl | rfl | rfl | rfl | rfl
  · exact w_c0
  · exact w_c1
  · exact w_c2
  · exact w_c3
  · exact w_c4
  · exact w_c5
  · exact w_c6
  · exact w_c7
set_option maxRecDepth 65536 in
theorem w_t1 : (words1.take 24).all (fun c => isCode c || c.before args0 about1) = true := by decide +kernel
set_option maxRecDepth 65536 in
theorem w_t2 : ((words1.drop 24).take 24).all (fun c => isCode c || c.before args0 about1) = true := by decide +kernel
set_option maxRecDepth 65536 in
theorem w_t3 : ((words1.drop 24).drop 24).all (fun c => isCode c || c.before args0 about1) = true := by decide +kernel
theorem w_tables : (allAtoms (Jvm.Cond.code x code maxLocals ret :: tables_1)).before args0 about1 = true := by
  rw [allAtoms_all]
  show words1.all (fun c => c.before args0 about1) = true
  refine all_split ?_ w_codes
  rw [← List.take_append_drop 24 words1, List.all_append, w_t1, ← List.take_append_drop 24 (words1.drop 24), List.all_append, w_t2, w_t3]
  rfl
set_option maxRecDepth 65536 in
theorem w_rest : rest_1_c.before args0 about1 = true := by decide +kernel
set_option maxRecDepth 65536 in
theorem w_case : (Jvm.Cond.and given_1 narrow_1).before args0 about1 = true := by decide +kernel
theorem w_applies : (headSpec (Jvm.Cond.code x code maxLocals ret :: tables_1) room_1).applies x e0.platform about1 = true :=
  (Spec.applies_iff w_frames).mpr ⟨w_running, w_runnable, w_alone, w_named, w_hears, w_ripe, w_room, w_tables⟩
theorem atStart : AtStart classFile x code maxLocals ret World_1 tables_1 room_1 Calls_1 rest_1 Pre_1 launch0 p0 e0 about1 theMethod args0 below0 :=
  ⟨lists_1, trivial, launch0.admits_env _ _ _, launch0.least_env, fairChoices_fair.cas, fairChoices_fair.clock, w_frames, w_args, w_heap, w_applies, trivial, w_rest, w_case⟩
end start1
theorem witness_1 : WitnessClaimed_1 := ⟨start1.p0, start1.e0, start1.about1, start1.theMethod, start1.args0, start1.below0, start1.atStart⟩
end Jvm.Pilot.@@N@@
