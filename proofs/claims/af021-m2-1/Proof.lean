import JvmDerived
import JvmDerived.Pilot.@@N@@Statement
import JvmDerived.Pilot.@@N@@Code
set_option linter.unusedVariables false
set_option linter.unusedSimpArgs false
namespace Jvm.Pilot.@@N@@
open Jvm Jvm.ClassFile Sem Op Lib Jvm.Free Jvm.Stand Jvm.LawKit Jvm.RoadKit Bundle Jvm.Pilot.@@N@@.Jvm.D
section OwnKit
variable {p : Program} {l : Launch} {e : Env} {R : Room} {s : State} {m : MethodId} {args : Array Value} {below : List Frame} {meth : Method} {c : Code} {T : State} {locs : List Loc} {cells slots : Nat} {Z : State} {a0 : Array Value} {h h' : Heap} {K : State → Outcome → Prop}
/-- from here the run comes to an end that K takes -/
def own_Wp (tb : Tables) (e : Env) (below : List Frame) (K : State → Outcome → Prop) (st : State) : Prop := ∃ s₂ o, Steps tb e below st s₂ ∧ K s₂ o
theorem own_of {tb : Tables} {A B : State} (h : ∀ t, Steps tb e below B t → Steps tb e below A t) (w : own_Wp tb e below K B) : own_Wp tb e below K A := by
  obtain ⟨s₂, o, h1, h2⟩ := w
  exact ⟨s₂, o, h _ h1, h2⟩
def own_K (R : Room) (s : State) (below : List Frame) (Q : Option Value → Heap → List Loc → Prop) (s₂ : State) (o : Outcome) : Prop :=
  s₂.status = .running ∧ Ended s₂ below o ∧ ∃ v L, o = .returned v ∧ Q v s₂.heap L ∧ FrameEnd s o s₂ L R.cells R.slots
theorem own_ret {Q : Option Value → Heap → List Loc → Prop} (X : Stand p l e R s m args below meth c T locs cells slots) (hlk : meth.locks = false) (v : Option Value) (hv : meth.sig.returnType = none → v = none) {f : JFrame}
    (hs : ∀ fs, (∀ (f : JFrame) (acts : List Action), f.method = m → f.locked = none → f.entered = [] → (doReturn e (T.setTop f) acts v).1 = T.setFrames fs) → Steps p.tables e below (T.setTop f) (T.setFrames fs))
    (hQ : Q v T.heap locs) (hc : cells ≤ R.cells) (hsl : slots ≤ R.slots) : own_Wp p.tables e below (own_K R s below Q) (T.setTop f) := by
  obtain ⟨fs, hr, hrun, hended, hW, hsame⟩ := X.leave (v := v) hv hlk
  exact ⟨_, _, hs fs hr, hrun, hended, _, _, rfl, hQ, ⟨_, rfl⟩, hW, hsame.mono hc hsl⟩
theorem own_rtI {i : FieldType} {v : Option Value} {r : Option FieldType} (h1 : r = some i) : r = none → v = none := fun h => by rw [h1] at h; cases h
theorem own_retI (X : Stand p l e R s m args below meth c T locs cells slots) (hx : p.tables.exec = Jvm.exec) {pc : Nat} {Ls : Array Slot} {z : Int32} {rest : List Value} (hret : meth.sig.returnType = some .int) (hd : decode c.code pc = .ok (.ireturn, 1)) {fs : List Frame}
    (hl : ∀ (f : JFrame) (acts : List Action), f.method = m → f.locked = none → f.entered = [] → (doReturn e (T.setTop f) acts (some (.int z))).1 = T.setFrames fs) : Steps p.tables e below (T.setTop (mkF m pc Ls (.int z :: rest))) (T.setFrames fs) :=
  retOut X hx hret rfl (Or.inl ⟨rfl, Or.inl rfl, z, rfl⟩) hd hl
theorem own_retJ (X : Stand p l e R s m args below meth c T locs cells slots) (hx : p.tables.exec = Jvm.exec) {pc : Nat} {Ls : Array Slot} {z : Int64} {rest : List Value} (hret : meth.sig.returnType = some .long) (hd : decode c.code pc = .ok (.lreturn, 1)) {fs : List Frame}
    (hl : ∀ (f : JFrame) (acts : List Action), f.method = m → f.locked = none → f.entered = [] → (doReturn e (T.setTop f) acts (some (.long z))).1 = T.setFrames fs) : Steps p.tables e below (T.setTop (mkF m pc Ls (.long z :: rest))) (T.setFrames fs) :=
  retOut X hx hret rfl (Or.inr (Or.inl ⟨rfl, rfl, z, rfl⟩)) hd hl
theorem own_retR (X : Stand p l e R s m args below meth c T locs cells slots) (hx : p.tables.exec = Jvm.exec) {pc : Nat} {Ls : Array Slot} {w : Value} {t : FieldType} {rest : List Value} (hw : w.isRef = true) (ht : t.isReference = true) (hn : narrow t w = w) (hret : meth.sig.returnType = some t) (hd : decode c.code pc = .ok (.areturn, 1)) {fs : List Frame}
    (hl : ∀ (f : JFrame) (acts : List Action), f.method = m → f.locked = none → f.entered = [] → (doReturn e (T.setTop f) acts (some w)).1 = T.setFrames fs) : Steps p.tables e below (T.setTop (mkF m pc Ls (w :: rest))) (T.setFrames fs) :=
  retOut X hx hret hn (Or.inr (Or.inr (Or.inr (Or.inr ⟨rfl, ht, hw⟩)))) hd hl
/-- a method's contract: called so, at the heap h0, it returns as Q says -/
abbrev own_Ctr (l : Launch) (Z : State) (y : MethodName) (bytes : ByteArray) (maxL : Nat) (ret : Option FieldType) (ws : List Jvm.Cond) (rm : Room) (as' : Array Value) (h0 : Heap) (Q : Option Value → Heap → List Loc → Prop) : Prop :=
  MetFree l y (head1 (Jvm.Cond.code y bytes maxL ret :: ws) rm) (fun a U => a = as' ∧ Z.Warmed39 U.vm ∧ U.heap = h0) (fun _ _ _ _ _ => True) (fun _ U o U' => ∃ v L, o = .returned v ∧ Q v U'.heap L ∧ FrameEnd U o U' L rm.cells rm.slots)
theorem own_enter {y : MethodName} {bytes : ByteArray} {maxL : Nat} {ret : Option FieldType} {ws : List Jvm.Cond} {rm : Room} {as' : Array Value} {h0 : Heap} {Q : Option Value → Heap → List Loc → Prop} (hpl : plainFor y = true)
    (body : ∀ (p : Program) (e : Env) (s : State) (m : MethodId) (below : List Frame) (meth : Method) (c : Code) (s₁ : State), Stand p l e rm s m as' below meth c s₁ [] 0 0 → p.tables.exec = Jvm.exec → c.code = bytes → c.maxLocals = maxL → meth.sig.returnType = ret → meth.locks = false → Z.Warmed39 s.vm → s.vm.findClass y.cls = some m.cls → meth.name = y.name → s₁.heap = h0 → own_Wp p.tables e below (own_K rm s below Q) (s₁.setTop (entryFrame m as' maxL))) :
    own_Ctr l Z y bytes maxL ret ws rm as' h0 Q := by
  refine MetFree.of_bodySF hpl hisR ?_
  intro p e s m args below meth c s₁ Bd hml0 hP hK
  obtain ⟨rfl, hZ, hh⟩ := hP
  obtain ⟨s₂, o, h1, h2, h3, h4⟩ := body p e s m below meth c s₁ (Stand.of_body Bd) Bd.exec Bd.bytes hml0 Bd.returns Bd.notSynchronized hZ (findClass_of_methodNamed Bd.named) (name_of_methodNamed Bd.named Bd.method).1 (by rw [← hh, Bd.state]; rfl)
  exact ⟨s₂, o, h1, h2, h3, h4⟩
section Calls
variable {own C : String} {index maxL W : Nat} {y z : MethodName} {bytes : ByteArray} {ret : Option FieldType} {rm : Room} {Q : Option Value → Heap → List Loc → Prop} {argsL rest : List Value} {g : JFrame} {a : Addr}
theorem own_callS (X : Stand p l e R s m args below meth c T locs cells slots) (hx : p.tables.exec = Jvm.exec) (hZ : Z.Warmed39 s.vm) (hown : s.vm.findClass own = some m.cls)
    (w1 : (Jvm.Cond.methodLink own index y).before a0 Z = true) (w2 : (Jvm.Cond.static y).before a0 Z = true) (w3 : (Jvm.Cond.initialized y.cls).before a0 Z = true) (w4 : (Jvm.Cond.code y bytes maxL ret).before a0 Z = true)
    (hy : y.cls ≠ "java/lang/invoke/MethodHandle" ∧ y.cls ≠ "java/lang/invoke/VarHandle") (eT : T.heap = h) (hM : own_Ctr l Z y bytes maxL ret [] rm argsL.toArray h Q)
    (hf : rm.frames + 1 ≤ R.frames) (hl : W + (maxL + 11) + rm.locals ≤ R.locals) (hc : cells + rm.cells ≤ R.cells) (hs : slots + rm.slots ≤ R.slots)
    (hg : g.method = m) (hsize : g.locals.size = c.maxLocals) (hlen : ∀ sig, parseMethodDescriptor y.desc = some sig → argsL.length = sig.parameters.length) (hstack : g.stack = argsL.reverse ++ rest) (hW : 2 * g.monitorRoom + (rest.map fun v => v.category).sum ≤ W) (hdg : decode c.code g.pc = .ok (.invokestatic index, 3))
    (k : ∀ (T' : State) (L : List Loc) (v : Option Value), Stand p l e R s m args below meth c T' (locs ++ L) (cells + rm.cells) (slots + rm.slots) → Q v T'.heap L → own_Wp p.tables e below K (T'.setTop { g with pc := g.pc + 3, stack := v.toList ++ rest })) :
    own_Wp p.tables e below K (T.setTop g) := by
  obtain ⟨v, _, ⟨T', L', k', n'⟩, -, X', ⟨Lc, hQ, l1, y1, z1⟩, st⟩ := Jvm.LawKit.callS X hx hown (mvT hZ w1) (mvT hZ w2) (mvT hZ w3) (mvT hZ w4) hy (backOf (W := W) hM hZ w4 w3 hf hl) hg hsize hlen hstack hW hdg (fun _ _ => ⟨rfl, eT, hc, hs⟩)
  dsimp only [Pt.U, Pt.locs, Pt.cells, Pt.slots] at X' l1 y1 z1 st hQ
  subst l1 y1 z1
  exact own_of st (k _ _ _ X' hQ)
theorem own_callI (X : Stand p l e R s m args below meth c T locs cells slots) (hx : p.tables.exec = Jvm.exec) (hZ : Z.Warmed39 s.vm) (hy1 : y.name = "<init>") (hown : s.vm.findClass own = some m.cls)
    (w1 : (Jvm.Cond.methodLink own index y).before a0 Z = true) (w2 : (Jvm.Cond.instanceMethod y).before a0 Z = true) (w3 : (Jvm.Cond.initialized y.cls).before a0 Z = true) (w4 : (Jvm.Cond.code y bytes maxL none).before a0 Z = true)
    (hy : y.cls ≠ "java/lang/invoke/MethodHandle" ∧ y.cls ≠ "java/lang/invoke/VarHandle") (eT : T.heap = h) (hM : own_Ctr l Z y bytes maxL none [] rm (.ref a :: argsL).toArray h Q)
    (hf : rm.frames + 1 ≤ R.frames) (hl : W + (maxL + 11) + rm.locals ≤ R.locals) (hc : cells + rm.cells ≤ R.cells) (hs : slots + rm.slots ≤ R.slots)
    (hg : g.method = m) (hsize : g.locals.size = c.maxLocals) (hlen : ∀ sig, parseMethodDescriptor y.desc = some sig → argsL.length = sig.parameters.length) (hstack : g.stack = argsL.reverse ++ .ref a :: rest) (hW : 2 * g.monitorRoom + (rest.map fun v => v.category).sum ≤ W) (hdg : decode c.code g.pc = .ok (.invokespecial index, 3))
    (k : ∀ (T' : State) (L : List Loc) (v : Option Value), Stand p l e R s m args below meth c T' (locs ++ L) (cells + rm.cells) (slots + rm.slots) → Q v T'.heap L → own_Wp p.tables e below K (T'.setTop { g with pc := g.pc + 3, stack := v.toList ++ rest })) :
    own_Wp p.tables e below K (T.setTop g) := by
  obtain ⟨v, _, ⟨T', L', k', n'⟩, -, X', ⟨Lc, hQ, l1, y1, z1⟩, st⟩ := X.specialBack hx hy1 hown (mvT hZ w1) (mvT hZ w2) (mvT hZ w4) hy (backOf (W := W) hM hZ w4 w3 hf hl) hg hsize (Steps.refl _) hlen hstack hW hdg (fun _ _ => ⟨rfl, eT, hc, hs⟩)
  dsimp only [Pt.U, Pt.locs, Pt.cells, Pt.slots] at X' l1 y1 z1 st hQ
  subst l1 y1 z1
  exact own_of (fun t q => st.trans q) (k _ _ _ X' hQ)
theorem own_callV (X : Stand p l e R s m args below meth c T locs cells slots) (hx : p.tables.exec = Jvm.exec) (hZ : Z.Warmed39 s.vm) (hown : s.vm.findClass own = some m.cls)
    (w1 : (Jvm.Cond.methodLink own index y).before a0 Z = true) (w2 : (Jvm.Cond.declares y).before a0 Z = true) (w5 : (Jvm.Cond.selects C y y).before a0 Z = true) (w6 : (Jvm.Cond.instanceMethod y).before a0 Z = true) (w3 : (Jvm.Cond.initialized y.cls).before a0 Z = true) (w4 : (Jvm.Cond.code y bytes maxL ret).before a0 Z = true)
    (hy : y.cls ≠ "java/lang/invoke/MethodHandle" ∧ y.cls ≠ "java/lang/invoke/VarHandle") (eT : T.heap = h) (E : Exa Z h a C) (hM : own_Ctr l Z y bytes maxL ret [] rm (.ref a :: argsL).toArray h Q)
    (hf : rm.frames + 1 ≤ R.frames) (hl : W + (maxL + 11) + rm.locals ≤ R.locals) (hc : cells + rm.cells ≤ R.cells) (hs : slots + rm.slots ≤ R.slots)
    (hg : g.method = m) (hsize : g.locals.size = c.maxLocals) (hlen : ∀ sig, parseMethodDescriptor y.desc = some sig → argsL.length = sig.parameters.length) (hstack : g.stack = argsL.reverse ++ .ref a :: rest) (hW : 2 * g.monitorRoom + (rest.map fun v => v.category).sum ≤ W) (hdg : decode c.code g.pc = .ok (.invokevirtual index, 3))
    (k : ∀ (T' : State) (L : List Loc) (v : Option Value), Stand p l e R s m args below meth c T' (locs ++ L) (cells + rm.cells) (slots + rm.slots) → Q v T'.heap L → own_Wp p.tables e below K (T'.setTop { g with pc := g.pc + 3, stack := v.toList ++ rest })) :
    own_Wp p.tables e below K (T.setTop g) := by
  obtain ⟨cq, kq, qa, qb, qc⟩ := isOf hZ eT E
  obtain ⟨v, _, ⟨T', L', k', n'⟩, -, X', ⟨Lc, hQ, l1, y1, z1⟩, st⟩ := X.virtualBack hx hown (mvT hZ w1) (mvT hZ w2) (notFace_of_selects (args := #[]) (mvT hZ w5)) (mvT hZ w5) (mvT hZ w6) hy (backOf (W := W) hM hZ w4 w3 hf hl) qa qc hg hsize (Steps.refl _) hlen hstack hW hdg (fun _ _ => ⟨rfl, eT, hc, hs⟩)
  dsimp only [Pt.U, Pt.locs, Pt.cells, Pt.slots] at X' l1 y1 z1 st hQ
  subst l1 y1 z1
  exact own_of (fun t q => st.trans q) (k _ _ _ X' hQ)
theorem own_callP {nI : Nat} {C0 : String} (X : Stand p l e R s m args below meth c T locs cells slots) (hx : p.tables.exec = Jvm.exec) (hZ : Z.Warmed39 s.vm) (hown : s.vm.findClass own = some m.cls)
    (w1 : (Jvm.Cond.methodLink own index y).before a0 Z = true) (w2 : (Jvm.Cond.instanceMethod y).before a0 Z = true) (wi : (Jvm.Cond.instantiable y.cls nI).before a0 Z = true) (wp : (Jvm.Cond.privateMethod y).before a0 Z = true) (w3 : (Jvm.Cond.initialized y.cls).before a0 Z = true) (w4 : (Jvm.Cond.code y bytes maxL ret).before a0 Z = true)
    (hy : y.cls ≠ "java/lang/invoke/MethodHandle" ∧ y.cls ≠ "java/lang/invoke/VarHandle") (eT : T.heap = h) (E : Exa Z h a C0) (hM : own_Ctr l Z y bytes maxL ret [] rm (.ref a :: argsL).toArray h Q)
    (hf : rm.frames + 1 ≤ R.frames) (hl : W + (maxL + 11) + rm.locals ≤ R.locals) (hc : cells + rm.cells ≤ R.cells) (hs : slots + rm.slots ≤ R.slots)
    (hg : g.method = m) (hsize : g.locals.size = c.maxLocals) (hlen : ∀ sig, parseMethodDescriptor y.desc = some sig → argsL.length = sig.parameters.length) (hstack : g.stack = argsL.reverse ++ .ref a :: rest) (hW : 2 * g.monitorRoom + (rest.map fun v => v.category).sum ≤ W) (hdg : decode c.code g.pc = .ok (.invokevirtual index, 3))
    (k : ∀ (T' : State) (L : List Loc) (v : Option Value), Stand p l e R s m args below meth c T' (locs ++ L) (cells + rm.cells) (slots + rm.slots) → Q v T'.heap L → own_Wp p.tables e below K (T'.setTop { g with pc := g.pc + 3, stack := v.toList ++ rest })) :
    own_Wp p.tables e below K (T.setTop g) := by
  obtain ⟨cq, q1, q2⟩ := E.cell
  obtain ⟨ci, ki, i1, i2, -, i4, -⟩ := Cond.instantiable_spec (mvT (args := args) hZ wi)
  simp only [Bool.or_eq_false_iff] at i4
  have hpr : s.PrivateAt y := Cond.privateMethod_at (mvP hZ wp (args := #[]))
  have hsel : (Jvm.Cond.selects y.cls y y).before args s = true := selects_self_of_private i1 i2 i4.1 hpr (mvT hZ w2) hy
  obtain ⟨v, _, ⟨T', L', k', n'⟩, -, X', ⟨Lc, hQ, l1, y1, z1⟩, st⟩ := X.privateBack hx hown (mvT hZ w1) (mvT hZ w2) hsel hpr (mvT hZ w4) hy (backOf (W := W) hM hZ w4 w3 hf hl) hg hsize (Steps.refl _) (by rw [eT]; exact q1) q2 hlen hstack hW hdg (fun _ _ => ⟨rfl, eT, hc, hs⟩)
  dsimp only [Pt.U, Pt.locs, Pt.cells, Pt.slots] at X' l1 y1 z1 st hQ
  subst l1 y1 z1
  exact own_of (fun t q => st.trans q) (k _ _ _ X' hQ)
end Calls
end OwnKit
section OwnArr
variable {p : Program} {l : Launch} {e : Env} {R : Room} {s : State} {m : MethodId} {args : Array Value} {below : List Frame} {meth : Method} {c : Code} {T : State} {locs : List Loc} {cells slots : Nat} {Z : State} {a0 : Array Value} {h h' : Heap} {K : State → Outcome → Prop}
variable {a b : Addr} {ty : FieldType} {n sl : Nat} {f : Nat → Value} {v : Value} {ws : List Addr}
theorem own_nat {j : Int32} {i : Nat} (hj : j.toInt = (i : Int)) : j.toNatClampNeg = i := by
  show j.toInt.toNat = i
  rw [hj]; exact Int.toNat_natCast i
theorem own_nneg {j : Int32} {i : Nat} (hj : j.toInt = (i : Int)) : ¬ j < 0 := by
  rw [Int32.lt_iff_toInt_lt, hj]
  show ¬ ((i : Int) < 0)
  omega
/-- the array at a: its kind, its length, its elements -/
def own_Ar (Z : State) (h : Heap) (a : Addr) (ty : FieldType) (n : Nat) (f : Nat → Value) : Prop := n < 2147483648 ∧ ∃ c : Cell, Arr Z h a c ty ∧ c.slots.size = n ∧ ∀ i, i < n → c.slots[i]? = some (f i)
def own_set (f : Nat → Value) (i : Nat) (v : Value) : Nat → Value := fun k => if k = i then v else f k
theorem own_set_eq (f : Nat → Value) (i : Nat) (v : Value) : own_set f i v i = v := if_pos rfl
theorem own_set_ne {f : Nat → Value} {i k : Nat} {v : Value} (q : k ≠ i) : own_set f i v k = f k := if_neg q
theorem own_Ar.lt (F : own_Ar Z h a ty n f) : a < h.size := by obtain ⟨_, c, A, -⟩ := F; exact A.lt
theorem own_Ar.ext (F : own_Ar Z h a ty n f) (E : Ext h h') : own_Ar Z h' a ty n f := by obtain ⟨q, c, A, r⟩ := F; exact ⟨q, c, A.ext E, r⟩
theorem own_Ar.other (F : own_Ar Z h a ty n f) (W : Wr h h' b sl v) (q : a ≠ b) : own_Ar Z h' a ty n f := by obtain ⟨q0, c, A, r⟩ := F; exact ⟨q0, c, A.other W q, r⟩
theorem own_Ar.keep (F : own_Ar Z h a ty n f) (K : Keep h h' ws) (q : a ∉ ws) : own_Ar Z h' a ty n f := by obtain ⟨q0, c, A, r⟩ := F; exact ⟨q0, c, ⟨K.2.1 a c A.1 q, A.2⟩, r⟩
theorem own_Ar.fn {f' : Nat → Value} (F : own_Ar Z h a ty n f) (q : ∀ i, i < n → f i = f' i) : own_Ar Z h a ty n f' := by obtain ⟨q0, c, A, r1, r2⟩ := F; exact ⟨q0, c, A, r1, fun i hi => by rw [← q i hi]; exact r2 i hi⟩
theorem own_Ar.new {k : ClassId} {z : Int32} (A : Arr Z h a (newA k ty z) ty) (q : ¬ z < 0) (e : z.toNatClampNeg = n) : own_Ar Z h a ty n (fun _ => defaultValue ty) := by
  refine ⟨by rw [← e]; exact (back32 q).2, _, A, by rw [sz_new, e], fun i hi => ?_⟩
  simp [newA, e, hi]
theorem own_Ar.start (A : Arr Z h a c' ty) (hs : c'.slots.size < 2147483648) (H : ∀ i, i < c'.slots.size → c'.slots[i]? = some (f i)) : own_Ar Z h a ty c'.slots.size f := ⟨hs, _, A, rfl, H⟩
section Steps
variable {j : Int32} {i : Nat} {g : JFrame} {rest : List Value}
theorem own_in {cl : Cell} (hj : j.toInt = (i : Int)) (hi : i < n) (hsz : cl.slots.size = n) : ¬ (j < 0 ∨ cl.slots.size ≤ j.toNatClampNeg) := by
  rw [own_nat hj, hsz]
  rintro (q | q)
  · exact own_nneg hj q
  · omega
theorem own_iaload {v : Int32} (X : Stand p l e R s m args below meth c T locs cells slots) (hx : p.tables.exec = Jvm.exec) (hZ : Z.Warmed39 s.vm) (eT : T.heap = h) (A : own_Ar Z h a .int n f) (hj : j.toInt = (i : Int)) (hi : i < n) (hv : f i = .int v)
    (hg : g.method = m) (hs : g.stack = .int j :: .ref a :: rest) (hd : decode c.code g.pc = .ok (.iaload, 1)) (k : own_Wp p.tables e below K (T.setTop { g with pc := g.pc + 1, stack := .int v :: rest })) : own_Wp p.tables e below K (T.setTop g) := by
  obtain ⟨-, cl, A, hsz, H⟩ := A
  exact own_of (X.iaload hx (by rw [eT]; exact A.1) (State.isArrayOf_alike hZ.alike A.2.1) A.2.2 (own_in hj hi hsz) (by rw [own_nat hj, H i hi, hv]) hg hs hd) k
theorem own_laload {v : Int64} (X : Stand p l e R s m args below meth c T locs cells slots) (hx : p.tables.exec = Jvm.exec) (hZ : Z.Warmed39 s.vm) (eT : T.heap = h) (A : own_Ar Z h a .long n f) (hj : j.toInt = (i : Int)) (hi : i < n) (hv : f i = .long v)
    (hg : g.method = m) (hs : g.stack = .int j :: .ref a :: rest) (hd : decode c.code g.pc = .ok (.laload, 1)) (k : own_Wp p.tables e below K (T.setTop { g with pc := g.pc + 1, stack := .long v :: rest })) : own_Wp p.tables e below K (T.setTop g) := by
  obtain ⟨-, cl, A, hsz, H⟩ := A
  exact own_of (X.laload hx (by rw [eT]; exact A.1) (State.isArrayOf_alike hZ.alike A.2.1) A.2.2 (own_in hj hi hsz) (by rw [own_nat hj, H i hi, hv]) hg hs hd) k
theorem own_baload {v : Int32} (X : Stand p l e R s m args below meth c T locs cells slots) (hx : p.tables.exec = Jvm.exec) (hZ : Z.Warmed39 s.vm) (eT : T.heap = h) (A : own_Ar Z h a .byte n f) (hj : j.toInt = (i : Int)) (hi : i < n) (hv : f i = .int v)
    (hg : g.method = m) (hs : g.stack = .int j :: .ref a :: rest) (hd : decode c.code g.pc = .ok (.baload, 1)) (k : own_Wp p.tables e below K (T.setTop { g with pc := g.pc + 1, stack := .int v :: rest })) : own_Wp p.tables e below K (T.setTop g) := by
  obtain ⟨-, cl, A, hsz, H⟩ := A
  exact own_of (X.baloadBytes hx (by rw [eT]; exact A.1) (State.isArrayOf_alike hZ.alike A.2.1) A.2.2 (own_in hj hi hsz) (by rw [own_nat hj, H i hi, hv]) hg hs hd) k
theorem own_zaload {v : Int32} (X : Stand p l e R s m args below meth c T locs cells slots) (hx : p.tables.exec = Jvm.exec) (hZ : Z.Warmed39 s.vm) (eT : T.heap = h) (A : own_Ar Z h a .boolean n f) (hj : j.toInt = (i : Int)) (hi : i < n) (hv : f i = .int v)
    (hg : g.method = m) (hs : g.stack = .int j :: .ref a :: rest) (hd : decode c.code g.pc = .ok (.baload, 1)) (k : own_Wp p.tables e below K (T.setTop { g with pc := g.pc + 1, stack := .int v :: rest })) : own_Wp p.tables e below K (T.setTop g) := by
  obtain ⟨-, cl, A, hsz, H⟩ := A
  exact own_of (X.baloadBooleans hx (by rw [eT]; exact A.1) (State.isArrayOf_alike hZ.alike A.2.1) A.2.2 (own_in hj hi hsz) (by rw [own_nat hj, H i hi, hv]) hg hs hd) k
theorem own_aaload {C : String} {v : Value} (X : Stand p l e R s m args below meth c T locs cells slots) (hx : p.tables.exec = Jvm.exec) (hZ : Z.Warmed39 s.vm) (eT : T.heap = h) (A : own_Ar Z h a (.object C) n f) (hj : j.toInt = (i : Int)) (hi : i < n) (hv : f i = v)
    (hg : g.method = m) (hs : g.stack = .int j :: .ref a :: rest) (hd : decode c.code g.pc = .ok (.aaload, 1)) (k : own_Wp p.tables e below K (T.setTop { g with pc := g.pc + 1, stack := v :: rest })) : own_Wp p.tables e below K (T.setTop g) := by
  obtain ⟨-, cl, A, hsz, H⟩ := A
  exact own_of (X.aaload hx (by rw [eT]; exact A.1) (State.isArrayOf_alike hZ.alike A.2.1) rfl A.2.2 (own_in hj hi hsz) (by rw [own_nat hj, H i hi, hv]) hg hs hd) k
theorem own_len {z : Int32} (X : Stand p l e R s m args below meth c T locs cells slots) (hx : p.tables.exec = Jvm.exec) (hZ : Z.Warmed39 s.vm) (eT : T.heap = h) (A : own_Ar Z h a ty n f) (hz : z.toInt = (n : Int))
    (hg : g.method = m) (hs : g.stack = .ref a :: rest) (hd : decode c.code g.pc = .ok (.arraylength, 1)) (k : own_Wp p.tables e below K (T.setTop { g with pc := g.pc + 1, stack := .int z :: rest })) : own_Wp p.tables e below K (T.setTop g) := by
  obtain ⟨-, cl, A, hsz, H⟩ := A
  have q : cl.slots.size.toInt32 = z := by rw [hsz, ← own_nat hz]; exact (back32 (own_nneg hz)).1
  rw [← q] at k
  exact own_of (X.arraylength hx (by rw [eT]; exact A.1) (State.isArrayOf_alike hZ.alike A.2.1) hg hs hd) k
theorem own_Ar.set {cl : Cell} {hn : n < 2147483648} (A : Arr Z h a cl ty) (hsz : cl.slots.size = n) (H : ∀ i, i < n → cl.slots[i]? = some (f i)) (hi : i < n) (W : Wr h h' a i v) : own_Ar Z h' a ty n (own_set f i v) := by
  refine ⟨hn, _, A.same W, by rw [sz_set]; exact hsz, fun q hq => ?_⟩
  by_cases e : q = i
  · subst e; rw [own_set_eq]; simp [Cell.setSlot, hsz, hq]
  · rw [own_set_ne e, ← H q hq]; exact Array.getElem?_setIfInBounds_ne (Ne.symm e)
theorem own_stI {x : Int32} (X : Stand p l e R s m args below meth c T locs cells slots) (hx : p.tables.exec = Jvm.exec) (hZ : Z.Warmed39 s.vm) (eT : T.heap = h) (A : own_Ar Z h a .int n f) (hj : j.toInt = (i : Int)) (hi : i < n)
    (hg : g.method = m) (hs : g.stack = .int x :: .int j :: .ref a :: rest) (hd : decode c.code g.pc = .ok (.iastore, 1)) :
    ∃ T' h', Stand p l e R s m args below meth c T' (locs ++ [⟨a, i⟩]) cells slots ∧ T'.heap = h' ∧ Wr h h' a i (.int x) ∧ own_Ar Z h' a .int n (own_set f i (.int x)) ∧ ∀ target, Steps p.tables e below (T'.setTop { g with pc := g.pc + 1, stack := rest }) target → Steps p.tables e below (T.setTop g) target := by
  obtain ⟨hn, cl, A, hsz, H⟩ := A
  obtain ⟨T', h', X', e', W, st⟩ := stI X hx hZ eT A (own_in hj hi hsz) hg hs hd
  rw [own_nat hj] at X' W
  exact ⟨T', h', X', e', W, own_Ar.set (hn := hn) A hsz H hi W, st⟩
theorem own_stJ {x : Int64} (X : Stand p l e R s m args below meth c T locs cells slots) (hx : p.tables.exec = Jvm.exec) (hZ : Z.Warmed39 s.vm) (eT : T.heap = h) (A : own_Ar Z h a .long n f) (hj : j.toInt = (i : Int)) (hi : i < n)
    (hg : g.method = m) (hs : g.stack = .long x :: .int j :: .ref a :: rest) (hd : decode c.code g.pc = .ok (.lastore, 1)) :
    ∃ T' h', Stand p l e R s m args below meth c T' (locs ++ [⟨a, i⟩]) cells slots ∧ T'.heap = h' ∧ Wr h h' a i (.long x) ∧ own_Ar Z h' a .long n (own_set f i (.long x)) ∧ ∀ target, Steps p.tables e below (T'.setTop { g with pc := g.pc + 1, stack := rest }) target → Steps p.tables e below (T.setTop g) target := by
  obtain ⟨hn, cl, A, hsz, H⟩ := A
  obtain ⟨T', h', X', e', W, st⟩ := stJ X hx hZ eT A (own_in hj hi hsz) hg hs hd
  rw [own_nat hj] at X' W
  exact ⟨T', h', X', e', W, own_Ar.set (hn := hn) A hsz H hi W, st⟩
theorem own_stB {x : Int32} (X : Stand p l e R s m args below meth c T locs cells slots) (hx : p.tables.exec = Jvm.exec) (hZ : Z.Warmed39 s.vm) (eT : T.heap = h) (A : own_Ar Z h a .byte n f) (hj : j.toInt = (i : Int)) (hi : i < n)
    (hg : g.method = m) (hs : g.stack = .int x :: .int j :: .ref a :: rest) (hd : decode c.code g.pc = .ok (.bastore, 1)) :
    ∃ T' h', Stand p l e R s m args below meth c T' (locs ++ [⟨a, i⟩]) cells slots ∧ T'.heap = h' ∧ Wr h h' a i (.int x.toInt8.toInt32) ∧ own_Ar Z h' a .byte n (own_set f i (.int x.toInt8.toInt32)) ∧ ∀ target, Steps p.tables e below (T'.setTop { g with pc := g.pc + 1, stack := rest }) target → Steps p.tables e below (T.setTop g) target := by
  obtain ⟨hn, cl, A, hsz, H⟩ := A
  obtain ⟨T', h', X', e', W, st⟩ := stB X hx hZ eT A (own_in hj hi hsz) hg hs hd
  rw [own_nat hj] at X' W
  exact ⟨T', h', X', e', W, own_Ar.set (hn := hn) A hsz H hi W, st⟩
end Steps
theorem own_more {cells' slots' : Nat} (X : Stand p l e R s m args below meth c T locs cells slots) (h1 : cells ≤ cells') (h2 : slots ≤ slots') : Stand p l e R s m args below meth c T locs cells' slots' := { X with same := X.same.mono h1 h2 }
section Start
variable {C nm d : String}
theorem own_refArr {t : Term} (ha : (Jvm.Cond.arrayOf t ty).value args s none s [] = some true) : ∃ (a : Addr) (cl : Cell), Arr s s.heap a cl ty ∧ s.arrayAt? a = some cl ∧ t.eval args s none [] s = some (.ref a) := by
  obtain ⟨a, ev⟩ : ∃ a, t.eval args s none [] s = some (.ref a) := by
    simp only [Cond.value] at ha
    split at ha
    · cases ha
    · split at ha
      · exact ⟨_, by assumption⟩
      · cases ha
      · cases ha
  obtain ⟨cl, A⟩ := Arr.start ev ha
  exact ⟨a, cl, A, IntBox.arrayAt_of A.1 A.2.1 A.2.2, ev⟩
theorem own_exaRef {t : Term} {K : String} (h : (Jvm.Cond.exactly t K).value args s none s [] = some true) : ∃ a, Exa s s.heap a K ∧ t.eval args s none [] s = some (.ref a) := by
  obtain ⟨a', c', cell, k, e1, -⟩ := Cond.exactly_spec (Cond.before_iff.mpr h)
  exact ⟨a', Exa.start e1 h, e1⟩
theorem own_fldOf {t : Term} {v : Value} {O : String} (ev : t.eval args s none [] s = some (.ref a)) (e : (Term.field t O nm d).eval args s none [] s = some v) : Fld s s.heap a O nm d v := by
  simp only [Term.eval, ev, Option.bind_eq_bind, Option.bind_some] at e
  exact Fld.start e
theorem own_fldI {t : Term} {x : Int32} {O : String} (ev : t.eval args s none [] s = some (.ref a)) (h : (Jvm.Cond.eq (.field t O nm d) (.int x)).value args s none s [] = some true) : Fld s s.heap a O nm d (.int x) := by
  cases he : (Term.field t O nm d).eval args s none [] s with
  | none => simp [Cond.value, he] at h
  | some w =>
    have : w = .int x := by
      simp only [Cond.value, he] at h
      rw [show (Term.int x).eval args s none [] s = some (.int x) from rfl] at h
      cases w <;> simp at h
      subst h; rfl
    subst this
    exact own_fldOf ev he
theorem own_isRef {t : Term} (h : (Jvm.Cond.isRef t).value args s none s [] = some true) : ∃ v, t.eval args s none [] s = some v ∧ (v = .null ∨ ∃ b, v = .ref b) := by
  simp only [Cond.value] at h
  cases he : t.eval args s none [] s with
  | none => simp [he] at h
  | some w => rw [he] at h; cases w <;> simp at h <;> simp
theorem own_notZero {t : Term} {x : Int32} (ev : t.eval args s none [] s = some (.int x)) (h : (Jvm.Cond.not (Jvm.Cond.eq t (.int 0))).value args s none s [] = some true) : ¬ x = 0 := by
  intro q
  subst q
  simp [Cond.value, ev, Term.eval] at h
theorem own_ltOf {x y : Int32} {i k : Nat} (h1 : x.toInt = (i : Int)) (h2 : y.toInt = (k : Int)) (h : i < k) : x < y := by
  rw [Int32.lt_iff_toInt_lt, h1, h2]; omega
theorem own_Ar.some {cl : Cell} (A : Arr Z h a cl ty) (hs : cl.slots.size < 2147483648) : own_Ar Z h a ty cl.slots.size (fun k => (cl.slots[k]?).getD .null) :=
  ⟨hs, _, A, rfl, fun i hi => by simp [Array.getElem?_eq_getElem hi]⟩
/-- a static that holds an array, at the start -/
theorem own_staArr (hi : (Jvm.Cond.initialized C).before args s = true) (hl : (Jvm.Cond.laysStatic C nm d).before args s = true) (ha : (Jvm.Cond.arrayOf (.static C nm d) ty).value args s none s [] = some true) :
    ∃ (a : Addr) (cl : Cell), Sta s s.heap C nm d (.ref a) ∧ Arr s s.heap a cl ty ∧ s.arrayAt? a = some cl ∧ (Term.static C nm d).eval args s none [] s = some (.ref a) := by
  obtain ⟨a, ev⟩ : ∃ a, (Term.static C nm d).eval args s none [] s = some (.ref a) := by
    simp only [Cond.value] at ha
    split at ha
    · cases ha
    · split at ha
      · exact ⟨_, by assumption⟩
      · cases ha
      · cases ha
  obtain ⟨cl, A⟩ := Arr.start ev ha
  exact ⟨a, cl, Sta.start ev (Or.inr ⟨hi, hl⟩), A, IntBox.arrayAt_of A.1 A.2.1 A.2.2, ev⟩
/-- an element that the case names -/
theorem own_elemEq {t i b : Term} {x : Int32} {cl : Cell} {jj : Int32} {idx : List Nat} (ev : t.eval args s none idx s = some (.ref a)) (hat : s.arrayAt? a = some cl) (hi : i.eval args s none idx s = some (.int jj)) (hb : b.eval args s none idx s = some (.int x)) (h : (Jvm.Cond.eq (.elem t i) b).value args s none s idx = some true) : ¬ jj < 0 ∧ cl.slots[jj.toNatClampNeg]? = some (.int x) := by
  simp only [Cond.value, hb] at h
  cases he : (Term.elem t i).eval args s none idx s with
  | none => simp [he] at h
  | some w =>
    obtain ⟨a', j', cl', q1, q2, q3, q4, q5⟩ := Term.elem_spec he
    cases ev.symm.trans q1
    cases hi.symm.trans q2
    cases hat.symm.trans q3
    rw [he] at h
    cases w <;> simp at h
    subst h
    exact ⟨fun z => q4 (Or.inl z), q5⟩
theorem own_lenEq {t : Term} {x : Int32} {cl : Cell} (ev : t.eval args s none [] s = some (.ref a)) (hat : s.arrayAt? a = some cl) (h : (Jvm.Cond.eq (.length t) (.int x)).value args s none s [] = some true) : (cl.slots.size : Int) = x.toInt := by
  simp only [Cond.value, Term.eval, ev, hat, Option.bind_eq_bind, Option.bind_some] at h
  by_cases q : cl.slots.size < 2147483648
  · simp [q] at h
    rw [← h]
    exact (Int32.toInt_ofNat_of_lt q).symm
  · simp [q] at h
theorem own_or {A B : Jvm.Cond} {idx : List Nat} (h : (Jvm.Cond.or A B).value args s none s idx = some true) : A.value args s none s idx = some true ∨ B.value args s none s idx = some true := by
  simp only [Cond.value] at h
  split at h
  · exact Or.inr h
  · exact Or.inl h
theorem own_leV {A B : Term} {x y : Int32} {idx : List Nat} (ha : A.eval args s none idx s = some (.int x)) (hb : B.eval args s none idx s = some (.int y)) (h : (Jvm.Cond.le A B).value args s none s idx = some true) : x.toInt ≤ y.toInt := by
  rw [Cond.le_ints ha hb] at h
  exact Int32.le_iff_toInt_le.mp (by simpa using h)
theorem own_ltV {A B : Term} {x y : Int32} {idx : List Nat} (ha : A.eval args s none idx s = some (.int x)) (hb : B.eval args s none idx s = some (.int y)) (h : (Jvm.Cond.lt A B).value args s none s idx = some true) : x.toInt < y.toInt := by
  simp only [Cond.value, ha, hb] at h
  exact Int32.lt_iff_toInt_lt.mp (by simpa using h)
theorem own_idx {k : Nat} (hk : k < 2147483648) : (k.toInt32).toInt = (k : Int) := Int32.toInt_ofNat_of_lt hk
section Elems
variable {t b : Term} {cl : Cell} {x lo hi : Int32} {k : Nat}
theorem own_elemK (ev : ∀ idx, t.eval args s none idx s = some (.ref a)) (hat : s.arrayAt? a = some cl) (hk : k < 2147483648) (hb : b.eval args s none [k] s = some (.int x)) (h : (Jvm.Cond.eq (.elem t (.index 0)) b).value args s none s [k] = some true) : cl.slots[k]? = some (.int x) := by
  have q := (own_elemEq (ev _) hat (Term.index_eval k) hb h).2
  rwa [own_nat (own_idx hk)] at q
theorem own_all1 (ev : ∀ idx, t.eval args s none idx s = some (.ref a)) (hat : s.arrayAt? a = some cl) (hn : cl.slots.size < 2147483648) (h : (Jvm.Cond.all t (.or (.le (.int lo) (.index 0)) (.eq (.elem t (.index 0)) b))).value args s none s [] = some true) (hk : k < cl.slots.size) (h1 : (k : Int) < lo.toInt) (hb : b.eval args s none [k] s = some (.int x)) : cl.slots[k]? = some (.int x) := by
  rcases own_or (Cond.all_elim (ev _) hat h k hk) with q | q
  · have := own_leV rfl (Term.index_eval k) q; rw [own_idx (by omega)] at this; omega
  · exact own_elemK ev hat (by omega) hb q
theorem own_all2 (ev : ∀ idx, t.eval args s none idx s = some (.ref a)) (hat : s.arrayAt? a = some cl) (hn : cl.slots.size < 2147483648) (h : (Jvm.Cond.all t (.or (.lt (.index 0) (.int lo)) (.or (.le (.int hi) (.index 0)) (.eq (.elem t (.index 0)) b)))).value args s none s [] = some true) (hk : k < cl.slots.size) (h1 : lo.toInt ≤ (k : Int)) (h2 : (k : Int) < hi.toInt) (hb : b.eval args s none [k] s = some (.int x)) : cl.slots[k]? = some (.int x) := by
  rcases own_or (Cond.all_elim (ev _) hat h k hk) with q | q
  · have := own_ltV (Term.index_eval k) rfl q; rw [own_idx (by omega)] at this; omega
  · rcases own_or q with q | q
    · have := own_leV rfl (Term.index_eval k) q; rw [own_idx (by omega)] at this; omega
    · exact own_elemK ev hat (by omega) hb q
theorem own_all3 (ev : ∀ idx, t.eval args s none idx s = some (.ref a)) (hat : s.arrayAt? a = some cl) (hn : cl.slots.size < 2147483648) (h : (Jvm.Cond.all t (.or (.lt (.index 0) (.int lo)) (.eq (.elem t (.index 0)) b))).value args s none s [] = some true) (hk : k < cl.slots.size) (h1 : lo.toInt ≤ (k : Int)) (hb : b.eval args s none [k] s = some (.int x)) : cl.slots[k]? = some (.int x) := by
  rcases own_or (Cond.all_elim (ev _) hat h k hk) with q | q
  · have := own_ltV (Term.index_eval k) rfl q; rw [own_idx (by omega)] at this; omega
  · exact own_elemK ev hat (by omega) hb q
theorem own_one (ev : ∀ idx, t.eval args s none idx s = some (.ref a)) (hat : s.arrayAt? a = some cl) (h : (Jvm.Cond.eq (.elem t (.int lo)) (.int x)).value args s none s [] = some true) (hk : lo.toInt = (k : Int)) : cl.slots[k]? = some (.int x) := by
  have q := (own_elemEq (ev _) hat rfl rfl h).2
  rwa [own_nat hk] at q
end Elems
end Start
end OwnArr
def own_exp (c : Int32) : Int32 := if c.toInt < 32 ∨ 126 < c.toInt ∨ c.toInt = 60 ∨ c.toInt = 62 ∨ c.toInt = 38 ∨ c.toInt = 34 then 0 else 1
def own_pl (k : Nat) : Int32 := if k < 32 ∨ 126 < k ∨ k = 60 ∨ k = 62 ∨ k = 38 ∨ k = 34 then 0 else 1
theorem own_ltn {c : Int32} (h0 : ¬ c < 0) (h : c < 128) : c.toNatClampNeg < 128 := by
  have q := nat_of h0
  rw [Int32.lt_iff_toInt_lt] at h
  have l : (128 : Int32).toInt = 128 := by decide
  omega
theorem own_pl_exp {c : Int32} (h0 : ¬ c < 0) (h : c < 128) : own_pl c.toNatClampNeg = own_exp c := by
  have q := nat_of h0
  unfold own_pl own_exp
  have : (c.toNatClampNeg < 32 ∨ 126 < c.toNatClampNeg ∨ c.toNatClampNeg = 60 ∨ c.toNatClampNeg = 62 ∨ c.toNatClampNeg = 38 ∨ c.toNatClampNeg = 34) ↔ (c.toInt < 32 ∨ 126 < c.toInt ∨ c.toInt = 60 ∨ c.toInt = 62 ∨ c.toInt = 38 ∨ c.toInt = 34) := by omega
  simp only [this]
theorem own_exp01 (c : Int32) : own_exp c = 0 ∨ own_exp c = 1 := by unfold own_exp; split <;> simp
theorem own_pn0 : plainName "com/example/superlink/superlink/Xml" = true := by first | (simp [plainName, overriddenIn]; done) | decide +kernel
theorem d1_0 : decode prog_53_method_3_code 0 = .ok (.iload_n 0, 1) := by decide +kernel
theorem d1_1 : decode prog_53_method_3_code 1 = .ok (.ifCond .lt 23, 3) := by decide +kernel
theorem d1_24 : decode prog_53_method_3_code 24 = .ok (.iconst 0, 1) := by decide +kernel
theorem d1_25 : decode prog_53_method_3_code 25 = .ok (.ireturn, 1) := by decide +kernel
theorem d1_4 : decode prog_53_method_3_code 4 = .ok (.iload_n 0, 1) := by decide +kernel
theorem d1_5 : decode prog_53_method_3_code 5 = .ok (.getstatic 28, 3) := by decide +kernel
theorem d1_8 : decode prog_53_method_3_code 8 = .ok (.arraylength, 1) := by decide +kernel
theorem d1_9 : decode prog_53_method_3_code 9 = .ok (.if_icmp .ge 15, 3) := by decide +kernel
theorem d1_12 : decode prog_53_method_3_code 12 = .ok (.getstatic 28, 3) := by decide +kernel
theorem d1_15 : decode prog_53_method_3_code 15 = .ok (.iload_n 0, 1) := by decide +kernel
theorem d1_16 : decode prog_53_method_3_code 16 = .ok (.baload, 1) := by decide +kernel
theorem d1_17 : decode prog_53_method_3_code 17 = .ok (.ifCond .eq 7, 3) := by decide +kernel
theorem d1_20 : decode prog_53_method_3_code 20 = .ok (.iconst 1, 1) := by decide +kernel
theorem d1_21 : decode prog_53_method_3_code 21 = .ok (.goto 4, 3) := by decide +kernel
def Q_rm1 (Z : State) (p1 : Int32) (a1 : Addr) (f : Nat → Value) (h0 : Heap) (n0 : Nat) (v : Option Value) (h : Heap) (L : List Loc) : Prop := v = some (.int (own_exp p1)) ∧ Fr n0 L ∧ h = h0
set_option maxRecDepth 65536 in
set_option maxHeartbeats 40000000 in
theorem rm1 (l : Launch) (Z : State) (a0 : Array Value) (hw : ∀ d ∈ tables_1, d.before a0 Z = true) (ws : List Jvm.Cond) (p1 : Int32) (a1 : Addr) (f : Nat → Value) (h0 : Heap) (n0 : Nat) (Z0 : n0 ≤ h0.size) (S_PLAIN : Sta Z h0 "com/example/superlink/superlink/Xml" "PLAIN" "[Z" (.ref a1)) (A_PLAIN : own_Ar Z h0 a1 .boolean 128 f) (hf : ∀ i, i < 128 → f i = .int (own_pl i)) :
    own_Ctr l Z (⟨"com/example/superlink/superlink/Xml", "isPlain", "(I)Z"⟩ : MethodName) prog_53_method_3_code 1 (some .boolean) ws ({ frames := 0, cells := 0, slots := 0, locals := 0 } : Room) #[(.int p1)] h0 (Q_rm1 Z p1 a1 f h0 n0) := by
  refine own_enter (plainFor_of_name own_pn0) ?_
  intro p e s m below meth c s₁ X0 hx hby hml hrt hlk hZ hown hnm e0
  have N0 := Fr.nil n0
  have Zs := Z0
  rw [show entryFrame m #[(.int p1)] 1 = mkF m 0 #[.val (.int p1)] [] from by first | (simp [entryFrame, mkF, argsToLocals, Value.category]; done) | rfl]
  show own_Wp _ _ _ _ (s₁.setTop (mkF m 0 #[.val (.int p1)] []))
  refine own_of (fun t k => XS.iloadN X0.here hx rfl (hb hby d1_0) rfl k) ?_
  show own_Wp _ _ _ _ (s₁.setTop (mkF m 1 #[.val (.int p1)] [(.int p1)]))
  by_cases hc1 : p1 < (0 : Int32)
  · skip
    refine own_of (fun t k => XS.ifYes X0.here hx rfl (pc0 := 1) (pc' := 24) rfl (hb hby d1_1) rfl ((if0 _ _).trans (tlt hc1).1) (by decide) (by decide) k) ?_
    show own_Wp _ _ _ _ (s₁.setTop (mkF m 24 #[.val (.int p1)] []))
    refine own_of (fun t k => XS.iconst X0.here hx rfl (hb hby d1_24) k) ?_
    show own_Wp _ _ _ _ (s₁.setTop (mkF m 25 #[.val (.int p1)] [(.int (0 : Int32))]))
    refine own_ret X0 hlk (some (.int (0 : Int32))) (own_rtI hrt) (fun fs hr => retN X0 hx (t := .boolean) hrt (by simp) (hb hby d1_25) hr) ?_ (by decide) (by decide)
    rw [e0]
    show some _ = some (Value.int (own_exp p1)) ∧ _
    have q1 := hc1; rw [Int32.lt_iff_toInt_lt] at q1
    have l0 : (0 : Int32).toInt = 0 := by decide
    refine ⟨?_, N0, rfl⟩
    unfold own_exp
    rw [if_pos (by omega)]
  · skip
    refine own_of (fun t k => XS.ifNo X0.here hx rfl (hb hby d1_1) rfl ((if0 _ _).trans (flt hc1).1) k) ?_
    show own_Wp _ _ _ _ (s₁.setTop (mkF m 4 #[.val (.int p1)] []))
    refine own_of (fun t k => XS.iloadN X0.here hx rfl (hb hby d1_4) rfl k) ?_
    show own_Wp _ _ _ _ (s₁.setTop (mkF m 5 #[.val (.int p1)] [(.int p1)]))
    obtain ⟨T1, X1, e1, st1⟩ := getS2 X0 hx hZ hown (host := "") (Or.inl (hw _ (List.mem_of_getElem? (i := 4) rfl))) Via.refl e0 S_PLAIN (g := (mkF m 5 #[.val (.int p1)] [(.int p1)])) rfl (hb hby d1_5)
    refine own_of st1 ?_
    show own_Wp _ _ _ _ (T1.setTop (mkF m 8 #[.val (.int p1)] [(.ref a1), (.int p1)]))
    refine own_len X1 hx hZ e1 A_PLAIN (z := (128 : Int32)) (by decide) (g := (mkF m 8 #[.val (.int p1)] [(.ref a1), (.int p1)])) rfl rfl (hb hby d1_8) ?_
    show own_Wp _ _ _ _ (T1.setTop (mkF m 9 #[.val (.int p1)] [(.int (128 : Int32)), (.int p1)]))
    by_cases hc9 : p1 < (128 : Int32)
    · skip
      refine own_of (fun t k => XS.icmpNo X1.here hx rfl (hb hby d1_9) rfl (tlt hc9).2.1 k) ?_
      show own_Wp _ _ _ _ (T1.setTop (mkF m 12 #[.val (.int p1)] []))
      obtain ⟨T2, X2, e2, st2⟩ := getS2 X1 hx hZ hown (host := "") (Or.inl (hw _ (List.mem_of_getElem? (i := 4) rfl))) Via.refl e1 S_PLAIN (g := (mkF m 12 #[.val (.int p1)] [])) rfl (hb hby d1_12)
      refine own_of st2 ?_
      show own_Wp _ _ _ _ (T2.setTop (mkF m 15 #[.val (.int p1)] [(.ref a1)]))
      refine own_of (fun t k => XS.iloadN X2.here hx rfl (hb hby d1_15) rfl k) ?_
      show own_Wp _ _ _ _ (T2.setTop (mkF m 16 #[.val (.int p1)] [(.int p1), (.ref a1)]))
      refine own_zaload X2 hx hZ e2 A_PLAIN (j := p1) (i := p1.toNatClampNeg) (v := (own_pl p1.toNatClampNeg)) (nat_of hc1) (own_ltn hc1 hc9) (hf _ (own_ltn hc1 hc9)) (g := (mkF m 16 #[.val (.int p1)] [(.int p1), (.ref a1)])) rfl rfl (hb hby d1_16) ?_
      show own_Wp _ _ _ _ (T2.setTop (mkF m 17 #[.val (.int p1)] [(.int (own_pl p1.toNatClampNeg))]))
      by_cases hc17 : (own_pl p1.toNatClampNeg) = (0 : Int32)
      · skip
        refine own_of (fun t k => XS.ifYes X2.here hx rfl (pc0 := 17) (pc' := 24) rfl (hb hby d1_17) rfl ((if0 _ _).trans (teq hc17).1) (by decide) (by decide) k) ?_
        show own_Wp _ _ _ _ (T2.setTop (mkF m 24 #[.val (.int p1)] []))
        refine own_of (fun t k => XS.iconst X2.here hx rfl (hb hby d1_24) k) ?_
        show own_Wp _ _ _ _ (T2.setTop (mkF m 25 #[.val (.int p1)] [(.int (0 : Int32))]))
        refine own_ret X2 hlk (some (.int (0 : Int32))) (own_rtI hrt) (fun fs hr => retN X2 hx (t := .boolean) hrt (by simp) (hb hby d1_25) hr) ?_ (by decide) (by decide)
        rw [e2]
        show some _ = some (Value.int (own_exp p1)) ∧ _
        have q := own_pl_exp hc1 hc9
        rw [← q, hc17]; exact ⟨rfl, N0, rfl⟩
      · skip
        refine own_of (fun t k => XS.ifNo X2.here hx rfl (hb hby d1_17) rfl ((if0 _ _).trans (feq hc17).1) k) ?_
        show own_Wp _ _ _ _ (T2.setTop (mkF m 20 #[.val (.int p1)] []))
        refine own_of (fun t k => XS.iconst X2.here hx rfl (hb hby d1_20) k) ?_
        show own_Wp _ _ _ _ (T2.setTop (mkF m 21 #[.val (.int p1)] [(.int (1 : Int32))]))
        refine own_of (fun t k => XS.goto X2.here hx rfl (pc0 := 21) (pc' := 25) rfl (hb hby d1_21) (by decide) (by decide) k) ?_
        show own_Wp _ _ _ _ (T2.setTop (mkF m 25 #[.val (.int p1)] [(.int (1 : Int32))]))
        refine own_ret X2 hlk (some (.int (1 : Int32))) (own_rtI hrt) (fun fs hr => retN X2 hx (t := .boolean) hrt (by simp) (hb hby d1_25) hr) ?_ (by decide) (by decide)
        rw [e2]
        show some _ = some (Value.int (own_exp p1)) ∧ _
        have q := own_pl_exp hc1 hc9
        rw [q] at hc17
        rcases own_exp01 p1 with q1 | q1
        · exact absurd q1 hc17
        · rw [q1]; exact ⟨rfl, N0, rfl⟩
    · skip
      refine own_of (fun t k => XS.icmpYes X1.here hx rfl (pc0 := 9) (pc' := 24) rfl (hb hby d1_9) rfl (flt hc9).2.1 (by decide) (by decide) k) ?_
      show own_Wp _ _ _ _ (T1.setTop (mkF m 24 #[.val (.int p1)] []))
      refine own_of (fun t k => XS.iconst X1.here hx rfl (hb hby d1_24) k) ?_
      show own_Wp _ _ _ _ (T1.setTop (mkF m 25 #[.val (.int p1)] [(.int (0 : Int32))]))
      refine own_ret X1 hlk (some (.int (0 : Int32))) (own_rtI hrt) (fun fs hr => retN X1 hx (t := .boolean) hrt (by simp) (hb hby d1_25) hr) ?_ (by decide) (by decide)
      rw [e1]
      show some _ = some (Value.int (own_exp p1)) ∧ _
      have q1 := hc1; rw [Int32.lt_iff_toInt_lt] at q1
      have q9 := hc9; rw [Int32.lt_iff_toInt_lt] at q9
      have l0 : (0 : Int32).toInt = 0 := by decide
      have l128 : (128 : Int32).toInt = 128 := by decide
      refine ⟨?_, N0, rfl⟩
      unfold own_exp
      rw [if_pos (by omega)]
theorem own_pn1 : plainName "com/example/superlink/superlink/XmlIsPlainPinLaw" = true := by first | (simp [plainName, overriddenIn]; done) | decide +kernel
theorem d2_0 : decode method_2_code 0 = .ok (.iload_n 0, 1) := by decide +kernel
theorem d2_1 : decode method_2_code 1 = .ok (.bipush 32, 2) := by decide +kernel
theorem d2_3 : decode method_2_code 3 = .ok (.if_icmp .ge 5, 3) := by decide +kernel
theorem d2_6 : decode method_2_code 6 = .ok (.iconst 0, 1) := by decide +kernel
theorem d2_7 : decode method_2_code 7 = .ok (.ireturn, 1) := by decide +kernel
theorem d2_8 : decode method_2_code 8 = .ok (.iload_n 0, 1) := by decide +kernel
theorem d2_9 : decode method_2_code 9 = .ok (.bipush 126, 2) := by decide +kernel
theorem d2_11 : decode method_2_code 11 = .ok (.if_icmp .le 5, 3) := by decide +kernel
theorem d2_14 : decode method_2_code 14 = .ok (.iconst 0, 1) := by decide +kernel
theorem d2_15 : decode method_2_code 15 = .ok (.ireturn, 1) := by decide +kernel
theorem d2_16 : decode method_2_code 16 = .ok (.iload_n 0, 1) := by decide +kernel
theorem d2_17 : decode method_2_code 17 = .ok (.bipush 60, 2) := by decide +kernel
theorem d2_19 : decode method_2_code 19 = .ok (.if_icmp .ne 5, 3) := by decide +kernel
theorem d2_22 : decode method_2_code 22 = .ok (.iconst 0, 1) := by decide +kernel
theorem d2_23 : decode method_2_code 23 = .ok (.ireturn, 1) := by decide +kernel
theorem d2_24 : decode method_2_code 24 = .ok (.iload_n 0, 1) := by decide +kernel
theorem d2_25 : decode method_2_code 25 = .ok (.bipush 62, 2) := by decide +kernel
theorem d2_27 : decode method_2_code 27 = .ok (.if_icmp .ne 5, 3) := by decide +kernel
theorem d2_30 : decode method_2_code 30 = .ok (.iconst 0, 1) := by decide +kernel
theorem d2_31 : decode method_2_code 31 = .ok (.ireturn, 1) := by decide +kernel
theorem d2_32 : decode method_2_code 32 = .ok (.iload_n 0, 1) := by decide +kernel
theorem d2_33 : decode method_2_code 33 = .ok (.bipush 38, 2) := by decide +kernel
theorem d2_35 : decode method_2_code 35 = .ok (.if_icmp .ne 5, 3) := by decide +kernel
theorem d2_38 : decode method_2_code 38 = .ok (.iconst 0, 1) := by decide +kernel
theorem d2_39 : decode method_2_code 39 = .ok (.ireturn, 1) := by decide +kernel
theorem d2_40 : decode method_2_code 40 = .ok (.iload_n 0, 1) := by decide +kernel
theorem d2_41 : decode method_2_code 41 = .ok (.bipush 34, 2) := by decide +kernel
theorem d2_43 : decode method_2_code 43 = .ok (.if_icmp .ne 5, 3) := by decide +kernel
theorem d2_46 : decode method_2_code 46 = .ok (.iconst 0, 1) := by decide +kernel
theorem d2_47 : decode method_2_code 47 = .ok (.ireturn, 1) := by decide +kernel
theorem d2_48 : decode method_2_code 48 = .ok (.iconst 1, 1) := by decide +kernel
theorem d2_49 : decode method_2_code 49 = .ok (.ireturn, 1) := by decide +kernel
def Q_rm2 (Z : State) (p1 : Int32) (h0 : Heap) (n0 : Nat) (v : Option Value) (h : Heap) (L : List Loc) : Prop := v = some (.int (own_exp p1)) ∧ Fr n0 L ∧ h = h0
set_option maxRecDepth 65536 in
set_option maxHeartbeats 40000000 in
theorem rm2 (l : Launch) (Z : State) (a0 : Array Value) (hw : ∀ d ∈ tables_1, d.before a0 Z = true) (ws : List Jvm.Cond) (p1 : Int32) (h0 : Heap) (n0 : Nat) (Z0 : n0 ≤ h0.size)  :
    own_Ctr l Z (⟨"com/example/superlink/superlink/XmlIsPlainPinLaw", "expected", "(I)Z"⟩ : MethodName) method_2_code 1 (some .boolean) ws ({ frames := 0, cells := 0, slots := 0, locals := 0 } : Room) #[(.int p1)] h0 (Q_rm2 Z p1 h0 n0) := by
  refine own_enter (plainFor_of_name own_pn1) ?_
  intro p e s m below meth c s₁ X0 hx hby hml hrt hlk hZ hown hnm e0
  have N0 := Fr.nil n0
  have Zs := Z0
  rw [show entryFrame m #[(.int p1)] 1 = mkF m 0 #[.val (.int p1)] [] from by first | (simp [entryFrame, mkF, argsToLocals, Value.category]; done) | rfl]
  show own_Wp _ _ _ _ (s₁.setTop (mkF m 0 #[.val (.int p1)] []))
  refine own_of (fun t k => XS.iloadN X0.here hx rfl (hb hby d2_0) rfl k) ?_
  show own_Wp _ _ _ _ (s₁.setTop (mkF m 1 #[.val (.int p1)] [(.int p1)]))
  refine own_of (fun t k => XS.bipush X0.here hx rfl (hb hby d2_1) k) ?_
  show own_Wp _ _ _ _ (s₁.setTop (mkF m 3 #[.val (.int p1)] [(.int (32 : Int32)), (.int p1)]))
  by_cases hc3 : p1 < (32 : Int32)
  · skip
    refine own_of (fun t k => XS.icmpNo X0.here hx rfl (hb hby d2_3) rfl (tlt hc3).2.1 k) ?_
    show own_Wp _ _ _ _ (s₁.setTop (mkF m 6 #[.val (.int p1)] []))
    refine own_of (fun t k => XS.iconst X0.here hx rfl (hb hby d2_6) k) ?_
    show own_Wp _ _ _ _ (s₁.setTop (mkF m 7 #[.val (.int p1)] [(.int (0 : Int32))]))
    refine own_ret X0 hlk (some (.int (0 : Int32))) (own_rtI hrt) (fun fs hr => retN X0 hx (t := .boolean) hrt (by simp) (hb hby d2_7) hr) ?_ (by decide) (by decide)
    rw [e0]
    have q3 := hc3; rw [Int32.lt_iff_toInt_lt] at q3
    have l32 : (32 : Int32).toInt = 32 := by decide
    refine ⟨?_, N0, rfl⟩
    unfold own_exp
    rw [if_pos (by omega)]
  · skip
    refine own_of (fun t k => XS.icmpYes X0.here hx rfl (pc0 := 3) (pc' := 8) rfl (hb hby d2_3) rfl (flt hc3).2.1 (by decide) (by decide) k) ?_
    show own_Wp _ _ _ _ (s₁.setTop (mkF m 8 #[.val (.int p1)] []))
    refine own_of (fun t k => XS.iloadN X0.here hx rfl (hb hby d2_8) rfl k) ?_
    show own_Wp _ _ _ _ (s₁.setTop (mkF m 9 #[.val (.int p1)] [(.int p1)]))
    refine own_of (fun t k => XS.bipush X0.here hx rfl (hb hby d2_9) k) ?_
    show own_Wp _ _ _ _ (s₁.setTop (mkF m 11 #[.val (.int p1)] [(.int (126 : Int32)), (.int p1)]))
    by_cases hc11 : (126 : Int32) < p1
    · skip
      refine own_of (fun t k => XS.icmpNo X0.here hx rfl (hb hby d2_11) rfl (tlt hc11).2.2.2 k) ?_
      show own_Wp _ _ _ _ (s₁.setTop (mkF m 14 #[.val (.int p1)] []))
      refine own_of (fun t k => XS.iconst X0.here hx rfl (hb hby d2_14) k) ?_
      show own_Wp _ _ _ _ (s₁.setTop (mkF m 15 #[.val (.int p1)] [(.int (0 : Int32))]))
      refine own_ret X0 hlk (some (.int (0 : Int32))) (own_rtI hrt) (fun fs hr => retN X0 hx (t := .boolean) hrt (by simp) (hb hby d2_15) hr) ?_ (by decide) (by decide)
      rw [e0]
      have q3 := hc3; rw [Int32.lt_iff_toInt_lt] at q3
      have q11 := hc11; rw [Int32.lt_iff_toInt_lt] at q11
      have l32 : (32 : Int32).toInt = 32 := by decide
      have l126 : (126 : Int32).toInt = 126 := by decide
      refine ⟨?_, N0, rfl⟩
      unfold own_exp
      rw [if_pos (by omega)]
    · skip
      refine own_of (fun t k => XS.icmpYes X0.here hx rfl (pc0 := 11) (pc' := 16) rfl (hb hby d2_11) rfl (flt hc11).2.2.2 (by decide) (by decide) k) ?_
      show own_Wp _ _ _ _ (s₁.setTop (mkF m 16 #[.val (.int p1)] []))
      refine own_of (fun t k => XS.iloadN X0.here hx rfl (hb hby d2_16) rfl k) ?_
      show own_Wp _ _ _ _ (s₁.setTop (mkF m 17 #[.val (.int p1)] [(.int p1)]))
      refine own_of (fun t k => XS.bipush X0.here hx rfl (hb hby d2_17) k) ?_
      show own_Wp _ _ _ _ (s₁.setTop (mkF m 19 #[.val (.int p1)] [(.int (60 : Int32)), (.int p1)]))
      by_cases hc19 : p1 = (60 : Int32)
      · skip
        refine own_of (fun t k => XS.icmpNo X0.here hx rfl (hb hby d2_19) rfl (teq hc19).2 k) ?_
        show own_Wp _ _ _ _ (s₁.setTop (mkF m 22 #[.val (.int p1)] []))
        refine own_of (fun t k => XS.iconst X0.here hx rfl (hb hby d2_22) k) ?_
        show own_Wp _ _ _ _ (s₁.setTop (mkF m 23 #[.val (.int p1)] [(.int (0 : Int32))]))
        refine own_ret X0 hlk (some (.int (0 : Int32))) (own_rtI hrt) (fun fs hr => retN X0 hx (t := .boolean) hrt (by simp) (hb hby d2_23) hr) ?_ (by decide) (by decide)
        rw [e0]
        have q3 := hc3; rw [Int32.lt_iff_toInt_lt] at q3
        have q11 := hc11; rw [Int32.lt_iff_toInt_lt] at q11
        have q19 := hc19; rw [← Int32.toInt_inj] at q19
        have l32 : (32 : Int32).toInt = 32 := by decide
        have l60 : (60 : Int32).toInt = 60 := by decide
        have l126 : (126 : Int32).toInt = 126 := by decide
        refine ⟨?_, N0, rfl⟩
        unfold own_exp
        rw [if_pos (by omega)]
      · skip
        refine own_of (fun t k => XS.icmpYes X0.here hx rfl (pc0 := 19) (pc' := 24) rfl (hb hby d2_19) rfl (feq hc19).2 (by decide) (by decide) k) ?_
        show own_Wp _ _ _ _ (s₁.setTop (mkF m 24 #[.val (.int p1)] []))
        refine own_of (fun t k => XS.iloadN X0.here hx rfl (hb hby d2_24) rfl k) ?_
        show own_Wp _ _ _ _ (s₁.setTop (mkF m 25 #[.val (.int p1)] [(.int p1)]))
        refine own_of (fun t k => XS.bipush X0.here hx rfl (hb hby d2_25) k) ?_
        show own_Wp _ _ _ _ (s₁.setTop (mkF m 27 #[.val (.int p1)] [(.int (62 : Int32)), (.int p1)]))
        by_cases hc27 : p1 = (62 : Int32)
        · skip
          refine own_of (fun t k => XS.icmpNo X0.here hx rfl (hb hby d2_27) rfl (teq hc27).2 k) ?_
          show own_Wp _ _ _ _ (s₁.setTop (mkF m 30 #[.val (.int p1)] []))
          refine own_of (fun t k => XS.iconst X0.here hx rfl (hb hby d2_30) k) ?_
          show own_Wp _ _ _ _ (s₁.setTop (mkF m 31 #[.val (.int p1)] [(.int (0 : Int32))]))
          refine own_ret X0 hlk (some (.int (0 : Int32))) (own_rtI hrt) (fun fs hr => retN X0 hx (t := .boolean) hrt (by simp) (hb hby d2_31) hr) ?_ (by decide) (by decide)
          rw [e0]
          have q3 := hc3; rw [Int32.lt_iff_toInt_lt] at q3
          have q11 := hc11; rw [Int32.lt_iff_toInt_lt] at q11
          have q19 := hc19; rw [← Int32.toInt_inj] at q19
          have q27 := hc27; rw [← Int32.toInt_inj] at q27
          have l32 : (32 : Int32).toInt = 32 := by decide
          have l60 : (60 : Int32).toInt = 60 := by decide
          have l62 : (62 : Int32).toInt = 62 := by decide
          have l126 : (126 : Int32).toInt = 126 := by decide
          refine ⟨?_, N0, rfl⟩
          unfold own_exp
          rw [if_pos (by omega)]
        · skip
          refine own_of (fun t k => XS.icmpYes X0.here hx rfl (pc0 := 27) (pc' := 32) rfl (hb hby d2_27) rfl (feq hc27).2 (by decide) (by decide) k) ?_
          show own_Wp _ _ _ _ (s₁.setTop (mkF m 32 #[.val (.int p1)] []))
          refine own_of (fun t k => XS.iloadN X0.here hx rfl (hb hby d2_32) rfl k) ?_
          show own_Wp _ _ _ _ (s₁.setTop (mkF m 33 #[.val (.int p1)] [(.int p1)]))
          refine own_of (fun t k => XS.bipush X0.here hx rfl (hb hby d2_33) k) ?_
          show own_Wp _ _ _ _ (s₁.setTop (mkF m 35 #[.val (.int p1)] [(.int (38 : Int32)), (.int p1)]))
          by_cases hc35 : p1 = (38 : Int32)
          · skip
            refine own_of (fun t k => XS.icmpNo X0.here hx rfl (hb hby d2_35) rfl (teq hc35).2 k) ?_
            show own_Wp _ _ _ _ (s₁.setTop (mkF m 38 #[.val (.int p1)] []))
            refine own_of (fun t k => XS.iconst X0.here hx rfl (hb hby d2_38) k) ?_
            show own_Wp _ _ _ _ (s₁.setTop (mkF m 39 #[.val (.int p1)] [(.int (0 : Int32))]))
            refine own_ret X0 hlk (some (.int (0 : Int32))) (own_rtI hrt) (fun fs hr => retN X0 hx (t := .boolean) hrt (by simp) (hb hby d2_39) hr) ?_ (by decide) (by decide)
            rw [e0]
            have q3 := hc3; rw [Int32.lt_iff_toInt_lt] at q3
            have q11 := hc11; rw [Int32.lt_iff_toInt_lt] at q11
            have q19 := hc19; rw [← Int32.toInt_inj] at q19
            have q27 := hc27; rw [← Int32.toInt_inj] at q27
            have q35 := hc35; rw [← Int32.toInt_inj] at q35
            have l32 : (32 : Int32).toInt = 32 := by decide
            have l38 : (38 : Int32).toInt = 38 := by decide
            have l60 : (60 : Int32).toInt = 60 := by decide
            have l62 : (62 : Int32).toInt = 62 := by decide
            have l126 : (126 : Int32).toInt = 126 := by decide
            refine ⟨?_, N0, rfl⟩
            unfold own_exp
            rw [if_pos (by omega)]
          · skip
            refine own_of (fun t k => XS.icmpYes X0.here hx rfl (pc0 := 35) (pc' := 40) rfl (hb hby d2_35) rfl (feq hc35).2 (by decide) (by decide) k) ?_
            show own_Wp _ _ _ _ (s₁.setTop (mkF m 40 #[.val (.int p1)] []))
            refine own_of (fun t k => XS.iloadN X0.here hx rfl (hb hby d2_40) rfl k) ?_
            show own_Wp _ _ _ _ (s₁.setTop (mkF m 41 #[.val (.int p1)] [(.int p1)]))
            refine own_of (fun t k => XS.bipush X0.here hx rfl (hb hby d2_41) k) ?_
            show own_Wp _ _ _ _ (s₁.setTop (mkF m 43 #[.val (.int p1)] [(.int (34 : Int32)), (.int p1)]))
            by_cases hc43 : p1 = (34 : Int32)
            · skip
              refine own_of (fun t k => XS.icmpNo X0.here hx rfl (hb hby d2_43) rfl (teq hc43).2 k) ?_
              show own_Wp _ _ _ _ (s₁.setTop (mkF m 46 #[.val (.int p1)] []))
              refine own_of (fun t k => XS.iconst X0.here hx rfl (hb hby d2_46) k) ?_
              show own_Wp _ _ _ _ (s₁.setTop (mkF m 47 #[.val (.int p1)] [(.int (0 : Int32))]))
              refine own_ret X0 hlk (some (.int (0 : Int32))) (own_rtI hrt) (fun fs hr => retN X0 hx (t := .boolean) hrt (by simp) (hb hby d2_47) hr) ?_ (by decide) (by decide)
              rw [e0]
              have q3 := hc3; rw [Int32.lt_iff_toInt_lt] at q3
              have q11 := hc11; rw [Int32.lt_iff_toInt_lt] at q11
              have q19 := hc19; rw [← Int32.toInt_inj] at q19
              have q27 := hc27; rw [← Int32.toInt_inj] at q27
              have q35 := hc35; rw [← Int32.toInt_inj] at q35
              have q43 := hc43; rw [← Int32.toInt_inj] at q43
              have l32 : (32 : Int32).toInt = 32 := by decide
              have l34 : (34 : Int32).toInt = 34 := by decide
              have l38 : (38 : Int32).toInt = 38 := by decide
              have l60 : (60 : Int32).toInt = 60 := by decide
              have l62 : (62 : Int32).toInt = 62 := by decide
              have l126 : (126 : Int32).toInt = 126 := by decide
              refine ⟨?_, N0, rfl⟩
              unfold own_exp
              rw [if_pos (by omega)]
            · skip
              refine own_of (fun t k => XS.icmpYes X0.here hx rfl (pc0 := 43) (pc' := 48) rfl (hb hby d2_43) rfl (feq hc43).2 (by decide) (by decide) k) ?_
              show own_Wp _ _ _ _ (s₁.setTop (mkF m 48 #[.val (.int p1)] []))
              refine own_of (fun t k => XS.iconst X0.here hx rfl (hb hby d2_48) k) ?_
              show own_Wp _ _ _ _ (s₁.setTop (mkF m 49 #[.val (.int p1)] [(.int (1 : Int32))]))
              refine own_ret X0 hlk (some (.int (1 : Int32))) (own_rtI hrt) (fun fs hr => retN X0 hx (t := .boolean) hrt (by simp) (hb hby d2_49) hr) ?_ (by decide) (by decide)
              rw [e0]
              have q3 := hc3; rw [Int32.lt_iff_toInt_lt] at q3
              have q11 := hc11; rw [Int32.lt_iff_toInt_lt] at q11
              have q19 := hc19; rw [← Int32.toInt_inj] at q19
              have q27 := hc27; rw [← Int32.toInt_inj] at q27
              have q35 := hc35; rw [← Int32.toInt_inj] at q35
              have q43 := hc43; rw [← Int32.toInt_inj] at q43
              have l32 : (32 : Int32).toInt = 32 := by decide
              have l34 : (34 : Int32).toInt = 34 := by decide
              have l38 : (38 : Int32).toInt = 38 := by decide
              have l60 : (60 : Int32).toInt = 60 := by decide
              have l62 : (62 : Int32).toInt = 62 := by decide
              have l126 : (126 : Int32).toInt = 126 := by decide
              refine ⟨?_, N0, rfl⟩
              unfold own_exp
              rw [if_neg (by omega)]
theorem own_pd0 : parseMethodDescriptor "(I)Z" = some ⟨[.int], some .boolean⟩ := by decide +kernel
def Q_rm0 (Z : State) (p1 : Int32) (p2 : Int32) (a1 : Addr) (f : Nat → Value) (h0 : Heap) (n0 : Nat) (v : Option Value) (h : Heap) (L : List Loc) : Prop := v = some (.int 1) ∧ Fr n0 L
set_option maxRecDepth 65536 in
set_option maxHeartbeats 40000000 in
theorem rm0 (l : Launch) (Z : State) (a0 : Array Value) (hw : ∀ d ∈ tables_1, d.before a0 Z = true) (ws : List Jvm.Cond) (p1 : Int32) (p2 : Int32) (a1 : Addr) (f : Nat → Value) (h0 : Heap) (n0 : Nat) (Z0 : n0 ≤ h0.size) (S_PLAIN : Sta Z h0 "com/example/superlink/superlink/Xml" "PLAIN" "[Z" (.ref a1)) (A_PLAIN : own_Ar Z h0 a1 .boolean 128 f) (hf : ∀ i, i < 128 → f i = .int (own_pl i)) :
    own_Ctr l Z x code maxLocals ret ws room_1 #[(.int p1), (.int p2)] h0 (Q_rm0 Z p1 p2 a1 f h0 n0) := by
  refine own_enter (plainFor_of_name own_pn1) ?_
  intro p e s m below meth c s₁ X0 hx hby hml hrt hlk hZ hown hnm e0
  have N0 := Fr.nil n0
  have Zs := Z0
  rw [show entryFrame m #[(.int p1), (.int p2)] maxLocals = mkF m 0 #[.val (.int p1), .val (.int p2), .unset, .unset, .unset] [] from by first | (simp [entryFrame, mkF, argsToLocals, Value.category, maxLocals]; done) | rfl]
  show own_Wp _ _ _ _ (s₁.setTop (mkF m 0 #[.val (.int p1), .val (.int p2), .unset, .unset, .unset] []))
  refine own_of (fun t k => XS.iloadN X0.here hx rfl (hb hby at_0) rfl k) ?_
  show own_Wp _ _ _ _ (s₁.setTop (mkF m 1 #[.val (.int p1), .val (.int p2), .unset, .unset, .unset] [(.int p2)]))
  refine own_of (fun t k => XS.sipush X0.here hx rfl (hb hby at_1) k) ?_
  show own_Wp _ _ _ _ (s₁.setTop (mkF m 4 #[.val (.int p1), .val (.int p2), .unset, .unset, .unset] [(.int (511 : Int32)), (.int p2)]))
  refine own_of (fun t k => XS.iand X0.here hx rfl (hb hby at_4) rfl k) ?_
  show own_Wp _ _ _ _ (s₁.setTop (mkF m 5 #[.val (.int p1), .val (.int p2), .unset, .unset, .unset] [(.int (p2 &&& (511 : Int32)))]))
  refine own_of (fun t k => XS.sipush X0.here hx rfl (hb hby at_5) k) ?_
  show own_Wp _ _ _ _ (s₁.setTop (mkF m 8 #[.val (.int p1), .val (.int p2), .unset, .unset, .unset] [(.int (128 : Int32)), (.int (p2 &&& (511 : Int32)))]))
  refine own_of (fun t k => XS.isub X0.here hx rfl (hb hby at_8) rfl k) ?_
  show own_Wp _ _ _ _ (s₁.setTop (mkF m 9 #[.val (.int p1), .val (.int p2), .unset, .unset, .unset] [(.int ((p2 &&& (511 : Int32)) - (128 : Int32)))]))
  obtain ⟨nr, h_nr⟩ : ∃ q : Int32, q = ((p2 &&& (511 : Int32)) - (128 : Int32)) := ⟨_, rfl⟩
  rw [← h_nr]
  refine own_of (fun t k => XS.istoreN X0.here hx rfl (hb hby at_9) rfl (l' := #[.val (.int p1), .val (.int p2), .val (.int nr), .unset, .unset]) rfl k) ?_
  show own_Wp _ _ _ _ (s₁.setTop (mkF m 10 #[.val (.int p1), .val (.int p2), .val (.int nr), .unset, .unset] []))
  refine own_of (fun t k => XS.iloadN X0.here hx rfl (hb hby at_10) rfl k) ?_
  show own_Wp _ _ _ _ (s₁.setTop (mkF m 11 #[.val (.int p1), .val (.int p2), .val (.int nr), .unset, .unset] [(.int p1)]))
  refine own_callS X0 hx hZ (y := (⟨"com/example/superlink/superlink/Xml", "isPlain", "(I)Z"⟩ : MethodName)) (argsL := [(.int p1)]) (rest := []) (W := 0) hown (hw _ (List.mem_of_getElem? (i := 0) rfl)) (hw _ (List.mem_of_getElem? (i := 1) rfl)) (hw _ (List.mem_of_getElem? (i := 2) rfl)) (hw _ (List.mem_of_getElem? (i := 3) rfl)) (by decide) e0 (rm1 l Z a0 hw [] p1 a1 f h0 n0 Zs S_PLAIN A_PLAIN hf) (by decide) (by decide) (by decide) (by decide) (g := (mkF m 11 #[.val (.int p1), .val (.int p2), .val (.int nr), .unset, .unset] [(.int p1)])) rfl (by rw [hml]; rfl) (lenOf own_pd0 rfl) rfl (by show 2 * 0 + _ ≤ _; exact Nat.le_of_eq rfl) (hb hby at_11) ?_
  rintro T1 L1 _ X1 ⟨rfl, N1q, e1⟩
  have N1 := Fr.app N0 N1q
  show own_Wp _ _ _ _ (T1.setTop (mkF m 14 #[.val (.int p1), .val (.int p2), .val (.int nr), .unset, .unset] [(.int (own_exp p1))]))
  refine own_of (fun t k => XS.iloadN X1.here hx rfl (hb hby at_14) rfl k) ?_
  show own_Wp _ _ _ _ (T1.setTop (mkF m 15 #[.val (.int p1), .val (.int p2), .val (.int nr), .unset, .unset] [(.int p1), (.int (own_exp p1))]))
  refine own_callS X1 hx hZ (y := (⟨"com/example/superlink/superlink/XmlIsPlainPinLaw", "expected", "(I)Z"⟩ : MethodName)) (argsL := [(.int p1)]) (rest := [(.int (own_exp p1))]) (W := 1) hown (hw _ (List.mem_of_getElem? (i := 6) rfl)) (hw _ (List.mem_of_getElem? (i := 7) rfl)) (hw _ (List.mem_of_getElem? (i := 8) rfl)) (hw _ (List.mem_of_getElem? (i := 9) rfl)) (by decide) e1 (rm2 l Z a0 hw [] p1 h0 n0 Zs) (by decide) (by decide) (by decide) (by decide) (g := (mkF m 15 #[.val (.int p1), .val (.int p2), .val (.int nr), .unset, .unset] [(.int p1), (.int (own_exp p1))])) rfl (by rw [hml]; rfl) (lenOf own_pd0 rfl) rfl (by show 2 * 0 + _ ≤ _; exact Nat.le_of_eq rfl) (hb hby at_15) ?_
  rintro T2 L2 _ X2 ⟨rfl, N2q, e2⟩
  have N2 := Fr.app N1 N2q
  show own_Wp _ _ _ _ (T2.setTop (mkF m 18 #[.val (.int p1), .val (.int p2), .val (.int nr), .unset, .unset] [(.int (own_exp p1)), (.int (own_exp p1))]))
  have hc18 : (own_exp p1) = (own_exp p1) := rfl
  refine own_of (fun t k => XS.icmpNo X2.here hx rfl (hb hby at_18) rfl (teq hc18).2 k) ?_
  show own_Wp _ _ _ _ (T2.setTop (mkF m 21 #[.val (.int p1), .val (.int p2), .val (.int nr), .unset, .unset] []))
  refine own_of (fun t k => XS.iconst X2.here hx rfl (hb hby at_21) k) ?_
  show own_Wp _ _ _ _ (T2.setTop (mkF m 22 #[.val (.int p1), .val (.int p2), .val (.int nr), .unset, .unset] [(.int (1 : Int32))]))
  refine own_of (fun t k => XS.goto X2.here hx rfl (pc0 := 22) (pc' := 26) rfl (hb hby at_22) (by decide) (by decide) k) ?_
  show own_Wp _ _ _ _ (T2.setTop (mkF m 26 #[.val (.int p1), .val (.int p2), .val (.int nr), .unset, .unset] [(.int (1 : Int32))]))
  refine own_of (fun t k => XS.istoreN X2.here hx rfl (hb hby at_26) rfl (l' := #[.val (.int p1), .val (.int p2), .val (.int nr), .val (.int (1 : Int32)), .unset]) rfl k) ?_
  show own_Wp _ _ _ _ (T2.setTop (mkF m 27 #[.val (.int p1), .val (.int p2), .val (.int nr), .val (.int (1 : Int32)), .unset] []))
  refine own_of (fun t k => XS.iloadN X2.here hx rfl (hb hby at_27) rfl k) ?_
  show own_Wp _ _ _ _ (T2.setTop (mkF m 28 #[.val (.int p1), .val (.int p2), .val (.int nr), .val (.int (1 : Int32)), .unset] [(.int nr)]))
  refine own_callS X2 hx hZ (y := (⟨"com/example/superlink/superlink/Xml", "isPlain", "(I)Z"⟩ : MethodName)) (argsL := [(.int nr)]) (rest := []) (W := 0) hown (hw _ (List.mem_of_getElem? (i := 0) rfl)) (hw _ (List.mem_of_getElem? (i := 1) rfl)) (hw _ (List.mem_of_getElem? (i := 2) rfl)) (hw _ (List.mem_of_getElem? (i := 3) rfl)) (by decide) e2 (rm1 l Z a0 hw [] nr a1 f h0 n0 Zs S_PLAIN A_PLAIN hf) (by decide) (by decide) (by decide) (by decide) (g := (mkF m 28 #[.val (.int p1), .val (.int p2), .val (.int nr), .val (.int (1 : Int32)), .unset] [(.int nr)])) rfl (by rw [hml]; rfl) (lenOf own_pd0 rfl) rfl (by show 2 * 0 + _ ≤ _; exact Nat.le_of_eq rfl) (hb hby at_28) ?_
  rintro T3 L3 _ X3 ⟨rfl, N3q, e3⟩
  have N3 := Fr.app N2 N3q
  show own_Wp _ _ _ _ (T3.setTop (mkF m 31 #[.val (.int p1), .val (.int p2), .val (.int nr), .val (.int (1 : Int32)), .unset] [(.int (own_exp nr))]))
  refine own_of (fun t k => XS.iloadN X3.here hx rfl (hb hby at_31) rfl k) ?_
  show own_Wp _ _ _ _ (T3.setTop (mkF m 32 #[.val (.int p1), .val (.int p2), .val (.int nr), .val (.int (1 : Int32)), .unset] [(.int nr), (.int (own_exp nr))]))
  refine own_callS X3 hx hZ (y := (⟨"com/example/superlink/superlink/XmlIsPlainPinLaw", "expected", "(I)Z"⟩ : MethodName)) (argsL := [(.int nr)]) (rest := [(.int (own_exp nr))]) (W := 1) hown (hw _ (List.mem_of_getElem? (i := 6) rfl)) (hw _ (List.mem_of_getElem? (i := 7) rfl)) (hw _ (List.mem_of_getElem? (i := 8) rfl)) (hw _ (List.mem_of_getElem? (i := 9) rfl)) (by decide) e3 (rm2 l Z a0 hw [] nr h0 n0 Zs) (by decide) (by decide) (by decide) (by decide) (g := (mkF m 32 #[.val (.int p1), .val (.int p2), .val (.int nr), .val (.int (1 : Int32)), .unset] [(.int nr), (.int (own_exp nr))])) rfl (by rw [hml]; rfl) (lenOf own_pd0 rfl) rfl (by show 2 * 0 + _ ≤ _; exact Nat.le_of_eq rfl) (hb hby at_32) ?_
  rintro T4 L4 _ X4 ⟨rfl, N4q, e4⟩
  have N4 := Fr.app N3 N4q
  show own_Wp _ _ _ _ (T4.setTop (mkF m 35 #[.val (.int p1), .val (.int p2), .val (.int nr), .val (.int (1 : Int32)), .unset] [(.int (own_exp nr)), (.int (own_exp nr))]))
  have hc35 : (own_exp nr) = (own_exp nr) := rfl
  refine own_of (fun t k => XS.icmpNo X4.here hx rfl (hb hby at_35) rfl (teq hc35).2 k) ?_
  show own_Wp _ _ _ _ (T4.setTop (mkF m 38 #[.val (.int p1), .val (.int p2), .val (.int nr), .val (.int (1 : Int32)), .unset] []))
  refine own_of (fun t k => XS.iconst X4.here hx rfl (hb hby at_38) k) ?_
  show own_Wp _ _ _ _ (T4.setTop (mkF m 39 #[.val (.int p1), .val (.int p2), .val (.int nr), .val (.int (1 : Int32)), .unset] [(.int (1 : Int32))]))
  refine own_of (fun t k => XS.goto X4.here hx rfl (pc0 := 39) (pc' := 43) rfl (hb hby at_39) (by decide) (by decide) k) ?_
  show own_Wp _ _ _ _ (T4.setTop (mkF m 43 #[.val (.int p1), .val (.int p2), .val (.int nr), .val (.int (1 : Int32)), .unset] [(.int (1 : Int32))]))
  refine own_of (fun t k => XS.istore X4.here hx rfl (hb hby at_43) rfl (l' := #[.val (.int p1), .val (.int p2), .val (.int nr), .val (.int (1 : Int32)), .val (.int (1 : Int32))]) rfl k) ?_
  show own_Wp _ _ _ _ (T4.setTop (mkF m 45 #[.val (.int p1), .val (.int p2), .val (.int nr), .val (.int (1 : Int32)), .val (.int (1 : Int32))] []))
  refine own_of (fun t k => XS.iloadN X4.here hx rfl (hb hby at_45) rfl k) ?_
  show own_Wp _ _ _ _ (T4.setTop (mkF m 46 #[.val (.int p1), .val (.int p2), .val (.int nr), .val (.int (1 : Int32)), .val (.int (1 : Int32))] [(.int (1 : Int32))]))
  have hc46 : ¬ ((1 : Int32) = (0 : Int32)) := by decide
  refine own_of (fun t k => XS.ifNo X4.here hx rfl (hb hby at_46) rfl ((if0 _ _).trans (feq hc46).1) k) ?_
  show own_Wp _ _ _ _ (T4.setTop (mkF m 49 #[.val (.int p1), .val (.int p2), .val (.int nr), .val (.int (1 : Int32)), .val (.int (1 : Int32))] []))
  refine own_of (fun t k => XS.iload X4.here hx rfl (hb hby at_49) rfl k) ?_
  show own_Wp _ _ _ _ (T4.setTop (mkF m 51 #[.val (.int p1), .val (.int p2), .val (.int nr), .val (.int (1 : Int32)), .val (.int (1 : Int32))] [(.int (1 : Int32))]))
  have hc51 : ¬ ((1 : Int32) = (0 : Int32)) := by decide
  refine own_of (fun t k => XS.ifNo X4.here hx rfl (hb hby at_51) rfl ((if0 _ _).trans (feq hc51).1) k) ?_
  show own_Wp _ _ _ _ (T4.setTop (mkF m 54 #[.val (.int p1), .val (.int p2), .val (.int nr), .val (.int (1 : Int32)), .val (.int (1 : Int32))] []))
  refine own_of (fun t k => XS.iconst X4.here hx rfl (hb hby at_54) k) ?_
  show own_Wp _ _ _ _ (T4.setTop (mkF m 55 #[.val (.int p1), .val (.int p2), .val (.int nr), .val (.int (1 : Int32)), .val (.int (1 : Int32))] [(.int (1 : Int32))]))
  refine own_of (fun t k => XS.goto X4.here hx rfl (pc0 := 55) (pc' := 59) rfl (hb hby at_55) (by decide) (by decide) k) ?_
  show own_Wp _ _ _ _ (T4.setTop (mkF m 59 #[.val (.int p1), .val (.int p2), .val (.int nr), .val (.int (1 : Int32)), .val (.int (1 : Int32))] [(.int (1 : Int32))]))
  refine own_ret X4 hlk (some (.int (1 : Int32))) (own_rtI hrt) (fun fs hr => retN X4 hx (t := .boolean) hrt (by simp) (hb hby at_59) hr) ?_ (by decide) (by decide)
  rw [e4]
  exact ⟨rfl, N4⟩
set_option maxRecDepth 65536 in
set_option maxHeartbeats 40000000 in
theorem comes_1 {Post : Tables → Env → Array Value → State → Outcome → State → Prop} (hpost : ∀ tb e args s v u, (limb_1_1.after args s (.returned v) u = true ∧ limb_1_2.after args s (.returned v) u = true ∧ True) → FrameEnd s (.returned v) u (Jvm.fieldLocs frame_1_writes args s ++ Jvm.arrayLocs frame_1_arrays args s ++ Jvm.staticLocs frame_1_statics s) 0 0 → Post tb e args s (.returned v) u) :
    ArmFor flags0 classFile x code maxLocals ret World_1 tables_1 room_1 Calls_1 rest_1 Pre_1 Post := by
  intro l hfl _ _ p e ha hc hk s m args below hf hA hF happ hP
  obtain ⟨hcalls, hrest, hpre⟩ := hP
  obtain ⟨-, -, -, hnamed, -, -, -, hat⟩ := (Spec.applies_iff hf).mp happ
  obtain ⟨hg, hn⟩ := and_e (Cond.before_iff.mp (show (Jvm.Cond.and given_1 narrow_1).before args s = true from hpre))
  obtain ⟨g1, g2⟩ := and_e hg
  obtain ⟨g3, g4⟩ := and_e g2
  obtain ⟨w0, w1, rfl⟩ : ∃ w0 w1 : Value, args = #[w0, w1] := by
    have hs : args.size = 2 := by simpa [Cond.value, given_1] using g1
    obtain ⟨L⟩ := args
    match L, hs with
    | [w0, w1], _ => exact ⟨w0, w1, rfl⟩
  have hw := fun d (hd : d ∈ tables_1) => atoms_spec (ws := Jvm.Cond.code x code maxLocals ret :: tables_1) hat d (List.mem_cons_of_mem _ hd)
  have hfit : Fit s := fun {y c} hc i hi => by
    obtain ⟨ha, rfl⟩ := Array.getElem?_eq_some_iff.mp hc
    have q := List.all_eq_true.mp ((Array.all_eq_true_iff_forall_mem.mp hF) _ (Array.getElem_mem ha)) i (List.mem_range.mpr hi)
    simpa [Array.getElem?_eq_getElem hi] using q
  obtain ⟨i0, ei0⟩ := is_v g3
  obtain rfl : w0 = (.int i0) := Option.some.inj ei0
  obtain ⟨i1, ei1⟩ := is_v g4
  obtain rfl : w1 = (.int i1) := Option.some.inj ei1
  obtain ⟨u1, u2⟩ := and_e hn
  obtain ⟨u3, u4⟩ := and_e u2
  obtain ⟨u5, u6⟩ := and_e u4
  obtain ⟨u7, u8⟩ := and_e u6
  obtain ⟨u9, u10⟩ := and_e u8
  obtain ⟨u11, u12⟩ := and_e u10
  obtain ⟨u13, u14⟩ := and_e u12
  obtain ⟨u15, u16⟩ := and_e u14
  obtain ⟨u17, u18⟩ := and_e u16
  obtain ⟨u19, u20⟩ := and_e u18
  obtain ⟨u21, u22⟩ := and_e u20
  obtain ⟨u23, u24⟩ := and_e u22
  obtain ⟨u25, u26⟩ := and_e u24
  obtain ⟨u27, u28⟩ := and_e u26
  obtain ⟨u29, u30⟩ := and_e u28
  obtain ⟨a1, cl, S_PLAIN, A1, hat1, ev1⟩ := own_staArr (hw _ (List.mem_of_getElem? (i := 2) rfl)) (hw _ (List.mem_of_getElem? (i := 5) rfl)) u1
  have evs : ∀ idx, (Term.static "com/example/superlink/superlink/Xml" "PLAIN" "[Z").eval #[(.int i0), (.int i1)] s none idx s = some (.ref a1) := fun _ => ev1
  have hlen := own_lenEq ev1 hat1 u3
  have l128 : (128 : Int32).toInt = 128 := by decide
  have hsz : cl.slots.size = 128 := by omega
  have hel : ∀ k, k < 128 → cl.slots[k]? = some (.int (own_pl k)) := by
    intro k hk
    unfold own_pl
    by_cases z32 : k = 32
    · subst z32; exact own_one (lo := 32) evs hat1 u7 (by decide)
    by_cases z33 : k = 33
    · subst z33; exact own_one (lo := 33) evs hat1 u9 (by decide)
    by_cases z34 : k = 34
    · subst z34; exact own_one (lo := 34) evs hat1 u11 (by decide)
    by_cases z35 : k = 35
    · subst z35; exact own_one (lo := 35) evs hat1 u13 (by decide)
    by_cases z36 : k = 36
    · subst z36; exact own_one (lo := 36) evs hat1 u15 (by decide)
    by_cases z37 : k = 37
    · subst z37; exact own_one (lo := 37) evs hat1 u17 (by decide)
    by_cases z38 : k = 38
    · subst z38; exact own_one (lo := 38) evs hat1 u19 (by decide)
    by_cases z60 : k = 60
    · subst z60; exact own_one (lo := 60) evs hat1 u23 (by decide)
    by_cases z61 : k = 61
    · subst z61; exact own_one (lo := 61) evs hat1 u25 (by decide)
    by_cases z62 : k = 62
    · subst z62; exact own_one (lo := 62) evs hat1 u27 (by decide)
    by_cases z127 : k = 127
    · subst z127; exact own_one (lo := 127) evs hat1 u30 (by decide)
    have l32 : (32 : Int32).toInt = 32 := by decide
    have l39 : (39 : Int32).toInt = 39 := by decide
    have l60 : (60 : Int32).toInt = 60 := by decide
    have l63 : (63 : Int32).toInt = 63 := by decide
    have l127 : (127 : Int32).toInt = 127 := by decide
    by_cases y1 : k < 32
    · rw [if_pos (by omega)]; exact own_all1 (lo := 32) evs hat1 (by omega) u5 (by omega) (by omega) rfl
    · rw [if_neg (by omega)]
      by_cases y2 : k < 60
      · exact own_all2 (lo := 39) (hi := 60) evs hat1 (by omega) u21 (by omega) (by omega) (by omega) rfl
      · exact own_all2 (lo := 63) (hi := 127) evs hat1 (by omega) u29 (by omega) (by omega) (by omega) rfl
  have A_PLAIN : own_Ar s s.heap a1 .boolean 128 (fun k => .int (own_pl k)) := by
    rw [← hsz]
    exact own_Ar.start A1 (by omega) (fun i hi => hel i (by omega))
  obtain ⟨n, o, h1, h2, h3, _, L, rfl, ⟨rfl, N⟩, hq⟩ := rm0 l s _ hw tables_1 i0 i1 a1 (fun k => .int (own_pl k)) s.heap s.heap.size (Nat.le_refl _) S_PLAIN A_PLAIN (fun _ _ => rfl) p e ha hc hk s m _ below hf ((Spec.applies_iff_loose hf).mp happ).1 ⟨rfl, State.Warmed39.refl s, rfl⟩ trivial
  refine ⟨n, _, h1, h2, h3, hpost _ _ _ _ _ _ ⟨Cond.after_iff.mpr rfl, Cond.after_iff.mpr (eq_i res_at (Term.int_eval (1)) rfl), trivial⟩ ⟨hq.1, hq.2.1, (hq.2.2.sift fun y hy => Or.inr (N y hy)).mono (by decide) (by decide)⟩⟩
theorem main_1_1 : Claimed_1_1 := comes_1 fun _ _ _ _ _ _ h hF => ⟨h.1, hF⟩
theorem main_1_2 : Claimed_1_2 := comes_1 fun _ _ _ _ _ _ h hF => ⟨h.2.1, hF⟩
end Jvm.Pilot.@@N@@
namespace Jvm.Pilot.@@N@@
open Jvm Jvm.ClassFile Sem Op Lib Jvm.Free Jvm.Stand Jvm.Pilot.@@N@@.Jvm.D
/-! MADE BY PROGRAM (witnessworld.py) out of the Statement's table words and the real class files: 11 classes; the members and pool entries that the words name. The judged class is class 1, her method 2. -/
namespace start1
open Jvm.ClassFile
def u (s : String) : CpInfo := .utf8 (stringToUtf16 s)
/-- a pool by its gaps: so many unusable entries, then the entry; so many at the end -/
def gap : Nat → List CpInfo → List CpInfo
  | 0, r => r
  | n + 1, r => .unusable :: gap n r
def poolList (es : List (Nat × CpInfo)) (last : Nat) : List CpInfo := es.foldr (fun e r => gap e.1 (e.2 :: r)) (gap last [])
def pool (es : List (Nat × CpInfo)) (last : Nat) : Array CpInfo := ⟨poolList es last⟩
def fileOf (pool : Array CpInfo) (this : Nat) (attrs : Array Attribute := #[]) (ms : Array MethodInfo := #[]) (fl : Nat := 33) (sup : Nat := 0) (ifs : Array Nat := #[]) (fds : Array FieldInfo := #[]) : ClassFile where
  minorVersion := 0
  majorVersion := 65
  constantPool := pool
  accessFlags := fl
  thisClass := this
  superClass := sup
  interfaces := ifs
  fields := fds
  methods := ms
  attributes := attrs
def plain (name : String) (sup : Option ClassId) : Class where
  name := name
  kind := .ordinary
  loader := none
  accessFlags := 33
  super := sup
  interfaces := #[]
  cf := none
  fields := #[]
  methods := #[]
  instanceTypes := #[]
  staticTypes := #[]
  resolved := #[]
  callSites := []
  init := .initialized
  statics := none
  mirror := none

def pool0 : Array CpInfo := pool [(5, u "<init>"), (0, u "()V"), (1, .class_ 10), (1, u "java/lang/Object")] 113

def k0m0 : Method := { name := "<init>", desc := "()V", sig := { parameters := [], returnType := none }, accessFlags := 1, code := none }
/-- java/lang/Object -/
def k0 : Class := { plain "java/lang/Object" none with
  accessFlags := 33
  interfaces := #[]
  cf := some (fileOf pool0 8 #[] #[{ accessFlags := 1, nameIndex := 5, descriptorIndex := 6, attributes := #[] }] 33 0 #[] #[])
  fields := #[]
  methods := #[k0m0]
  instanceTypes := #[]
  staticTypes := #[]
  resolved := Array.replicate 124 none
  statics := none }

def pool1 : Array CpInfo := pool [(2, .class_ 4), (1, u "java/lang/Object"), (0, u "<init>"), (0, u "()V"), (0, .methodref 8 9), (0, .class_ 10), (0, .nameAndType 11 12), (0, u "com/example/superlink/superlink/Xml"), (0, u "isPlain"), (0, u "(I)Z"), (0, .methodref 14 15), (0, .class_ 16), (0, .nameAndType 17 12), (0, u "com/example/superlink/superlink/XmlIsPlainPinLaw"), (0, u "expected"), (3, u "law"), (0, u "(II)Z")] 2

def k1m0 : Method := { name := "<init>", desc := "()V", sig := { parameters := [], returnType := none }, accessFlags := 2, code := none }
def k1c1 : Code := { maxStack := 2, maxLocals := 1, code := method_2_code, exceptionTable := #[], attributes := #[] }
def k1m1 : Method := { name := "expected", desc := "(I)Z", sig := { parameters := [.int], returnType := some .boolean }, accessFlags := 10, code := some k1c1 }
def k1c2 : Code := { maxStack := 2, maxLocals := 5, code := code, exceptionTable := #[], attributes := #[] }
def k1m2 : Method := { name := "law", desc := "(II)Z", sig := { parameters := [.int, .int], returnType := some .boolean }, accessFlags := 9, code := some k1c2 }
/-- com/example/superlink/superlink/XmlIsPlainPinLaw -/
def k1 : Class := { plain "com/example/superlink/superlink/XmlIsPlainPinLaw" (some 0) with
  accessFlags := 49
  interfaces := #[]
  cf := some (fileOf pool1 14 #[] #[{ accessFlags := 2, nameIndex := 5, descriptorIndex := 6, attributes := #[] }, { accessFlags := 10, nameIndex := 17, descriptorIndex := 12, attributes := #[] }, { accessFlags := 9, nameIndex := 21, descriptorIndex := 22, attributes := #[] }] 49 2 #[] #[])
  fields := #[]
  methods := #[k1m0, k1m1, k1m2]
  instanceTypes := #[]
  staticTypes := #[]
  resolved := Array.replicate 25 none
  statics := none }

def pool2 : Array CpInfo := pool [(2, .class_ 4), (1, u "java/lang/Object"), (0, u "<init>"), (0, u "()V"), (11, .class_ 20), (1, u "com/example/superlink/superlink/Xml"), (1, u "(I)Z"), (5, .fieldref 18 29), (0, .nameAndType 30 31), (0, u "PLAIN"), (0, u "[Z"), (48, u "isPlain")] 10

def k2m0 : Method := { name := "<init>", desc := "()V", sig := { parameters := [], returnType := none }, accessFlags := 2, code := none }
def k2c1 : Code := { maxStack := 2, maxLocals := 1, code := prog_53_method_3_code, exceptionTable := #[], attributes := #[] }
def k2m1 : Method := { name := "isPlain", desc := "(I)Z", sig := { parameters := [.int], returnType := some .boolean }, accessFlags := 8, code := some k2c1 }
/-- com/example/superlink/superlink/Xml -/
def k2 : Class := { plain "com/example/superlink/superlink/Xml" (some 0) with
  accessFlags := 48
  interfaces := #[]
  cf := some (fileOf pool2 18 #[] #[{ accessFlags := 2, nameIndex := 5, descriptorIndex := 6, attributes := #[] }, { accessFlags := 8, nameIndex := 80, descriptorIndex := 22, attributes := #[] }] 48 2 #[] #[{ accessFlags := 26, nameIndex := 30, descriptorIndex := 31, attributes := #[] }])
  fields := #[{ name := "PLAIN", type := (.array .boolean), accessFlags := 26, slot := 0, constantValue := 0 }]
  methods := #[k2m0, k2m1]
  instanceTypes := #[]
  staticTypes := #[(.array .boolean)]
  resolved := Array.replicate 91 none
  statics := some 0 }

def pool3 : Array CpInfo := pool [(1, u "java/lang/Cloneable"), (0, .class_ 1), (0, u "java/lang/Object"), (0, .class_ 3)] 3

/-- java/lang/Cloneable -/
def k3 : Class := { plain "java/lang/Cloneable" (some 0) with
  accessFlags := 1537
  interfaces := #[]
  cf := some (fileOf pool3 2 #[] #[] 1537 4 #[] #[])
  fields := #[]
  methods := #[]
  instanceTypes := #[]
  staticTypes := #[]
  resolved := Array.replicate 8 none
  statics := none }

def pool4 : Array CpInfo := pool [(1, u "java/io/Serializable"), (0, .class_ 1), (0, u "java/lang/Object"), (0, .class_ 3)] 3

/-- java/io/Serializable -/
def k4 : Class := { plain "java/io/Serializable" (some 0) with
  accessFlags := 1537
  interfaces := #[]
  cf := some (fileOf pool4 2 #[] #[] 1537 4 #[] #[])
  fields := #[]
  methods := #[]
  instanceTypes := #[]
  staticTypes := #[]
  resolved := Array.replicate 8 none
  statics := none }

/-- the primitive boolean -/
def k5 : Class := { plain "boolean" none with kind := .primitive 'Z', accessFlags := 0x411 }
/-- [Z -/
def k6 : Class := { plain "[Z" (some 0) with kind := .array 5 .boolean, interfaces := #[3, 4], accessFlags := 1041 }

/-- the primitive byte -/
def k7 : Class := { plain "byte" none with kind := .primitive 'B', accessFlags := 0x411 }
/-- [B -/
def k8 : Class := { plain "[B" (some 0) with kind := .array 7 .byte, interfaces := #[3, 4], accessFlags := 1041 }

/-- the primitive int -/
def k9 : Class := { plain "int" none with kind := .primitive 'I', accessFlags := 0x411 }
/-- [I -/
def k10 : Class := { plain "[I" (some 0) with kind := .array 9 .int, interfaces := #[3, 4], accessFlags := 1041 }

def heap : Heap := #[{ cls := 2, slots := #[.ref 1], vm := .statics 2 },
  { cls := 6, slots := #[.int 0, .int 0, .int 0, .int 0, .int 0, .int 0, .int 0, .int 0, .int 0, .int 0, .int 0, .int 0, .int 0, .int 0, .int 0, .int 0, .int 0, .int 0, .int 0, .int 0, .int 0, .int 0, .int 0, .int 0, .int 0, .int 0, .int 0, .int 0, .int 0, .int 0, .int 0, .int 0, .int 1, .int 1, .int 0, .int 1, .int 1, .int 1, .int 0, .int 1, .int 1, .int 1, .int 1, .int 1, .int 1, .int 1, .int 1, .int 1, .int 1, .int 1, .int 1, .int 1, .int 1, .int 1, .int 1, .int 1, .int 1, .int 1, .int 1, .int 1, .int 0, .int 1, .int 0, .int 1, .int 1, .int 1, .int 1, .int 1, .int 1, .int 1, .int 1, .int 1, .int 1, .int 1, .int 1, .int 1, .int 1, .int 1, .int 1, .int 1, .int 1, .int 1, .int 1, .int 1, .int 1, .int 1, .int 1, .int 1, .int 1, .int 1, .int 1, .int 1, .int 1, .int 1, .int 1, .int 1, .int 1, .int 1, .int 1, .int 1, .int 1, .int 1, .int 1, .int 1, .int 1, .int 1, .int 1, .int 1, .int 1, .int 1, .int 1, .int 1, .int 1, .int 1, .int 1, .int 1, .int 1, .int 1, .int 1, .int 1, .int 1, .int 1, .int 1, .int 1, .int 1, .int 1, .int 1, .int 0], vm := .none }]
def classes : Array Class := #[k0, k1, k2, k3, k4, k5, k6, k7, k8, k9, k10]
def interned : List (Array UInt16 × Addr) := []
def slotsUsed : Nat := 129
def theMethod : MethodId := ⟨1, 2⟩
def args0 : Array Value := #[.int 65, .int 200]
def aboutOver (below : List Frame) : State where
  vm := { classes := classes, interned := interned.toArray }
  heap := heap
  slotsUsed := slotsUsed
  threads := #[{ frames := .invoking theMethod args0 :: below }]
def below0 : List Frame := [.native { method := ⟨0, 0⟩, args := #[] }]
def about1 : State := aboutOver below0
def p0 : Program := .bare "" "" ""
def e0 : Env := launch0.env 0 0 0
theorem w_frames : about1.frames = Frame.invoking theMethod args0 :: below0 := rfl
set_option maxRecDepth 65536 in
theorem w_args : argsFit about1.vm theMethod args0 = true := by decide +kernel
set_option maxRecDepth 65536 in
theorem w_heap : heapFits about1 = true := by decide +kernel
set_option maxRecDepth 65536 in
theorem w_runnable : about1.curStatus? = some .runnable := by decide +kernel
set_option maxRecDepth 65536 in
theorem w_alone : about1.alone = true := by decide +kernel
set_option maxRecDepth 65536 in
theorem w_named : about1.methodNamed? x = some theMethod := by decide +kernel
set_option maxRecDepth 65536 in
theorem w_hears : about1.hears theMethod below0 = true := by decide +kernel
set_option maxRecDepth 65536 in
theorem w_ripe : about1.ripe theMethod args0 below0 = true := by decide +kernel
theorem w_running : about1.status = .running := rfl
set_option maxRecDepth 65536 in
theorem w_room : about1.hasRoom e0.platform room_1 = true :=
  launch0.hasRoom_least _ room_1 (by decide +kernel) (by decide +kernel) (by decide +kernel) (by decide +kernel) (by decide +kernel) (by decide +kernel)
theorem allAtoms_all (ts : List Jvm.Cond) (a : Array Jvm.Value) (st : Jvm.State) : (allAtoms ts).before a st = ts.all (fun c => c.before a st) := by
  induction ts with
  | nil => rfl
  | cons c t ih =>
    show (Jvm.Cond.and c (allAtoms t)).before a st = _
    rw [Jvm.Cond.before_and, ih, List.all_cons]
def words1 : List Jvm.Cond := Jvm.Cond.code x code maxLocals ret :: tables_1
/-- a 'code' word, met by the world's own term for the bytes: nothing is compared byte by byte -/
theorem code_word {y : MethodName} {bytes : ByteArray} {mx : Nat} {rt : Option FieldType} {a : Array Value} {s : State} {m : MethodId} {meth : Method} {c : Code} (h1 : s.methodNamed? y = some m) (h2 : s.vm.method? m = some meth) (h3 : meth.code = some c) (h4 : c.code = bytes)
    (h5 : (c.maxLocals == mx && c.exceptionTable.isEmpty && decide (c.maxStack ≤ mostOperands) && decide (meth.sig.returnType = rt) && !meth.locks && decide (parseMethodDescriptor y.desc = some meth.sig)) = true) : (Jvm.Cond.code y bytes mx rt).before a s = true := by
  simp only [Bool.and_eq_true, beq_iff_eq, Bool.not_eq_true', decide_eq_true_eq] at h5
  obtain ⟨⟨⟨⟨⟨g1, g2⟩, g3⟩, g4⟩, g5⟩, g6⟩ := h5
  simp [Cond.before, Cond.holds, Cond.value, h1, h2, h3, h4, g1, g2, g3, g4, g5, g6]
def isCode : Jvm.Cond → Bool
  | .code _ _ _ _ => true
  | _ => false
theorem all_split {L : List Jvm.Cond} {P : Jvm.Cond → Bool} (h1 : L.all (fun c => isCode c || P c) = true) (h2 : ∀ c ∈ L.filter isCode, P c = true) : L.all P = true := by
  refine List.all_eq_true.mpr fun c hc => ?_
  have h := List.all_eq_true.mp h1 c hc
  rcases Bool.eq_false_or_eq_true (isCode c) with hi | hi
  · exact h2 c (List.mem_filter.mpr ⟨hc, hi⟩)
  · simpa [hi] using h
set_option maxRecDepth 65536 in
theorem w_c0 : (Jvm.Cond.code x code maxLocals ret).before args0 about1 = true := code_word (m := ⟨1, 2⟩) (meth := k1m2) (c := k1c2) (by decide +kernel) rfl rfl rfl (by decide +kernel)
set_option maxRecDepth 65536 in
theorem w_c1 : (Jvm.Cond.code ({ cls := "com/example/superlink/superlink/Xml", name := "isPlain", desc := "(I)Z" } : Jvm.MethodName) prog_53_method_3_code (1 : Nat) (Option.some Jvm.ClassFile.FieldType.boolean)).before args0 about1 = true := code_word (m := ⟨2, 1⟩) (meth := k2m1) (c := k2c1) (by decide +kernel) rfl rfl rfl (by decide +kernel)
set_option maxRecDepth 65536 in
theorem w_c2 : (Jvm.Cond.code ({ cls := "com/example/superlink/superlink/XmlIsPlainPinLaw", name := "expected", desc := "(I)Z" } : Jvm.MethodName) method_2_code (1 : Nat) (Option.some Jvm.ClassFile.FieldType.boolean)).before args0 about1 = true := code_word (m := ⟨1, 1⟩) (meth := k1m1) (c := k1c1) (by decide +kernel) rfl rfl rfl (by decide +kernel)
def codes1 : List Jvm.Cond := [Jvm.Cond.code x code maxLocals ret, Jvm.Cond.code ({ cls := "com/example/superlink/superlink/Xml", name := "isPlain", desc := "(I)Z" } : Jvm.MethodName) prog_53_method_3_code (1 : Nat) (Option.some Jvm.ClassFile.FieldType.boolean), Jvm.Cond.code ({ cls := "com/example/superlink/superlink/XmlIsPlainPinLaw", name := "expected", desc := "(I)Z" } : Jvm.MethodName) method_2_code (1 : Nat) (Option.some Jvm.ClassFile.FieldType.boolean)]
set_option maxRecDepth 65536 in
theorem codes_eq : words1.filter isCode = codes1 := rfl
theorem w_codes : ∀ c ∈ words1.filter isCode, c.before args0 about1 = true := by
  rw [codes_eq]
  intro c hc
  simp only [codes1, List.mem_cons, List.not_mem_nil, or_false] at hc
  rcases hc with rfl | rfl | rfl
  · exact w_c0
  · exact w_c1
  · exact w_c2
set_option maxRecDepth 65536 in
theorem w_t1 : words1.all (fun c => isCode c || c.before args0 about1) = true := by decide +kernel
theorem w_tables : (allAtoms (Jvm.Cond.code x code maxLocals ret :: tables_1)).before args0 about1 = true := by
  rw [allAtoms_all]
  show words1.all (fun c => c.before args0 about1) = true
  refine all_split ?_ w_codes
  rw [w_t1]
set_option maxRecDepth 65536 in
theorem w_case : (Jvm.Cond.and given_1 narrow_1).before args0 about1 = true := by decide +kernel
theorem w_applies : (headSpec (Jvm.Cond.code x code maxLocals ret :: tables_1) room_1).applies x e0.platform about1 = true :=
  (Spec.applies_iff w_frames).mpr ⟨w_running, w_runnable, w_alone, w_named, w_hears, w_ripe, w_room, w_tables⟩
theorem atStart : AtStart classFile x code maxLocals ret World_1 tables_1 room_1 Calls_1 rest_1 Pre_1 launch0 p0 e0 about1 theMethod args0 below0 :=
  ⟨lists_1, trivial, launch0.admits_env _ _ _, launch0.least_env, fairChoices_fair.cas, fairChoices_fair.clock, w_frames, w_args, w_heap, w_applies, trivial, trivial, w_case⟩
end start1
theorem witness_1 : WitnessClaimed_1 := ⟨start1.p0, start1.e0, start1.about1, start1.theMethod, start1.args0, start1.below0, start1.atStart⟩
end Jvm.Pilot.@@N@@
