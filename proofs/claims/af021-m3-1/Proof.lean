import JvmDerived
import JvmDerived.Pilot.@@N@@Statement
import JvmDerived.Pilot.@@N@@Code
set_option linter.unusedVariables false
set_option linter.unusedSimpArgs false
namespace Jvm.Pilot.@@N@@
open Jvm Jvm.ClassFile Sem Op Lib Jvm.Free Jvm.Stand Jvm.LawKit Jvm.RoadKit Bundle Jvm.Pilot.@@N@@.Jvm.D
section OwnKit
variable {p : Program} {l : Launch} {e : Env} {R : Room} {s : State} {m : MethodId} {args : Array Value} {below : List Frame} {meth : Method} {c : Code} {T : State} {locs : List Loc} {cells slots : Nat} {Z : State} {a0 : Array Value} {h h' : Heap} {K : State → Outcome → Prop}
/-- from here the run comes to an end that K takes -/
def own_Wp (tb : Tables) (e : Env) (below : List Frame) (K : State → Outcome → Prop) (st : State) : Prop := ∃ s₂ o, Steps tb e below st s₂ ∧ K s₂ o
theorem own_of {tb : Tables} {A B : State} (h : ∀ t, Steps tb e below B t → Steps tb e below A t) (w : own_Wp tb e below K B) : own_Wp tb e below K A := by
  obtain ⟨s₂, o, h1, h2⟩ := w
  exact ⟨s₂, o, h _ h1, h2⟩
def own_K (R : Room) (s : State) (below : List Frame) (Q : Option Value → Heap → List Loc → Prop) (s₂ : State) (o : Outcome) : Prop :=
  s₂.status = .running ∧ Ended s₂ below o ∧ ∃ v L, o = .returned v ∧ Q v s₂.heap L ∧ FrameEnd s o s₂ L R.cells R.slots
theorem own_ret {Q : Option Value → Heap → List Loc → Prop} (X : Stand p l e R s m args below meth c T locs cells slots) (hlk : meth.locks = false) (v : Option Value) (hv : meth.sig.returnType = none → v = none) {f : JFrame}
    (hs : ∀ fs, (∀ (f : JFrame) (acts : List Action), f.method = m → f.locked = none → f.entered = [] → (doReturn e (T.setTop f) acts v).1 = T.setFrames fs) → Steps p.tables e below (T.setTop f) (T.setFrames fs))
    (hQ : Q v T.heap locs) (hc : cells ≤ R.cells) (hsl : slots ≤ R.slots) : own_Wp p.tables e below (own_K R s below Q) (T.setTop f) := by
  obtain ⟨fs, hr, hrun, hended, hW, hsame⟩ := X.leave (v := v) hv hlk
  exact ⟨_, _, hs fs hr, hrun, hended, _, _, rfl, hQ, ⟨_, rfl⟩, hW, hsame.mono hc hsl⟩
theorem own_rtI {i : FieldType} {v : Option Value} {r : Option FieldType} (h1 : r = some i) : r = none → v = none := fun h => by rw [h1] at h; cases h
theorem own_retI (X : Stand p l e R s m args below meth c T locs cells slots) (hx : p.tables.exec = Jvm.exec) {pc : Nat} {Ls : Array Slot} {z : Int32} {rest : List Value} (hret : meth.sig.returnType = some .int) (hd : decode c.code pc = .ok (.ireturn, 1)) {fs : List Frame}
    (hl : ∀ (f : JFrame) (acts : List Action), f.method = m → f.locked = none → f.entered = [] → (doReturn e (T.setTop f) acts (some (.int z))).1 = T.setFrames fs) : Steps p.tables e below (T.setTop (mkF m pc Ls (.int z :: rest))) (T.setFrames fs) :=
  retOut X hx hret rfl (Or.inl ⟨rfl, Or.inl rfl, z, rfl⟩) hd hl
theorem own_retJ (X : Stand p l e R s m args below meth c T locs cells slots) (hx : p.tables.exec = Jvm.exec) {pc : Nat} {Ls : Array Slot} {z : Int64} {rest : List Value} (hret : meth.sig.returnType = some .long) (hd : decode c.code pc = .ok (.lreturn, 1)) {fs : List Frame}
    (hl : ∀ (f : JFrame) (acts : List Action), f.method = m → f.locked = none → f.entered = [] → (doReturn e (T.setTop f) acts (some (.long z))).1 = T.setFrames fs) : Steps p.tables e below (T.setTop (mkF m pc Ls (.long z :: rest))) (T.setFrames fs) :=
  retOut X hx hret rfl (Or.inr (Or.inl ⟨rfl, rfl, z, rfl⟩)) hd hl
theorem own_retR (X : Stand p l e R s m args below meth c T locs cells slots) (hx : p.tables.exec = Jvm.exec) {pc : Nat} {Ls : Array Slot} {w : Value} {t : FieldType} {rest : List Value} (hret : meth.sig.returnType = some t) (hw : w.isRef = true) (ht : t.isReference = true) (hn : narrow t w = w) (hd : decode c.code pc = .ok (.areturn, 1)) {fs : List Frame}
    (hl : ∀ (f : JFrame) (acts : List Action), f.method = m → f.locked = none → f.entered = [] → (doReturn e (T.setTop f) acts (some w)).1 = T.setFrames fs) : Steps p.tables e below (T.setTop (mkF m pc Ls (w :: rest))) (T.setFrames fs) :=
  retOut X hx hret hn (Or.inr (Or.inr (Or.inr (Or.inr ⟨rfl, ht, hw⟩)))) hd hl
/-- a method's contract: called so, at the heap h0, it returns as Q says -/
abbrev own_Ctr (l : Launch) (Z : State) (y : MethodName) (bytes : ByteArray) (maxL : Nat) (ret : Option FieldType) (ws : List Jvm.Cond) (rm : Room) (as' : Array Value) (h0 : Heap) (Q : Option Value → Heap → List Loc → Prop) : Prop :=
  MetFree l y (head1 (Jvm.Cond.code y bytes maxL ret :: ws) rm) (fun a U => a = as' ∧ Z.Warmed39 U.vm ∧ U.heap = h0) (fun _ _ _ _ _ => True) (fun _ U o U' => ∃ v L, o = .returned v ∧ Q v U'.heap L ∧ FrameEnd U o U' L rm.cells rm.slots)
theorem own_enter {y : MethodName} {bytes : ByteArray} {maxL : Nat} {ret : Option FieldType} {ws : List Jvm.Cond} {rm : Room} {as' : Array Value} {h0 : Heap} {Q : Option Value → Heap → List Loc → Prop} (hpl : plainFor y = true)
    (body : ∀ (p : Program) (e : Env) (s : State) (m : MethodId) (below : List Frame) (meth : Method) (c : Code) (s₁ : State), Stand p l e rm s m as' below meth c s₁ [] 0 0 → p.tables.exec = Jvm.exec → c.code = bytes → c.maxLocals = maxL → meth.sig.returnType = ret → meth.locks = false → Z.Warmed39 s.vm → s.vm.findClass y.cls = some m.cls → meth.name = y.name → s₁.heap = h0 → own_Wp p.tables e below (own_K rm s below Q) (s₁.setTop (entryFrame m as' maxL))) :
    own_Ctr l Z y bytes maxL ret ws rm as' h0 Q := by
  refine MetFree.of_bodySF hpl hisR ?_
  intro p e s m args below meth c s₁ Bd hml0 hP hK
  obtain ⟨rfl, hZ, hh⟩ := hP
  obtain ⟨s₂, o, h1, h2, h3, h4⟩ := body p e s m below meth c s₁ (Stand.of_body Bd) Bd.exec Bd.bytes hml0 Bd.returns Bd.notSynchronized hZ (findClass_of_methodNamed Bd.named) (name_of_methodNamed Bd.named Bd.method).1 (by rw [← hh, Bd.state]; rfl)
  exact ⟨s₂, o, h1, h2, h3, h4⟩
section Calls
variable {own C : String} {index maxL W : Nat} {y z : MethodName} {bytes : ByteArray} {ret : Option FieldType} {rm : Room} {Q : Option Value → Heap → List Loc → Prop} {argsL rest : List Value} {g : JFrame} {a : Addr}
theorem own_callS (X : Stand p l e R s m args below meth c T locs cells slots) (hx : p.tables.exec = Jvm.exec) (hZ : Z.Warmed39 s.vm) (hown : s.vm.findClass own = some m.cls)
    (w1 : (Jvm.Cond.methodLink own index y).before a0 Z = true) (w2 : (Jvm.Cond.static y).before a0 Z = true) (w3 : (Jvm.Cond.initialized y.cls).before a0 Z = true) (w4 : (Jvm.Cond.code y bytes maxL ret).before a0 Z = true)
    (hy : y.cls ≠ "java/lang/invoke/MethodHandle" ∧ y.cls ≠ "java/lang/invoke/VarHandle") (eT : T.heap = h) (hM : own_Ctr l Z y bytes maxL ret [] rm argsL.toArray h Q)
    (hf : rm.frames + 1 ≤ R.frames) (hl : W + (maxL + 11) + rm.locals ≤ R.locals) (hc : cells + rm.cells ≤ R.cells) (hs : slots + rm.slots ≤ R.slots)
    (hg : g.method = m) (hsize : g.locals.size = c.maxLocals) (hlen : ∀ sig, parseMethodDescriptor y.desc = some sig → argsL.length = sig.parameters.length) (hstack : g.stack = argsL.reverse ++ rest) (hW : 2 * g.monitorRoom + (rest.map fun v => v.category).sum ≤ W) (hdg : decode c.code g.pc = .ok (.invokestatic index, 3))
    (k : ∀ (T' : State) (L : List Loc) (v : Option Value), Stand p l e R s m args below meth c T' (locs ++ L) (cells + rm.cells) (slots + rm.slots) → Q v T'.heap L → own_Wp p.tables e below K (T'.setTop { g with pc := g.pc + 3, stack := v.toList ++ rest })) :
    own_Wp p.tables e below K (T.setTop g) := by
  obtain ⟨v, _, ⟨T', L', k', n'⟩, -, X', ⟨Lc, hQ, l1, y1, z1⟩, st⟩ := Jvm.LawKit.callS X hx hown (mvT hZ w1) (mvT hZ w2) (mvT hZ w3) (mvT hZ w4) hy (backOf (W := W) hM hZ w4 w3 hf hl) hg hsize hlen hstack hW hdg (fun _ _ => ⟨rfl, eT, hc, hs⟩)
  dsimp only [Pt.U, Pt.locs, Pt.cells, Pt.slots] at X' l1 y1 z1 st hQ
  subst l1 y1 z1
  exact own_of st (k _ _ _ X' hQ)
theorem own_callI (X : Stand p l e R s m args below meth c T locs cells slots) (hx : p.tables.exec = Jvm.exec) (hZ : Z.Warmed39 s.vm) (hy1 : y.name = "<init>") (hown : s.vm.findClass own = some m.cls)
    (w1 : (Jvm.Cond.methodLink own index y).before a0 Z = true) (w2 : (Jvm.Cond.instanceMethod y).before a0 Z = true) (w3 : (Jvm.Cond.initialized y.cls).before a0 Z = true) (w4 : (Jvm.Cond.code y bytes maxL none).before a0 Z = true)
    (hy : y.cls ≠ "java/lang/invoke/MethodHandle" ∧ y.cls ≠ "java/lang/invoke/VarHandle") (eT : T.heap = h) (hM : own_Ctr l Z y bytes maxL none [] rm (.ref a :: argsL).toArray h Q)
    (hf : rm.frames + 1 ≤ R.frames) (hl : W + (maxL + 11) + rm.locals ≤ R.locals) (hc : cells + rm.cells ≤ R.cells) (hs : slots + rm.slots ≤ R.slots)
    (hg : g.method = m) (hsize : g.locals.size = c.maxLocals) (hlen : ∀ sig, parseMethodDescriptor y.desc = some sig → argsL.length = sig.parameters.length) (hstack : g.stack = argsL.reverse ++ .ref a :: rest) (hW : 2 * g.monitorRoom + (rest.map fun v => v.category).sum ≤ W) (hdg : decode c.code g.pc = .ok (.invokespecial index, 3))
    (k : ∀ (T' : State) (L : List Loc) (v : Option Value), Stand p l e R s m args below meth c T' (locs ++ L) (cells + rm.cells) (slots + rm.slots) → Q v T'.heap L → own_Wp p.tables e below K (T'.setTop { g with pc := g.pc + 3, stack := v.toList ++ rest })) :
    own_Wp p.tables e below K (T.setTop g) := by
  obtain ⟨v, _, ⟨T', L', k', n'⟩, -, X', ⟨Lc, hQ, l1, y1, z1⟩, st⟩ := X.specialBack hx hy1 hown (mvT hZ w1) (mvT hZ w2) (mvT hZ w4) hy (backOf (W := W) hM hZ w4 w3 hf hl) hg hsize (Steps.refl _) hlen hstack hW hdg (fun _ _ => ⟨rfl, eT, hc, hs⟩)
  dsimp only [Pt.U, Pt.locs, Pt.cells, Pt.slots] at X' l1 y1 z1 st hQ
  subst l1 y1 z1
  exact own_of (fun t q => st.trans q) (k _ _ _ X' hQ)
theorem own_callV (X : Stand p l e R s m args below meth c T locs cells slots) (hx : p.tables.exec = Jvm.exec) (hZ : Z.Warmed39 s.vm) (hown : s.vm.findClass own = some m.cls)
    (w1 : (Jvm.Cond.methodLink own index y).before a0 Z = true) (w2 : (Jvm.Cond.declares y).before a0 Z = true) (w5 : (Jvm.Cond.selects C y y).before a0 Z = true) (w6 : (Jvm.Cond.instanceMethod y).before a0 Z = true) (w3 : (Jvm.Cond.initialized y.cls).before a0 Z = true) (w4 : (Jvm.Cond.code y bytes maxL ret).before a0 Z = true)
    (hy : y.cls ≠ "java/lang/invoke/MethodHandle" ∧ y.cls ≠ "java/lang/invoke/VarHandle") (eT : T.heap = h) (E : Exa Z h a C) (hM : own_Ctr l Z y bytes maxL ret [] rm (.ref a :: argsL).toArray h Q)
    (hf : rm.frames + 1 ≤ R.frames) (hl : W + (maxL + 11) + rm.locals ≤ R.locals) (hc : cells + rm.cells ≤ R.cells) (hs : slots + rm.slots ≤ R.slots)
    (hg : g.method = m) (hsize : g.locals.size = c.maxLocals) (hlen : ∀ sig, parseMethodDescriptor y.desc = some sig → argsL.length = sig.parameters.length) (hstack : g.stack = argsL.reverse ++ .ref a :: rest) (hW : 2 * g.monitorRoom + (rest.map fun v => v.category).sum ≤ W) (hdg : decode c.code g.pc = .ok (.invokevirtual index, 3))
    (k : ∀ (T' : State) (L : List Loc) (v : Option Value), Stand p l e R s m args below meth c T' (locs ++ L) (cells + rm.cells) (slots + rm.slots) → Q v T'.heap L → own_Wp p.tables e below K (T'.setTop { g with pc := g.pc + 3, stack := v.toList ++ rest })) :
    own_Wp p.tables e below K (T.setTop g) := by
  obtain ⟨cq, kq, qa, qb, qc⟩ := isOf hZ eT E
  obtain ⟨v, _, ⟨T', L', k', n'⟩, -, X', ⟨Lc, hQ, l1, y1, z1⟩, st⟩ := X.virtualBack hx hown (mvT hZ w1) (mvT hZ w2) (notFace_of_selects (args := #[]) (mvT hZ w5)) (mvT hZ w5) (mvT hZ w6) hy (backOf (W := W) hM hZ w4 w3 hf hl) qa qc hg hsize (Steps.refl _) hlen hstack hW hdg (fun _ _ => ⟨rfl, eT, hc, hs⟩)
  dsimp only [Pt.U, Pt.locs, Pt.cells, Pt.slots] at X' l1 y1 z1 st hQ
  subst l1 y1 z1
  exact own_of (fun t q => st.trans q) (k _ _ _ X' hQ)
theorem own_callP {nI : Nat} {C0 : String} (X : Stand p l e R s m args below meth c T locs cells slots) (hx : p.tables.exec = Jvm.exec) (hZ : Z.Warmed39 s.vm) (hown : s.vm.findClass own = some m.cls)
    (w1 : (Jvm.Cond.methodLink own index y).before a0 Z = true) (w2 : (Jvm.Cond.instanceMethod y).before a0 Z = true) (wi : (Jvm.Cond.instantiable y.cls nI).before a0 Z = true) (wp : (Jvm.Cond.privateMethod y).before a0 Z = true) (w3 : (Jvm.Cond.initialized y.cls).before a0 Z = true) (w4 : (Jvm.Cond.code y bytes maxL ret).before a0 Z = true)
    (hy : y.cls ≠ "java/lang/invoke/MethodHandle" ∧ y.cls ≠ "java/lang/invoke/VarHandle") (eT : T.heap = h) (E : Exa Z h a C0) (hM : own_Ctr l Z y bytes maxL ret [] rm (.ref a :: argsL).toArray h Q)
    (hf : rm.frames + 1 ≤ R.frames) (hl : W + (maxL + 11) + rm.locals ≤ R.locals) (hc : cells + rm.cells ≤ R.cells) (hs : slots + rm.slots ≤ R.slots)
    (hg : g.method = m) (hsize : g.locals.size = c.maxLocals) (hlen : ∀ sig, parseMethodDescriptor y.desc = some sig → argsL.length = sig.parameters.length) (hstack : g.stack = argsL.reverse ++ .ref a :: rest) (hW : 2 * g.monitorRoom + (rest.map fun v => v.category).sum ≤ W) (hdg : decode c.code g.pc = .ok (.invokevirtual index, 3))
    (k : ∀ (T' : State) (L : List Loc) (v : Option Value), Stand p l e R s m args below meth c T' (locs ++ L) (cells + rm.cells) (slots + rm.slots) → Q v T'.heap L → own_Wp p.tables e below K (T'.setTop { g with pc := g.pc + 3, stack := v.toList ++ rest })) :
    own_Wp p.tables e below K (T.setTop g) := by
  obtain ⟨cq, q1, q2⟩ := E.cell
  obtain ⟨ci, ki, i1, i2, -, i4, -⟩ := Cond.instantiable_spec (mvT (args := args) hZ wi)
  simp only [Bool.or_eq_false_iff] at i4
  have hpr : s.PrivateAt y := Cond.privateMethod_at (mvP hZ wp (args := #[]))
  have hsel : (Jvm.Cond.selects y.cls y y).before args s = true := selects_self_of_private i1 i2 i4.1 hpr (mvT hZ w2) hy
  obtain ⟨v, _, ⟨T', L', k', n'⟩, -, X', ⟨Lc, hQ, l1, y1, z1⟩, st⟩ := X.privateBack hx hown (mvT hZ w1) (mvT hZ w2) hsel hpr (mvT hZ w4) hy (backOf (W := W) hM hZ w4 w3 hf hl) hg hsize (Steps.refl _) (by rw [eT]; exact q1) q2 hlen hstack hW hdg (fun _ _ => ⟨rfl, eT, hc, hs⟩)
  dsimp only [Pt.U, Pt.locs, Pt.cells, Pt.slots] at X' l1 y1 z1 st hQ
  subst l1 y1 z1
  exact own_of (fun t q => st.trans q) (k _ _ _ X' hQ)
end Calls
end OwnKit
def own_min (a b : Int64) : Int64 := if (0 : Int32) < lcmpW a b then b else a
def own_max (a b : Int64) : Int64 := if lcmpW a b < (0 : Int32) then b else a
def own_ov (st sp f t : Int64) : Int32 := if (0 : Int32) < lcmpW f sp then 0 else if lcmpW t st < (0 : Int32) then 0 else 1
theorem d1_0 : decode jdk_29_method_70_code 0 = .ok (.lload_n 0, 1) := by decide +kernel
theorem d1_1 : decode jdk_29_method_70_code 1 = .ok (.lload_n 2, 1) := by decide +kernel
theorem d1_2 : decode jdk_29_method_70_code 2 = .ok (.lcmp, 1) := by decide +kernel
theorem d1_3 : decode jdk_29_method_70_code 3 = .ok (.ifCond .gt 7, 3) := by decide +kernel
theorem d1_10 : decode jdk_29_method_70_code 10 = .ok (.lload_n 2, 1) := by decide +kernel
theorem d1_11 : decode jdk_29_method_70_code 11 = .ok (.lreturn, 1) := by decide +kernel
theorem d1_6 : decode jdk_29_method_70_code 6 = .ok (.lload_n 0, 1) := by decide +kernel
theorem d1_7 : decode jdk_29_method_70_code 7 = .ok (.goto 4, 3) := by decide +kernel
def Q_rm1 (Z : State) (q1 : Int64) (q2 : Int64) (h0 : Heap) (n0 : Nat) (v : Option Value) (h : Heap) (L : List Loc) : Prop := v = some (.long (own_min q1 q2)) ∧ Fr n0 L ∧ h = h0
set_option maxRecDepth 65536 in
set_option maxHeartbeats 40000000 in
theorem rm1 (l : Launch) (Z : State) (a0 : Array Value) (hw : ∀ d ∈ tables_1, d.before a0 Z = true) (ws : List Jvm.Cond) (q1 : Int64) (q2 : Int64) (h0 : Heap) (n0 : Nat) (Z0 : n0 ≤ h0.size)  :
    own_Ctr l Z (⟨"java/lang/Math", "min", "(JJ)J"⟩ : MethodName) jdk_29_method_70_code 4 (some .long) ws ({ frames := 0, cells := 0, slots := 0, locals := 0 } : Room) #[(.long q1), (.long q2)] h0 (Q_rm1 Z q1 q2 h0 n0) := by
  refine own_enter (Jvm.Free.JP.mathPlain rfl (by decide +kernel)) ?_
  intro p e s m below meth c s₁ X0 hx hby hml hrt hlk hZ hown hnm e0
  have N0 := Fr.nil n0
  have Zs := Z0
  rw [show entryFrame m #[(.long q1), (.long q2)] 4 = mkF m 0 #[.val (.long q1), .second, .val (.long q2), .second] [] from by first | (simp [entryFrame, mkF, argsToLocals, Value.category]; done) | rfl]
  show own_Wp _ _ _ _ (s₁.setTop (mkF m 0 #[.val (.long q1), .second, .val (.long q2), .second] []))
  refine own_of (fun tgt kon => XS.lloadN X0.here hx rfl (hb hby d1_0) rfl kon) ?_
  show own_Wp _ _ _ _ (s₁.setTop (mkF m 1 #[.val (.long q1), .second, .val (.long q2), .second] [(.long q1)]))
  refine own_of (fun tgt kon => XS.lloadN X0.here hx rfl (hb hby d1_1) rfl kon) ?_
  show own_Wp _ _ _ _ (s₁.setTop (mkF m 2 #[.val (.long q1), .second, .val (.long q2), .second] [(.long q2), (.long q1)]))
  refine own_of (fun tgt kon => XS.lcmp X0.here hx rfl (hb hby d1_2) rfl kon) ?_
  show own_Wp _ _ _ _ (s₁.setTop (mkF m 3 #[.val (.long q1), .second, .val (.long q2), .second] [(.int (lcmpW q1 q2))]))
  by_cases hc3 : (0 : Int32) < (lcmpW q1 q2)
  · skip
    refine own_of (fun tgt kon => XS.ifYes X0.here hx rfl (pc0 := 3) (pc' := 10) rfl (hb hby d1_3) rfl ((if0 _ _).trans (tlt hc3).2.2.1) (by decide) (by decide) kon) ?_
    show own_Wp _ _ _ _ (s₁.setTop (mkF m 10 #[.val (.long q1), .second, .val (.long q2), .second] []))
    refine own_of (fun tgt kon => XS.lloadN X0.here hx rfl (hb hby d1_10) rfl kon) ?_
    show own_Wp _ _ _ _ (s₁.setTop (mkF m 11 #[.val (.long q1), .second, .val (.long q2), .second] [(.long q2)]))
    refine own_ret X0 hlk (some (.long q2)) (own_rtI hrt) (fun fs hr => own_retJ X0 hx hrt (hb hby d1_11) hr) ?_ (by decide) (by decide)
    rw [e0]
    exact ⟨by simp only [own_min]; first | rw [if_pos hc3] | rw [if_neg hc3], N0, rfl⟩
  · skip
    refine own_of (fun tgt kon => XS.ifNo X0.here hx rfl (hb hby d1_3) rfl ((if0 _ _).trans (flt hc3).2.2.1) kon) ?_
    show own_Wp _ _ _ _ (s₁.setTop (mkF m 6 #[.val (.long q1), .second, .val (.long q2), .second] []))
    refine own_of (fun tgt kon => XS.lloadN X0.here hx rfl (hb hby d1_6) rfl kon) ?_
    show own_Wp _ _ _ _ (s₁.setTop (mkF m 7 #[.val (.long q1), .second, .val (.long q2), .second] [(.long q1)]))
    refine own_of (fun tgt kon => XS.goto X0.here hx rfl (pc0 := 7) (pc' := 11) rfl (hb hby d1_7) (by decide) (by decide) kon) ?_
    show own_Wp _ _ _ _ (s₁.setTop (mkF m 11 #[.val (.long q1), .second, .val (.long q2), .second] [(.long q1)]))
    refine own_ret X0 hlk (some (.long q1)) (own_rtI hrt) (fun fs hr => own_retJ X0 hx hrt (hb hby d1_11) hr) ?_ (by decide) (by decide)
    rw [e0]
    exact ⟨by simp only [own_min]; first | rw [if_pos hc3] | rw [if_neg hc3], N0, rfl⟩
theorem d2_0 : decode jdk_29_method_66_code 0 = .ok (.lload_n 0, 1) := by decide +kernel
theorem d2_1 : decode jdk_29_method_66_code 1 = .ok (.lload_n 2, 1) := by decide +kernel
theorem d2_2 : decode jdk_29_method_66_code 2 = .ok (.lcmp, 1) := by decide +kernel
theorem d2_3 : decode jdk_29_method_66_code 3 = .ok (.ifCond .lt 7, 3) := by decide +kernel
theorem d2_10 : decode jdk_29_method_66_code 10 = .ok (.lload_n 2, 1) := by decide +kernel
theorem d2_11 : decode jdk_29_method_66_code 11 = .ok (.lreturn, 1) := by decide +kernel
theorem d2_6 : decode jdk_29_method_66_code 6 = .ok (.lload_n 0, 1) := by decide +kernel
theorem d2_7 : decode jdk_29_method_66_code 7 = .ok (.goto 4, 3) := by decide +kernel
def Q_rm2 (Z : State) (q1 : Int64) (q2 : Int64) (h0 : Heap) (n0 : Nat) (v : Option Value) (h : Heap) (L : List Loc) : Prop := v = some (.long (own_max q1 q2)) ∧ Fr n0 L ∧ h = h0
set_option maxRecDepth 65536 in
set_option maxHeartbeats 40000000 in
theorem rm2 (l : Launch) (Z : State) (a0 : Array Value) (hw : ∀ d ∈ tables_1, d.before a0 Z = true) (ws : List Jvm.Cond) (q1 : Int64) (q2 : Int64) (h0 : Heap) (n0 : Nat) (Z0 : n0 ≤ h0.size)  :
    own_Ctr l Z (⟨"java/lang/Math", "max", "(JJ)J"⟩ : MethodName) jdk_29_method_66_code 4 (some .long) ws ({ frames := 0, cells := 0, slots := 0, locals := 0 } : Room) #[(.long q1), (.long q2)] h0 (Q_rm2 Z q1 q2 h0 n0) := by
  refine own_enter (Jvm.Free.JP.mathPlain rfl (by decide +kernel)) ?_
  intro p e s m below meth c s₁ X0 hx hby hml hrt hlk hZ hown hnm e0
  have N0 := Fr.nil n0
  have Zs := Z0
  rw [show entryFrame m #[(.long q1), (.long q2)] 4 = mkF m 0 #[.val (.long q1), .second, .val (.long q2), .second] [] from by first | (simp [entryFrame, mkF, argsToLocals, Value.category]; done) | rfl]
  show own_Wp _ _ _ _ (s₁.setTop (mkF m 0 #[.val (.long q1), .second, .val (.long q2), .second] []))
  refine own_of (fun tgt kon => XS.lloadN X0.here hx rfl (hb hby d2_0) rfl kon) ?_
  show own_Wp _ _ _ _ (s₁.setTop (mkF m 1 #[.val (.long q1), .second, .val (.long q2), .second] [(.long q1)]))
  refine own_of (fun tgt kon => XS.lloadN X0.here hx rfl (hb hby d2_1) rfl kon) ?_
  show own_Wp _ _ _ _ (s₁.setTop (mkF m 2 #[.val (.long q1), .second, .val (.long q2), .second] [(.long q2), (.long q1)]))
  refine own_of (fun tgt kon => XS.lcmp X0.here hx rfl (hb hby d2_2) rfl kon) ?_
  show own_Wp _ _ _ _ (s₁.setTop (mkF m 3 #[.val (.long q1), .second, .val (.long q2), .second] [(.int (lcmpW q1 q2))]))
  by_cases hc3 : (lcmpW q1 q2) < (0 : Int32)
  · skip
    refine own_of (fun tgt kon => XS.ifYes X0.here hx rfl (pc0 := 3) (pc' := 10) rfl (hb hby d2_3) rfl ((if0 _ _).trans (tlt hc3).1) (by decide) (by decide) kon) ?_
    show own_Wp _ _ _ _ (s₁.setTop (mkF m 10 #[.val (.long q1), .second, .val (.long q2), .second] []))
    refine own_of (fun tgt kon => XS.lloadN X0.here hx rfl (hb hby d2_10) rfl kon) ?_
    show own_Wp _ _ _ _ (s₁.setTop (mkF m 11 #[.val (.long q1), .second, .val (.long q2), .second] [(.long q2)]))
    refine own_ret X0 hlk (some (.long q2)) (own_rtI hrt) (fun fs hr => own_retJ X0 hx hrt (hb hby d2_11) hr) ?_ (by decide) (by decide)
    rw [e0]
    exact ⟨by simp only [own_max]; first | rw [if_pos hc3] | rw [if_neg hc3], N0, rfl⟩
  · skip
    refine own_of (fun tgt kon => XS.ifNo X0.here hx rfl (hb hby d2_3) rfl ((if0 _ _).trans (flt hc3).1) kon) ?_
    show own_Wp _ _ _ _ (s₁.setTop (mkF m 6 #[.val (.long q1), .second, .val (.long q2), .second] []))
    refine own_of (fun tgt kon => XS.lloadN X0.here hx rfl (hb hby d2_6) rfl kon) ?_
    show own_Wp _ _ _ _ (s₁.setTop (mkF m 7 #[.val (.long q1), .second, .val (.long q2), .second] [(.long q1)]))
    refine own_of (fun tgt kon => XS.goto X0.here hx rfl (pc0 := 7) (pc' := 11) rfl (hb hby d2_7) (by decide) (by decide) kon) ?_
    show own_Wp _ _ _ _ (s₁.setTop (mkF m 11 #[.val (.long q1), .second, .val (.long q2), .second] [(.long q1)]))
    refine own_ret X0 hlk (some (.long q1)) (own_rtI hrt) (fun fs hr => own_retJ X0 hx hrt (hb hby d2_11) hr) ?_ (by decide) (by decide)
    rw [e0]
    exact ⟨by simp only [own_max]; first | rw [if_pos hc3] | rw [if_neg hc3], N0, rfl⟩
theorem own_pn0 : plainName "java/lang/Record" = true := by first | (simp [plainName, overriddenIn]; done) | decide +kernel
theorem d4_0 : decode jdk_30_method_1_code 0 = .ok (.aload_n 0, 1) := by decide +kernel
theorem d4_1 : decode jdk_30_method_1_code 1 = .ok (.invokespecial 1, 3) := by decide +kernel
theorem d4_4 : decode jdk_30_method_1_code 4 = .ok (.return_, 1) := by decide +kernel
def Q_rm4 (Z : State) (a1 : Addr) (h0 : Heap) (n0 : Nat) (v : Option Value) (h : Heap) (L : List Loc) : Prop := v = none ∧ Fr n0 L ∧ h = h0
set_option maxRecDepth 65536 in
set_option maxHeartbeats 40000000 in
theorem rm4 (l : Launch) (Z : State) (a0 : Array Value) (hw : ∀ d ∈ tables_1, d.before a0 Z = true) (ws : List Jvm.Cond) (a1 : Addr) (h0 : Heap) (n0 : Nat) (Z0 : n0 ≤ h0.size)  :
    own_Ctr l Z (⟨"java/lang/Record", "<init>", "()V"⟩ : MethodName) jdk_30_method_1_code 1 none ws ({ frames := 1, cells := 0, slots := 0, locals := 12 } : Room) #[(.ref a1)] h0 (Q_rm4 Z a1 h0 n0) := by
  refine own_enter (plainFor_of_name own_pn0) ?_
  intro p e s m below meth c s₁ X0 hx hby hml hrt hlk hZ hown hnm e0
  have N0 := Fr.nil n0
  have Zs := Z0
  rw [show entryFrame m #[(.ref a1)] 1 = mkF m 0 #[.val (.ref a1)] [] from by first | (simp [entryFrame, mkF, argsToLocals, Value.category]; done) | rfl]
  show own_Wp _ _ _ _ (s₁.setTop (mkF m 0 #[.val (.ref a1)] []))
  refine own_of (fun tgt kon => XS.aloadN X0.here hx rfl (hb hby d4_0) rfl rfl kon) ?_
  show own_Wp _ _ _ _ (s₁.setTop (mkF m 1 #[.val (.ref a1)] [(.ref a1)]))
  obtain ⟨T1, X1, e1, st1⟩ := initO X0 hx hZ hown (hw _ (List.mem_of_getElem? (i := 18) rfl)) (hw _ (List.mem_of_getElem? (i := 19) rfl)) (hw _ (List.mem_of_getElem? (i := 20) rfl)) e0 (g := (mkF m 1 #[.val (.ref a1)] [(.ref a1)])) rfl (by rw [hml]; rfl) rfl (hb hby d4_1) (by decide) (W := 0) (by show 2 * 0 + _ ≤ _; exact Nat.le_of_eq rfl) (by decide)
  refine own_of st1 ?_
  show own_Wp _ _ _ _ (T1.setTop (mkF m 4 #[.val (.ref a1)] []))
  refine own_ret X1 hlk none (fun _ => rfl) (fun fs hr => X1.returnOut hx hrt (hb hby d4_4) hr) ?_ (by decide) (by decide)
  rw [e1]
  exact ⟨rfl, N0, rfl⟩
theorem own_pn1 : plainName "com/example/superlink/superlink/Segment$Range" = true := by first | (simp [plainName, overriddenIn]; done) | decide +kernel
theorem d3_0 : decode prog_45_method_1_code 0 = .ok (.aload_n 0, 1) := by decide +kernel
theorem d3_1 : decode prog_45_method_1_code 1 = .ok (.invokespecial 1, 3) := by decide +kernel
theorem own_pd0 : parseMethodDescriptor "()V" = some ⟨[], none⟩ := by decide +kernel
theorem d3_4 : decode prog_45_method_1_code 4 = .ok (.aload_n 0, 1) := by decide +kernel
theorem d3_5 : decode prog_45_method_1_code 5 = .ok (.lload_n 1, 1) := by decide +kernel
theorem d3_6 : decode prog_45_method_1_code 6 = .ok (.putfield 7, 3) := by decide +kernel
theorem d3_9 : decode prog_45_method_1_code 9 = .ok (.aload_n 0, 1) := by decide +kernel
theorem d3_10 : decode prog_45_method_1_code 10 = .ok (.lload_n 3, 1) := by decide +kernel
theorem d3_11 : decode prog_45_method_1_code 11 = .ok (.putfield 13, 3) := by decide +kernel
theorem d3_14 : decode prog_45_method_1_code 14 = .ok (.return_, 1) := by decide +kernel
def Q_rm3 (Z : State) (a1 : Addr) (q2 : Int64) (q3 : Int64) (h0 : Heap) (n0 : Nat) (v : Option Value) (h : Heap) (L : List Loc) : Prop := v = none ∧ Fr n0 L ∧ Keep h0 h [a1] ∧ Exa Z h a1 "com/example/superlink/superlink/Segment$Range" ∧ Fld Z h a1 "com/example/superlink/superlink/Segment$Range" "start" "J" (.long q2) ∧ Fld Z h a1 "com/example/superlink/superlink/Segment$Range" "stop" "J" (.long q3)
set_option maxRecDepth 65536 in
set_option maxHeartbeats 40000000 in
theorem rm3 (l : Launch) (Z : State) (a0 : Array Value) (hw : ∀ d ∈ tables_1, d.before a0 Z = true) (ws : List Jvm.Cond) (a1 : Addr) (q2 : Int64) (q3 : Int64) (h0 : Heap) (n0 : Nat) (Z0 : n0 ≤ h0.size) (E_a1 : Exa Z h0 a1 "com/example/superlink/superlink/Segment$Range") (u_start : Value) (u_stop : Value) (F_start : Fld Z h0 a1 "com/example/superlink/superlink/Segment$Range" "start" "J" u_start) (F_stop : Fld Z h0 a1 "com/example/superlink/superlink/Segment$Range" "stop" "J" u_stop) (g_a1 : n0 ≤ a1) :
    own_Ctr l Z (⟨"com/example/superlink/superlink/Segment$Range", "<init>", "(JJ)V"⟩ : MethodName) prog_45_method_1_code 5 none ws ({ frames := 2, cells := 0, slots := 0, locals := 24 } : Room) #[(.ref a1), (.long q2), (.long q3)] h0 (Q_rm3 Z a1 q2 q3 h0 n0) := by
  refine own_enter (plainFor_of_name own_pn1) ?_
  intro p e s m below meth c s₁ X0 hx hby hml hrt hlk hZ hown hnm e0
  have N0 := Fr.nil n0
  have Zs := Z0
  have K0 := Keep.refl h0 [a1]
  rw [show entryFrame m #[(.ref a1), (.long q2), (.long q3)] 5 = mkF m 0 #[.val (.ref a1), .val (.long q2), .second, .val (.long q3), .second] [] from by first | (simp [entryFrame, mkF, argsToLocals, Value.category]; done) | rfl]
  show own_Wp _ _ _ _ (s₁.setTop (mkF m 0 #[.val (.ref a1), .val (.long q2), .second, .val (.long q3), .second] []))
  refine own_of (fun tgt kon => XS.aloadN X0.here hx rfl (hb hby d3_0) rfl rfl kon) ?_
  show own_Wp _ _ _ _ (s₁.setTop (mkF m 1 #[.val (.ref a1), .val (.long q2), .second, .val (.long q3), .second] [(.ref a1)]))
  refine own_callI X0 hx hZ (y := (⟨"java/lang/Record", "<init>", "()V"⟩ : MethodName)) (a := a1) (argsL := []) (rest := []) (W := 0) rfl hown (hw _ (List.mem_of_getElem? (i := 13) rfl)) (hw _ (List.mem_of_getElem? (i := 14) rfl)) (hw _ (List.mem_of_getElem? (i := 16) rfl)) (hw _ (List.mem_of_getElem? (i := 17) rfl)) (by decide) e0 (rm4 l Z a0 hw [] a1 h0 n0 Zs) (by decide) (by decide) (by decide) (by decide) (g := (mkF m 1 #[.val (.ref a1), .val (.long q2), .second, .val (.long q3), .second] [(.ref a1)])) rfl (by rw [hml]; rfl) (lenOf own_pd0 rfl) rfl (by show 2 * 0 + _ ≤ _; exact Nat.le_of_eq rfl) (hb hby d3_1) ?_
  rintro T1 L1 _ X1 ⟨rfl, N1q, e1⟩
  have N1 := Fr.app N0 N1q
  show own_Wp _ _ _ _ (T1.setTop (mkF m 4 #[.val (.ref a1), .val (.long q2), .second, .val (.long q3), .second] []))
  refine own_of (fun tgt kon => XS.aloadN X1.here hx rfl (hb hby d3_4) rfl rfl kon) ?_
  show own_Wp _ _ _ _ (T1.setTop (mkF m 5 #[.val (.ref a1), .val (.long q2), .second, .val (.long q3), .second] [(.ref a1)]))
  refine own_of (fun tgt kon => XS.lloadN X1.here hx rfl (hb hby d3_5) rfl kon) ?_
  show own_Wp _ _ _ _ (T1.setTop (mkF m 6 #[.val (.ref a1), .val (.long q2), .second, .val (.long q3), .second] [(.long q2), (.ref a1)]))
  obtain ⟨T2, h2, X2, e2, W2, st2⟩ := putF X1 hx hZ hown (host := "") (Or.inl (hw _ (List.mem_of_getElem? (i := 21) rfl))) Via.refl e1 F_start E_a1 (Or.inr ⟨(hw _ (List.mem_of_getElem? (i := 22) rfl)), rfl, hnm⟩) (hw _ (List.mem_of_getElem? (i := 8) rfl)) (ty := .long) (by decide) rfl rfl (g := (mkF m 6 #[.val (.ref a1), .val (.long q2), .second, .val (.long q3), .second] [(.long q2), (.ref a1)])) rfl rfl (hb hby d3_6)
  refine own_of st2 ?_
  have Fq2 := Fld.same W2 F_start
  have Zs := Nat.le_trans Zs (Keep.of_wr W2).1
  have K0 := K0.wr W2 (Or.inl (List.mem_of_getElem? (i := 0) rfl))
  have E_a1 := E_a1.wr W2
  have F_stop := F_stop.other W2 (Or.inr (slot_ne (Or.inr (hw _ (List.mem_of_getElem? (i := 24) rfl))) (Or.inr (hw _ (List.mem_of_getElem? (i := 22) rfl))) (by decide) (t := .long) (t' := .long) (by decide) (by decide)))
  have F_start := Fq2
  have N2 := Fr.snoc X2 N1 g_a1
  show own_Wp _ _ _ _ (T2.setTop (mkF m 9 #[.val (.ref a1), .val (.long q2), .second, .val (.long q3), .second] []))
  refine own_of (fun tgt kon => XS.aloadN X2.here hx rfl (hb hby d3_9) rfl rfl kon) ?_
  show own_Wp _ _ _ _ (T2.setTop (mkF m 10 #[.val (.ref a1), .val (.long q2), .second, .val (.long q3), .second] [(.ref a1)]))
  refine own_of (fun tgt kon => XS.lloadN X2.here hx rfl (hb hby d3_10) rfl kon) ?_
  show own_Wp _ _ _ _ (T2.setTop (mkF m 11 #[.val (.ref a1), .val (.long q2), .second, .val (.long q3), .second] [(.long q3), (.ref a1)]))
  obtain ⟨T3, h3, X3, e3, W3, st3⟩ := putF X2 hx hZ hown (host := "") (Or.inl (hw _ (List.mem_of_getElem? (i := 23) rfl))) Via.refl e2 F_stop E_a1 (Or.inr ⟨(hw _ (List.mem_of_getElem? (i := 24) rfl)), rfl, hnm⟩) (hw _ (List.mem_of_getElem? (i := 8) rfl)) (ty := .long) (by decide) rfl rfl (g := (mkF m 11 #[.val (.ref a1), .val (.long q2), .second, .val (.long q3), .second] [(.long q3), (.ref a1)])) rfl rfl (hb hby d3_11)
  refine own_of st3 ?_
  have Fq3 := Fld.same W3 F_stop
  have Zs := Nat.le_trans Zs (Keep.of_wr W3).1
  have K0 := K0.wr W3 (Or.inl (List.mem_of_getElem? (i := 0) rfl))
  have E_a1 := E_a1.wr W3
  have F_start := F_start.other W3 (Or.inr (slot_ne (Or.inr (hw _ (List.mem_of_getElem? (i := 22) rfl))) (Or.inr (hw _ (List.mem_of_getElem? (i := 24) rfl))) (by decide) (t := .long) (t' := .long) (by decide) (by decide)))
  have F_stop := Fq3
  have N3 := Fr.snoc X3 N2 g_a1
  show own_Wp _ _ _ _ (T3.setTop (mkF m 14 #[.val (.ref a1), .val (.long q2), .second, .val (.long q3), .second] []))
  refine own_ret X3 hlk none (fun _ => rfl) (fun fs hr => X3.returnOut hx hrt (hb hby d3_14) hr) ?_ (by decide) (by decide)
  rw [e3]
  exact ⟨rfl, N3, K0, E_a1, F_start, F_stop⟩
theorem d6_0 : decode prog_45_method_2_code 0 = .ok (.lload_n 1, 1) := by decide +kernel
theorem d6_1 : decode prog_45_method_2_code 1 = .ok (.aload_n 0, 1) := by decide +kernel
theorem d6_2 : decode prog_45_method_2_code 2 = .ok (.getfield 13, 3) := by decide +kernel
theorem d6_5 : decode prog_45_method_2_code 5 = .ok (.lcmp, 1) := by decide +kernel
theorem d6_6 : decode prog_45_method_2_code 6 = .ok (.ifCond .gt 16, 3) := by decide +kernel
theorem d6_22 : decode prog_45_method_2_code 22 = .ok (.iconst 0, 1) := by decide +kernel
theorem d6_23 : decode prog_45_method_2_code 23 = .ok (.ireturn, 1) := by decide +kernel
theorem d6_9 : decode prog_45_method_2_code 9 = .ok (.lload_n 3, 1) := by decide +kernel
theorem d6_10 : decode prog_45_method_2_code 10 = .ok (.aload_n 0, 1) := by decide +kernel
theorem d6_11 : decode prog_45_method_2_code 11 = .ok (.getfield 7, 3) := by decide +kernel
theorem d6_14 : decode prog_45_method_2_code 14 = .ok (.lcmp, 1) := by decide +kernel
theorem d6_15 : decode prog_45_method_2_code 15 = .ok (.ifCond .lt 7, 3) := by decide +kernel
theorem d6_18 : decode prog_45_method_2_code 18 = .ok (.iconst 1, 1) := by decide +kernel
theorem d6_19 : decode prog_45_method_2_code 19 = .ok (.goto 4, 3) := by decide +kernel
def Q_rm6 (Z : State) (a1 : Addr) (q2 : Int64) (q3 : Int64) (w1 : Int64) (w2 : Int64) (h0 : Heap) (n0 : Nat) (v : Option Value) (h : Heap) (L : List Loc) : Prop := v = some (.int (own_ov w1 w2 q2 q3)) ∧ Fr n0 L ∧ h = h0
set_option maxRecDepth 65536 in
set_option maxHeartbeats 40000000 in
theorem rm6 (l : Launch) (Z : State) (a0 : Array Value) (hw : ∀ d ∈ tables_1, d.before a0 Z = true) (ws : List Jvm.Cond) (a1 : Addr) (q2 : Int64) (q3 : Int64) (w1 : Int64) (w2 : Int64) (h0 : Heap) (n0 : Nat) (Z0 : n0 ≤ h0.size) (F_start : Fld Z h0 a1 "com/example/superlink/superlink/Segment$Range" "start" "J" (.long w1)) (F_stop : Fld Z h0 a1 "com/example/superlink/superlink/Segment$Range" "stop" "J" (.long w2)) :
    own_Ctr l Z (⟨"com/example/superlink/superlink/Segment$Range", "overlaps", "(JJ)Z"⟩ : MethodName) prog_45_method_2_code 5 (some .boolean) ws ({ frames := 0, cells := 0, slots := 0, locals := 0 } : Room) #[(.ref a1), (.long q2), (.long q3)] h0 (Q_rm6 Z a1 q2 q3 w1 w2 h0 n0) := by
  refine own_enter (plainFor_of_name own_pn1) ?_
  intro p e s m below meth c s₁ X0 hx hby hml hrt hlk hZ hown hnm e0
  have N0 := Fr.nil n0
  have Zs := Z0
  rw [show entryFrame m #[(.ref a1), (.long q2), (.long q3)] 5 = mkF m 0 #[.val (.ref a1), .val (.long q2), .second, .val (.long q3), .second] [] from by first | (simp [entryFrame, mkF, argsToLocals, Value.category]; done) | rfl]
  show own_Wp _ _ _ _ (s₁.setTop (mkF m 0 #[.val (.ref a1), .val (.long q2), .second, .val (.long q3), .second] []))
  refine own_of (fun tgt kon => XS.lloadN X0.here hx rfl (hb hby d6_0) rfl kon) ?_
  show own_Wp _ _ _ _ (s₁.setTop (mkF m 1 #[.val (.ref a1), .val (.long q2), .second, .val (.long q3), .second] [(.long q2)]))
  refine own_of (fun tgt kon => XS.aloadN X0.here hx rfl (hb hby d6_1) rfl rfl kon) ?_
  show own_Wp _ _ _ _ (s₁.setTop (mkF m 2 #[.val (.ref a1), .val (.long q2), .second, .val (.long q3), .second] [(.ref a1), (.long q2)]))
  obtain ⟨T1, X1, e1, st1⟩ := getF X0 hx hZ hown (host := "") (Or.inl (hw _ (List.mem_of_getElem? (i := 23) rfl))) Via.refl e0 F_stop (g := (mkF m 2 #[.val (.ref a1), .val (.long q2), .second, .val (.long q3), .second] [(.ref a1), (.long q2)])) rfl rfl (hb hby d6_2)
  refine own_of st1 ?_
  show own_Wp _ _ _ _ (T1.setTop (mkF m 5 #[.val (.ref a1), .val (.long q2), .second, .val (.long q3), .second] [(.long w2), (.long q2)]))
  refine own_of (fun tgt kon => XS.lcmp X1.here hx rfl (hb hby d6_5) rfl kon) ?_
  show own_Wp _ _ _ _ (T1.setTop (mkF m 6 #[.val (.ref a1), .val (.long q2), .second, .val (.long q3), .second] [(.int (lcmpW q2 w2))]))
  by_cases hc6 : (0 : Int32) < (lcmpW q2 w2)
  · skip
    refine own_of (fun tgt kon => XS.ifYes X1.here hx rfl (pc0 := 6) (pc' := 22) rfl (hb hby d6_6) rfl ((if0 _ _).trans (tlt hc6).2.2.1) (by decide) (by decide) kon) ?_
    show own_Wp _ _ _ _ (T1.setTop (mkF m 22 #[.val (.ref a1), .val (.long q2), .second, .val (.long q3), .second] []))
    refine own_of (fun tgt kon => XS.iconst X1.here hx rfl (hb hby d6_22) kon) ?_
    show own_Wp _ _ _ _ (T1.setTop (mkF m 23 #[.val (.ref a1), .val (.long q2), .second, .val (.long q3), .second] [(.int (0 : Int32))]))
    refine own_ret X1 hlk (some (.int (0 : Int32))) (own_rtI hrt) (fun fs hr => retN X1 hx (t := .boolean) hrt (by simp) (hb hby d6_23) hr) ?_ (by decide) (by decide)
    rw [e1]
    exact ⟨by unfold own_ov; rw [if_pos hc6], N0, rfl⟩
  · skip
    refine own_of (fun tgt kon => XS.ifNo X1.here hx rfl (hb hby d6_6) rfl ((if0 _ _).trans (flt hc6).2.2.1) kon) ?_
    show own_Wp _ _ _ _ (T1.setTop (mkF m 9 #[.val (.ref a1), .val (.long q2), .second, .val (.long q3), .second] []))
    refine own_of (fun tgt kon => XS.lloadN X1.here hx rfl (hb hby d6_9) rfl kon) ?_
    show own_Wp _ _ _ _ (T1.setTop (mkF m 10 #[.val (.ref a1), .val (.long q2), .second, .val (.long q3), .second] [(.long q3)]))
    refine own_of (fun tgt kon => XS.aloadN X1.here hx rfl (hb hby d6_10) rfl rfl kon) ?_
    show own_Wp _ _ _ _ (T1.setTop (mkF m 11 #[.val (.ref a1), .val (.long q2), .second, .val (.long q3), .second] [(.ref a1), (.long q3)]))
    obtain ⟨T2, X2, e2, st2⟩ := getF X1 hx hZ hown (host := "") (Or.inl (hw _ (List.mem_of_getElem? (i := 21) rfl))) Via.refl e1 F_start (g := (mkF m 11 #[.val (.ref a1), .val (.long q2), .second, .val (.long q3), .second] [(.ref a1), (.long q3)])) rfl rfl (hb hby d6_11)
    refine own_of st2 ?_
    show own_Wp _ _ _ _ (T2.setTop (mkF m 14 #[.val (.ref a1), .val (.long q2), .second, .val (.long q3), .second] [(.long w1), (.long q3)]))
    refine own_of (fun tgt kon => XS.lcmp X2.here hx rfl (hb hby d6_14) rfl kon) ?_
    show own_Wp _ _ _ _ (T2.setTop (mkF m 15 #[.val (.ref a1), .val (.long q2), .second, .val (.long q3), .second] [(.int (lcmpW q3 w1))]))
    by_cases hc15 : (lcmpW q3 w1) < (0 : Int32)
    · skip
      refine own_of (fun tgt kon => XS.ifYes X2.here hx rfl (pc0 := 15) (pc' := 22) rfl (hb hby d6_15) rfl ((if0 _ _).trans (tlt hc15).1) (by decide) (by decide) kon) ?_
      show own_Wp _ _ _ _ (T2.setTop (mkF m 22 #[.val (.ref a1), .val (.long q2), .second, .val (.long q3), .second] []))
      refine own_of (fun tgt kon => XS.iconst X2.here hx rfl (hb hby d6_22) kon) ?_
      show own_Wp _ _ _ _ (T2.setTop (mkF m 23 #[.val (.ref a1), .val (.long q2), .second, .val (.long q3), .second] [(.int (0 : Int32))]))
      refine own_ret X2 hlk (some (.int (0 : Int32))) (own_rtI hrt) (fun fs hr => retN X2 hx (t := .boolean) hrt (by simp) (hb hby d6_23) hr) ?_ (by decide) (by decide)
      rw [e2]
      exact ⟨by unfold own_ov; rw [if_neg hc6, if_pos hc15], N0, rfl⟩
    · skip
      refine own_of (fun tgt kon => XS.ifNo X2.here hx rfl (hb hby d6_15) rfl ((if0 _ _).trans (flt hc15).1) kon) ?_
      show own_Wp _ _ _ _ (T2.setTop (mkF m 18 #[.val (.ref a1), .val (.long q2), .second, .val (.long q3), .second] []))
      refine own_of (fun tgt kon => XS.iconst X2.here hx rfl (hb hby d6_18) kon) ?_
      show own_Wp _ _ _ _ (T2.setTop (mkF m 19 #[.val (.ref a1), .val (.long q2), .second, .val (.long q3), .second] [(.int (1 : Int32))]))
      refine own_of (fun tgt kon => XS.goto X2.here hx rfl (pc0 := 19) (pc' := 23) rfl (hb hby d6_19) (by decide) (by decide) kon) ?_
      show own_Wp _ _ _ _ (T2.setTop (mkF m 23 #[.val (.ref a1), .val (.long q2), .second, .val (.long q3), .second] [(.int (1 : Int32))]))
      refine own_ret X2 hlk (some (.int (1 : Int32))) (own_rtI hrt) (fun fs hr => retN X2 hx (t := .boolean) hrt (by simp) (hb hby d6_23) hr) ?_ (by decide) (by decide)
      rw [e2]
      exact ⟨by unfold own_ov; rw [if_neg hc6, if_neg hc15], N0, rfl⟩
theorem own_law (a b c d : Int64) : own_ov (own_min a b) (own_max a b) (own_min c d) (own_max c d) = (if (0 : Int32) < lcmpW (own_max (own_min a b) (own_min c d)) (own_min (own_max a b) (own_max c d)) then (0 : Int32) else 1) ∧ own_ov (own_min c d) (own_max c d) (own_min a b) (own_max a b) = own_ov (own_min a b) (own_max a b) (own_min c d) (own_max c d) := by
  have P : ∀ x y : Int64, ((0 : Int32) < lcmpW x y) ↔ y.toInt < x.toInt := by
    intro x y
    unfold lcmpW
    rw [← Int64.lt_iff_toInt_lt]
    by_cases h1 : y < x
    · rw [if_pos h1]; simp [h1]
    · rw [if_neg h1]; by_cases h2 : x = y <;> simp [h2, h1] <;> decide
  have M : ∀ x y : Int64, (lcmpW x y < (0 : Int32)) ↔ x.toInt < y.toInt := by
    intro x y
    unfold lcmpW
    rw [← Int64.lt_iff_toInt_lt]
    by_cases h1 : y < x
    · have h3 : ¬ x < y := by rw [Int64.lt_iff_toInt_lt] at h1 ⊢; omega
      rw [if_pos h1]; simp [h3]
    · rw [if_neg h1]
      by_cases h2 : x = y
      · simp [h2]
      · have hne : x.toInt ≠ y.toInt := fun q => h2 (Int64.toInt_inj.mp q)
        have h3 : x < y := by rw [Int64.lt_iff_toInt_lt] at h1 ⊢; omega
        simp [h2, h3]
  have mn : ∀ x y : Int64, (own_min x y).toInt = min x.toInt y.toInt := by
    intro x y; unfold own_min; by_cases q : (0 : Int32) < lcmpW x y
    · rw [if_pos q]; rw [P] at q; omega
    · rw [if_neg q]; rw [P] at q; omega
  have mx : ∀ x y : Int64, (own_max x y).toInt = max x.toInt y.toInt := by
    intro x y; unfold own_max; by_cases q : lcmpW x y < (0 : Int32)
    · rw [if_pos q]; rw [M] at q; omega
    · rw [if_neg q]; rw [M] at q; omega
  have ov : ∀ s t f g : Int64, own_ov s t f g = if t.toInt < f.toInt ∨ g.toInt < s.toInt then 0 else 1 := by
    intro s t f g; unfold own_ov
    by_cases q : (0 : Int32) < lcmpW f t
    · rw [if_pos q]; rw [P] at q; simp [q]
    · rw [if_neg q]; rw [P] at q
      by_cases r : lcmpW g s < (0 : Int32)
      · rw [if_pos r]; rw [M] at r; simp [r]
      · rw [if_neg r]; rw [M] at r; simp [q, r]
  have ov1 : ∀ s t f g : Int64, (t.toInt < f.toInt ∨ g.toInt < s.toInt) → own_ov s t f g = 0 := fun s t f g q => by rw [ov, if_pos q]
  have ov0 : ∀ s t f g : Int64, ¬ (t.toInt < f.toInt ∨ g.toInt < s.toInt) → own_ov s t f g = 1 := fun s t f g q => by rw [ov, if_neg q]
  by_cases q : (own_max a b).toInt < (own_min c d).toInt ∨ (own_max c d).toInt < (own_min a b).toInt
  · rw [ov1 _ _ _ _ q, ov1 _ _ _ _ q.symm, if_pos]
    · exact ⟨rfl, rfl⟩
    · rw [P]; simp only [mn, mx] at q ⊢; omega
  · rw [ov0 _ _ _ _ q, ov0 _ _ _ _ (fun z => q z.symm), if_neg]
    · exact ⟨rfl, rfl⟩
    · rw [P]; simp only [mn, mx] at q ⊢; omega
theorem own_pn2 : plainName "com/example/superlink/superlink/RangeOverlapsPinLaw" = true := by first | (simp [plainName, overriddenIn]; done) | decide +kernel
theorem own_pd1 : parseMethodDescriptor "(JJ)J" = some ⟨[.long, .long], some .long⟩ := by decide +kernel
theorem own_pd2 : parseMethodDescriptor "(JJ)V" = some ⟨[.long, .long], none⟩ := by decide +kernel
theorem own_pd3 : parseMethodDescriptor "(JJ)Z" = some ⟨[.long, .long], some .boolean⟩ := by decide +kernel
def Q_rm0 (Z : State) (q1 : Int64) (q2 : Int64) (q3 : Int64) (q4 : Int64) (h0 : Heap) (n0 : Nat) (v : Option Value) (h : Heap) (L : List Loc) : Prop := v = some (.int 1) ∧ Fr n0 L
set_option maxRecDepth 65536 in
set_option maxHeartbeats 40000000 in
theorem rm0 (l : Launch) (Z : State) (a0 : Array Value) (hw : ∀ d ∈ tables_1, d.before a0 Z = true) (ws : List Jvm.Cond) (q1 : Int64) (q2 : Int64) (q3 : Int64) (q4 : Int64) (h0 : Heap) (n0 : Nat) (Z0 : n0 ≤ h0.size)  :
    own_Ctr l Z x code maxLocals ret ws room_1 #[(.long q1), (.long q2), (.long q3), (.long q4)] h0 (Q_rm0 Z q1 q2 q3 q4 h0 n0) := by
  refine own_enter (plainFor_of_name own_pn2) ?_
  intro p e s m below meth c s₁ X0 hx hby hml hrt hlk hZ hown hnm e0
  have N0 := Fr.nil n0
  have Zs := Z0
  rw [show entryFrame m #[(.long q1), (.long q2), (.long q3), (.long q4)] maxLocals = mkF m 0 #[.val (.long q1), .second, .val (.long q2), .second, .val (.long q3), .second, .val (.long q4), .second, .unset, .unset, .unset, .unset, .unset, .unset, .unset, .unset, .unset, .unset, .unset, .unset, .unset] [] from by first | (simp [entryFrame, mkF, argsToLocals, Value.category, maxLocals]; done) | rfl]
  show own_Wp _ _ _ _ (s₁.setTop (mkF m 0 #[.val (.long q1), .second, .val (.long q2), .second, .val (.long q3), .second, .val (.long q4), .second, .unset, .unset, .unset, .unset, .unset, .unset, .unset, .unset, .unset, .unset, .unset, .unset, .unset] []))
  refine own_of (fun tgt kon => XS.lloadN X0.here hx rfl (hb hby at_0) rfl kon) ?_
  show own_Wp _ _ _ _ (s₁.setTop (mkF m 1 #[.val (.long q1), .second, .val (.long q2), .second, .val (.long q3), .second, .val (.long q4), .second, .unset, .unset, .unset, .unset, .unset, .unset, .unset, .unset, .unset, .unset, .unset, .unset, .unset] [(.long q1)]))
  refine own_of (fun tgt kon => XS.lloadN X0.here hx rfl (hb hby at_1) rfl kon) ?_
  show own_Wp _ _ _ _ (s₁.setTop (mkF m 2 #[.val (.long q1), .second, .val (.long q2), .second, .val (.long q3), .second, .val (.long q4), .second, .unset, .unset, .unset, .unset, .unset, .unset, .unset, .unset, .unset, .unset, .unset, .unset, .unset] [(.long q2), (.long q1)]))
  refine own_callS X0 hx hZ (y := (⟨"java/lang/Math", "min", "(JJ)J"⟩ : MethodName)) (argsL := [(.long q1), (.long q2)]) (rest := []) (W := 0) hown (hw _ (List.mem_of_getElem? (i := 0) rfl)) (hw _ (List.mem_of_getElem? (i := 1) rfl)) (hw _ (List.mem_of_getElem? (i := 2) rfl)) (hw _ (List.mem_of_getElem? (i := 3) rfl)) (by decide) e0 (rm1 l Z a0 hw [] q1 q2 h0 n0 Zs) (by decide) (by decide) (by decide) (by decide) (g := (mkF m 2 #[.val (.long q1), .second, .val (.long q2), .second, .val (.long q3), .second, .val (.long q4), .second, .unset, .unset, .unset, .unset, .unset, .unset, .unset, .unset, .unset, .unset, .unset, .unset, .unset] [(.long q2), (.long q1)])) rfl (by rw [hml]; rfl) (lenOf own_pd1 rfl) rfl (by show 2 * 0 + _ ≤ _; exact Nat.le_of_eq rfl) (hb hby at_2) ?_
  rintro T1 L1 _ X1 ⟨rfl, N1q, e1⟩
  have N1 := Fr.app N0 N1q
  show own_Wp _ _ _ _ (T1.setTop (mkF m 5 #[.val (.long q1), .second, .val (.long q2), .second, .val (.long q3), .second, .val (.long q4), .second, .unset, .unset, .unset, .unset, .unset, .unset, .unset, .unset, .unset, .unset, .unset, .unset, .unset] [(.long (own_min q1 q2))]))
  refine own_of (fun tgt kon => XS.lstore X1.here hx rfl (hb hby at_5) rfl (l' := #[.val (.long q1), .second, .val (.long q2), .second, .val (.long q3), .second, .val (.long q4), .second, .val (.long (own_min q1 q2)), .second, .unset, .unset, .unset, .unset, .unset, .unset, .unset, .unset, .unset, .unset, .unset]) rfl kon) ?_
  show own_Wp _ _ _ _ (T1.setTop (mkF m 7 #[.val (.long q1), .second, .val (.long q2), .second, .val (.long q3), .second, .val (.long q4), .second, .val (.long (own_min q1 q2)), .second, .unset, .unset, .unset, .unset, .unset, .unset, .unset, .unset, .unset, .unset, .unset] []))
  refine own_of (fun tgt kon => XS.lloadN X1.here hx rfl (hb hby at_7) rfl kon) ?_
  show own_Wp _ _ _ _ (T1.setTop (mkF m 8 #[.val (.long q1), .second, .val (.long q2), .second, .val (.long q3), .second, .val (.long q4), .second, .val (.long (own_min q1 q2)), .second, .unset, .unset, .unset, .unset, .unset, .unset, .unset, .unset, .unset, .unset, .unset] [(.long q1)]))
  refine own_of (fun tgt kon => XS.lloadN X1.here hx rfl (hb hby at_8) rfl kon) ?_
  show own_Wp _ _ _ _ (T1.setTop (mkF m 9 #[.val (.long q1), .second, .val (.long q2), .second, .val (.long q3), .second, .val (.long q4), .second, .val (.long (own_min q1 q2)), .second, .unset, .unset, .unset, .unset, .unset, .unset, .unset, .unset, .unset, .unset, .unset] [(.long q2), (.long q1)]))
  refine own_callS X1 hx hZ (y := (⟨"java/lang/Math", "max", "(JJ)J"⟩ : MethodName)) (argsL := [(.long q1), (.long q2)]) (rest := []) (W := 0) hown (hw _ (List.mem_of_getElem? (i := 4) rfl)) (hw _ (List.mem_of_getElem? (i := 5) rfl)) (hw _ (List.mem_of_getElem? (i := 2) rfl)) (hw _ (List.mem_of_getElem? (i := 6) rfl)) (by decide) e1 (rm2 l Z a0 hw [] q1 q2 h0 n0 Zs) (by decide) (by decide) (by decide) (by decide) (g := (mkF m 9 #[.val (.long q1), .second, .val (.long q2), .second, .val (.long q3), .second, .val (.long q4), .second, .val (.long (own_min q1 q2)), .second, .unset, .unset, .unset, .unset, .unset, .unset, .unset, .unset, .unset, .unset, .unset] [(.long q2), (.long q1)])) rfl (by rw [hml]; rfl) (lenOf own_pd1 rfl) rfl (by show 2 * 0 + _ ≤ _; exact Nat.le_of_eq rfl) (hb hby at_9) ?_
  rintro T2 L2 _ X2 ⟨rfl, N2q, e2⟩
  have N2 := Fr.app N1 N2q
  show own_Wp _ _ _ _ (T2.setTop (mkF m 12 #[.val (.long q1), .second, .val (.long q2), .second, .val (.long q3), .second, .val (.long q4), .second, .val (.long (own_min q1 q2)), .second, .unset, .unset, .unset, .unset, .unset, .unset, .unset, .unset, .unset, .unset, .unset] [(.long (own_max q1 q2))]))
  refine own_of (fun tgt kon => XS.lstore X2.here hx rfl (hb hby at_12) rfl (l' := #[.val (.long q1), .second, .val (.long q2), .second, .val (.long q3), .second, .val (.long q4), .second, .val (.long (own_min q1 q2)), .second, .val (.long (own_max q1 q2)), .second, .unset, .unset, .unset, .unset, .unset, .unset, .unset, .unset, .unset]) rfl kon) ?_
  show own_Wp _ _ _ _ (T2.setTop (mkF m 14 #[.val (.long q1), .second, .val (.long q2), .second, .val (.long q3), .second, .val (.long q4), .second, .val (.long (own_min q1 q2)), .second, .val (.long (own_max q1 q2)), .second, .unset, .unset, .unset, .unset, .unset, .unset, .unset, .unset, .unset] []))
  refine own_of (fun tgt kon => XS.lload X2.here hx rfl (hb hby at_14) rfl kon) ?_
  show own_Wp _ _ _ _ (T2.setTop (mkF m 16 #[.val (.long q1), .second, .val (.long q2), .second, .val (.long q3), .second, .val (.long q4), .second, .val (.long (own_min q1 q2)), .second, .val (.long (own_max q1 q2)), .second, .unset, .unset, .unset, .unset, .unset, .unset, .unset, .unset, .unset] [(.long q3)]))
  refine own_of (fun tgt kon => XS.lload X2.here hx rfl (hb hby at_16) rfl kon) ?_
  show own_Wp _ _ _ _ (T2.setTop (mkF m 18 #[.val (.long q1), .second, .val (.long q2), .second, .val (.long q3), .second, .val (.long q4), .second, .val (.long (own_min q1 q2)), .second, .val (.long (own_max q1 q2)), .second, .unset, .unset, .unset, .unset, .unset, .unset, .unset, .unset, .unset] [(.long q4), (.long q3)]))
  refine own_callS X2 hx hZ (y := (⟨"java/lang/Math", "min", "(JJ)J"⟩ : MethodName)) (argsL := [(.long q3), (.long q4)]) (rest := []) (W := 0) hown (hw _ (List.mem_of_getElem? (i := 0) rfl)) (hw _ (List.mem_of_getElem? (i := 1) rfl)) (hw _ (List.mem_of_getElem? (i := 2) rfl)) (hw _ (List.mem_of_getElem? (i := 3) rfl)) (by decide) e2 (rm1 l Z a0 hw [] q3 q4 h0 n0 Zs) (by decide) (by decide) (by decide) (by decide) (g := (mkF m 18 #[.val (.long q1), .second, .val (.long q2), .second, .val (.long q3), .second, .val (.long q4), .second, .val (.long (own_min q1 q2)), .second, .val (.long (own_max q1 q2)), .second, .unset, .unset, .unset, .unset, .unset, .unset, .unset, .unset, .unset] [(.long q4), (.long q3)])) rfl (by rw [hml]; rfl) (lenOf own_pd1 rfl) rfl (by show 2 * 0 + _ ≤ _; exact Nat.le_of_eq rfl) (hb hby at_18) ?_
  rintro T3 L3 _ X3 ⟨rfl, N3q, e3⟩
  have N3 := Fr.app N2 N3q
  show own_Wp _ _ _ _ (T3.setTop (mkF m 21 #[.val (.long q1), .second, .val (.long q2), .second, .val (.long q3), .second, .val (.long q4), .second, .val (.long (own_min q1 q2)), .second, .val (.long (own_max q1 q2)), .second, .unset, .unset, .unset, .unset, .unset, .unset, .unset, .unset, .unset] [(.long (own_min q3 q4))]))
  refine own_of (fun tgt kon => XS.lstore X3.here hx rfl (hb hby at_21) rfl (l' := #[.val (.long q1), .second, .val (.long q2), .second, .val (.long q3), .second, .val (.long q4), .second, .val (.long (own_min q1 q2)), .second, .val (.long (own_max q1 q2)), .second, .val (.long (own_min q3 q4)), .second, .unset, .unset, .unset, .unset, .unset, .unset, .unset]) rfl kon) ?_
  show own_Wp _ _ _ _ (T3.setTop (mkF m 23 #[.val (.long q1), .second, .val (.long q2), .second, .val (.long q3), .second, .val (.long q4), .second, .val (.long (own_min q1 q2)), .second, .val (.long (own_max q1 q2)), .second, .val (.long (own_min q3 q4)), .second, .unset, .unset, .unset, .unset, .unset, .unset, .unset] []))
  refine own_of (fun tgt kon => XS.lload X3.here hx rfl (hb hby at_23) rfl kon) ?_
  show own_Wp _ _ _ _ (T3.setTop (mkF m 25 #[.val (.long q1), .second, .val (.long q2), .second, .val (.long q3), .second, .val (.long q4), .second, .val (.long (own_min q1 q2)), .second, .val (.long (own_max q1 q2)), .second, .val (.long (own_min q3 q4)), .second, .unset, .unset, .unset, .unset, .unset, .unset, .unset] [(.long q3)]))
  refine own_of (fun tgt kon => XS.lload X3.here hx rfl (hb hby at_25) rfl kon) ?_
  show own_Wp _ _ _ _ (T3.setTop (mkF m 27 #[.val (.long q1), .second, .val (.long q2), .second, .val (.long q3), .second, .val (.long q4), .second, .val (.long (own_min q1 q2)), .second, .val (.long (own_max q1 q2)), .second, .val (.long (own_min q3 q4)), .second, .unset, .unset, .unset, .unset, .unset, .unset, .unset] [(.long q4), (.long q3)]))
  refine own_callS X3 hx hZ (y := (⟨"java/lang/Math", "max", "(JJ)J"⟩ : MethodName)) (argsL := [(.long q3), (.long q4)]) (rest := []) (W := 0) hown (hw _ (List.mem_of_getElem? (i := 4) rfl)) (hw _ (List.mem_of_getElem? (i := 5) rfl)) (hw _ (List.mem_of_getElem? (i := 2) rfl)) (hw _ (List.mem_of_getElem? (i := 6) rfl)) (by decide) e3 (rm2 l Z a0 hw [] q3 q4 h0 n0 Zs) (by decide) (by decide) (by decide) (by decide) (g := (mkF m 27 #[.val (.long q1), .second, .val (.long q2), .second, .val (.long q3), .second, .val (.long q4), .second, .val (.long (own_min q1 q2)), .second, .val (.long (own_max q1 q2)), .second, .val (.long (own_min q3 q4)), .second, .unset, .unset, .unset, .unset, .unset, .unset, .unset] [(.long q4), (.long q3)])) rfl (by rw [hml]; rfl) (lenOf own_pd1 rfl) rfl (by show 2 * 0 + _ ≤ _; exact Nat.le_of_eq rfl) (hb hby at_27) ?_
  rintro T4 L4 _ X4 ⟨rfl, N4q, e4⟩
  have N4 := Fr.app N3 N4q
  show own_Wp _ _ _ _ (T4.setTop (mkF m 30 #[.val (.long q1), .second, .val (.long q2), .second, .val (.long q3), .second, .val (.long q4), .second, .val (.long (own_min q1 q2)), .second, .val (.long (own_max q1 q2)), .second, .val (.long (own_min q3 q4)), .second, .unset, .unset, .unset, .unset, .unset, .unset, .unset] [(.long (own_max q3 q4))]))
  refine own_of (fun tgt kon => XS.lstore X4.here hx rfl (hb hby at_30) rfl (l' := #[.val (.long q1), .second, .val (.long q2), .second, .val (.long q3), .second, .val (.long q4), .second, .val (.long (own_min q1 q2)), .second, .val (.long (own_max q1 q2)), .second, .val (.long (own_min q3 q4)), .second, .val (.long (own_max q3 q4)), .second, .unset, .unset, .unset, .unset, .unset]) rfl kon) ?_
  show own_Wp _ _ _ _ (T4.setTop (mkF m 32 #[.val (.long q1), .second, .val (.long q2), .second, .val (.long q3), .second, .val (.long q4), .second, .val (.long (own_min q1 q2)), .second, .val (.long (own_max q1 q2)), .second, .val (.long (own_min q3 q4)), .second, .val (.long (own_max q3 q4)), .second, .unset, .unset, .unset, .unset, .unset] []))
  obtain ⟨T5, h5, X5, e5, E5, A5, D5, -, st5⟩ := newO X4 hx hZ hown (hw _ (List.mem_of_getElem? (i := 7) rfl)) (hw _ (List.mem_of_getElem? (i := 8) rfl)) (hw _ (List.mem_of_getElem? (i := 9) rfl)) e4 (g := (mkF m 32 #[.val (.long q1), .second, .val (.long q2), .second, .val (.long q3), .second, .val (.long q4), .second, .val (.long (own_min q1 q2)), .second, .val (.long (own_max q1 q2)), .second, .val (.long (own_min q3 q4)), .second, .val (.long (own_max q3 q4)), .second, .unset, .unset, .unset, .unset, .unset] [])) rfl (hb hby at_32) (by decide) (by decide)
  refine own_of st5 ?_
  clear st5
  obtain ⟨b5, gq5⟩ : ∃ z, z = h0.size := ⟨_, rfl⟩
  rw [← gq5] at A5 D5 ⊢
  have g_b5 : n0 ≤ b5 := Nat.le_trans Zs (Nat.le_of_eq gq5.symm)
  have Zs := Nat.le_trans Zs E5.1
  have E_b5 := A5
  have F_start_b5 : Fld Z h5 b5 "com/example/superlink/superlink/Segment$Range" "start" "J" (.long (0 : Int64)) := D5 (Or.inr (hw _ (List.mem_of_getElem? (i := 22) rfl))) (ty := .long) (by decide)
  have F_stop_b5 : Fld Z h5 b5 "com/example/superlink/superlink/Segment$Range" "stop" "J" (.long (0 : Int64)) := D5 (Or.inr (hw _ (List.mem_of_getElem? (i := 24) rfl))) (ty := .long) (by decide)
  show own_Wp _ _ _ _ (T5.setTop (mkF m 35 #[.val (.long q1), .second, .val (.long q2), .second, .val (.long q3), .second, .val (.long q4), .second, .val (.long (own_min q1 q2)), .second, .val (.long (own_max q1 q2)), .second, .val (.long (own_min q3 q4)), .second, .val (.long (own_max q3 q4)), .second, .unset, .unset, .unset, .unset, .unset] [(.ref b5)]))
  refine own_of (fun tgt kon => XS.dup X5.here hx rfl (hb hby at_35) rfl rfl kon) ?_
  show own_Wp _ _ _ _ (T5.setTop (mkF m 36 #[.val (.long q1), .second, .val (.long q2), .second, .val (.long q3), .second, .val (.long q4), .second, .val (.long (own_min q1 q2)), .second, .val (.long (own_max q1 q2)), .second, .val (.long (own_min q3 q4)), .second, .val (.long (own_max q3 q4)), .second, .unset, .unset, .unset, .unset, .unset] [(.ref b5), (.ref b5)]))
  refine own_of (fun tgt kon => XS.lload X5.here hx rfl (hb hby at_36) rfl kon) ?_
  show own_Wp _ _ _ _ (T5.setTop (mkF m 38 #[.val (.long q1), .second, .val (.long q2), .second, .val (.long q3), .second, .val (.long q4), .second, .val (.long (own_min q1 q2)), .second, .val (.long (own_max q1 q2)), .second, .val (.long (own_min q3 q4)), .second, .val (.long (own_max q3 q4)), .second, .unset, .unset, .unset, .unset, .unset] [(.long (own_min q1 q2)), (.ref b5), (.ref b5)]))
  refine own_of (fun tgt kon => XS.lload X5.here hx rfl (hb hby at_38) rfl kon) ?_
  show own_Wp _ _ _ _ (T5.setTop (mkF m 40 #[.val (.long q1), .second, .val (.long q2), .second, .val (.long q3), .second, .val (.long q4), .second, .val (.long (own_min q1 q2)), .second, .val (.long (own_max q1 q2)), .second, .val (.long (own_min q3 q4)), .second, .val (.long (own_max q3 q4)), .second, .unset, .unset, .unset, .unset, .unset] [(.long (own_max q1 q2)), (.long (own_min q1 q2)), (.ref b5), (.ref b5)]))
  refine own_callI X5 hx hZ (y := (⟨"com/example/superlink/superlink/Segment$Range", "<init>", "(JJ)V"⟩ : MethodName)) (a := b5) (argsL := [(.long (own_min q1 q2)), (.long (own_max q1 q2))]) (rest := [(.ref b5)]) (W := 1) rfl hown (hw _ (List.mem_of_getElem? (i := 10) rfl)) (hw _ (List.mem_of_getElem? (i := 11) rfl)) (hw _ (List.mem_of_getElem? (i := 9) rfl)) (hw _ (List.mem_of_getElem? (i := 12) rfl)) (by decide) e5 (rm3 l Z a0 hw [] b5 (own_min q1 q2) (own_max q1 q2) h5 n0 Zs E_b5 _ _ F_start_b5 F_stop_b5 g_b5) (by decide) (by decide) (by decide) (by decide) (g := (mkF m 40 #[.val (.long q1), .second, .val (.long q2), .second, .val (.long q3), .second, .val (.long q4), .second, .val (.long (own_min q1 q2)), .second, .val (.long (own_max q1 q2)), .second, .val (.long (own_min q3 q4)), .second, .val (.long (own_max q3 q4)), .second, .unset, .unset, .unset, .unset, .unset] [(.long (own_max q1 q2)), (.long (own_min q1 q2)), (.ref b5), (.ref b5)])) rfl (by rw [hml]; rfl) (lenOf own_pd2 rfl) rfl (by show 2 * 0 + _ ≤ _; exact Nat.le_of_eq rfl) (hb hby at_40) ?_
  rintro T6 L6 _ X6 ⟨rfl, N6q, Kq6, Eq6, Fq6_start, Fq6_stop⟩
  have N6 := Fr.app N4 N6q
  show own_Wp _ _ _ _ (T6.setTop (mkF m 43 #[.val (.long q1), .second, .val (.long q2), .second, .val (.long q3), .second, .val (.long q4), .second, .val (.long (own_min q1 q2)), .second, .val (.long (own_max q1 q2)), .second, .val (.long (own_min q3 q4)), .second, .val (.long (own_max q3 q4)), .second, .unset, .unset, .unset, .unset, .unset] [(.ref b5)]))
  have Zs := Nat.le_trans Zs Kq6.1
  have E_b5 := E_b5.keep Kq6
  have E_b5 := Eq6
  have F_start_b5 := Fq6_start
  have F_stop_b5 := Fq6_stop
  refine own_of (fun tgt kon => XS.astore X6.here hx rfl (hb hby at_43) rfl rfl (l' := #[.val (.long q1), .second, .val (.long q2), .second, .val (.long q3), .second, .val (.long q4), .second, .val (.long (own_min q1 q2)), .second, .val (.long (own_max q1 q2)), .second, .val (.long (own_min q3 q4)), .second, .val (.long (own_max q3 q4)), .second, .val (.ref b5), .unset, .unset, .unset, .unset]) rfl kon) ?_
  show own_Wp _ _ _ _ (T6.setTop (mkF m 45 #[.val (.long q1), .second, .val (.long q2), .second, .val (.long q3), .second, .val (.long q4), .second, .val (.long (own_min q1 q2)), .second, .val (.long (own_max q1 q2)), .second, .val (.long (own_min q3 q4)), .second, .val (.long (own_max q3 q4)), .second, .val (.ref b5), .unset, .unset, .unset, .unset] []))
  obtain ⟨T7, h7, X7, e7, E7, A7, D7, -, st7⟩ := newO X6 hx hZ hown (hw _ (List.mem_of_getElem? (i := 7) rfl)) (hw _ (List.mem_of_getElem? (i := 8) rfl)) (hw _ (List.mem_of_getElem? (i := 9) rfl)) rfl (g := (mkF m 45 #[.val (.long q1), .second, .val (.long q2), .second, .val (.long q3), .second, .val (.long q4), .second, .val (.long (own_min q1 q2)), .second, .val (.long (own_max q1 q2)), .second, .val (.long (own_min q3 q4)), .second, .val (.long (own_max q3 q4)), .second, .val (.ref b5), .unset, .unset, .unset, .unset] [])) rfl (hb hby at_45) (by decide) (by decide)
  refine own_of st7 ?_
  clear st7
  obtain ⟨b7, gq7⟩ : ∃ z, z = T6.heap.size := ⟨_, rfl⟩
  rw [← gq7] at A7 D7 ⊢
  have ne_b5_b7 : b5 ≠ b7 := Nat.ne_of_lt (Nat.lt_of_lt_of_le E_b5.lt (Nat.le_of_eq gq7.symm))
  have g_b7 : n0 ≤ b7 := Nat.le_trans Zs (Nat.le_of_eq gq7.symm)
  have Zs := Nat.le_trans Zs E7.1
  have E_b5 := E_b5.ext E7
  have F_start_b5 := F_start_b5.ext E7
  have F_stop_b5 := F_stop_b5.ext E7
  have E_b7 := A7
  have F_start_b7 : Fld Z h7 b7 "com/example/superlink/superlink/Segment$Range" "start" "J" (.long (0 : Int64)) := D7 (Or.inr (hw _ (List.mem_of_getElem? (i := 22) rfl))) (ty := .long) (by decide)
  have F_stop_b7 : Fld Z h7 b7 "com/example/superlink/superlink/Segment$Range" "stop" "J" (.long (0 : Int64)) := D7 (Or.inr (hw _ (List.mem_of_getElem? (i := 24) rfl))) (ty := .long) (by decide)
  show own_Wp _ _ _ _ (T7.setTop (mkF m 48 #[.val (.long q1), .second, .val (.long q2), .second, .val (.long q3), .second, .val (.long q4), .second, .val (.long (own_min q1 q2)), .second, .val (.long (own_max q1 q2)), .second, .val (.long (own_min q3 q4)), .second, .val (.long (own_max q3 q4)), .second, .val (.ref b5), .unset, .unset, .unset, .unset] [(.ref b7)]))
  refine own_of (fun tgt kon => XS.dup X7.here hx rfl (hb hby at_48) rfl rfl kon) ?_
  show own_Wp _ _ _ _ (T7.setTop (mkF m 49 #[.val (.long q1), .second, .val (.long q2), .second, .val (.long q3), .second, .val (.long q4), .second, .val (.long (own_min q1 q2)), .second, .val (.long (own_max q1 q2)), .second, .val (.long (own_min q3 q4)), .second, .val (.long (own_max q3 q4)), .second, .val (.ref b5), .unset, .unset, .unset, .unset] [(.ref b7), (.ref b7)]))
  refine own_of (fun tgt kon => XS.lload X7.here hx rfl (hb hby at_49) rfl kon) ?_
  show own_Wp _ _ _ _ (T7.setTop (mkF m 51 #[.val (.long q1), .second, .val (.long q2), .second, .val (.long q3), .second, .val (.long q4), .second, .val (.long (own_min q1 q2)), .second, .val (.long (own_max q1 q2)), .second, .val (.long (own_min q3 q4)), .second, .val (.long (own_max q3 q4)), .second, .val (.ref b5), .unset, .unset, .unset, .unset] [(.long (own_min q3 q4)), (.ref b7), (.ref b7)]))
  refine own_of (fun tgt kon => XS.lload X7.here hx rfl (hb hby at_51) rfl kon) ?_
  show own_Wp _ _ _ _ (T7.setTop (mkF m 53 #[.val (.long q1), .second, .val (.long q2), .second, .val (.long q3), .second, .val (.long q4), .second, .val (.long (own_min q1 q2)), .second, .val (.long (own_max q1 q2)), .second, .val (.long (own_min q3 q4)), .second, .val (.long (own_max q3 q4)), .second, .val (.ref b5), .unset, .unset, .unset, .unset] [(.long (own_max q3 q4)), (.long (own_min q3 q4)), (.ref b7), (.ref b7)]))
  refine own_callI X7 hx hZ (y := (⟨"com/example/superlink/superlink/Segment$Range", "<init>", "(JJ)V"⟩ : MethodName)) (a := b7) (argsL := [(.long (own_min q3 q4)), (.long (own_max q3 q4))]) (rest := [(.ref b7)]) (W := 1) rfl hown (hw _ (List.mem_of_getElem? (i := 10) rfl)) (hw _ (List.mem_of_getElem? (i := 11) rfl)) (hw _ (List.mem_of_getElem? (i := 9) rfl)) (hw _ (List.mem_of_getElem? (i := 12) rfl)) (by decide) e7 (rm3 l Z a0 hw [] b7 (own_min q3 q4) (own_max q3 q4) h7 n0 Zs E_b7 _ _ F_start_b7 F_stop_b7 g_b7) (by decide) (by decide) (by decide) (by decide) (g := (mkF m 53 #[.val (.long q1), .second, .val (.long q2), .second, .val (.long q3), .second, .val (.long q4), .second, .val (.long (own_min q1 q2)), .second, .val (.long (own_max q1 q2)), .second, .val (.long (own_min q3 q4)), .second, .val (.long (own_max q3 q4)), .second, .val (.ref b5), .unset, .unset, .unset, .unset] [(.long (own_max q3 q4)), (.long (own_min q3 q4)), (.ref b7), (.ref b7)])) rfl (by rw [hml]; rfl) (lenOf own_pd2 rfl) rfl (by show 2 * 0 + _ ≤ _; exact Nat.le_of_eq rfl) (hb hby at_53) ?_
  rintro T8 L8 _ X8 ⟨rfl, N8q, Kq8, Eq8, Fq8_start, Fq8_stop⟩
  have N8 := Fr.app N6 N8q
  show own_Wp _ _ _ _ (T8.setTop (mkF m 56 #[.val (.long q1), .second, .val (.long q2), .second, .val (.long q3), .second, .val (.long q4), .second, .val (.long (own_min q1 q2)), .second, .val (.long (own_max q1 q2)), .second, .val (.long (own_min q3 q4)), .second, .val (.long (own_max q3 q4)), .second, .val (.ref b5), .unset, .unset, .unset, .unset] [(.ref b7)]))
  have Zs := Nat.le_trans Zs Kq8.1
  have E_b5 := E_b5.keep Kq8
  have F_start_b5 := F_start_b5.keep Kq8 (ninS ne_b5_b7 nin0)
  have F_stop_b5 := F_stop_b5.keep Kq8 (ninS ne_b5_b7 nin0)
  have E_b7 := E_b7.keep Kq8
  have E_b7 := Eq8
  have F_start_b7 := Fq8_start
  have F_stop_b7 := Fq8_stop
  refine own_of (fun tgt kon => XS.astore X8.here hx rfl (hb hby at_56) rfl rfl (l' := #[.val (.long q1), .second, .val (.long q2), .second, .val (.long q3), .second, .val (.long q4), .second, .val (.long (own_min q1 q2)), .second, .val (.long (own_max q1 q2)), .second, .val (.long (own_min q3 q4)), .second, .val (.long (own_max q3 q4)), .second, .val (.ref b5), .val (.ref b7), .unset, .unset, .unset]) rfl kon) ?_
  show own_Wp _ _ _ _ (T8.setTop (mkF m 58 #[.val (.long q1), .second, .val (.long q2), .second, .val (.long q3), .second, .val (.long q4), .second, .val (.long (own_min q1 q2)), .second, .val (.long (own_max q1 q2)), .second, .val (.long (own_min q3 q4)), .second, .val (.long (own_max q3 q4)), .second, .val (.ref b5), .val (.ref b7), .unset, .unset, .unset] []))
  refine own_of (fun tgt kon => XS.aload X8.here hx rfl (hb hby at_58) rfl rfl kon) ?_
  show own_Wp _ _ _ _ (T8.setTop (mkF m 60 #[.val (.long q1), .second, .val (.long q2), .second, .val (.long q3), .second, .val (.long q4), .second, .val (.long (own_min q1 q2)), .second, .val (.long (own_max q1 q2)), .second, .val (.long (own_min q3 q4)), .second, .val (.long (own_max q3 q4)), .second, .val (.ref b5), .val (.ref b7), .unset, .unset, .unset] [(.ref b5)]))
  refine own_of (fun tgt kon => XS.lload X8.here hx rfl (hb hby at_60) rfl kon) ?_
  show own_Wp _ _ _ _ (T8.setTop (mkF m 62 #[.val (.long q1), .second, .val (.long q2), .second, .val (.long q3), .second, .val (.long q4), .second, .val (.long (own_min q1 q2)), .second, .val (.long (own_max q1 q2)), .second, .val (.long (own_min q3 q4)), .second, .val (.long (own_max q3 q4)), .second, .val (.ref b5), .val (.ref b7), .unset, .unset, .unset] [(.long (own_min q3 q4)), (.ref b5)]))
  refine own_of (fun tgt kon => XS.lload X8.here hx rfl (hb hby at_62) rfl kon) ?_
  show own_Wp _ _ _ _ (T8.setTop (mkF m 64 #[.val (.long q1), .second, .val (.long q2), .second, .val (.long q3), .second, .val (.long q4), .second, .val (.long (own_min q1 q2)), .second, .val (.long (own_max q1 q2)), .second, .val (.long (own_min q3 q4)), .second, .val (.long (own_max q3 q4)), .second, .val (.ref b5), .val (.ref b7), .unset, .unset, .unset] [(.long (own_max q3 q4)), (.long (own_min q3 q4)), (.ref b5)]))
  refine own_callV X8 hx hZ (C := "com/example/superlink/superlink/Segment$Range") (y := (⟨"com/example/superlink/superlink/Segment$Range", "overlaps", "(JJ)Z"⟩ : MethodName)) (a := b5) (argsL := [(.long (own_min q3 q4)), (.long (own_max q3 q4))]) (rest := []) (W := 0) hown (hw _ (List.mem_of_getElem? (i := 25) rfl)) (hw _ (List.mem_of_getElem? (i := 26) rfl)) (hw _ (List.mem_of_getElem? (i := 28) rfl)) (hw _ (List.mem_of_getElem? (i := 27) rfl)) (hw _ (List.mem_of_getElem? (i := 9) rfl)) (hw _ (List.mem_of_getElem? (i := 29) rfl)) (by decide) rfl E_b5 (rm6 l Z a0 hw [] b5 (own_min q3 q4) (own_max q3 q4) (own_min q1 q2) (own_max q1 q2) T8.heap n0 Zs F_start_b5 F_stop_b5) (by decide) (by decide) (by decide) (by decide) (g := (mkF m 64 #[.val (.long q1), .second, .val (.long q2), .second, .val (.long q3), .second, .val (.long q4), .second, .val (.long (own_min q1 q2)), .second, .val (.long (own_max q1 q2)), .second, .val (.long (own_min q3 q4)), .second, .val (.long (own_max q3 q4)), .second, .val (.ref b5), .val (.ref b7), .unset, .unset, .unset] [(.long (own_max q3 q4)), (.long (own_min q3 q4)), (.ref b5)])) rfl (by rw [hml]; rfl) (lenOf own_pd3 rfl) rfl (by show 2 * 0 + _ ≤ _; exact Nat.le_of_eq rfl) (hb hby at_64) ?_
  rintro T9 L9 _ X9 ⟨rfl, N9q, e9⟩
  have N9 := Fr.app N8 N9q
  show own_Wp _ _ _ _ (T9.setTop (mkF m 67 #[.val (.long q1), .second, .val (.long q2), .second, .val (.long q3), .second, .val (.long q4), .second, .val (.long (own_min q1 q2)), .second, .val (.long (own_max q1 q2)), .second, .val (.long (own_min q3 q4)), .second, .val (.long (own_max q3 q4)), .second, .val (.ref b5), .val (.ref b7), .unset, .unset, .unset] [(.int (own_ov (own_min q1 q2) (own_max q1 q2) (own_min q3 q4) (own_max q3 q4)))]))
  refine own_of (fun tgt kon => XS.istore X9.here hx rfl (hb hby at_67) rfl (l' := #[.val (.long q1), .second, .val (.long q2), .second, .val (.long q3), .second, .val (.long q4), .second, .val (.long (own_min q1 q2)), .second, .val (.long (own_max q1 q2)), .second, .val (.long (own_min q3 q4)), .second, .val (.long (own_max q3 q4)), .second, .val (.ref b5), .val (.ref b7), .val (.int (own_ov (own_min q1 q2) (own_max q1 q2) (own_min q3 q4) (own_max q3 q4))), .unset, .unset]) rfl kon) ?_
  show own_Wp _ _ _ _ (T9.setTop (mkF m 69 #[.val (.long q1), .second, .val (.long q2), .second, .val (.long q3), .second, .val (.long q4), .second, .val (.long (own_min q1 q2)), .second, .val (.long (own_max q1 q2)), .second, .val (.long (own_min q3 q4)), .second, .val (.long (own_max q3 q4)), .second, .val (.ref b5), .val (.ref b7), .val (.int (own_ov (own_min q1 q2) (own_max q1 q2) (own_min q3 q4) (own_max q3 q4))), .unset, .unset] []))
  refine own_of (fun tgt kon => XS.lload X9.here hx rfl (hb hby at_69) rfl kon) ?_
  show own_Wp _ _ _ _ (T9.setTop (mkF m 71 #[.val (.long q1), .second, .val (.long q2), .second, .val (.long q3), .second, .val (.long q4), .second, .val (.long (own_min q1 q2)), .second, .val (.long (own_max q1 q2)), .second, .val (.long (own_min q3 q4)), .second, .val (.long (own_max q3 q4)), .second, .val (.ref b5), .val (.ref b7), .val (.int (own_ov (own_min q1 q2) (own_max q1 q2) (own_min q3 q4) (own_max q3 q4))), .unset, .unset] [(.long (own_min q1 q2))]))
  refine own_of (fun tgt kon => XS.lload X9.here hx rfl (hb hby at_71) rfl kon) ?_
  show own_Wp _ _ _ _ (T9.setTop (mkF m 73 #[.val (.long q1), .second, .val (.long q2), .second, .val (.long q3), .second, .val (.long q4), .second, .val (.long (own_min q1 q2)), .second, .val (.long (own_max q1 q2)), .second, .val (.long (own_min q3 q4)), .second, .val (.long (own_max q3 q4)), .second, .val (.ref b5), .val (.ref b7), .val (.int (own_ov (own_min q1 q2) (own_max q1 q2) (own_min q3 q4) (own_max q3 q4))), .unset, .unset] [(.long (own_min q3 q4)), (.long (own_min q1 q2))]))
  refine own_callS X9 hx hZ (y := (⟨"java/lang/Math", "max", "(JJ)J"⟩ : MethodName)) (argsL := [(.long (own_min q1 q2)), (.long (own_min q3 q4))]) (rest := []) (W := 0) hown (hw _ (List.mem_of_getElem? (i := 4) rfl)) (hw _ (List.mem_of_getElem? (i := 5) rfl)) (hw _ (List.mem_of_getElem? (i := 2) rfl)) (hw _ (List.mem_of_getElem? (i := 6) rfl)) (by decide) e9 (rm2 l Z a0 hw [] (own_min q1 q2) (own_min q3 q4) T8.heap n0 Zs) (by decide) (by decide) (by decide) (by decide) (g := (mkF m 73 #[.val (.long q1), .second, .val (.long q2), .second, .val (.long q3), .second, .val (.long q4), .second, .val (.long (own_min q1 q2)), .second, .val (.long (own_max q1 q2)), .second, .val (.long (own_min q3 q4)), .second, .val (.long (own_max q3 q4)), .second, .val (.ref b5), .val (.ref b7), .val (.int (own_ov (own_min q1 q2) (own_max q1 q2) (own_min q3 q4) (own_max q3 q4))), .unset, .unset] [(.long (own_min q3 q4)), (.long (own_min q1 q2))])) rfl (by rw [hml]; rfl) (lenOf own_pd1 rfl) rfl (by show 2 * 0 + _ ≤ _; exact Nat.le_of_eq rfl) (hb hby at_73) ?_
  rintro T10 L10 _ X10 ⟨rfl, N10q, e10⟩
  have N10 := Fr.app N9 N10q
  show own_Wp _ _ _ _ (T10.setTop (mkF m 76 #[.val (.long q1), .second, .val (.long q2), .second, .val (.long q3), .second, .val (.long q4), .second, .val (.long (own_min q1 q2)), .second, .val (.long (own_max q1 q2)), .second, .val (.long (own_min q3 q4)), .second, .val (.long (own_max q3 q4)), .second, .val (.ref b5), .val (.ref b7), .val (.int (own_ov (own_min q1 q2) (own_max q1 q2) (own_min q3 q4) (own_max q3 q4))), .unset, .unset] [(.long (own_max (own_min q1 q2) (own_min q3 q4)))]))
  refine own_of (fun tgt kon => XS.lload X10.here hx rfl (hb hby at_76) rfl kon) ?_
  show own_Wp _ _ _ _ (T10.setTop (mkF m 78 #[.val (.long q1), .second, .val (.long q2), .second, .val (.long q3), .second, .val (.long q4), .second, .val (.long (own_min q1 q2)), .second, .val (.long (own_max q1 q2)), .second, .val (.long (own_min q3 q4)), .second, .val (.long (own_max q3 q4)), .second, .val (.ref b5), .val (.ref b7), .val (.int (own_ov (own_min q1 q2) (own_max q1 q2) (own_min q3 q4) (own_max q3 q4))), .unset, .unset] [(.long (own_max q1 q2)), (.long (own_max (own_min q1 q2) (own_min q3 q4)))]))
  refine own_of (fun tgt kon => XS.lload X10.here hx rfl (hb hby at_78) rfl kon) ?_
  show own_Wp _ _ _ _ (T10.setTop (mkF m 80 #[.val (.long q1), .second, .val (.long q2), .second, .val (.long q3), .second, .val (.long q4), .second, .val (.long (own_min q1 q2)), .second, .val (.long (own_max q1 q2)), .second, .val (.long (own_min q3 q4)), .second, .val (.long (own_max q3 q4)), .second, .val (.ref b5), .val (.ref b7), .val (.int (own_ov (own_min q1 q2) (own_max q1 q2) (own_min q3 q4) (own_max q3 q4))), .unset, .unset] [(.long (own_max q3 q4)), (.long (own_max q1 q2)), (.long (own_max (own_min q1 q2) (own_min q3 q4)))]))
  refine own_callS X10 hx hZ (y := (⟨"java/lang/Math", "min", "(JJ)J"⟩ : MethodName)) (argsL := [(.long (own_max q1 q2)), (.long (own_max q3 q4))]) (rest := [(.long (own_max (own_min q1 q2) (own_min q3 q4)))]) (W := 2) hown (hw _ (List.mem_of_getElem? (i := 0) rfl)) (hw _ (List.mem_of_getElem? (i := 1) rfl)) (hw _ (List.mem_of_getElem? (i := 2) rfl)) (hw _ (List.mem_of_getElem? (i := 3) rfl)) (by decide) e10 (rm1 l Z a0 hw [] (own_max q1 q2) (own_max q3 q4) T8.heap n0 Zs) (by decide) (by decide) (by decide) (by decide) (g := (mkF m 80 #[.val (.long q1), .second, .val (.long q2), .second, .val (.long q3), .second, .val (.long q4), .second, .val (.long (own_min q1 q2)), .second, .val (.long (own_max q1 q2)), .second, .val (.long (own_min q3 q4)), .second, .val (.long (own_max q3 q4)), .second, .val (.ref b5), .val (.ref b7), .val (.int (own_ov (own_min q1 q2) (own_max q1 q2) (own_min q3 q4) (own_max q3 q4))), .unset, .unset] [(.long (own_max q3 q4)), (.long (own_max q1 q2)), (.long (own_max (own_min q1 q2) (own_min q3 q4)))])) rfl (by rw [hml]; rfl) (lenOf own_pd1 rfl) rfl (by show 2 * 0 + _ ≤ _; exact Nat.le_of_eq rfl) (hb hby at_80) ?_
  rintro T11 L11 _ X11 ⟨rfl, N11q, e11⟩
  have N11 := Fr.app N10 N11q
  show own_Wp _ _ _ _ (T11.setTop (mkF m 83 #[.val (.long q1), .second, .val (.long q2), .second, .val (.long q3), .second, .val (.long q4), .second, .val (.long (own_min q1 q2)), .second, .val (.long (own_max q1 q2)), .second, .val (.long (own_min q3 q4)), .second, .val (.long (own_max q3 q4)), .second, .val (.ref b5), .val (.ref b7), .val (.int (own_ov (own_min q1 q2) (own_max q1 q2) (own_min q3 q4) (own_max q3 q4))), .unset, .unset] [(.long (own_min (own_max q1 q2) (own_max q3 q4))), (.long (own_max (own_min q1 q2) (own_min q3 q4)))]))
  refine own_of (fun tgt kon => XS.lcmp X11.here hx rfl (hb hby at_83) rfl kon) ?_
  show own_Wp _ _ _ _ (T11.setTop (mkF m 84 #[.val (.long q1), .second, .val (.long q2), .second, .val (.long q3), .second, .val (.long q4), .second, .val (.long (own_min q1 q2)), .second, .val (.long (own_max q1 q2)), .second, .val (.long (own_min q3 q4)), .second, .val (.long (own_max q3 q4)), .second, .val (.ref b5), .val (.ref b7), .val (.int (own_ov (own_min q1 q2) (own_max q1 q2) (own_min q3 q4) (own_max q3 q4))), .unset, .unset] [(.int (lcmpW (own_max (own_min q1 q2) (own_min q3 q4)) (own_min (own_max q1 q2) (own_max q3 q4))))]))
  have J92 : ∀ (ex : Int32), (ex = if (0 : Int32) < lcmpW (own_max (own_min q1 q2) (own_min q3 q4)) (own_min (own_max q1 q2) (own_max q3 q4)) then (0 : Int32) else 1) → own_Wp p.tables e below (own_K room_1 s below (Q_rm0 Z q1 q2 q3 q4 h0 n0)) (T11.setTop (mkF m 92 #[.val (.long q1), .second, .val (.long q2), .second, .val (.long q3), .second, .val (.long q4), .second, .val (.long (own_min q1 q2)), .second, .val (.long (own_max q1 q2)), .second, .val (.long (own_min q3 q4)), .second, .val (.long (own_max q3 q4)), .second, .val (.ref b5), .val (.ref b7), .val (.int (own_ov (own_min q1 q2) (own_max q1 q2) (own_min q3 q4) (own_max q3 q4))), .unset, .unset] [(.int ex)])) := by
    intro ex h_ex
    refine own_of (fun tgt kon => XS.istore X11.here hx rfl (hb hby at_92) rfl (l' := #[.val (.long q1), .second, .val (.long q2), .second, .val (.long q3), .second, .val (.long q4), .second, .val (.long (own_min q1 q2)), .second, .val (.long (own_max q1 q2)), .second, .val (.long (own_min q3 q4)), .second, .val (.long (own_max q3 q4)), .second, .val (.ref b5), .val (.ref b7), .val (.int (own_ov (own_min q1 q2) (own_max q1 q2) (own_min q3 q4) (own_max q3 q4))), .val (.int ex), .unset]) rfl kon) ?_
    show own_Wp _ _ _ _ (T11.setTop (mkF m 94 #[.val (.long q1), .second, .val (.long q2), .second, .val (.long q3), .second, .val (.long q4), .second, .val (.long (own_min q1 q2)), .second, .val (.long (own_max q1 q2)), .second, .val (.long (own_min q3 q4)), .second, .val (.long (own_max q3 q4)), .second, .val (.ref b5), .val (.ref b7), .val (.int (own_ov (own_min q1 q2) (own_max q1 q2) (own_min q3 q4) (own_max q3 q4))), .val (.int ex), .unset] []))
    refine own_of (fun tgt kon => XS.aload X11.here hx rfl (hb hby at_94) rfl rfl kon) ?_
    show own_Wp _ _ _ _ (T11.setTop (mkF m 96 #[.val (.long q1), .second, .val (.long q2), .second, .val (.long q3), .second, .val (.long q4), .second, .val (.long (own_min q1 q2)), .second, .val (.long (own_max q1 q2)), .second, .val (.long (own_min q3 q4)), .second, .val (.long (own_max q3 q4)), .second, .val (.ref b5), .val (.ref b7), .val (.int (own_ov (own_min q1 q2) (own_max q1 q2) (own_min q3 q4) (own_max q3 q4))), .val (.int ex), .unset] [(.ref b7)]))
    refine own_of (fun tgt kon => XS.lload X11.here hx rfl (hb hby at_96) rfl kon) ?_
    show own_Wp _ _ _ _ (T11.setTop (mkF m 98 #[.val (.long q1), .second, .val (.long q2), .second, .val (.long q3), .second, .val (.long q4), .second, .val (.long (own_min q1 q2)), .second, .val (.long (own_max q1 q2)), .second, .val (.long (own_min q3 q4)), .second, .val (.long (own_max q3 q4)), .second, .val (.ref b5), .val (.ref b7), .val (.int (own_ov (own_min q1 q2) (own_max q1 q2) (own_min q3 q4) (own_max q3 q4))), .val (.int ex), .unset] [(.long (own_min q1 q2)), (.ref b7)]))
    refine own_of (fun tgt kon => XS.lload X11.here hx rfl (hb hby at_98) rfl kon) ?_
    show own_Wp _ _ _ _ (T11.setTop (mkF m 100 #[.val (.long q1), .second, .val (.long q2), .second, .val (.long q3), .second, .val (.long q4), .second, .val (.long (own_min q1 q2)), .second, .val (.long (own_max q1 q2)), .second, .val (.long (own_min q3 q4)), .second, .val (.long (own_max q3 q4)), .second, .val (.ref b5), .val (.ref b7), .val (.int (own_ov (own_min q1 q2) (own_max q1 q2) (own_min q3 q4) (own_max q3 q4))), .val (.int ex), .unset] [(.long (own_max q1 q2)), (.long (own_min q1 q2)), (.ref b7)]))
    refine own_callV X11 hx hZ (C := "com/example/superlink/superlink/Segment$Range") (y := (⟨"com/example/superlink/superlink/Segment$Range", "overlaps", "(JJ)Z"⟩ : MethodName)) (a := b7) (argsL := [(.long (own_min q1 q2)), (.long (own_max q1 q2))]) (rest := []) (W := 0) hown (hw _ (List.mem_of_getElem? (i := 25) rfl)) (hw _ (List.mem_of_getElem? (i := 26) rfl)) (hw _ (List.mem_of_getElem? (i := 28) rfl)) (hw _ (List.mem_of_getElem? (i := 27) rfl)) (hw _ (List.mem_of_getElem? (i := 9) rfl)) (hw _ (List.mem_of_getElem? (i := 29) rfl)) (by decide) e11 E_b7 (rm6 l Z a0 hw [] b7 (own_min q1 q2) (own_max q1 q2) (own_min q3 q4) (own_max q3 q4) T8.heap n0 Zs F_start_b7 F_stop_b7) (by decide) (by decide) (by decide) (by decide) (g := (mkF m 100 #[.val (.long q1), .second, .val (.long q2), .second, .val (.long q3), .second, .val (.long q4), .second, .val (.long (own_min q1 q2)), .second, .val (.long (own_max q1 q2)), .second, .val (.long (own_min q3 q4)), .second, .val (.long (own_max q3 q4)), .second, .val (.ref b5), .val (.ref b7), .val (.int (own_ov (own_min q1 q2) (own_max q1 q2) (own_min q3 q4) (own_max q3 q4))), .val (.int ex), .unset] [(.long (own_max q1 q2)), (.long (own_min q1 q2)), (.ref b7)])) rfl (by rw [hml]; rfl) (lenOf own_pd3 rfl) rfl (by show 2 * 0 + _ ≤ _; exact Nat.le_of_eq rfl) (hb hby at_100) ?_
    rintro T12 L12 _ X12 ⟨rfl, N12q, e12⟩
    have N12 := Fr.app N11 N12q
    show own_Wp _ _ _ _ (T12.setTop (mkF m 103 #[.val (.long q1), .second, .val (.long q2), .second, .val (.long q3), .second, .val (.long q4), .second, .val (.long (own_min q1 q2)), .second, .val (.long (own_max q1 q2)), .second, .val (.long (own_min q3 q4)), .second, .val (.long (own_max q3 q4)), .second, .val (.ref b5), .val (.ref b7), .val (.int (own_ov (own_min q1 q2) (own_max q1 q2) (own_min q3 q4) (own_max q3 q4))), .val (.int ex), .unset] [(.int (own_ov (own_min q3 q4) (own_max q3 q4) (own_min q1 q2) (own_max q1 q2)))]))
    refine own_of (fun tgt kon => XS.istore X12.here hx rfl (hb hby at_103) rfl (l' := #[.val (.long q1), .second, .val (.long q2), .second, .val (.long q3), .second, .val (.long q4), .second, .val (.long (own_min q1 q2)), .second, .val (.long (own_max q1 q2)), .second, .val (.long (own_min q3 q4)), .second, .val (.long (own_max q3 q4)), .second, .val (.ref b5), .val (.ref b7), .val (.int (own_ov (own_min q1 q2) (own_max q1 q2) (own_min q3 q4) (own_max q3 q4))), .val (.int ex), .val (.int (own_ov (own_min q3 q4) (own_max q3 q4) (own_min q1 q2) (own_max q1 q2)))]) rfl kon) ?_
    show own_Wp _ _ _ _ (T12.setTop (mkF m 105 #[.val (.long q1), .second, .val (.long q2), .second, .val (.long q3), .second, .val (.long q4), .second, .val (.long (own_min q1 q2)), .second, .val (.long (own_max q1 q2)), .second, .val (.long (own_min q3 q4)), .second, .val (.long (own_max q3 q4)), .second, .val (.ref b5), .val (.ref b7), .val (.int (own_ov (own_min q1 q2) (own_max q1 q2) (own_min q3 q4) (own_max q3 q4))), .val (.int ex), .val (.int (own_ov (own_min q3 q4) (own_max q3 q4) (own_min q1 q2) (own_max q1 q2)))] []))
    refine own_of (fun tgt kon => XS.iload X12.here hx rfl (hb hby at_105) rfl kon) ?_
    show own_Wp _ _ _ _ (T12.setTop (mkF m 107 #[.val (.long q1), .second, .val (.long q2), .second, .val (.long q3), .second, .val (.long q4), .second, .val (.long (own_min q1 q2)), .second, .val (.long (own_max q1 q2)), .second, .val (.long (own_min q3 q4)), .second, .val (.long (own_max q3 q4)), .second, .val (.ref b5), .val (.ref b7), .val (.int (own_ov (own_min q1 q2) (own_max q1 q2) (own_min q3 q4) (own_max q3 q4))), .val (.int ex), .val (.int (own_ov (own_min q3 q4) (own_max q3 q4) (own_min q1 q2) (own_max q1 q2)))] [(.int (own_ov (own_min q1 q2) (own_max q1 q2) (own_min q3 q4) (own_max q3 q4)))]))
    refine own_of (fun tgt kon => XS.iload X12.here hx rfl (hb hby at_107) rfl kon) ?_
    show own_Wp _ _ _ _ (T12.setTop (mkF m 109 #[.val (.long q1), .second, .val (.long q2), .second, .val (.long q3), .second, .val (.long q4), .second, .val (.long (own_min q1 q2)), .second, .val (.long (own_max q1 q2)), .second, .val (.long (own_min q3 q4)), .second, .val (.long (own_max q3 q4)), .second, .val (.ref b5), .val (.ref b7), .val (.int (own_ov (own_min q1 q2) (own_max q1 q2) (own_min q3 q4) (own_max q3 q4))), .val (.int ex), .val (.int (own_ov (own_min q3 q4) (own_max q3 q4) (own_min q1 q2) (own_max q1 q2)))] [(.int ex), (.int (own_ov (own_min q1 q2) (own_max q1 q2) (own_min q3 q4) (own_max q3 q4)))]))
    have hc109 : (own_ov (own_min q1 q2) (own_max q1 q2) (own_min q3 q4) (own_max q3 q4)) = ex := ((own_law q1 q2 q3 q4).1).trans h_ex.symm
    refine own_of (fun tgt kon => XS.icmpNo X12.here hx rfl (hb hby at_109) rfl (teq hc109).2 kon) ?_
    show own_Wp _ _ _ _ (T12.setTop (mkF m 112 #[.val (.long q1), .second, .val (.long q2), .second, .val (.long q3), .second, .val (.long q4), .second, .val (.long (own_min q1 q2)), .second, .val (.long (own_max q1 q2)), .second, .val (.long (own_min q3 q4)), .second, .val (.long (own_max q3 q4)), .second, .val (.ref b5), .val (.ref b7), .val (.int (own_ov (own_min q1 q2) (own_max q1 q2) (own_min q3 q4) (own_max q3 q4))), .val (.int ex), .val (.int (own_ov (own_min q3 q4) (own_max q3 q4) (own_min q1 q2) (own_max q1 q2)))] []))
    refine own_of (fun tgt kon => XS.iload X12.here hx rfl (hb hby at_112) rfl kon) ?_
    show own_Wp _ _ _ _ (T12.setTop (mkF m 114 #[.val (.long q1), .second, .val (.long q2), .second, .val (.long q3), .second, .val (.long q4), .second, .val (.long (own_min q1 q2)), .second, .val (.long (own_max q1 q2)), .second, .val (.long (own_min q3 q4)), .second, .val (.long (own_max q3 q4)), .second, .val (.ref b5), .val (.ref b7), .val (.int (own_ov (own_min q1 q2) (own_max q1 q2) (own_min q3 q4) (own_max q3 q4))), .val (.int ex), .val (.int (own_ov (own_min q3 q4) (own_max q3 q4) (own_min q1 q2) (own_max q1 q2)))] [(.int (own_ov (own_min q3 q4) (own_max q3 q4) (own_min q1 q2) (own_max q1 q2)))]))
    refine own_of (fun tgt kon => XS.iload X12.here hx rfl (hb hby at_114) rfl kon) ?_
    show own_Wp _ _ _ _ (T12.setTop (mkF m 116 #[.val (.long q1), .second, .val (.long q2), .second, .val (.long q3), .second, .val (.long q4), .second, .val (.long (own_min q1 q2)), .second, .val (.long (own_max q1 q2)), .second, .val (.long (own_min q3 q4)), .second, .val (.long (own_max q3 q4)), .second, .val (.ref b5), .val (.ref b7), .val (.int (own_ov (own_min q1 q2) (own_max q1 q2) (own_min q3 q4) (own_max q3 q4))), .val (.int ex), .val (.int (own_ov (own_min q3 q4) (own_max q3 q4) (own_min q1 q2) (own_max q1 q2)))] [(.int (own_ov (own_min q1 q2) (own_max q1 q2) (own_min q3 q4) (own_max q3 q4))), (.int (own_ov (own_min q3 q4) (own_max q3 q4) (own_min q1 q2) (own_max q1 q2)))]))
    have hc116 : (own_ov (own_min q3 q4) (own_max q3 q4) (own_min q1 q2) (own_max q1 q2)) = (own_ov (own_min q1 q2) (own_max q1 q2) (own_min q3 q4) (own_max q3 q4)) := (own_law q1 q2 q3 q4).2
    refine own_of (fun tgt kon => XS.icmpNo X12.here hx rfl (hb hby at_116) rfl (teq hc116).2 kon) ?_
    show own_Wp _ _ _ _ (T12.setTop (mkF m 119 #[.val (.long q1), .second, .val (.long q2), .second, .val (.long q3), .second, .val (.long q4), .second, .val (.long (own_min q1 q2)), .second, .val (.long (own_max q1 q2)), .second, .val (.long (own_min q3 q4)), .second, .val (.long (own_max q3 q4)), .second, .val (.ref b5), .val (.ref b7), .val (.int (own_ov (own_min q1 q2) (own_max q1 q2) (own_min q3 q4) (own_max q3 q4))), .val (.int ex), .val (.int (own_ov (own_min q3 q4) (own_max q3 q4) (own_min q1 q2) (own_max q1 q2)))] []))
    refine own_of (fun tgt kon => XS.iconst X12.here hx rfl (hb hby at_119) kon) ?_
    show own_Wp _ _ _ _ (T12.setTop (mkF m 120 #[.val (.long q1), .second, .val (.long q2), .second, .val (.long q3), .second, .val (.long q4), .second, .val (.long (own_min q1 q2)), .second, .val (.long (own_max q1 q2)), .second, .val (.long (own_min q3 q4)), .second, .val (.long (own_max q3 q4)), .second, .val (.ref b5), .val (.ref b7), .val (.int (own_ov (own_min q1 q2) (own_max q1 q2) (own_min q3 q4) (own_max q3 q4))), .val (.int ex), .val (.int (own_ov (own_min q3 q4) (own_max q3 q4) (own_min q1 q2) (own_max q1 q2)))] [(.int (1 : Int32))]))
    refine own_of (fun tgt kon => XS.goto X12.here hx rfl (pc0 := 120) (pc' := 124) rfl (hb hby at_120) (by decide) (by decide) kon) ?_
    show own_Wp _ _ _ _ (T12.setTop (mkF m 124 #[.val (.long q1), .second, .val (.long q2), .second, .val (.long q3), .second, .val (.long q4), .second, .val (.long (own_min q1 q2)), .second, .val (.long (own_max q1 q2)), .second, .val (.long (own_min q3 q4)), .second, .val (.long (own_max q3 q4)), .second, .val (.ref b5), .val (.ref b7), .val (.int (own_ov (own_min q1 q2) (own_max q1 q2) (own_min q3 q4) (own_max q3 q4))), .val (.int ex), .val (.int (own_ov (own_min q3 q4) (own_max q3 q4) (own_min q1 q2) (own_max q1 q2)))] [(.int (1 : Int32))]))
    refine own_ret X12 hlk (some (.int (1 : Int32))) (own_rtI hrt) (fun fs hr => retN X12 hx (t := .boolean) hrt (by simp) (hb hby at_124) hr) ?_ (by decide) (by decide)
    rw [e12]
    exact ⟨rfl, N12⟩
  show own_Wp _ _ _ _ (T11.setTop (mkF m 84 #[.val (.long q1), .second, .val (.long q2), .second, .val (.long q3), .second, .val (.long q4), .second, .val (.long (own_min q1 q2)), .second, .val (.long (own_max q1 q2)), .second, .val (.long (own_min q3 q4)), .second, .val (.long (own_max q3 q4)), .second, .val (.ref b5), .val (.ref b7), .val (.int (own_ov (own_min q1 q2) (own_max q1 q2) (own_min q3 q4) (own_max q3 q4))), .unset, .unset] [(.int (lcmpW (own_max (own_min q1 q2) (own_min q3 q4)) (own_min (own_max q1 q2) (own_max q3 q4))))]))
  by_cases hc84 : (0 : Int32) < (lcmpW (own_max (own_min q1 q2) (own_min q3 q4)) (own_min (own_max q1 q2) (own_max q3 q4)))
  · skip
    refine own_of (fun tgt kon => XS.ifYes X11.here hx rfl (pc0 := 84) (pc' := 91) rfl (hb hby at_84) rfl ((if0 _ _).trans (tlt hc84).2.2.1) (by decide) (by decide) kon) ?_
    show own_Wp _ _ _ _ (T11.setTop (mkF m 91 #[.val (.long q1), .second, .val (.long q2), .second, .val (.long q3), .second, .val (.long q4), .second, .val (.long (own_min q1 q2)), .second, .val (.long (own_max q1 q2)), .second, .val (.long (own_min q3 q4)), .second, .val (.long (own_max q3 q4)), .second, .val (.ref b5), .val (.ref b7), .val (.int (own_ov (own_min q1 q2) (own_max q1 q2) (own_min q3 q4) (own_max q3 q4))), .unset, .unset] []))
    refine own_of (fun tgt kon => XS.iconst X11.here hx rfl (hb hby at_91) kon) ?_
    show own_Wp _ _ _ _ (T11.setTop (mkF m 92 #[.val (.long q1), .second, .val (.long q2), .second, .val (.long q3), .second, .val (.long q4), .second, .val (.long (own_min q1 q2)), .second, .val (.long (own_max q1 q2)), .second, .val (.long (own_min q3 q4)), .second, .val (.long (own_max q3 q4)), .second, .val (.ref b5), .val (.ref b7), .val (.int (own_ov (own_min q1 q2) (own_max q1 q2) (own_min q3 q4) (own_max q3 q4))), .unset, .unset] [(.int (0 : Int32))]))
    exact J92 ((0 : Int32)) (by exact (if_pos hc84).symm)
  · skip
    refine own_of (fun tgt kon => XS.ifNo X11.here hx rfl (hb hby at_84) rfl ((if0 _ _).trans (flt hc84).2.2.1) kon) ?_
    show own_Wp _ _ _ _ (T11.setTop (mkF m 87 #[.val (.long q1), .second, .val (.long q2), .second, .val (.long q3), .second, .val (.long q4), .second, .val (.long (own_min q1 q2)), .second, .val (.long (own_max q1 q2)), .second, .val (.long (own_min q3 q4)), .second, .val (.long (own_max q3 q4)), .second, .val (.ref b5), .val (.ref b7), .val (.int (own_ov (own_min q1 q2) (own_max q1 q2) (own_min q3 q4) (own_max q3 q4))), .unset, .unset] []))
    refine own_of (fun tgt kon => XS.iconst X11.here hx rfl (hb hby at_87) kon) ?_
    show own_Wp _ _ _ _ (T11.setTop (mkF m 88 #[.val (.long q1), .second, .val (.long q2), .second, .val (.long q3), .second, .val (.long q4), .second, .val (.long (own_min q1 q2)), .second, .val (.long (own_max q1 q2)), .second, .val (.long (own_min q3 q4)), .second, .val (.long (own_max q3 q4)), .second, .val (.ref b5), .val (.ref b7), .val (.int (own_ov (own_min q1 q2) (own_max q1 q2) (own_min q3 q4) (own_max q3 q4))), .unset, .unset] [(.int (1 : Int32))]))
    refine own_of (fun tgt kon => XS.goto X11.here hx rfl (pc0 := 88) (pc' := 92) rfl (hb hby at_88) (by decide) (by decide) kon) ?_
    show own_Wp _ _ _ _ (T11.setTop (mkF m 92 #[.val (.long q1), .second, .val (.long q2), .second, .val (.long q3), .second, .val (.long q4), .second, .val (.long (own_min q1 q2)), .second, .val (.long (own_max q1 q2)), .second, .val (.long (own_min q3 q4)), .second, .val (.long (own_max q3 q4)), .second, .val (.ref b5), .val (.ref b7), .val (.int (own_ov (own_min q1 q2) (own_max q1 q2) (own_min q3 q4) (own_max q3 q4))), .unset, .unset] [(.int (1 : Int32))]))
    exact J92 ((1 : Int32)) (by exact (if_neg hc84).symm)
set_option maxRecDepth 65536 in
set_option maxHeartbeats 40000000 in
theorem comes_1 {Post : Tables → Env → Array Value → State → Outcome → State → Prop} (hpost : ∀ tb e args s v u, (limb_1_1.after args s (.returned v) u = true ∧ limb_1_2.after args s (.returned v) u = true ∧ True) → FrameEnd s (.returned v) u (Jvm.fieldLocs frame_1_writes args s ++ Jvm.arrayLocs frame_1_arrays args s ++ Jvm.staticLocs frame_1_statics s) 16 128 → Post tb e args s (.returned v) u) :
    ArmFor flags0 classFile x code maxLocals ret World_1 tables_1 room_1 Calls_1 rest_1 Pre_1 Post := by
  intro l hfl _ _ p e ha hc hk s m args below hf hA hF happ hP
  obtain ⟨hcalls, hrest, hpre⟩ := hP
  obtain ⟨-, -, -, hnamed, -, -, -, hat⟩ := (Spec.applies_iff hf).mp happ
  obtain ⟨hg, hn⟩ := and_e (Cond.before_iff.mp (show (Jvm.Cond.and given_1 narrow_1).before args s = true from hpre))
  obtain ⟨g1, g2⟩ := and_e hg
  obtain ⟨g3, g4⟩ := and_e g2
  obtain ⟨g5, g6⟩ := and_e g4
  obtain ⟨g7, g8⟩ := and_e g6
  obtain ⟨w0, w1, w2, w3, rfl⟩ : ∃ w0 w1 w2 w3 : Value, args = #[w0, w1, w2, w3] := by
    have hs : args.size = 4 := by simpa [Cond.value, given_1] using g1
    obtain ⟨L⟩ := args
    match L, hs with
    | [w0, w1, w2, w3], _ => exact ⟨w0, w1, w2, w3, rfl⟩
  have hw := fun d (hd : d ∈ tables_1) => atoms_spec (ws := Jvm.Cond.code x code maxLocals ret :: tables_1) hat d (List.mem_cons_of_mem _ hd)
  have hfit : Fit s := fun {y c} hc i hi => by
    obtain ⟨ha, rfl⟩ := Array.getElem?_eq_some_iff.mp hc
    have q := List.all_eq_true.mp ((Array.all_eq_true_iff_forall_mem.mp hF) _ (Array.getElem_mem ha)) i (List.mem_range.mpr hi)
    simpa [Array.getElem?_eq_getElem hi] using q
  obtain ⟨i0, ei0⟩ := isL_v g3
  obtain rfl : w0 = (.long i0) := Option.some.inj ei0
  obtain ⟨i1, ei1⟩ := isL_v g5
  obtain rfl : w1 = (.long i1) := Option.some.inj ei1
  obtain ⟨i2, ei2⟩ := isL_v g7
  obtain rfl : w2 = (.long i2) := Option.some.inj ei2
  obtain ⟨i3, ei3⟩ := isL_v g8
  obtain rfl : w3 = (.long i3) := Option.some.inj ei3
  obtain ⟨n, o, h1, h2, h3, _, L, rfl, ⟨rfl, N⟩, hq⟩ := rm0 l s _ hw tables_1 i0 i1 i2 i3  s.heap s.heap.size (Nat.le_refl _)  p e ha hc hk s m _ below hf ((Spec.applies_iff_loose hf).mp happ).1 ⟨rfl, State.Warmed39.refl s, rfl⟩ trivial
  refine ⟨n, _, h1, h2, h3, hpost _ _ _ _ _ _ ⟨Cond.after_iff.mpr rfl, Cond.after_iff.mpr (eq_i res_at (Term.int_eval (1)) rfl), trivial⟩ ⟨hq.1, hq.2.1, (hq.2.2.sift fun y hy => Or.inr (N y hy)).mono (by decide) (by decide)⟩⟩
theorem main_1_1 : Claimed_1_1 := comes_1 fun _ _ _ _ _ _ h hF => ⟨h.1, hF⟩
theorem main_1_2 : Claimed_1_2 := comes_1 fun _ _ _ _ _ _ h hF => ⟨h.2.1, hF⟩
end Jvm.Pilot.@@N@@
namespace Jvm.Pilot.@@N@@
open Jvm Jvm.ClassFile Sem Op Lib Jvm.Free Jvm.Stand Jvm.Pilot.@@N@@.Jvm.D
/-! MADE BY PROGRAM (witnessworld.py) out of the Statement's table words and the real class files: 11 classes; the members and pool entries that the words name. The judged class is class 1, her method 1. -/
namespace start1
open Jvm.ClassFile
def u (s : String) : CpInfo := .utf8 (stringToUtf16 s)
/-- a pool by its gaps: so many unusable entries, then the entry; so many at the end -/
def gap : Nat → List CpInfo → List CpInfo
  | 0, r => r
  | n + 1, r => .unusable :: gap n r
def poolList (es : List (Nat × CpInfo)) (last : Nat) : List CpInfo := es.foldr (fun e r => gap e.1 (e.2 :: r)) (gap last [])
def pool (es : List (Nat × CpInfo)) (last : Nat) : Array CpInfo := ⟨poolList es last⟩
def fileOf (pool : Array CpInfo) (this : Nat) (attrs : Array Attribute := #[]) (ms : Array MethodInfo := #[]) (fl : Nat := 33) (sup : Nat := 0) (ifs : Array Nat := #[]) (fds : Array FieldInfo := #[]) : ClassFile where
  minorVersion := 0
  majorVersion := 65
  constantPool := pool
  accessFlags := fl
  thisClass := this
  superClass := sup
  interfaces := ifs
  fields := fds
  methods := ms
  attributes := attrs
def plain (name : String) (sup : Option ClassId) : Class where
  name := name
  kind := .ordinary
  loader := none
  accessFlags := 33
  super := sup
  interfaces := #[]
  cf := none
  fields := #[]
  methods := #[]
  instanceTypes := #[]
  staticTypes := #[]
  resolved := #[]
  callSites := []
  init := .initialized
  statics := none
  mirror := none

def pool0 : Array CpInfo := pool [(5, u "<init>"), (0, u "()V"), (1, .class_ 10), (1, u "java/lang/Object")] 113

def k0c0 : Code := { maxStack := 0, maxLocals := 1, code := object_method_1_code, exceptionTable := #[], attributes := #[] }
def k0m0 : Method := { name := "<init>", desc := "()V", sig := { parameters := [], returnType := none }, accessFlags := 1, code := some k0c0 }
/-- java/lang/Object -/
def k0 : Class := { plain "java/lang/Object" none with
  accessFlags := 33
  interfaces := #[]
  cf := some (fileOf pool0 8 #[] #[{ accessFlags := 1, nameIndex := 5, descriptorIndex := 6, attributes := #[] }] 33 0 #[] #[])
  fields := #[]
  methods := #[k0m0]
  instanceTypes := #[]
  staticTypes := #[]
  resolved := Array.replicate 124 none
  statics := none }

def pool1 : Array CpInfo := pool [(2, .class_ 4), (1, u "java/lang/Object"), (0, u "<init>"), (0, u "()V"), (0, .methodref 8 9), (0, .class_ 10), (0, .nameAndType 11 12), (0, u "java/lang/Math"), (0, u "min"), (0, u "(JJ)J"), (0, .methodref 8 14), (0, .nameAndType 15 12), (0, u "max"), (0, .class_ 17), (0, u "com/example/superlink/superlink/Segment$Range"), (0, .methodref 16 19), (0, .nameAndType 5 20), (0, u "(JJ)V"), (0, .methodref 16 22), (0, .nameAndType 23 24), (0, u "overlaps"), (0, u "(JJ)Z"), (0, .class_ 26), (0, u "com/example/superlink/superlink/RangeOverlapsPinLaw"), (2, u "law"), (0, u "(JJJJ)Z")] 7

def k1m0 : Method := { name := "<init>", desc := "()V", sig := { parameters := [], returnType := none }, accessFlags := 1, code := none }
def k1c1 : Code := { maxStack := 6, maxLocals := 21, code := code, exceptionTable := #[], attributes := #[] }
def k1m1 : Method := { name := "law", desc := "(JJJJ)Z", sig := { parameters := [.long, .long, .long, .long], returnType := some .boolean }, accessFlags := 9, code := some k1c1 }
/-- com/example/superlink/superlink/RangeOverlapsPinLaw -/
def k1 : Class := { plain "com/example/superlink/superlink/RangeOverlapsPinLaw" (some 0) with
  accessFlags := 49
  interfaces := #[]
  cf := some (fileOf pool1 25 #[] #[{ accessFlags := 1, nameIndex := 5, descriptorIndex := 6, attributes := #[] }, { accessFlags := 9, nameIndex := 29, descriptorIndex := 30, attributes := #[] }] 49 2 #[] #[])
  fields := #[]
  methods := #[k1m0, k1m1]
  instanceTypes := #[]
  staticTypes := #[]
  resolved := Array.replicate 38 none
  statics := none }

def pool2 : Array CpInfo := pool [(1, .class_ 2), (0, u "java/lang/Math"), (1, .class_ 6), (1, u "java/lang/Object"), (0, u "<init>"), (0, u "()V"), (89, .class_ 100), (1, u "java/lang/Math$RandomNumberGeneratorHolder"), (20, u "(JJ)J"), (50, u "negativeZeroFloatBits"), (0, u "J"), (2, u "negativeZeroDoubleBits"), (21, u "max"), (2, u "min"), (43, u "$assertionsDisabled"), (0, u "Z"), (91, u "twoToTheDoubleScaleDown"), (0, u "D"), (4, u "twoToTheDoubleScaleUp"), (9, u "E"), (3, u "PI"), (2, u "TAU"), (2, u "DEGREES_TO_RADIANS"), (0, u "RADIANS_TO_DEGREES")] 94

def k2m0 : Method := { name := "<init>", desc := "()V", sig := { parameters := [], returnType := none }, accessFlags := 2, code := none }
def k2c1 : Code := { maxStack := 4, maxLocals := 4, code := jdk_29_method_66_code, exceptionTable := #[], attributes := #[] }
def k2m1 : Method := { name := "max", desc := "(JJ)J", sig := { parameters := [.long, .long], returnType := some .long }, accessFlags := 9, code := some k2c1 }
def k2c2 : Code := { maxStack := 4, maxLocals := 4, code := jdk_29_method_70_code, exceptionTable := #[], attributes := #[] }
def k2m2 : Method := { name := "min", desc := "(JJ)J", sig := { parameters := [.long, .long], returnType := some .long }, accessFlags := 9, code := some k2c2 }
/-- java/lang/Math -/
def k2 : Class := { plain "java/lang/Math" (some 0) with
  accessFlags := 49
  interfaces := #[]
  cf := some (fileOf pool2 1 #[.nestMembers #[98]] #[{ accessFlags := 2, nameIndex := 7, descriptorIndex := 8, attributes := #[] }, { accessFlags := 9, nameIndex := 198, descriptorIndex := 121, attributes := #[] }, { accessFlags := 9, nameIndex := 201, descriptorIndex := 121, attributes := #[] }] 49 4 #[] #[{ accessFlags := 25, nameIndex := 354, descriptorIndex := 339, attributes := #[] }, { accessFlags := 25, nameIndex := 358, descriptorIndex := 339, attributes := #[] }, { accessFlags := 25, nameIndex := 361, descriptorIndex := 339, attributes := #[] }, { accessFlags := 26, nameIndex := 364, descriptorIndex := 339, attributes := #[] }, { accessFlags := 26, nameIndex := 365, descriptorIndex := 339, attributes := #[] }, { accessFlags := 26, nameIndex := 172, descriptorIndex := 173, attributes := #[] }, { accessFlags := 26, nameIndex := 176, descriptorIndex := 173, attributes := #[] }, { accessFlags := 8, nameIndex := 344, descriptorIndex := 339, attributes := #[] }, { accessFlags := 8, nameIndex := 338, descriptorIndex := 339, attributes := #[] }, { accessFlags := 4120, nameIndex := 245, descriptorIndex := 246, attributes := #[] }])
  fields := #[{ name := "E", type := .double, accessFlags := 25, slot := 0, constantValue := 0 }, { name := "PI", type := .double, accessFlags := 25, slot := 1, constantValue := 0 }, { name := "TAU", type := .double, accessFlags := 25, slot := 2, constantValue := 0 }, { name := "DEGREES_TO_RADIANS", type := .double, accessFlags := 26, slot := 3, constantValue := 0 }, { name := "RADIANS_TO_DEGREES", type := .double, accessFlags := 26, slot := 4, constantValue := 0 }, { name := "negativeZeroFloatBits", type := .long, accessFlags := 26, slot := 5, constantValue := 0 }, { name := "negativeZeroDoubleBits", type := .long, accessFlags := 26, slot := 6, constantValue := 0 }, { name := "twoToTheDoubleScaleUp", type := .double, accessFlags := 8, slot := 7, constantValue := 0 }, { name := "twoToTheDoubleScaleDown", type := .double, accessFlags := 8, slot := 8, constantValue := 0 }, { name := "$assertionsDisabled", type := .boolean, accessFlags := 4120, slot := 9, constantValue := 0 }]
  methods := #[k2m0, k2m1, k2m2]
  instanceTypes := #[]
  staticTypes := #[.double, .double, .double, .double, .double, .long, .long, .double, .double, .boolean]
  resolved := Array.replicate 460 none
  statics := none }

def pool3 : Array CpInfo := pool [(1, .methodref 2 3), (0, .class_ 4), (0, .nameAndType 5 6), (0, u "java/lang/Object"), (0, u "<init>"), (0, u "()V"), (0, .class_ 8), (0, u "java/lang/Record")] 13

def k3c0 : Code := { maxStack := 1, maxLocals := 1, code := jdk_30_method_1_code, exceptionTable := #[], attributes := #[] }
def k3m0 : Method := { name := "<init>", desc := "()V", sig := { parameters := [], returnType := none }, accessFlags := 4, code := some k3c0 }
/-- java/lang/Record -/
def k3 : Class := { plain "java/lang/Record" (some 0) with
  accessFlags := 1057
  interfaces := #[]
  cf := some (fileOf pool3 7 #[] #[{ accessFlags := 4, nameIndex := 5, descriptorIndex := 6, attributes := #[] }] 1057 2 #[] #[])
  fields := #[]
  methods := #[k3m0]
  instanceTypes := #[]
  staticTypes := #[]
  resolved := Array.replicate 22 none
  statics := none }

def pool4 : Array CpInfo := pool [(1, .methodref 2 3), (0, .class_ 4), (0, .nameAndType 5 6), (0, u "java/lang/Record"), (0, u "<init>"), (0, u "()V"), (0, .fieldref 8 9), (0, .class_ 10), (0, .nameAndType 11 12), (0, u "com/example/superlink/superlink/Segment$Range"), (0, u "start"), (0, u "J"), (0, .fieldref 8 14), (0, .nameAndType 15 12), (0, u "stop"), (11, u "(JJ)V"), (15, u "overlaps"), (0, u "(JJ)Z"), (10, .class_ 56), (0, u "com/example/superlink/superlink/Segment")] 20

def k4c0 : Code := { maxStack := 3, maxLocals := 5, code := prog_45_method_1_code, exceptionTable := #[], attributes := #[] }
def k4m0 : Method := { name := "<init>", desc := "(JJ)V", sig := { parameters := [.long, .long], returnType := none }, accessFlags := 0, code := some k4c0 }
def k4c1 : Code := { maxStack := 4, maxLocals := 5, code := prog_45_method_2_code, exceptionTable := #[], attributes := #[] }
def k4m1 : Method := { name := "overlaps", desc := "(JJ)Z", sig := { parameters := [.long, .long], returnType := some .boolean }, accessFlags := 0, code := some k4c1 }
/-- com/example/superlink/superlink/Segment$Range -/
def k4 : Class := { plain "com/example/superlink/superlink/Segment$Range" (some 3) with
  accessFlags := 48
  interfaces := #[]
  cf := some (fileOf pool4 8 #[.nestHost 55] #[{ accessFlags := 0, nameIndex := 5, descriptorIndex := 27, attributes := #[] }, { accessFlags := 0, nameIndex := 43, descriptorIndex := 44, attributes := #[] }] 48 2 #[] #[{ accessFlags := 18, nameIndex := 11, descriptorIndex := 12, attributes := #[] }, { accessFlags := 18, nameIndex := 15, descriptorIndex := 12, attributes := #[] }])
  fields := #[{ name := "start", type := .long, accessFlags := 18, slot := 0, constantValue := 0 }, { name := "stop", type := .long, accessFlags := 18, slot := 1, constantValue := 0 }]
  methods := #[k4m0, k4m1]
  instanceTypes := #[.long, .long]
  staticTypes := #[]
  resolved := Array.replicate 77 none
  statics := none }

def pool5 : Array CpInfo := pool [(1, u "java/lang/Cloneable"), (0, .class_ 1), (0, u "java/lang/Object"), (0, .class_ 3)] 3

/-- java/lang/Cloneable -/
def k5 : Class := { plain "java/lang/Cloneable" (some 0) with
  accessFlags := 1537
  interfaces := #[]
  cf := some (fileOf pool5 2 #[] #[] 1537 4 #[] #[])
  fields := #[]
  methods := #[]
  instanceTypes := #[]
  staticTypes := #[]
  resolved := Array.replicate 8 none
  statics := none }

def pool6 : Array CpInfo := pool [(1, u "java/io/Serializable"), (0, .class_ 1), (0, u "java/lang/Object"), (0, .class_ 3)] 3

/-- java/io/Serializable -/
def k6 : Class := { plain "java/io/Serializable" (some 0) with
  accessFlags := 1537
  interfaces := #[]
  cf := some (fileOf pool6 2 #[] #[] 1537 4 #[] #[])
  fields := #[]
  methods := #[]
  instanceTypes := #[]
  staticTypes := #[]
  resolved := Array.replicate 8 none
  statics := none }

/-- the primitive byte -/
def k7 : Class := { plain "byte" none with kind := .primitive 'B', accessFlags := 0x411 }
/-- [B -/
def k8 : Class := { plain "[B" (some 0) with kind := .array 7 .byte, interfaces := #[5, 6], accessFlags := 1041 }

/-- the primitive int -/
def k9 : Class := { plain "int" none with kind := .primitive 'I', accessFlags := 0x411 }
/-- [I -/
def k10 : Class := { plain "[I" (some 0) with kind := .array 9 .int, interfaces := #[5, 6], accessFlags := 1041 }

def heap : Heap := #[]
def classes : Array Class := #[k0, k1, k2, k3, k4, k5, k6, k7, k8, k9, k10]
def interned : List (Array UInt16 × Addr) := []
def slotsUsed : Nat := 0
def theMethod : MethodId := ⟨1, 1⟩
def args0 : Array Value := #[.long 5, .long 2, .long 3, .long 9]
def aboutOver (below : List Frame) : State where
  vm := { classes := classes, interned := interned.toArray }
  heap := heap
  slotsUsed := slotsUsed
  threads := #[{ frames := .invoking theMethod args0 :: below }]
def below0 : List Frame := [.native { method := ⟨0, 0⟩, args := #[] }]
def about1 : State := aboutOver below0
def p0 : Program := .bare "" "" ""
def e0 : Env := launch0.env 0 0 0
theorem w_frames : about1.frames = Frame.invoking theMethod args0 :: below0 := rfl
set_option maxRecDepth 65536 in
theorem w_args : argsFit about1.vm theMethod args0 = true := by decide +kernel
set_option maxRecDepth 65536 in
theorem w_heap : heapFits about1 = true := by decide +kernel
set_option maxRecDepth 65536 in
theorem w_runnable : about1.curStatus? = some .runnable := by decide +kernel
set_option maxRecDepth 65536 in
theorem w_alone : about1.alone = true := by decide +kernel
set_option maxRecDepth 65536 in
theorem w_named : about1.methodNamed? x = some theMethod := by decide +kernel
set_option maxRecDepth 65536 in
theorem w_hears : about1.hears theMethod below0 = true := by decide +kernel
set_option maxRecDepth 65536 in
theorem w_ripe : about1.ripe theMethod args0 below0 = true := by decide +kernel
theorem w_running : about1.status = .running := rfl
set_option maxRecDepth 65536 in
theorem w_room : about1.hasRoom e0.platform room_1 = true :=
  launch0.hasRoom_least _ room_1 (by decide +kernel) (by decide +kernel) (by decide +kernel) (by decide +kernel) (by decide +kernel) (by decide +kernel)
theorem allAtoms_all (ts : List Jvm.Cond) (a : Array Jvm.Value) (st : Jvm.State) : (allAtoms ts).before a st = ts.all (fun c => c.before a st) := by
  induction ts with
  | nil => rfl
  | cons c t ih =>
    show (Jvm.Cond.and c (allAtoms t)).before a st = _
    rw [Jvm.Cond.before_and, ih, List.all_cons]
def words1 : List Jvm.Cond := Jvm.Cond.code x code maxLocals ret :: tables_1
/-- a 'code' word, met by the world's own term for the bytes: nothing is compared byte by byte -/
theorem code_word {y : MethodName} {bytes : ByteArray} {mx : Nat} {rt : Option FieldType} {a : Array Value} {s : State} {m : MethodId} {meth : Method} {c : Code} (h1 : s.methodNamed? y = some m) (h2 : s.vm.method? m = some meth) (h3 : meth.code = some c) (h4 : c.code = bytes)
    (h5 : (c.maxLocals == mx && c.exceptionTable.isEmpty && decide (c.maxStack ≤ mostOperands) && decide (meth.sig.returnType = rt) && !meth.locks && decide (parseMethodDescriptor y.desc = some meth.sig)) = true) : (Jvm.Cond.code y bytes mx rt).before a s = true := by
  simp only [Bool.and_eq_true, beq_iff_eq, Bool.not_eq_true', decide_eq_true_eq] at h5
  obtain ⟨⟨⟨⟨⟨g1, g2⟩, g3⟩, g4⟩, g5⟩, g6⟩ := h5
  simp [Cond.before, Cond.holds, Cond.value, h1, h2, h3, h4, g1, g2, g3, g4, g5, g6]
def isCode : Jvm.Cond → Bool
  | .code _ _ _ _ => true
  | _ => false
theorem all_split {L : List Jvm.Cond} {P : Jvm.Cond → Bool} (h1 : L.all (fun c => isCode c || P c) = true) (h2 : ∀ c ∈ L.filter isCode, P c = true) : L.all P = true := by
  refine List.all_eq_true.mpr fun c hc => ?_
  have h := List.all_eq_true.mp h1 c hc
  rcases Bool.eq_false_or_eq_true (isCode c) with hi | hi
  · exact h2 c (List.mem_filter.mpr ⟨hc, hi⟩)
  · simpa [hi] using h
set_option maxRecDepth 65536 in
theorem w_c0 : (Jvm.Cond.code x code maxLocals ret).before args0 about1 = true := code_word (m := ⟨1, 1⟩) (meth := k1m1) (c := k1c1) (by decide +kernel) rfl rfl rfl (by decide +kernel)
set_option maxRecDepth 65536 in
theorem w_c1 : (Jvm.Cond.code ({ cls := "java/lang/Math", name := "min", desc := "(JJ)J" } : Jvm.MethodName) jdk_29_method_70_code (4 : Nat) (Option.some Jvm.ClassFile.FieldType.long)).before args0 about1 = true := code_word (m := ⟨2, 2⟩) (meth := k2m2) (c := k2c2) (by decide +kernel) rfl rfl rfl (by decide +kernel)
set_option maxRecDepth 65536 in
theorem w_c2 : (Jvm.Cond.code ({ cls := "java/lang/Math", name := "max", desc := "(JJ)J" } : Jvm.MethodName) jdk_29_method_66_code (4 : Nat) (Option.some Jvm.ClassFile.FieldType.long)).before args0 about1 = true := code_word (m := ⟨2, 1⟩) (meth := k2m1) (c := k2c1) (by decide +kernel) rfl rfl rfl (by decide +kernel)
set_option maxRecDepth 65536 in
theorem w_c3 : (Jvm.Cond.code ({ cls := "com/example/superlink/superlink/Segment$Range", name := "<init>", desc := "(JJ)V" } : Jvm.MethodName) prog_45_method_1_code (5 : Nat) (Option.none : Option Jvm.ClassFile.FieldType)).before args0 about1 = true := code_word (m := ⟨4, 0⟩) (meth := k4m0) (c := k4c0) (by decide +kernel) rfl rfl rfl (by decide +kernel)
set_option maxRecDepth 65536 in
theorem w_c4 : (Jvm.Cond.code ({ cls := "java/lang/Record", name := "<init>", desc := "()V" } : Jvm.MethodName) jdk_30_method_1_code (1 : Nat) (Option.none : Option Jvm.ClassFile.FieldType)).before args0 about1 = true := code_word (m := ⟨3, 0⟩) (meth := k3m0) (c := k3c0) (by decide +kernel) rfl rfl rfl (by decide +kernel)
set_option maxRecDepth 65536 in
theorem w_c5 : (Jvm.Cond.code ({ cls := "java/lang/Object", name := "<init>", desc := "()V" } : Jvm.MethodName) object_method_1_code (1 : Nat) (Option.none : Option Jvm.ClassFile.FieldType)).before args0 about1 = true := code_word (m := ⟨0, 0⟩) (meth := k0m0) (c := k0c0) (by decide +kernel) rfl rfl rfl (by decide +kernel)
set_option maxRecDepth 65536 in
theorem w_c6 : (Jvm.Cond.code ({ cls := "com/example/superlink/superlink/Segment$Range", name := "overlaps", desc := "(JJ)Z" } : Jvm.MethodName) prog_45_method_2_code (5 : Nat) (Option.some Jvm.ClassFile.FieldType.boolean)).before args0 about1 = true := code_word (m := ⟨4, 1⟩) (meth := k4m1) (c := k4c1) (by decide +kernel) rfl rfl rfl (by decide +kernel)
def codes1 : List Jvm.Cond := [Jvm.Cond.code x code maxLocals ret, Jvm.Cond.code ({ cls := "java/lang/Math", name := "min", desc := "(JJ)J" } : Jvm.MethodName) jdk_29_method_70_code (4 : Nat) (Option.some Jvm.ClassFile.FieldType.long), Jvm.Cond.code ({ cls := "java/lang/Math", name := "max", desc := "(JJ)J" } : Jvm.MethodName) jdk_29_method_66_code (4 : Nat) (Option.some Jvm.ClassFile.FieldType.long), Jvm.Cond.code ({ cls := "com/example/superlink/superlink/Segment$Range", name := "<init>", desc := "(JJ)V" } : Jvm.MethodName) prog_45_method_1_code (5 : Nat) (Option.none : Option Jvm.ClassFile.FieldType), Jvm.Cond.code ({ cls := "java/lang/Record", name := "<init>", desc := "()V" } : Jvm.MethodName) jdk_30_method_1_code (1 : Nat) (Option.none : Option Jvm.ClassFile.FieldType), Jvm.Cond.code ({ cls := "java/lang/Object", name := "<init>", desc := "()V" } : Jvm.MethodName) object_method_1_code (1 : Nat) (Option.none : Option Jvm.ClassFile.FieldType), Jvm.Cond.code ({ cls := "com/example/superlink/superlink/Segment$Range", name := "overlaps", desc := "(JJ)Z" } : Jvm.MethodName) prog_45_method_2_code (5 : Nat) (Option.some Jvm.ClassFile.FieldType.boolean)]
set_option maxRecDepth 65536 in
theorem codes_eq : words1.filter isCode = codes1 := rfl
theorem w_codes : ∀ c ∈ words1.filter isCode, c.before args0 about1 = true := by
  rw [codes_eq]
  intro c hc
  simp only [codes1, List.mem_cons, List.not_mem_nil, or_false] at hc
  rcases hc with rfl | rfl | rfl | rfl | rfl | rfl | rfl
  · exact w_c0
  · exact w_c1
  · exact w_c2
  · exact w_c3
  · exact w_c4
  · exact w_c5
  · exact w_c6
set_option maxRecDepth 65536 in
theorem w_t1 : (words1.take 24).all (fun c => isCode c || c.before args0 about1) = true := by decide +kernel
set_option maxRecDepth 65536 in
theorem w_t2 : (words1.drop 24).all (fun c => isCode c || c.before args0 about1) = true := by decide +kernel
theorem w_tables : (allAtoms (Jvm.Cond.code x code maxLocals ret :: tables_1)).before args0 about1 = true := by
  rw [allAtoms_all]
  show words1.all (fun c => c.before args0 about1) = true
  refine all_split ?_ w_codes
  rw [← List.take_append_drop 24 words1, List.all_append, w_t1, w_t2]
  rfl
set_option maxRecDepth 65536 in
theorem w_case : (Jvm.Cond.and given_1 narrow_1).before args0 about1 = true := by decide +kernel
theorem w_applies : (headSpec (Jvm.Cond.code x code maxLocals ret :: tables_1) room_1).applies x e0.platform about1 = true :=
  (Spec.applies_iff w_frames).mpr ⟨w_running, w_runnable, w_alone, w_named, w_hears, w_ripe, w_room, w_tables⟩
theorem atStart : AtStart classFile x code maxLocals ret World_1 tables_1 room_1 Calls_1 rest_1 Pre_1 launch0 p0 e0 about1 theMethod args0 below0 :=
  ⟨lists_1, trivial, launch0.admits_env _ _ _, launch0.least_env, fairChoices_fair.cas, fairChoices_fair.clock, w_frames, w_args, w_heap, w_applies, trivial, trivial, w_case⟩
end start1
theorem witness_1 : WitnessClaimed_1 := ⟨start1.p0, start1.e0, start1.about1, start1.theMethod, start1.args0, start1.below0, start1.atStart⟩
end Jvm.Pilot.@@N@@
