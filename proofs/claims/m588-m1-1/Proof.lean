import JvmDerived
import JvmDerived.Pilot.@@N@@Statement
import JvmDerived.Pilot.@@N@@Code
set_option linter.unusedVariables false
set_option linter.unusedSimpArgs false
namespace Jvm.Pilot.@@N@@
open Jvm Jvm.ClassFile Sem Op Lib Jvm.Free Jvm.Stand Jvm.LawKit Jvm.RoadKit Bundle Jvm.Pilot.@@N@@.Jvm.D
section OwnKit
variable {p : Program} {l : Launch} {e : Env} {R : Room} {s : State} {m : MethodId} {args : Array Value} {below : List Frame} {meth : Method} {c : Code} {T T' : State} {locs : List Loc} {cells slots kc ks : Nat} {g g' : JFrame} {Q : Option Value → Heap → List Loc → Prop} {Z : State} {h h' : Heap} {a0 : Array Value} {En : Outcome → State → List Loc → Nat → Nat → Prop}
/-- from this frame the run comes to the method's end and leaves what Q says -/
def own_Out (p : Program) (e : Env) (below : List Frame) (En : Outcome → State → List Loc → Nat → Nat → Prop) (T : State) (g : JFrame) (Q : Option Value → Heap → List Loc → Prop) (kc ks : Nat) : Prop :=
  ∃ (t : State) (o : Outcome), Steps p.tables e below (T.setTop g) t ∧ t.status = .running ∧ Ended t below o ∧ ∃ (v : Option Value) (L : List Loc), o = .returned v ∧ Q v t.heap L ∧ En o t L kc ks
theorem own_to (st : ∀ t, Steps p.tables e below (T'.setTop g') t → Steps p.tables e below (T.setTop g) t) (k : own_Out p e below En T' g' Q kc ks) : own_Out p e below En T g Q kc ks := by
  obtain ⟨t, o, h1, h2⟩ := k
  exact ⟨t, o, st t h1, h2⟩
theorem own_cast (q : g = g') (k : own_Out p e below En T g' Q kc ks) : own_Out p e below En T g Q kc ks := q ▸ k
/-- a method's contract: called with these arguments over this heap it returns, and Q says what it leaves -/
def own_C (l : Launch) (Z : State) (y : MethodName) (bytes : ByteArray) (maxL : Nat) (ret : Option FieldType) (rm : Room) (as' : Array Value) (h0 : Heap) (Q : Option Value → Heap → List Loc → Prop) : Prop :=
  ∀ ws : List Jvm.Cond, MetFree l y (head1 (Jvm.Cond.code y bytes maxL ret :: ws) rm) (fun a U => a = as' ∧ Z.Warmed39 U.vm ∧ U.heap = h0) (fun _ _ _ _ _ => True) (fun _ U o U' => ∃ v L, o = .returned v ∧ Q v U'.heap L ∧ FrameEnd U o U' L rm.cells rm.slots)
theorem own_met {y : MethodName} {bytes : ByteArray} {maxL : Nat} {ret : Option FieldType} {rm : Room} {as' : Array Value} {h0 : Heap} (pl : plainFor y = true)
    (body : ∀ (p : Program) (e : Env) (s : State) (m : MethodId) (below : List Frame) (meth : Method) (c : Code) (s₁ : State), p.tables.exec = Jvm.exec → c.code = bytes → c.maxLocals = maxL → meth.sig.returnType = ret → meth.locks = false → s.vm.findClass y.cls = some m.cls → meth.name = y.name → Z.Warmed39 s.vm → Stand p l e rm s m as' below meth c s₁ [] 0 0 → s₁.heap = h0 → own_Out p e below (FrameEnd s) s₁ (entryFrame m as' maxL) Q rm.cells rm.slots) :
    own_C l Z y bytes maxL ret rm as' h0 Q := by
  intro ws
  refine MetFree.of_bodySF pl hisR ?_
  intro p e s m args below meth c s₁ Bd hml0 hP hK
  obtain ⟨rfl, hZ, hh⟩ := hP
  exact body p e s m below meth c s₁ Bd.exec Bd.bytes hml0 Bd.returns (BodyLoose.notSynchronized Bd) (findClass_of_methodNamed Bd.named) ((name_of_methodNamed Bd.named Bd.method).1) hZ (Stand.of_body Bd) (by rw [← hh, Bd.state]; rfl)
/-! returns -/
theorem own_retV (X : Stand p l e R s m args below meth c T locs cells slots) (hx : p.tables.exec = Jvm.exec) (hlk : meth.locks = false) {pc : Nat} {Ls : Array Slot} {w : Value} {t : FieldType} {i : Instr} {rest : List Value} (hret : meth.sig.returnType = some t) (hn : narrow t w = w)
    (hi : (i = .ireturn ∧ (t = .int ∨ t = .boolean ∨ t = .byte ∨ t = .char ∨ t = .short) ∧ ∃ z, w = .int z) ∨ (i = .lreturn ∧ t = .long ∧ ∃ z, w = .long z) ∨ (i = .dreturn ∧ t = .double ∧ ∃ z, w = .double z) ∨ (i = .freturn ∧ t = .float ∧ ∃ z, w = .float z) ∨ (i = .areturn ∧ t.isReference = true ∧ w.isRef = true))
    (hd : decode c.code pc = .ok (i, 1)) (hc : cells ≤ kc) (hs : slots ≤ ks) (hQ : Q (some w) T.heap locs) : own_Out p e below (FrameEnd s) T (mkF m pc Ls (w :: rest)) Q kc ks := by
  obtain ⟨fs, hr, hrun, hended, hW, hsame⟩ := X.leave (v := some w) (fun h => by rw [hret] at h; cases h) hlk
  exact ⟨_, _, retOut X hx hret hn hi hd hr, hrun, hended, _, _, rfl, hQ, ⟨_, rfl⟩, hW, hsame.mono hc hs⟩
theorem own_retI (X : Stand p l e R s m args below meth c T locs cells slots) (hx : p.tables.exec = Jvm.exec) (hlk : meth.locks = false) (hret : meth.sig.returnType = some .int) {pc : Nat} {Ls : Array Slot} {z : Int32} {rest : List Value}
    (hd : decode c.code pc = .ok (.ireturn, 1)) (hc : cells ≤ kc) (hs : slots ≤ ks) (hQ : Q (some (.int z)) T.heap locs) : own_Out p e below (FrameEnd s) T (mkF m pc Ls (.int z :: rest)) Q kc ks :=
  own_retV X hx hlk hret rfl (Or.inl ⟨rfl, Or.inl rfl, _, rfl⟩) hd hc hs hQ
theorem own_retJ (X : Stand p l e R s m args below meth c T locs cells slots) (hx : p.tables.exec = Jvm.exec) (hlk : meth.locks = false) (hret : meth.sig.returnType = some .long) {pc : Nat} {Ls : Array Slot} {z : Int64} {rest : List Value}
    (hd : decode c.code pc = .ok (.lreturn, 1)) (hc : cells ≤ kc) (hs : slots ≤ ks) (hQ : Q (some (.long z)) T.heap locs) : own_Out p e below (FrameEnd s) T (mkF m pc Ls (.long z :: rest)) Q kc ks :=
  own_retV X hx hlk hret rfl (Or.inr (Or.inl ⟨rfl, rfl, _, rfl⟩)) hd hc hs hQ
theorem own_retA (X : Stand p l e R s m args below meth c T locs cells slots) (hx : p.tables.exec = Jvm.exec) (hlk : meth.locks = false) {t : FieldType} (hret : meth.sig.returnType = some t) (ht : t.isReference = true) {pc : Nat} {Ls : Array Slot} {z : Addr} {rest : List Value}
    (hd : decode c.code pc = .ok (.areturn, 1)) (hc : cells ≤ kc) (hs : slots ≤ ks) (hQ : Q (some (.ref z)) T.heap locs) : own_Out p e below (FrameEnd s) T (mkF m pc Ls (.ref z :: rest)) Q kc ks :=
  own_retV X hx hlk hret (by cases t <;> rfl) (Or.inr (Or.inr (Or.inr (Or.inr ⟨rfl, ht, rfl⟩)))) hd hc hs hQ
/-- a boolean, byte, char or short: the value is narrowed -/
theorem own_retN (X : Stand p l e R s m args below meth c T locs cells slots) (hx : p.tables.exec = Jvm.exec) (hlk : meth.locks = false) {t : FieldType} (hret : meth.sig.returnType = some t) (ht : t = .boolean ∨ t = .byte ∨ t = .char ∨ t = .short) {pc : Nat} {Ls : Array Slot} {z : Int32} {rest : List Value}
    (hd : decode c.code pc = .ok (.ireturn, 1)) (hc : cells ≤ kc) (hs : slots ≤ ks) (hQ : Q (some (.int (nar t z))) T.heap locs) : own_Out p e below (FrameEnd s) T (mkF m pc Ls (.int z :: rest)) Q kc ks := by
  obtain ⟨fs, hr, hrun, hended, hW, hsame⟩ := X.leave (v := some (.int (nar t z))) (fun h => by rw [hret] at h; cases h) hlk
  exact ⟨_, _, retN X hx hret ht hd hr, hrun, hended, _, _, rfl, hQ, ⟨_, rfl⟩, hW, hsame.mono hc hs⟩
theorem own_ret0 (X : Stand p l e R s m args below meth c T locs cells slots) (hx : p.tables.exec = Jvm.exec) (hlk : meth.locks = false) (hret : meth.sig.returnType = none) {pc : Nat} {Ls : Array Slot}
    (hd : decode c.code pc = .ok (.return_, 1)) (hc : cells ≤ kc) (hs : slots ≤ ks) (hQ : Q none T.heap locs) : own_Out p e below (FrameEnd s) T (mkF m pc Ls []) Q kc ks := by
  obtain ⟨fs, hr, hrun, hended, hW, hsame⟩ := X.leave (v := none) (fun _ => rfl) hlk
  exact ⟨_, _, X.returnOut hx hret hd hr, hrun, hended, _, _, rfl, hQ, ⟨_, rfl⟩, hW, hsame.mono hc hs⟩
/-! calls -/
theorem own_callS (X : Stand p l e R s m args below meth c T locs cells slots) (hx : p.tables.exec = Jvm.exec) (hZ : Z.Warmed39 s.vm) {own : String} (hown : s.vm.findClass own = some m.cls) {index : Nat} {y : MethodName} {bytes : ByteArray} {maxL : Nat} {ret : Option FieldType} {rm : Room} {W : Nat} {Qc : Option Value → Heap → List Loc → Prop} {argsL rest : List Value}
    (w1 : (Jvm.Cond.methodLink own index y).before a0 Z = true) (w2 : (Jvm.Cond.static y).before a0 Z = true) (w3 : (Jvm.Cond.initialized y.cls).before a0 Z = true) (w4 : (Jvm.Cond.code y bytes maxL ret).before a0 Z = true) (hy : y.cls ≠ "java/lang/invoke/MethodHandle" ∧ y.cls ≠ "java/lang/invoke/VarHandle")
    (hM : own_C l Z y bytes maxL ret rm argsL.toArray h Qc) (hf : rm.frames + 1 ≤ R.frames) (hl : W + (maxL + 11) + rm.locals ≤ R.locals) (eT : T.heap = h) (hg : g.method = m) (hsize : g.locals.size = c.maxLocals) (hlen : ∀ sig, parseMethodDescriptor y.desc = some sig → argsL.length = sig.parameters.length)
    (hstack : g.stack = argsL.reverse ++ rest) (hW : 2 * g.monitorRoom + (rest.map fun v => v.category).sum ≤ W) (hd : decode c.code g.pc = .ok (.invokestatic index, 3)) (hc : cells + rm.cells ≤ R.cells) (hs : slots + rm.slots ≤ R.slots)
    (k : ∀ (v : Option Value) (T' : State) (h' : Heap) (L : List Loc), Stand p l e R s m args below meth c T' (locs ++ L) (cells + rm.cells) (slots + rm.slots) → T'.heap = h' → Qc v h' L → own_Out p e below En T' { g with pc := g.pc + 3, stack := v.toList ++ rest } Q kc ks) : own_Out p e below En T g Q kc ks := by
  obtain ⟨v, _, ⟨T', L', k', n'⟩, -, X', ⟨Lc, hQ, l1, l2, l3⟩, st⟩ := Jvm.LawKit.callS X hx hown (mvT hZ w1) (mvT hZ w2) (mvT hZ w3) (mvT hZ w4) hy (backOf (W := W) (hM []) hZ w4 w3 hf hl) hg hsize hlen hstack hW hd (fun _ _ => ⟨rfl, eT, hc, hs⟩)
  dsimp only [Pt.U, Pt.locs, Pt.cells, Pt.slots] at X' l1 l2 l3 st hQ
  subst l1 l2 l3
  exact own_to st (k v T' _ Lc X' rfl hQ)
/-- a constructor -/
theorem own_callC (X : Stand p l e R s m args below meth c T locs cells slots) (hx : p.tables.exec = Jvm.exec) (hZ : Z.Warmed39 s.vm) {own : String} (hown : s.vm.findClass own = some m.cls) {index : Nat} {y : MethodName} {bytes : ByteArray} {maxL : Nat} {rm : Room} {W : Nat} {Qc : Option Value → Heap → List Loc → Prop} {a : Addr} {argsL rest : List Value}
    (hy1 : y.name = "<init>") (w1 : (Jvm.Cond.methodLink own index y).before a0 Z = true) (w2 : (Jvm.Cond.instanceMethod y).before a0 Z = true) (w3 : (Jvm.Cond.initialized y.cls).before a0 Z = true) (w4 : (Jvm.Cond.code y bytes maxL none).before a0 Z = true) (hy : y.cls ≠ "java/lang/invoke/MethodHandle" ∧ y.cls ≠ "java/lang/invoke/VarHandle")
    (hM : own_C l Z y bytes maxL none rm (.ref a :: argsL).toArray h Qc) (hf : rm.frames + 1 ≤ R.frames) (hl : W + (maxL + 11) + rm.locals ≤ R.locals) (eT : T.heap = h) (hg : g.method = m) (hsize : g.locals.size = c.maxLocals) (hlen : ∀ sig, parseMethodDescriptor y.desc = some sig → argsL.length = sig.parameters.length)
    (hstack : g.stack = argsL.reverse ++ .ref a :: rest) (hW : 2 * g.monitorRoom + (rest.map fun v => v.category).sum ≤ W) (hd : decode c.code g.pc = .ok (.invokespecial index, 3)) (hc : cells + rm.cells ≤ R.cells) (hs : slots + rm.slots ≤ R.slots)
    (k : ∀ (v : Option Value) (T' : State) (h' : Heap) (L : List Loc), Stand p l e R s m args below meth c T' (locs ++ L) (cells + rm.cells) (slots + rm.slots) → T'.heap = h' → Qc v h' L → own_Out p e below En T' { g with pc := g.pc + 3, stack := v.toList ++ rest } Q kc ks) : own_Out p e below En T g Q kc ks := by
  obtain ⟨v, _, ⟨T', L', k', n'⟩, -, X', ⟨Lc, hQ, l1, l2, l3⟩, st⟩ := X.specialBack hx hy1 hown (mvT hZ w1) (mvT hZ w2) (mvT hZ w4) hy (backOf (W := W) (hM []) hZ w4 w3 hf hl) hg hsize (Steps.refl _) hlen hstack hW hd (fun _ _ => ⟨rfl, eT, hc, hs⟩)
  dsimp only [Pt.U, Pt.locs, Pt.cells, Pt.slots] at X' l1 l2 l3 st hQ
  subst l1 l2 l3
  exact own_to (fun t k => st.trans k) (k v T' _ Lc X' rfl hQ)
/-- an instance method of the object's own class -/
theorem own_callV (X : Stand p l e R s m args below meth c T locs cells slots) (hx : p.tables.exec = Jvm.exec) (hZ : Z.Warmed39 s.vm) {own C : String} (hown : s.vm.findClass own = some m.cls) {index : Nat} {y : MethodName} {bytes : ByteArray} {maxL : Nat} {ret : Option FieldType} {rm : Room} {W : Nat} {Qc : Option Value → Heap → List Loc → Prop} {a : Addr} {argsL rest : List Value}
    (w1 : (Jvm.Cond.methodLink own index y).before a0 Z = true) (w5 : (Jvm.Cond.declares y).before a0 Z = true) (w6 : (Jvm.Cond.selects C y y).before a0 Z = true) (w2 : (Jvm.Cond.instanceMethod y).before a0 Z = true) (w3 : (Jvm.Cond.initialized y.cls).before a0 Z = true) (w4 : (Jvm.Cond.code y bytes maxL ret).before a0 Z = true) (hy : y.cls ≠ "java/lang/invoke/MethodHandle" ∧ y.cls ≠ "java/lang/invoke/VarHandle")
    (hM : own_C l Z y bytes maxL ret rm (.ref a :: argsL).toArray h Qc) (hf : rm.frames + 1 ≤ R.frames) (hl : W + (maxL + 11) + rm.locals ≤ R.locals) (eT : T.heap = h) (E : Exa Z h a C) (hg : g.method = m) (hsize : g.locals.size = c.maxLocals) (hlen : ∀ sig, parseMethodDescriptor y.desc = some sig → argsL.length = sig.parameters.length)
    (hstack : g.stack = argsL.reverse ++ .ref a :: rest) (hW : 2 * g.monitorRoom + (rest.map fun v => v.category).sum ≤ W) (hd : decode c.code g.pc = .ok (.invokevirtual index, 3)) (hc : cells + rm.cells ≤ R.cells) (hs : slots + rm.slots ≤ R.slots)
    (k : ∀ (v : Option Value) (T' : State) (h' : Heap) (L : List Loc), Stand p l e R s m args below meth c T' (locs ++ L) (cells + rm.cells) (slots + rm.slots) → T'.heap = h' → Qc v h' L → own_Out p e below En T' { g with pc := g.pc + 3, stack := v.toList ++ rest } Q kc ks) : own_Out p e below En T g Q kc ks := by
  obtain ⟨cq, kq, qa, qb, qc⟩ := isOf hZ eT E
  obtain ⟨v, _, ⟨T', L', k', n'⟩, -, X', ⟨Lc, hQ, l1, l2, l3⟩, st⟩ := X.virtualBack hx hown (mvT hZ w1) (mvT hZ w5) (notFace_of_selects (args := #[]) (mvT hZ w6)) (mvT hZ w6) (mvT hZ w2) hy (backOf (W := W) (hM []) hZ w4 w3 hf hl) qa qc hg hsize (Steps.refl _) hlen hstack hW hd (fun _ _ => ⟨rfl, eT, hc, hs⟩)
  dsimp only [Pt.U, Pt.locs, Pt.cells, Pt.slots] at X' l1 l2 l3 st hQ
  subst l1 l2 l3
  exact own_to (fun t k => st.trans k) (k v T' _ Lc X' rfl hQ)
/-- a private method of the object's own class, by invokevirtual -/
theorem own_callP (X : Stand p l e R s m args below meth c T locs cells slots) (hx : p.tables.exec = Jvm.exec) (hZ : Z.Warmed39 s.vm) {own C : String} (hown : s.vm.findClass own = some m.cls) {index kk : Nat} {y : MethodName} {bytes : ByteArray} {maxL : Nat} {ret : Option FieldType} {rm : Room} {W : Nat} {Qc : Option Value → Heap → List Loc → Prop} {a : Addr} {argsL rest : List Value}
    (w1 : (Jvm.Cond.methodLink own index y).before a0 Z = true) (w5 : (Jvm.Cond.privateMethod y).before a0 Z = true) (w6 : (Jvm.Cond.instantiable y.cls kk).before a0 Z = true) (w2 : (Jvm.Cond.instanceMethod y).before a0 Z = true) (w3 : (Jvm.Cond.initialized y.cls).before a0 Z = true) (w4 : (Jvm.Cond.code y bytes maxL ret).before a0 Z = true) (hy : y.cls ≠ "java/lang/invoke/MethodHandle" ∧ y.cls ≠ "java/lang/invoke/VarHandle")
    (hM : own_C l Z y bytes maxL ret rm (.ref a :: argsL).toArray h Qc) (hf : rm.frames + 1 ≤ R.frames) (hl : W + (maxL + 11) + rm.locals ≤ R.locals) (eT : T.heap = h) (E : Exa Z h a C) (hg : g.method = m) (hsize : g.locals.size = c.maxLocals) (hlen : ∀ sig, parseMethodDescriptor y.desc = some sig → argsL.length = sig.parameters.length)
    (hstack : g.stack = argsL.reverse ++ .ref a :: rest) (hW : 2 * g.monitorRoom + (rest.map fun v => v.category).sum ≤ W) (hd : decode c.code g.pc = .ok (.invokevirtual index, 3)) (hc : cells + rm.cells ≤ R.cells) (hs : slots + rm.slots ≤ R.slots)
    (k : ∀ (v : Option Value) (T' : State) (h' : Heap) (L : List Loc), Stand p l e R s m args below meth c T' (locs ++ L) (cells + rm.cells) (slots + rm.slots) → T'.heap = h' → Qc v h' L → own_Out p e below En T' { g with pc := g.pc + 3, stack := v.toList ++ rest } Q kc ks) : own_Out p e below En T g Q kc ks := by
  obtain ⟨cq, q, q'⟩ := E.cell
  have hp : s.PrivateAt y := Cond.privateMethod_at (mvP hZ w5 (args := #[]))
  obtain ⟨cy, ky, f1, f2, -, f3, -⟩ := Cond.instantiable_spec (mvT (args := args) hZ w6)
  have hi : ky.isInterface = false := (Bool.or_eq_false_iff.mp f3).1
  have hse : (Jvm.Cond.selects y.cls y y).before args s = true := selects_self_of_private f1 f2 hi hp (mvT hZ w2) hy
  obtain ⟨v, _, ⟨T', L', k', n'⟩, -, X', ⟨Lc, hQ, l1, l2, l3⟩, st⟩ := X.privateBack hx hown (mvT hZ w1) (mvT hZ w2) hse hp (mvT hZ w4) hy (backOf (W := W) (hM []) hZ w4 w3 hf hl) hg hsize (Steps.refl _) (by rw [eT]; exact q) q' hlen hstack hW hd (fun _ _ => ⟨rfl, eT, hc, hs⟩)
  dsimp only [Pt.U, Pt.locs, Pt.cells, Pt.slots] at X' l1 l2 l3 st hQ
  subst l1 l2 l3
  exact own_to (fun t k => st.trans k) (k v T' _ Lc X' rfl hQ)
/-! the heap's steps -/
theorem own_getF (X : Stand p l e R s m args below meth c T locs cells slots) (hx : p.tables.exec = Jvm.exec) (hZ : Z.Warmed39 s.vm) {own O n d : String} {index : Nat} (hown : s.vm.findClass own = some m.cls) (w : (Jvm.Cond.fieldLink own index O n d).before a0 Z = true) (eT : T.heap = h) {a : Addr} {v : Value} (F : Fld Z h a O n d v)
    (hg : g.method = m) {rest : List Value} (hs : g.stack = .ref a :: rest) (hd : decode c.code g.pc = .ok (.getfield index, 3)) (k : ∀ T', Stand p l e R s m args below meth c T' locs cells slots → T'.heap = h → own_Out p e below En T' { g with pc := g.pc + 3, stack := v :: rest } Q kc ks) : own_Out p e below En T g Q kc ks := by
  obtain ⟨T', X', e', st⟩ := getF X hx hZ hown (host := "") (Or.inl w) Via.refl eT F hg hs hd
  exact own_to st (k T' X' e')
theorem own_putF (X : Stand p l e R s m args below meth c T locs cells slots) (hx : p.tables.exec = Jvm.exec) (hZ : Z.Warmed39 s.vm) {own O n d C : String} {index kk : Nat} {ty : FieldType} (hown : s.vm.findClass own = some m.cls) (w : (Jvm.Cond.fieldLink own index O n d).before a0 Z = true) (eT : T.heap = h) {a : Addr} {v old : Value} (F : Fld Z h a O n d old) (E : Exa Z h a C)
    (L : (Jvm.Cond.lays C O n d).before a0 Z = true ∨ ((Jvm.Cond.laysFinal C O n d).before a0 Z = true ∧ own = O ∧ meth.name = "<init>")) (wi : (Jvm.Cond.instantiable C kk).before a0 Z = true) (hty : parseFieldDescriptor d = some ty) (hn : narrow ty v = v) (hf : fits ty v = true)
    (hg : g.method = m) {rest : List Value} (hs : g.stack = v :: .ref a :: rest) (hd : decode c.code g.pc = .ok (.putfield index, 3)) (k : ∀ T' h', Stand p l e R s m args below meth c T' (locs ++ [⟨a, Jvm.RoadKit.slotOf Z O n d⟩]) cells slots → T'.heap = h' → Wr h h' a (Jvm.RoadKit.slotOf Z O n d) v → own_Out p e below En T' { g with pc := g.pc + 3, stack := rest } Q kc ks) : own_Out p e below En T g Q kc ks := by
  obtain ⟨T', h', X', e', W', st⟩ := putF X hx hZ hown (host := "") (Or.inl w) Via.refl eT F E L wi hty hn hf hg hs hd
  exact own_to st (k T' h' X' e' W')
theorem own_new (X : Stand p l e R s m args below meth c T locs cells slots) (hx : p.tables.exec = Jvm.exec) (hZ : Z.Warmed39 s.vm) {own C : String} {index n : Nat} (hown : s.vm.findClass own = some m.cls) (w : (Jvm.Cond.classLink own index C).before a0 Z = true) (wi : (Jvm.Cond.instantiable C n).before a0 Z = true) (wz : (Jvm.Cond.initialized C).before a0 Z = true) (eT : T.heap = h)
    (hg : g.method = m) (hd : decode c.code g.pc = .ok (.new index, 3)) (hc : cells + 1 ≤ R.cells) (hl : slots + n ≤ R.slots)
    (k : ∀ T' h' a, a = h.size → Stand p l e R s m args below meth c T' locs (cells + 1) (slots + n) → T'.heap = h' → Ext h h' → Exa Z h' a C → (∀ {O nm d : String} {ty : FieldType}, Laid Z a0 C O nm d → parseFieldDescriptor d = some ty → Fld Z h' a O nm d (defaultValue ty)) → own_Out p e below En T' { g with pc := g.pc + 3, stack := .ref a :: g.stack } Q kc ks) : own_Out p e below En T g Q kc ks := by
  obtain ⟨T', h', X', e', E', A', D', -, st⟩ := newO X hx hZ hown w wi wz eT hg hd hc hl
  exact own_to st (k T' h' _ rfl X' e' E' A' D')
/-! arrays of ints, bytes, booleans: how many places, and what each holds -/
def own_upd (f : Nat → Int32) (j : Nat) (x : Int32) : Nat → Int32 := fun i => if i = j then x else f i
def own_A (Z : State) (h : Heap) (a : Addr) (ty : FieldType) (n : Nat) (f : Nat → Int32) : Prop := ∃ cl : Cell, Arr Z h a cl ty ∧ cl.slots.size = n ∧ ∀ j, j < n → cl.slots[j]? = some (.int (f j))
variable {a b : Addr} {ty : FieldType} {n : Nat} {f : Nat → Int32} {ws : List Addr} {v : Value} {sl : Nat}
theorem own_A.lt (F : own_A Z h a ty n f) : a < h.size := by obtain ⟨_, A, -⟩ := F; exact A.lt
theorem own_A.ext (F : own_A Z h a ty n f) (E : Ext h h') : own_A Z h' a ty n f := by obtain ⟨cl, A, r⟩ := F; exact ⟨cl, A.ext E, r⟩
theorem own_A.other (F : own_A Z h b ty n f) (W : Wr h h' a sl v) (q : b ≠ a) : own_A Z h' b ty n f := by obtain ⟨cl, A, r⟩ := F; exact ⟨cl, A.other W q, r⟩
theorem own_A.keep (F : own_A Z h a ty n f) (K : Keep h h' ws) (q : a ∉ ws) : own_A Z h' a ty n f := by obtain ⟨cl, A, r⟩ := F; exact ⟨cl, ⟨K.2.1 a cl A.1 q, A.2⟩, r⟩
theorem own_A.congr {f' : Nat → Int32} (F : own_A Z h a ty n f) (q : ∀ j, j < n → f j = f' j) : own_A Z h a ty n f' := by obtain ⟨cl, A, r1, r2⟩ := F; exact ⟨cl, A, r1, fun j hj => by rw [r2 j hj, q j hj]⟩
theorem own_A.set {cl : Cell} {j : Nat} {x : Int32} (A : Arr Z h a cl ty) (q1 : cl.slots.size = n) (q2 : ∀ j, j < n → cl.slots[j]? = some (.int (f j))) (W : Wr h h' a j (.int x)) (hj : j < n) : own_A Z h' a ty n (own_upd f j x) := by
  refine ⟨_, A.same W, by rw [sz_set, q1], fun i hi => ?_⟩
  simp only [Cell.setSlot, Array.getElem?_setIfInBounds, own_upd]
  by_cases e : j = i
  · subst e
    simp [q1, hj]
  · rw [if_neg e, q2 i hi, if_neg (fun q => e q.symm)]
theorem own_in {j : Int32} {N : Nat} (h0 : ¬ j < 0) (h1 : j.toNatClampNeg < N) : ¬ (j < 0 ∨ N ≤ j.toNatClampNeg) := fun q => q.elim h0 (fun r => Nat.not_lt.mpr r h1)
theorem own_stI (X : Stand p l e R s m args below meth c T locs cells slots) (hx : p.tables.exec = Jvm.exec) (hZ : Z.Warmed39 s.vm) (eT : T.heap = h) (F : own_A Z h a .int n f) {j x : Int32} (h0 : ¬ j < 0) (h1 : j.toNatClampNeg < n) (hg : g.method = m) {rest : List Value} (hs : g.stack = .int x :: .int j :: .ref a :: rest) (hd : decode c.code g.pc = .ok (.iastore, 1))
    (k : ∀ T' h', Stand p l e R s m args below meth c T' (locs ++ [⟨a, j.toNatClampNeg⟩]) cells slots → T'.heap = h' → Wr h h' a j.toNatClampNeg (.int x) → own_A Z h' a .int n (own_upd f j.toNatClampNeg x) → own_Out p e below En T' { g with pc := g.pc + 1, stack := rest } Q kc ks) : own_Out p e below En T g Q kc ks := by
  obtain ⟨cl, A, q1, q2⟩ := F
  obtain ⟨T', h', X', e', W', st⟩ := stI X hx hZ eT A (own_in h0 (by rw [q1]; exact h1)) hg hs hd
  exact own_to st (k T' h' X' e' W' (own_A.set A q1 q2 W' h1))
theorem own_stZ (X : Stand p l e R s m args below meth c T locs cells slots) (hx : p.tables.exec = Jvm.exec) (hZ : Z.Warmed39 s.vm) (eT : T.heap = h) (F : own_A Z h a .boolean n f) {j x : Int32} (h0 : ¬ j < 0) (h1 : j.toNatClampNeg < n) (hg : g.method = m) {rest : List Value} (hs : g.stack = .int x :: .int j :: .ref a :: rest) (hd : decode c.code g.pc = .ok (.bastore, 1))
    (k : ∀ T' h', Stand p l e R s m args below meth c T' (locs ++ [⟨a, j.toNatClampNeg⟩]) cells slots → T'.heap = h' → Wr h h' a j.toNatClampNeg (.int (nar .boolean x)) → own_A Z h' a .boolean n (own_upd f j.toNatClampNeg (nar .boolean x)) → own_Out p e below En T' { g with pc := g.pc + 1, stack := rest } Q kc ks) : own_Out p e below En T g Q kc ks := by
  obtain ⟨cl, A, q1, q2⟩ := F
  obtain ⟨T', h', X', e', W', st⟩ := stZ X hx hZ eT A (own_in h0 (by rw [q1]; exact h1)) hg hs hd
  exact own_to st (k T' h' X' e' W' (own_A.set A q1 q2 W' h1))
theorem own_stB (X : Stand p l e R s m args below meth c T locs cells slots) (hx : p.tables.exec = Jvm.exec) (hZ : Z.Warmed39 s.vm) (eT : T.heap = h) (F : own_A Z h a .byte n f) {j x : Int32} (h0 : ¬ j < 0) (h1 : j.toNatClampNeg < n) (hg : g.method = m) {rest : List Value} (hs : g.stack = .int x :: .int j :: .ref a :: rest) (hd : decode c.code g.pc = .ok (.bastore, 1))
    (k : ∀ T' h', Stand p l e R s m args below meth c T' (locs ++ [⟨a, j.toNatClampNeg⟩]) cells slots → T'.heap = h' → Wr h h' a j.toNatClampNeg (.int (nar .byte x)) → own_A Z h' a .byte n (own_upd f j.toNatClampNeg (nar .byte x)) → own_Out p e below En T' { g with pc := g.pc + 1, stack := rest } Q kc ks) : own_Out p e below En T g Q kc ks := by
  obtain ⟨cl, A, q1, q2⟩ := F
  obtain ⟨T', h', X', e', W', st⟩ := stB X hx hZ eT A (own_in h0 (by rw [q1]; exact h1)) hg hs hd
  exact own_to st (k T' h' X' e' W' (own_A.set A q1 q2 W' h1))
theorem own_newA (X : Stand p l e R s m args below meth c T locs cells slots) (hx : p.tables.exec = Jvm.exec) (hZ : Z.Warmed39 s.vm) {aty : ArrayType} (w : (Jvm.Cond.arrayClass (newarray.typeOf aty)).before a0 Z = true) (hdef : defaultValue (newarray.typeOf aty) = .int 0) (eT : T.heap = h) (hg : g.method = m) (hd : decode c.code g.pc = .ok (.newarray aty, 2)) {N : Int32} {rest : List Value} (hs : g.stack = .int N :: rest)
    (hn : ¬ N < 0) {cap : Nat} (hcap : N.toNatClampNeg ≤ cap) (hb : cap * 8 ≤ 536870912) (hc : cells + 1 ≤ R.cells) (hl : slots + cap ≤ R.slots)
    (k : ∀ T' h' a, a = h.size → Stand p l e R s m args below meth c T' locs (cells + 1) (slots + cap) → T'.heap = h' → Ext h h' → own_A Z h' a (newarray.typeOf aty) N.toNatClampNeg (fun _ => 0) → own_Out p e below En T' { g with pc := g.pc + 2, stack := .ref a :: rest } Q kc ks) : own_Out p e below En T g Q kc ks := by
  obtain ⟨T', h', cA, X', e', E', A', st⟩ := newP X hx hZ w eT hg hd hs hn hcap hb hc hl
  refine own_to st (k T' h' _ rfl X' e' E' ⟨_, A', sz_new _ _ _, fun j hj => ?_⟩)
  simp [newA, hdef, hj]
theorem own_len (X : Stand p l e R s m args below meth c T locs cells slots) (hx : p.tables.exec = Jvm.exec) (hZ : Z.Warmed39 s.vm) (eT : T.heap = h) (F : own_A Z h a ty n f) (hg : g.method = m) {rest : List Value} (hs : g.stack = .ref a :: rest) (hd : decode c.code g.pc = .ok (.arraylength, 1))
    (k : own_Out p e below En T { g with pc := g.pc + 1, stack := .int n.toInt32 :: rest } Q kc ks) : own_Out p e below En T g Q kc ks := by
  obtain ⟨cl, A, q1, q2⟩ := F
  subst q1
  exact own_to (X.arraylength hx (by rw [eT]; exact A.1) (State.isArrayOf_alike hZ.alike A.2.1) hg hs hd) k
theorem own_ldI (X : Stand p l e R s m args below meth c T locs cells slots) (hx : p.tables.exec = Jvm.exec) (hZ : Z.Warmed39 s.vm) (eT : T.heap = h) (F : own_A Z h a .int n f) {j : Int32} (h0 : ¬ j < 0) (h1 : j.toNatClampNeg < n) (hg : g.method = m) {rest : List Value} (hs : g.stack = .int j :: .ref a :: rest) (hd : decode c.code g.pc = .ok (.iaload, 1))
    (k : ∀ w : Int32, w = f j.toNatClampNeg → own_Out p e below En T { g with pc := g.pc + 1, stack := .int w :: rest } Q kc ks) : own_Out p e below En T g Q kc ks := by
  obtain ⟨cl, A, q1, q2⟩ := F
  exact own_to (X.iaload hx (by rw [eT]; exact A.1) (State.isArrayOf_alike hZ.alike A.2.1) A.2.2 (own_in h0 (by rw [q1]; exact h1)) (q2 _ h1) hg hs hd) (k _ rfl)
theorem own_ldZ (X : Stand p l e R s m args below meth c T locs cells slots) (hx : p.tables.exec = Jvm.exec) (hZ : Z.Warmed39 s.vm) (eT : T.heap = h) (F : own_A Z h a .boolean n f) {j : Int32} (h0 : ¬ j < 0) (h1 : j.toNatClampNeg < n) (hg : g.method = m) {rest : List Value} (hs : g.stack = .int j :: .ref a :: rest) (hd : decode c.code g.pc = .ok (.baload, 1))
    (k : ∀ w : Int32, w = f j.toNatClampNeg → own_Out p e below En T { g with pc := g.pc + 1, stack := .int w :: rest } Q kc ks) : own_Out p e below En T g Q kc ks := by
  obtain ⟨cl, A, q1, q2⟩ := F
  exact own_to (X.baloadBooleans hx (by rw [eT]; exact A.1) (State.isArrayOf_alike hZ.alike A.2.1) A.2.2 (own_in h0 (by rw [q1]; exact h1)) (q2 _ h1) hg hs hd) (k _ rfl)
theorem own_ldB (X : Stand p l e R s m args below meth c T locs cells slots) (hx : p.tables.exec = Jvm.exec) (hZ : Z.Warmed39 s.vm) (eT : T.heap = h) (F : own_A Z h a .byte n f) {j : Int32} (h0 : ¬ j < 0) (h1 : j.toNatClampNeg < n) (hg : g.method = m) {rest : List Value} (hs : g.stack = .int j :: .ref a :: rest) (hd : decode c.code g.pc = .ok (.baload, 1))
    (k : ∀ w : Int32, w = f j.toNatClampNeg → own_Out p e below En T { g with pc := g.pc + 1, stack := .int w :: rest } Q kc ks) : own_Out p e below En T g Q kc ks := by
  obtain ⟨cl, A, q1, q2⟩ := F
  exact own_to (X.baloadBytes hx (by rw [eT]; exact A.1) (State.isArrayOf_alike hZ.alike A.2.1) A.2.2 (own_in h0 (by rw [q1]; exact h1)) (q2 _ h1) hg hs hd) (k _ rfl)
theorem own_idx (x n : Int32) (N : Nat) (hn : n.toInt = (N : Int)) (h0 : 0 < N) : ¬ ((x &&& (2147483647 : Int32)) % n < 0) ∧ ((x &&& (2147483647 : Int32)) % n).toNatClampNeg < N := by
  have h1 := c_mask x 2147483647 31 (by decide) (by decide)
  have h2 := c_irem (x &&& 2147483647) n N hn
  have k : (0 : Int32).toInt = 0 := by decide
  have h3 : ¬ ((x &&& (2147483647 : Int32)) % n < 0) := by
    rw [Int32.lt_iff_toInt_lt, k, h2.1 (by omega)]
    have := Int.emod_nonneg (x &&& 2147483647).toInt (show (N : Int) ≠ 0 by omega)
    omega
  have h4 := nat_of h3
  have h5 := Int.emod_lt_of_pos (x &&& 2147483647).toInt (show (0 : Int) < N by omega)
  rw [h2.1 (by omega)] at h4
  exact ⟨h3, by omega⟩
theorem own_fs {k : Nat} {L : List Loc} (N : Fr k L) (q : k ≤ a) : Fr k (L ++ [⟨a, sl⟩]) := N.app fun y hy => by cases List.mem_singleton.mp hy; exact q
end OwnKit
theorem d5_0 : decode jdk_29_method_70_code 0 = .ok (.lload_n 0, 1) := by decide +kernel
theorem d5_1 : decode jdk_29_method_70_code 1 = .ok (.lload_n 2, 1) := by decide +kernel
theorem d5_2 : decode jdk_29_method_70_code 2 = .ok (.lcmp, 1) := by decide +kernel
theorem d5_3 : decode jdk_29_method_70_code 3 = .ok (.ifCond .gt 7, 3) := by decide +kernel
theorem d5_6 : decode jdk_29_method_70_code 6 = .ok (.lload_n 0, 1) := by decide +kernel
theorem d5_7 : decode jdk_29_method_70_code 7 = .ok (.goto 4, 3) := by decide +kernel
theorem d5_10 : decode jdk_29_method_70_code 10 = .ok (.lload_n 2, 1) := by decide +kernel
theorem d5_11 : decode jdk_29_method_70_code 11 = .ok (.lreturn, 1) := by decide +kernel
theorem ef_5 (m : MethodId) (u0 : Int64) (u1 : Int64) : entryFrame m #[(.long u0), (.long u1)] 4 = mkF m 0 #[.val (.long u0), .second, .val (.long u1), .second] [] := by first | (simp [entryFrame, mkF, argsToLocals, Value.category]; done) | rfl
def R5 (u0 : Int64) (u1 : Int64) : Int64 := (if u1 < u0 then u1 else u0)
def Q5 (Z : State) (u0 : Int64) (u1 : Int64) (h0 : Heap) (n0 : Nat) (v : Option Value) (h : Heap) (L : List Loc) : Prop := v = some (.long (R5 u0 u1)) ∧ Fr n0 L ∧ h = h0
set_option maxRecDepth 65536 in
set_option maxHeartbeats 40000000 in
theorem rm5 (l : Launch) (Z : State) (a0 : Array Value) (hw : ∀ d ∈ tables_1, d.before a0 Z = true) (u0 : Int64) (u1 : Int64) (h0 : Heap) (n0 : Nat) (Z0 : n0 ≤ h0.size) :
    own_C l Z (⟨"java/lang/Math", "min", "(JJ)J"⟩ : MethodName) jdk_29_method_70_code 4 (some .long) ({ frames := 0, cells := 0, slots := 0, locals := 0 } : Room) #[(.long u0), (.long u1)] h0 (Q5 Z u0 u1 h0 n0) := by
  refine own_met (Jvm.Free.JP.mathPlain rfl (by decide +kernel)) ?_
  intro p e s m below meth c s₁ hx hby hml hret hlk hown hnm hZ X0 e0
  refine own_cast (ef_5 m u0 u1) ?_
  have N0 := Fr.nil n0
  show own_Out p e below _ s₁ (mkF m 0 #[.val (.long u0), .second, .val (.long u1), .second] []) _ _ _
  refine own_to (fun t k => XS.lloadN X0.here hx rfl (hb hby d5_0) rfl k) ?_
  show own_Out p e below _ s₁ (mkF m 1 #[.val (.long u0), .second, .val (.long u1), .second] [(.long u0)]) _ _ _
  refine own_to (fun t k => XS.lloadN X0.here hx rfl (hb hby d5_1) rfl k) ?_
  show own_Out p e below _ s₁ (mkF m 2 #[.val (.long u0), .second, .val (.long u1), .second] [(.long u1), (.long u0)]) _ _ _
  refine own_to (fun t k => XS.lcmp X0.here hx rfl (hb hby d5_2) rfl k) ?_
  show own_Out p e below _ s₁ (mkF m 3 #[.val (.long u0), .second, .val (.long u1), .second] [(.int (lcmpW u0 u1))]) _ _ _
  by_cases hc3 : u1 < u0
  · refine own_to (fun t k => XS.ifYes X0.here hx rfl (pc0 := 3) (pc' := 10) rfl (hb hby d5_3) rfl ((if0 _ _).trans (tlt ((lw_gt _ _).mpr hc3)).2.2.1) (by decide) (by decide) k) ?_
    show own_Out p e below _ s₁ (mkF m 10 #[.val (.long u0), .second, .val (.long u1), .second] []) _ _ _
    refine own_to (fun t k => XS.lloadN X0.here hx rfl (hb hby d5_10) rfl k) ?_
    show own_Out p e below _ s₁ (mkF m 11 #[.val (.long u0), .second, .val (.long u1), .second] [(.long u1)]) _ _ _
    refine own_retJ X0 hx hlk hret (hb hby d5_11) (by decide) (by decide) ?_
    rw [e0]
    exact ⟨(by unfold R5; rw [if_pos hc3]), N0, rfl⟩
  · refine own_to (fun t k => XS.ifNo X0.here hx rfl (hb hby d5_3) rfl ((if0 _ _).trans (flt (fun q => hc3 ((lw_gt _ _).mp q))).2.2.1) k) ?_
    show own_Out p e below _ s₁ (mkF m 6 #[.val (.long u0), .second, .val (.long u1), .second] []) _ _ _
    refine own_to (fun t k => XS.lloadN X0.here hx rfl (hb hby d5_6) rfl k) ?_
    show own_Out p e below _ s₁ (mkF m 7 #[.val (.long u0), .second, .val (.long u1), .second] [(.long u0)]) _ _ _
    refine own_to (fun t k => XS.goto X0.here hx rfl (pc0 := 7) (pc' := 11) rfl (hb hby d5_7) (by decide) (by decide) k) ?_
    show own_Out p e below _ s₁ (mkF m 11 #[.val (.long u0), .second, .val (.long u1), .second] [(.long u0)]) _ _ _
    refine own_retJ X0 hx hlk hret (hb hby d5_11) (by decide) (by decide) ?_
    rw [e0]
    exact ⟨(by unfold R5; rw [if_neg hc3]), N0, rfl⟩
theorem d1_0 : decode prog_14_method_1_code 0 = .ok (.aload_n 0, 1) := by decide +kernel
theorem d1_1 : decode prog_14_method_1_code 1 = .ok (.invokespecial 1, 3) := by decide +kernel
theorem d1_4 : decode prog_14_method_1_code 4 = .ok (.aload_n 0, 1) := by decide +kernel
theorem d1_5 : decode prog_14_method_1_code 5 = .ok (.lload_n 1, 1) := by decide +kernel
theorem d1_6 : decode prog_14_method_1_code 6 = .ok (.putfield 7, 3) := by decide +kernel
theorem d1_9 : decode prog_14_method_1_code 9 = .ok (.aload_n 0, 1) := by decide +kernel
theorem d1_10 : decode prog_14_method_1_code 10 = .ok (.iload_n 3, 1) := by decide +kernel
theorem d1_11 : decode prog_14_method_1_code 11 = .ok (.putfield 13, 3) := by decide +kernel
theorem d1_14 : decode prog_14_method_1_code 14 = .ok (.aload_n 0, 1) := by decide +kernel
theorem d1_15 : decode prog_14_method_1_code 15 = .ok (.lload_n 1, 1) := by decide +kernel
theorem d1_16 : decode prog_14_method_1_code 16 = .ok (.putfield 17, 3) := by decide +kernel
theorem d1_19 : decode prog_14_method_1_code 19 = .ok (.aload_n 0, 1) := by decide +kernel
theorem d1_20 : decode prog_14_method_1_code 20 = .ok (.lload 4, 2) := by decide +kernel
theorem d1_22 : decode prog_14_method_1_code 22 = .ok (.putfield 20, 3) := by decide +kernel
theorem d1_25 : decode prog_14_method_1_code 25 = .ok (.return_, 1) := by decide +kernel
theorem pn_0 : plainName "com/example/mingle/mingle/PauseBudget" = true := by first | (simp [plainName, overriddenIn]; done) | decide +kernel
theorem ef_1 (m : MethodId) (o0 : Addr) (u1 : Int64) (u2 : Int32) (u3 : Int64) : entryFrame m #[(.ref o0), (.long u1), (.int u2), (.long u3)] 6 = mkF m 0 #[.val (.ref o0), .val (.long u1), .second, .val (.int u2), .val (.long u3), .second] [] := by first | (simp [entryFrame, mkF, argsToLocals, Value.category]; done) | rfl
def Q1 (Z : State) (o0 : Addr) (u1 : Int64) (u2 : Int32) (u3 : Int64) (h0 : Heap) (n0 : Nat) (v : Option Value) (h : Heap) (L : List Loc) : Prop := v = none ∧ Fr n0 L ∧ Keep h0 h [o0] ∧ Fld Z h o0 "com/example/mingle/mingle/PauseBudget" "limitNanos" "J" (.long u1) ∧ Fld Z h o0 "com/example/mingle/mingle/PauseBudget" "shareDivisor" "I" (.int u2) ∧ Fld Z h o0 "com/example/mingle/mingle/PauseBudget" "banked" "J" (.long u1) ∧ Fld Z h o0 "com/example/mingle/mingle/PauseBudget" "updated" "J" (.long u3)
set_option maxRecDepth 65536 in
set_option maxHeartbeats 40000000 in
theorem rm1 (l : Launch) (Z : State) (a0 : Array Value) (hw : ∀ d ∈ tables_1, d.before a0 Z = true) (o0 : Addr) (u1 : Int64) (u2 : Int32) (u3 : Int64) (h0 : Heap) (n0 : Nat) (Z0 : n0 ≤ h0.size) (E_o0 : Exa Z h0 o0 "com/example/mingle/mingle/PauseBudget") (F_o0_limitNanos : Fld Z h0 o0 "com/example/mingle/mingle/PauseBudget" "limitNanos" "J" (.long (0 : Int64))) (F_o0_shareDivisor : Fld Z h0 o0 "com/example/mingle/mingle/PauseBudget" "shareDivisor" "I" (.int (0 : Int32))) (F_o0_banked : Fld Z h0 o0 "com/example/mingle/mingle/PauseBudget" "banked" "J" (.long (0 : Int64))) (F_o0_updated : Fld Z h0 o0 "com/example/mingle/mingle/PauseBudget" "updated" "J" (.long (0 : Int64))) (g_o0 : n0 ≤ o0) :
    own_C l Z (⟨"com/example/mingle/mingle/PauseBudget", "<init>", "(JIJ)V"⟩ : MethodName) prog_14_method_1_code 6 none ({ frames := 1, cells := 0, slots := 0, locals := 12 } : Room) #[(.ref o0), (.long u1), (.int u2), (.long u3)] h0 (Q1 Z o0 u1 u2 u3 h0 n0) := by
  refine own_met (plainFor_of_name pn_0) ?_
  intro p e s m below meth c s₁ hx hby hml hret hlk hown hnm hZ X0 e0
  refine own_cast (ef_1 m o0 u1 u2 u3) ?_
  have N0 := Fr.nil n0
  have K := Keep.refl h0 [o0]
  show own_Out p e below _ s₁ (mkF m 0 #[.val (.ref o0), .val (.long u1), .second, .val (.int u2), .val (.long u3), .second] []) _ _ _
  refine own_to (fun t k => XS.aloadN X0.here hx rfl (hb hby d1_0) rfl rfl k) ?_
  show own_Out p e below _ s₁ (mkF m 1 #[.val (.ref o0), .val (.long u1), .second, .val (.int u2), .val (.long u3), .second] [(.ref o0)]) _ _ _
  obtain ⟨T1, X1, e1, st1⟩ := initO X0 hx hZ hown (hw _ (List.mem_of_getElem? (i := 8) rfl)) (hw _ (List.mem_of_getElem? (i := 9) rfl)) (hw _ (List.mem_of_getElem? (i := 10) rfl)) e0 (g := (mkF m 1 #[.val (.ref o0), .val (.long u1), .second, .val (.int u2), .val (.long u3), .second] [(.ref o0)])) rfl (by rw [hml]; rfl) rfl (hb hby d1_1) (by decide) (W := 0) (by show 2 * 0 + _ ≤ _; exact Nat.le_of_eq rfl) (by decide)
  refine own_to st1 ?_
  show own_Out p e below _ T1 (mkF m 4 #[.val (.ref o0), .val (.long u1), .second, .val (.int u2), .val (.long u3), .second] []) _ _ _
  refine own_to (fun t k => XS.aloadN X1.here hx rfl (hb hby d1_4) rfl rfl k) ?_
  show own_Out p e below _ T1 (mkF m 5 #[.val (.ref o0), .val (.long u1), .second, .val (.int u2), .val (.long u3), .second] [(.ref o0)]) _ _ _
  refine own_to (fun t k => XS.lloadN X1.here hx rfl (hb hby d1_5) rfl k) ?_
  show own_Out p e below _ T1 (mkF m 6 #[.val (.ref o0), .val (.long u1), .second, .val (.int u2), .val (.long u3), .second] [(.long u1), (.ref o0)]) _ _ _
  refine own_putF X1 hx hZ hown (hw _ (List.mem_of_getElem? (i := 11) rfl)) e1 F_o0_limitNanos E_o0 (Or.inl (hw _ (List.mem_of_getElem? (i := 12) rfl))) (hw _ (List.mem_of_getElem? (i := 3) rfl)) (ty := .long) (by decide) rfl rfl rfl rfl (hb hby d1_6) fun T2 hh2 X2 e2 W2 => ?_
  have E_o0 := E_o0.wr W2
  have F_o0_limitNanos := F_o0_limitNanos.same W2
  have F_o0_shareDivisor := F_o0_shareDivisor.other W2 (Or.inr (slot_ne (Or.inr (hw _ (List.mem_of_getElem? (i := 14) rfl))) (Or.inl (hw _ (List.mem_of_getElem? (i := 12) rfl))) (by decide) (t := .int) (t' := .long) (by decide) (by decide)))
  have F_o0_banked := F_o0_banked.other W2 (Or.inr (slot_ne (Or.inl (hw _ (List.mem_of_getElem? (i := 16) rfl))) (Or.inl (hw _ (List.mem_of_getElem? (i := 12) rfl))) (by decide) (t := .long) (t' := .long) (by decide) (by decide)))
  have F_o0_updated := F_o0_updated.other W2 (Or.inr (slot_ne (Or.inl (hw _ (List.mem_of_getElem? (i := 18) rfl))) (Or.inl (hw _ (List.mem_of_getElem? (i := 12) rfl))) (by decide) (t := .long) (t' := .long) (by decide) (by decide)))
  have K := K.wr W2 (Or.inl (by simp))
  have Z0 := Nat.le_trans Z0 (Nat.le_of_eq W2.size.symm)
  have N2 := own_fs (sl := Jvm.RoadKit.slotOf Z "com/example/mingle/mingle/PauseBudget" "limitNanos" "J") N0 g_o0
  show own_Out p e below _ T2 (mkF m 9 #[.val (.ref o0), .val (.long u1), .second, .val (.int u2), .val (.long u3), .second] []) _ _ _
  refine own_to (fun t k => XS.aloadN X2.here hx rfl (hb hby d1_9) rfl rfl k) ?_
  show own_Out p e below _ T2 (mkF m 10 #[.val (.ref o0), .val (.long u1), .second, .val (.int u2), .val (.long u3), .second] [(.ref o0)]) _ _ _
  refine own_to (fun t k => XS.iloadN X2.here hx rfl (hb hby d1_10) rfl k) ?_
  show own_Out p e below _ T2 (mkF m 11 #[.val (.ref o0), .val (.long u1), .second, .val (.int u2), .val (.long u3), .second] [(.int u2), (.ref o0)]) _ _ _
  refine own_putF X2 hx hZ hown (hw _ (List.mem_of_getElem? (i := 13) rfl)) e2 F_o0_shareDivisor E_o0 (Or.inr ⟨(hw _ (List.mem_of_getElem? (i := 14) rfl)), rfl, hnm⟩) (hw _ (List.mem_of_getElem? (i := 3) rfl)) (ty := .int) (by decide) rfl rfl rfl rfl (hb hby d1_11) fun T3 hh3 X3 e3 W3 => ?_
  have E_o0 := E_o0.wr W3
  have F_o0_limitNanos := F_o0_limitNanos.other W3 (Or.inr (slot_ne (Or.inl (hw _ (List.mem_of_getElem? (i := 12) rfl))) (Or.inr (hw _ (List.mem_of_getElem? (i := 14) rfl))) (by decide) (t := .long) (t' := .int) (by decide) (by decide)))
  have F_o0_shareDivisor := F_o0_shareDivisor.same W3
  have F_o0_banked := F_o0_banked.other W3 (Or.inr (slot_ne (Or.inl (hw _ (List.mem_of_getElem? (i := 16) rfl))) (Or.inr (hw _ (List.mem_of_getElem? (i := 14) rfl))) (by decide) (t := .long) (t' := .int) (by decide) (by decide)))
  have F_o0_updated := F_o0_updated.other W3 (Or.inr (slot_ne (Or.inl (hw _ (List.mem_of_getElem? (i := 18) rfl))) (Or.inr (hw _ (List.mem_of_getElem? (i := 14) rfl))) (by decide) (t := .long) (t' := .int) (by decide) (by decide)))
  have K := K.wr W3 (Or.inl (by simp))
  have Z0 := Nat.le_trans Z0 (Nat.le_of_eq W3.size.symm)
  have N3 := own_fs (sl := Jvm.RoadKit.slotOf Z "com/example/mingle/mingle/PauseBudget" "shareDivisor" "I") N2 g_o0
  show own_Out p e below _ T3 (mkF m 14 #[.val (.ref o0), .val (.long u1), .second, .val (.int u2), .val (.long u3), .second] []) _ _ _
  refine own_to (fun t k => XS.aloadN X3.here hx rfl (hb hby d1_14) rfl rfl k) ?_
  show own_Out p e below _ T3 (mkF m 15 #[.val (.ref o0), .val (.long u1), .second, .val (.int u2), .val (.long u3), .second] [(.ref o0)]) _ _ _
  refine own_to (fun t k => XS.lloadN X3.here hx rfl (hb hby d1_15) rfl k) ?_
  show own_Out p e below _ T3 (mkF m 16 #[.val (.ref o0), .val (.long u1), .second, .val (.int u2), .val (.long u3), .second] [(.long u1), (.ref o0)]) _ _ _
  refine own_putF X3 hx hZ hown (hw _ (List.mem_of_getElem? (i := 15) rfl)) e3 F_o0_banked E_o0 (Or.inl (hw _ (List.mem_of_getElem? (i := 16) rfl))) (hw _ (List.mem_of_getElem? (i := 3) rfl)) (ty := .long) (by decide) rfl rfl rfl rfl (hb hby d1_16) fun T4 hh4 X4 e4 W4 => ?_
  have E_o0 := E_o0.wr W4
  have F_o0_limitNanos := F_o0_limitNanos.other W4 (Or.inr (slot_ne (Or.inl (hw _ (List.mem_of_getElem? (i := 12) rfl))) (Or.inl (hw _ (List.mem_of_getElem? (i := 16) rfl))) (by decide) (t := .long) (t' := .long) (by decide) (by decide)))
  have F_o0_shareDivisor := F_o0_shareDivisor.other W4 (Or.inr (slot_ne (Or.inr (hw _ (List.mem_of_getElem? (i := 14) rfl))) (Or.inl (hw _ (List.mem_of_getElem? (i := 16) rfl))) (by decide) (t := .int) (t' := .long) (by decide) (by decide)))
  have F_o0_banked := F_o0_banked.same W4
  have F_o0_updated := F_o0_updated.other W4 (Or.inr (slot_ne (Or.inl (hw _ (List.mem_of_getElem? (i := 18) rfl))) (Or.inl (hw _ (List.mem_of_getElem? (i := 16) rfl))) (by decide) (t := .long) (t' := .long) (by decide) (by decide)))
  have K := K.wr W4 (Or.inl (by simp))
  have Z0 := Nat.le_trans Z0 (Nat.le_of_eq W4.size.symm)
  have N4 := own_fs (sl := Jvm.RoadKit.slotOf Z "com/example/mingle/mingle/PauseBudget" "banked" "J") N3 g_o0
  show own_Out p e below _ T4 (mkF m 19 #[.val (.ref o0), .val (.long u1), .second, .val (.int u2), .val (.long u3), .second] []) _ _ _
  refine own_to (fun t k => XS.aloadN X4.here hx rfl (hb hby d1_19) rfl rfl k) ?_
  show own_Out p e below _ T4 (mkF m 20 #[.val (.ref o0), .val (.long u1), .second, .val (.int u2), .val (.long u3), .second] [(.ref o0)]) _ _ _
  refine own_to (fun t k => XS.lload X4.here hx rfl (hb hby d1_20) rfl k) ?_
  show own_Out p e below _ T4 (mkF m 22 #[.val (.ref o0), .val (.long u1), .second, .val (.int u2), .val (.long u3), .second] [(.long u3), (.ref o0)]) _ _ _
  refine own_putF X4 hx hZ hown (hw _ (List.mem_of_getElem? (i := 17) rfl)) e4 F_o0_updated E_o0 (Or.inl (hw _ (List.mem_of_getElem? (i := 18) rfl))) (hw _ (List.mem_of_getElem? (i := 3) rfl)) (ty := .long) (by decide) rfl rfl rfl rfl (hb hby d1_22) fun T5 hh5 X5 e5 W5 => ?_
  have E_o0 := E_o0.wr W5
  have F_o0_limitNanos := F_o0_limitNanos.other W5 (Or.inr (slot_ne (Or.inl (hw _ (List.mem_of_getElem? (i := 12) rfl))) (Or.inl (hw _ (List.mem_of_getElem? (i := 18) rfl))) (by decide) (t := .long) (t' := .long) (by decide) (by decide)))
  have F_o0_shareDivisor := F_o0_shareDivisor.other W5 (Or.inr (slot_ne (Or.inr (hw _ (List.mem_of_getElem? (i := 14) rfl))) (Or.inl (hw _ (List.mem_of_getElem? (i := 18) rfl))) (by decide) (t := .int) (t' := .long) (by decide) (by decide)))
  have F_o0_banked := F_o0_banked.other W5 (Or.inr (slot_ne (Or.inl (hw _ (List.mem_of_getElem? (i := 16) rfl))) (Or.inl (hw _ (List.mem_of_getElem? (i := 18) rfl))) (by decide) (t := .long) (t' := .long) (by decide) (by decide)))
  have F_o0_updated := F_o0_updated.same W5
  have K := K.wr W5 (Or.inl (by simp))
  have Z0 := Nat.le_trans Z0 (Nat.le_of_eq W5.size.symm)
  have N5 := own_fs (sl := Jvm.RoadKit.slotOf Z "com/example/mingle/mingle/PauseBudget" "updated" "J") N4 g_o0
  show own_Out p e below _ T5 (mkF m 25 #[.val (.ref o0), .val (.long u1), .second, .val (.int u2), .val (.long u3), .second] []) _ _ _
  refine own_ret0 X5 hx hlk hret (hb hby d1_25) (by decide) (by decide) ?_
  rw [e5]
  exact ⟨rfl, N5, K, F_o0_limitNanos, F_o0_shareDivisor, F_o0_banked, F_o0_updated⟩
theorem d4_0 : decode prog_14_method_5_code 0 = .ok (.aload_n 0, 1) := by decide +kernel
theorem d4_1 : decode prog_14_method_5_code 1 = .ok (.aload_n 0, 1) := by decide +kernel
theorem d4_2 : decode prog_14_method_5_code 2 = .ok (.getfield 7, 3) := by decide +kernel
theorem d4_5 : decode prog_14_method_5_code 5 = .ok (.aload_n 0, 1) := by decide +kernel
theorem d4_6 : decode prog_14_method_5_code 6 = .ok (.getfield 17, 3) := by decide +kernel
theorem d4_9 : decode prog_14_method_5_code 9 = .ok (.lload_n 1, 1) := by decide +kernel
theorem d4_10 : decode prog_14_method_5_code 10 = .ok (.aload_n 0, 1) := by decide +kernel
theorem d4_11 : decode prog_14_method_5_code 11 = .ok (.getfield 20, 3) := by decide +kernel
theorem d4_14 : decode prog_14_method_5_code 14 = .ok (.lsub, 1) := by decide +kernel
theorem d4_15 : decode prog_14_method_5_code 15 = .ok (.aload_n 0, 1) := by decide +kernel
theorem d4_16 : decode prog_14_method_5_code 16 = .ok (.getfield 13, 3) := by decide +kernel
theorem d4_19 : decode prog_14_method_5_code 19 = .ok (.i2l, 1) := by decide +kernel
theorem d4_20 : decode prog_14_method_5_code 20 = .ok (.ldiv, 1) := by decide +kernel
theorem d4_21 : decode prog_14_method_5_code 21 = .ok (.ladd, 1) := by decide +kernel
theorem d4_22 : decode prog_14_method_5_code 22 = .ok (.invokestatic 27, 3) := by decide +kernel
theorem d4_25 : decode prog_14_method_5_code 25 = .ok (.putfield 17, 3) := by decide +kernel
theorem d4_28 : decode prog_14_method_5_code 28 = .ok (.aload_n 0, 1) := by decide +kernel
theorem d4_29 : decode prog_14_method_5_code 29 = .ok (.lload_n 1, 1) := by decide +kernel
theorem d4_30 : decode prog_14_method_5_code 30 = .ok (.putfield 20, 3) := by decide +kernel
theorem d4_33 : decode prog_14_method_5_code 33 = .ok (.return_, 1) := by decide +kernel
theorem ef_4 (m : MethodId) (o0 : Addr) (u1 : Int64) : entryFrame m #[(.ref o0), (.long u1)] 3 = mkF m 0 #[.val (.ref o0), .val (.long u1), .second] [] := by first | (simp [entryFrame, mkF, argsToLocals, Value.category]; done) | rfl
def Q4 (Z : State) (o0 : Addr) (u1 : Int64) (f1 : Int64) (f2 : Int32) (f3 : Int64) (f4 : Int64) (h0 : Heap) (n0 : Nat) (v : Option Value) (h : Heap) (L : List Loc) : Prop := v = none ∧ Fr n0 L ∧ Keep h0 h [o0] ∧ Fld Z h o0 "com/example/mingle/mingle/PauseBudget" "limitNanos" "J" (.long f1) ∧ Fld Z h o0 "com/example/mingle/mingle/PauseBudget" "shareDivisor" "I" (.int f2) ∧ Fld Z h o0 "com/example/mingle/mingle/PauseBudget" "banked" "J" (.long (R5 f1 (f3 + ((u1 - f4) / (f2.toInt64))))) ∧ Fld Z h o0 "com/example/mingle/mingle/PauseBudget" "updated" "J" (.long u1)
theorem pd_0 : parseMethodDescriptor "(JJ)J" = some ⟨[.long, .long], some .long⟩ := by decide +kernel
set_option maxRecDepth 65536 in
set_option maxHeartbeats 40000000 in
theorem rm4 (l : Launch) (Z : State) (a0 : Array Value) (hw : ∀ d ∈ tables_1, d.before a0 Z = true) (o0 : Addr) (u1 : Int64) (f1 : Int64) (f2 : Int32) (f3 : Int64) (f4 : Int64) (h0 : Heap) (n0 : Nat) (Z0 : n0 ≤ h0.size) (E_o0 : Exa Z h0 o0 "com/example/mingle/mingle/PauseBudget") (F_o0_limitNanos : Fld Z h0 o0 "com/example/mingle/mingle/PauseBudget" "limitNanos" "J" (.long f1)) (F_o0_shareDivisor : Fld Z h0 o0 "com/example/mingle/mingle/PauseBudget" "shareDivisor" "I" (.int f2)) (F_o0_banked : Fld Z h0 o0 "com/example/mingle/mingle/PauseBudget" "banked" "J" (.long f3)) (F_o0_updated : Fld Z h0 o0 "com/example/mingle/mingle/PauseBudget" "updated" "J" (.long f4)) (g_o0 : n0 ≤ o0) (hd : ¬ (f2.toInt64) = (0 : Int64)) :
    own_C l Z (⟨"com/example/mingle/mingle/PauseBudget", "bankUpTo", "(J)V"⟩ : MethodName) prog_14_method_5_code 3 none ({ frames := 1, cells := 0, slots := 0, locals := 16 } : Room) #[(.ref o0), (.long u1)] h0 (Q4 Z o0 u1 f1 f2 f3 f4 h0 n0) := by
  refine own_met (plainFor_of_name pn_0) ?_
  intro p e s m below meth c s₁ hx hby hml hret hlk hown hnm hZ X0 e0
  refine own_cast (ef_4 m o0 u1) ?_
  have N0 := Fr.nil n0
  have K := Keep.refl h0 [o0]
  show own_Out p e below _ s₁ (mkF m 0 #[.val (.ref o0), .val (.long u1), .second] []) _ _ _
  refine own_to (fun t k => XS.aloadN X0.here hx rfl (hb hby d4_0) rfl rfl k) ?_
  show own_Out p e below _ s₁ (mkF m 1 #[.val (.ref o0), .val (.long u1), .second] [(.ref o0)]) _ _ _
  refine own_to (fun t k => XS.aloadN X0.here hx rfl (hb hby d4_1) rfl rfl k) ?_
  show own_Out p e below _ s₁ (mkF m 2 #[.val (.ref o0), .val (.long u1), .second] [(.ref o0), (.ref o0)]) _ _ _
  refine own_getF X0 hx hZ hown (hw _ (List.mem_of_getElem? (i := 11) rfl)) e0 F_o0_limitNanos rfl rfl (hb hby d4_2) fun T1 X1 e1 => ?_
  show own_Out p e below _ T1 (mkF m 5 #[.val (.ref o0), .val (.long u1), .second] [(.long f1), (.ref o0)]) _ _ _
  refine own_to (fun t k => XS.aloadN X1.here hx rfl (hb hby d4_5) rfl rfl k) ?_
  show own_Out p e below _ T1 (mkF m 6 #[.val (.ref o0), .val (.long u1), .second] [(.ref o0), (.long f1), (.ref o0)]) _ _ _
  refine own_getF X1 hx hZ hown (hw _ (List.mem_of_getElem? (i := 15) rfl)) e1 F_o0_banked rfl rfl (hb hby d4_6) fun T2 X2 e2 => ?_
  show own_Out p e below _ T2 (mkF m 9 #[.val (.ref o0), .val (.long u1), .second] [(.long f3), (.long f1), (.ref o0)]) _ _ _
  refine own_to (fun t k => XS.lloadN X2.here hx rfl (hb hby d4_9) rfl k) ?_
  show own_Out p e below _ T2 (mkF m 10 #[.val (.ref o0), .val (.long u1), .second] [(.long u1), (.long f3), (.long f1), (.ref o0)]) _ _ _
  refine own_to (fun t k => XS.aloadN X2.here hx rfl (hb hby d4_10) rfl rfl k) ?_
  show own_Out p e below _ T2 (mkF m 11 #[.val (.ref o0), .val (.long u1), .second] [(.ref o0), (.long u1), (.long f3), (.long f1), (.ref o0)]) _ _ _
  refine own_getF X2 hx hZ hown (hw _ (List.mem_of_getElem? (i := 17) rfl)) e2 F_o0_updated rfl rfl (hb hby d4_11) fun T3 X3 e3 => ?_
  show own_Out p e below _ T3 (mkF m 14 #[.val (.ref o0), .val (.long u1), .second] [(.long f4), (.long u1), (.long f3), (.long f1), (.ref o0)]) _ _ _
  refine own_to (fun t k => XS.lsub X3.here hx rfl (hb hby d4_14) rfl k) ?_
  show own_Out p e below _ T3 (mkF m 15 #[.val (.ref o0), .val (.long u1), .second] [(.long (u1 - f4)), (.long f3), (.long f1), (.ref o0)]) _ _ _
  refine own_to (fun t k => XS.aloadN X3.here hx rfl (hb hby d4_15) rfl rfl k) ?_
  show own_Out p e below _ T3 (mkF m 16 #[.val (.ref o0), .val (.long u1), .second] [(.ref o0), (.long (u1 - f4)), (.long f3), (.long f1), (.ref o0)]) _ _ _
  refine own_getF X3 hx hZ hown (hw _ (List.mem_of_getElem? (i := 13) rfl)) e3 F_o0_shareDivisor rfl rfl (hb hby d4_16) fun T4 X4 e4 => ?_
  show own_Out p e below _ T4 (mkF m 19 #[.val (.ref o0), .val (.long u1), .second] [(.int f2), (.long (u1 - f4)), (.long f3), (.long f1), (.ref o0)]) _ _ _
  refine own_to (fun t k => XS.i2l X4.here hx rfl (hb hby d4_19) rfl k) ?_
  show own_Out p e below _ T4 (mkF m 20 #[.val (.ref o0), .val (.long u1), .second] [(.long (f2.toInt64)), (.long (u1 - f4)), (.long f3), (.long f1), (.ref o0)]) _ _ _
  have hnz20 : (f2.toInt64) ≠ 0 := hd
  refine own_to (fun t k => XS.ldiv X4.here hx rfl (hb hby d4_20) rfl hnz20 k) ?_
  show own_Out p e below _ T4 (mkF m 21 #[.val (.ref o0), .val (.long u1), .second] [(.long ((u1 - f4) / (f2.toInt64))), (.long f3), (.long f1), (.ref o0)]) _ _ _
  refine own_to (fun t k => XS.ladd X4.here hx rfl (hb hby d4_21) rfl k) ?_
  show own_Out p e below _ T4 (mkF m 22 #[.val (.ref o0), .val (.long u1), .second] [(.long (f3 + ((u1 - f4) / (f2.toInt64)))), (.long f1), (.ref o0)]) _ _ _
  refine own_callS X4 hx hZ hown (argsL := [(.long f1), (.long (f3 + ((u1 - f4) / (f2.toInt64))))]) (rest := [(.ref o0)]) (hw _ (List.mem_of_getElem? (i := 28) rfl)) (hw _ (List.mem_of_getElem? (i := 29) rfl)) (hw _ (List.mem_of_getElem? (i := 30) rfl)) (hw _ (List.mem_of_getElem? (i := 31) rfl)) (by decide) (rm5 l Z a0 hw f1 (f3 + ((u1 - f4) / (f2.toInt64))) h0 n0 Z0 ) (by decide) (by decide) e4 rfl (by rw [hml]; rfl) (lenOf pd_0 rfl) rfl (W := 1) (by show 2 * 0 + _ ≤ _; exact Nat.le_of_eq rfl) (hb hby d4_22) (by decide) (by decide) fun v5 T5 hh5 L5 X5 e5 hQ5 => ?_
  obtain ⟨rfl, NL5, he5⟩ := hQ5
  replace e5 := e5.trans he5
  have N5 := Fr.app N0 NL5
  show own_Out p e below _ T5 (mkF m 25 #[.val (.ref o0), .val (.long u1), .second] [(.long (R5 f1 (f3 + ((u1 - f4) / (f2.toInt64))))), (.ref o0)]) _ _ _
  refine own_putF X5 hx hZ hown (hw _ (List.mem_of_getElem? (i := 15) rfl)) e5 F_o0_banked E_o0 (Or.inl (hw _ (List.mem_of_getElem? (i := 16) rfl))) (hw _ (List.mem_of_getElem? (i := 3) rfl)) (ty := .long) (by decide) rfl rfl rfl rfl (hb hby d4_25) fun T6 hh6 X6 e6 W6 => ?_
  have E_o0 := E_o0.wr W6
  have F_o0_limitNanos := F_o0_limitNanos.other W6 (Or.inr (slot_ne (Or.inl (hw _ (List.mem_of_getElem? (i := 12) rfl))) (Or.inl (hw _ (List.mem_of_getElem? (i := 16) rfl))) (by decide) (t := .long) (t' := .long) (by decide) (by decide)))
  have F_o0_shareDivisor := F_o0_shareDivisor.other W6 (Or.inr (slot_ne (Or.inr (hw _ (List.mem_of_getElem? (i := 14) rfl))) (Or.inl (hw _ (List.mem_of_getElem? (i := 16) rfl))) (by decide) (t := .int) (t' := .long) (by decide) (by decide)))
  have F_o0_banked := F_o0_banked.same W6
  have F_o0_updated := F_o0_updated.other W6 (Or.inr (slot_ne (Or.inl (hw _ (List.mem_of_getElem? (i := 18) rfl))) (Or.inl (hw _ (List.mem_of_getElem? (i := 16) rfl))) (by decide) (t := .long) (t' := .long) (by decide) (by decide)))
  have K := K.wr W6 (Or.inl (by simp))
  have Z0 := Nat.le_trans Z0 (Nat.le_of_eq W6.size.symm)
  have N6 := own_fs (sl := Jvm.RoadKit.slotOf Z "com/example/mingle/mingle/PauseBudget" "banked" "J") N5 g_o0
  show own_Out p e below _ T6 (mkF m 28 #[.val (.ref o0), .val (.long u1), .second] []) _ _ _
  refine own_to (fun t k => XS.aloadN X6.here hx rfl (hb hby d4_28) rfl rfl k) ?_
  show own_Out p e below _ T6 (mkF m 29 #[.val (.ref o0), .val (.long u1), .second] [(.ref o0)]) _ _ _
  refine own_to (fun t k => XS.lloadN X6.here hx rfl (hb hby d4_29) rfl k) ?_
  show own_Out p e below _ T6 (mkF m 30 #[.val (.ref o0), .val (.long u1), .second] [(.long u1), (.ref o0)]) _ _ _
  refine own_putF X6 hx hZ hown (hw _ (List.mem_of_getElem? (i := 17) rfl)) e6 F_o0_updated E_o0 (Or.inl (hw _ (List.mem_of_getElem? (i := 18) rfl))) (hw _ (List.mem_of_getElem? (i := 3) rfl)) (ty := .long) (by decide) rfl rfl rfl rfl (hb hby d4_30) fun T7 hh7 X7 e7 W7 => ?_
  have E_o0 := E_o0.wr W7
  have F_o0_limitNanos := F_o0_limitNanos.other W7 (Or.inr (slot_ne (Or.inl (hw _ (List.mem_of_getElem? (i := 12) rfl))) (Or.inl (hw _ (List.mem_of_getElem? (i := 18) rfl))) (by decide) (t := .long) (t' := .long) (by decide) (by decide)))
  have F_o0_shareDivisor := F_o0_shareDivisor.other W7 (Or.inr (slot_ne (Or.inr (hw _ (List.mem_of_getElem? (i := 14) rfl))) (Or.inl (hw _ (List.mem_of_getElem? (i := 18) rfl))) (by decide) (t := .int) (t' := .long) (by decide) (by decide)))
  have F_o0_banked := F_o0_banked.other W7 (Or.inr (slot_ne (Or.inl (hw _ (List.mem_of_getElem? (i := 16) rfl))) (Or.inl (hw _ (List.mem_of_getElem? (i := 18) rfl))) (by decide) (t := .long) (t' := .long) (by decide) (by decide)))
  have F_o0_updated := F_o0_updated.same W7
  have K := K.wr W7 (Or.inl (by simp))
  have Z0 := Nat.le_trans Z0 (Nat.le_of_eq W7.size.symm)
  have N7 := own_fs (sl := Jvm.RoadKit.slotOf Z "com/example/mingle/mingle/PauseBudget" "updated" "J") N6 g_o0
  show own_Out p e below _ T7 (mkF m 33 #[.val (.ref o0), .val (.long u1), .second] []) _ _ _
  refine own_ret0 X7 hx hlk hret (hb hby d4_33) (by decide) (by decide) ?_
  rw [e7]
  exact ⟨rfl, N7, K, F_o0_limitNanos, F_o0_shareDivisor, F_o0_banked, F_o0_updated⟩
theorem d3_0 : decode prog_14_method_4_code 0 = .ok (.aload_n 0, 1) := by decide +kernel
theorem d3_1 : decode prog_14_method_4_code 1 = .ok (.lload_n 3, 1) := by decide +kernel
theorem d3_2 : decode prog_14_method_4_code 2 = .ok (.invokevirtual 23, 3) := by decide +kernel
theorem d3_5 : decode prog_14_method_4_code 5 = .ok (.aload_n 0, 1) := by decide +kernel
theorem d3_6 : decode prog_14_method_4_code 6 = .ok (.dup, 1) := by decide +kernel
theorem d3_7 : decode prog_14_method_4_code 7 = .ok (.getfield 17, 3) := by decide +kernel
theorem d3_10 : decode prog_14_method_4_code 10 = .ok (.lload_n 3, 1) := by decide +kernel
theorem d3_11 : decode prog_14_method_4_code 11 = .ok (.lload_n 1, 1) := by decide +kernel
theorem d3_12 : decode prog_14_method_4_code 12 = .ok (.lsub, 1) := by decide +kernel
theorem d3_13 : decode prog_14_method_4_code 13 = .ok (.lsub, 1) := by decide +kernel
theorem d3_14 : decode prog_14_method_4_code 14 = .ok (.putfield 17, 3) := by decide +kernel
theorem d3_17 : decode prog_14_method_4_code 17 = .ok (.return_, 1) := by decide +kernel
theorem ef_3 (m : MethodId) (o0 : Addr) (u1 : Int64) (u2 : Int64) : entryFrame m #[(.ref o0), (.long u1), (.long u2)] 5 = mkF m 0 #[.val (.ref o0), .val (.long u1), .second, .val (.long u2), .second] [] := by first | (simp [entryFrame, mkF, argsToLocals, Value.category]; done) | rfl
def Q3 (Z : State) (o0 : Addr) (u1 : Int64) (u2 : Int64) (f1 : Int64) (f2 : Int32) (f3 : Int64) (f4 : Int64) (h0 : Heap) (n0 : Nat) (v : Option Value) (h : Heap) (L : List Loc) : Prop := v = none ∧ Fr n0 L ∧ Keep h0 h [o0] ∧ Fld Z h o0 "com/example/mingle/mingle/PauseBudget" "limitNanos" "J" (.long f1) ∧ Fld Z h o0 "com/example/mingle/mingle/PauseBudget" "shareDivisor" "I" (.int f2) ∧ Fld Z h o0 "com/example/mingle/mingle/PauseBudget" "banked" "J" (.long ((R5 f1 (f3 + ((u2 - f4) / (f2.toInt64)))) - (u2 - u1))) ∧ Fld Z h o0 "com/example/mingle/mingle/PauseBudget" "updated" "J" (.long u2)
theorem pd_1 : parseMethodDescriptor "(J)V" = some ⟨[.long], none⟩ := by decide +kernel
set_option maxRecDepth 65536 in
set_option maxHeartbeats 40000000 in
theorem rm3 (l : Launch) (Z : State) (a0 : Array Value) (hw : ∀ d ∈ tables_1, d.before a0 Z = true) (o0 : Addr) (u1 : Int64) (u2 : Int64) (f1 : Int64) (f2 : Int32) (f3 : Int64) (f4 : Int64) (h0 : Heap) (n0 : Nat) (Z0 : n0 ≤ h0.size) (E_o0 : Exa Z h0 o0 "com/example/mingle/mingle/PauseBudget") (F_o0_limitNanos : Fld Z h0 o0 "com/example/mingle/mingle/PauseBudget" "limitNanos" "J" (.long f1)) (F_o0_shareDivisor : Fld Z h0 o0 "com/example/mingle/mingle/PauseBudget" "shareDivisor" "I" (.int f2)) (F_o0_banked : Fld Z h0 o0 "com/example/mingle/mingle/PauseBudget" "banked" "J" (.long f3)) (F_o0_updated : Fld Z h0 o0 "com/example/mingle/mingle/PauseBudget" "updated" "J" (.long f4)) (g_o0 : n0 ≤ o0) (hd : ¬ (f2.toInt64) = (0 : Int64)) :
    own_C l Z (⟨"com/example/mingle/mingle/PauseBudget", "spend", "(JJ)V"⟩ : MethodName) prog_14_method_4_code 5 none ({ frames := 2, cells := 0, slots := 0, locals := 30 } : Room) #[(.ref o0), (.long u1), (.long u2)] h0 (Q3 Z o0 u1 u2 f1 f2 f3 f4 h0 n0) := by
  refine own_met (plainFor_of_name pn_0) ?_
  intro p e s m below meth c s₁ hx hby hml hret hlk hown hnm hZ X0 e0
  refine own_cast (ef_3 m o0 u1 u2) ?_
  have N0 := Fr.nil n0
  have K := Keep.refl h0 [o0]
  show own_Out p e below _ s₁ (mkF m 0 #[.val (.ref o0), .val (.long u1), .second, .val (.long u2), .second] []) _ _ _
  refine own_to (fun t k => XS.aloadN X0.here hx rfl (hb hby d3_0) rfl rfl k) ?_
  show own_Out p e below _ s₁ (mkF m 1 #[.val (.ref o0), .val (.long u1), .second, .val (.long u2), .second] [(.ref o0)]) _ _ _
  refine own_to (fun t k => XS.lloadN X0.here hx rfl (hb hby d3_1) rfl k) ?_
  show own_Out p e below _ s₁ (mkF m 2 #[.val (.ref o0), .val (.long u1), .second, .val (.long u2), .second] [(.long u2), (.ref o0)]) _ _ _
  refine own_callP X0 hx hZ hown (a := o0) (argsL := [(.long u2)]) (rest := []) (hw _ (List.mem_of_getElem? (i := 24) rfl)) (hw _ (List.mem_of_getElem? (i := 26) rfl)) (hw _ (List.mem_of_getElem? (i := 3) rfl)) (hw _ (List.mem_of_getElem? (i := 25) rfl)) (hw _ (List.mem_of_getElem? (i := 4) rfl)) (hw _ (List.mem_of_getElem? (i := 27) rfl)) (by decide) (rm4 l Z a0 hw o0 u2 f1 f2 f3 f4 h0 n0 Z0 E_o0 F_o0_limitNanos F_o0_shareDivisor F_o0_banked F_o0_updated g_o0 hd) (by decide) (by decide) e0 E_o0 rfl (by rw [hml]; rfl) (lenOf pd_1 rfl) rfl (W := 0) (by show 2 * 0 + _ ≤ _; exact Nat.le_of_eq rfl) (hb hby d3_2) (by decide) (by decide) fun v1 T1 hh1 L1 X1 e1 hQ1 => ?_
  obtain ⟨rfl, NL1, KK1, P1_0, P1_1, P1_2, P1_3⟩ := hQ1
  have E_o0 := E_o0.keep KK1
  have F_o0_limitNanos := P1_0
  have F_o0_shareDivisor := P1_1
  have F_o0_banked := P1_2
  have F_o0_updated := P1_3
  have K := K.trans KK1 (by intro z hz; simp only [List.mem_cons, List.not_mem_nil, or_false] at hz; subst hz; exact Or.inl (by simp))
  have Z0 := Nat.le_trans Z0 KK1.1
  have N1 := Fr.app N0 NL1
  show own_Out p e below _ T1 (mkF m 5 #[.val (.ref o0), .val (.long u1), .second, .val (.long u2), .second] []) _ _ _
  refine own_to (fun t k => XS.aloadN X1.here hx rfl (hb hby d3_5) rfl rfl k) ?_
  show own_Out p e below _ T1 (mkF m 6 #[.val (.ref o0), .val (.long u1), .second, .val (.long u2), .second] [(.ref o0)]) _ _ _
  refine own_to (fun t k => XS.dup X1.here hx rfl (hb hby d3_6) rfl rfl k) ?_
  show own_Out p e below _ T1 (mkF m 7 #[.val (.ref o0), .val (.long u1), .second, .val (.long u2), .second] [(.ref o0), (.ref o0)]) _ _ _
  refine own_getF X1 hx hZ hown (hw _ (List.mem_of_getElem? (i := 15) rfl)) e1 F_o0_banked rfl rfl (hb hby d3_7) fun T2 X2 e2 => ?_
  show own_Out p e below _ T2 (mkF m 10 #[.val (.ref o0), .val (.long u1), .second, .val (.long u2), .second] [(.long (R5 f1 (f3 + ((u2 - f4) / (f2.toInt64))))), (.ref o0)]) _ _ _
  refine own_to (fun t k => XS.lloadN X2.here hx rfl (hb hby d3_10) rfl k) ?_
  show own_Out p e below _ T2 (mkF m 11 #[.val (.ref o0), .val (.long u1), .second, .val (.long u2), .second] [(.long u2), (.long (R5 f1 (f3 + ((u2 - f4) / (f2.toInt64))))), (.ref o0)]) _ _ _
  refine own_to (fun t k => XS.lloadN X2.here hx rfl (hb hby d3_11) rfl k) ?_
  show own_Out p e below _ T2 (mkF m 12 #[.val (.ref o0), .val (.long u1), .second, .val (.long u2), .second] [(.long u1), (.long u2), (.long (R5 f1 (f3 + ((u2 - f4) / (f2.toInt64))))), (.ref o0)]) _ _ _
  refine own_to (fun t k => XS.lsub X2.here hx rfl (hb hby d3_12) rfl k) ?_
  show own_Out p e below _ T2 (mkF m 13 #[.val (.ref o0), .val (.long u1), .second, .val (.long u2), .second] [(.long (u2 - u1)), (.long (R5 f1 (f3 + ((u2 - f4) / (f2.toInt64))))), (.ref o0)]) _ _ _
  refine own_to (fun t k => XS.lsub X2.here hx rfl (hb hby d3_13) rfl k) ?_
  show own_Out p e below _ T2 (mkF m 14 #[.val (.ref o0), .val (.long u1), .second, .val (.long u2), .second] [(.long ((R5 f1 (f3 + ((u2 - f4) / (f2.toInt64)))) - (u2 - u1))), (.ref o0)]) _ _ _
  refine own_putF X2 hx hZ hown (hw _ (List.mem_of_getElem? (i := 15) rfl)) e2 F_o0_banked E_o0 (Or.inl (hw _ (List.mem_of_getElem? (i := 16) rfl))) (hw _ (List.mem_of_getElem? (i := 3) rfl)) (ty := .long) (by decide) rfl rfl rfl rfl (hb hby d3_14) fun T3 hh3 X3 e3 W3 => ?_
  have E_o0 := E_o0.wr W3
  have F_o0_limitNanos := F_o0_limitNanos.other W3 (Or.inr (slot_ne (Or.inl (hw _ (List.mem_of_getElem? (i := 12) rfl))) (Or.inl (hw _ (List.mem_of_getElem? (i := 16) rfl))) (by decide) (t := .long) (t' := .long) (by decide) (by decide)))
  have F_o0_shareDivisor := F_o0_shareDivisor.other W3 (Or.inr (slot_ne (Or.inr (hw _ (List.mem_of_getElem? (i := 14) rfl))) (Or.inl (hw _ (List.mem_of_getElem? (i := 16) rfl))) (by decide) (t := .int) (t' := .long) (by decide) (by decide)))
  have F_o0_banked := F_o0_banked.same W3
  have F_o0_updated := F_o0_updated.other W3 (Or.inr (slot_ne (Or.inl (hw _ (List.mem_of_getElem? (i := 18) rfl))) (Or.inl (hw _ (List.mem_of_getElem? (i := 16) rfl))) (by decide) (t := .long) (t' := .long) (by decide) (by decide)))
  have K := K.wr W3 (Or.inl (by simp))
  have Z0 := Nat.le_trans Z0 (Nat.le_of_eq W3.size.symm)
  have N3 := own_fs (sl := Jvm.RoadKit.slotOf Z "com/example/mingle/mingle/PauseBudget" "banked" "J") N1 g_o0
  show own_Out p e below _ T3 (mkF m 17 #[.val (.ref o0), .val (.long u1), .second, .val (.long u2), .second] []) _ _ _
  refine own_ret0 X3 hx hlk hret (hb hby d3_17) (by decide) (by decide) ?_
  rw [e3]
  exact ⟨rfl, N3, K, F_o0_limitNanos, F_o0_shareDivisor, F_o0_banked, F_o0_updated⟩
theorem d6_0 : decode prog_14_method_3_code 0 = .ok (.lload_n 1, 1) := by decide +kernel
theorem d6_1 : decode prog_14_method_3_code 1 = .ok (.aload_n 0, 1) := by decide +kernel
theorem d6_2 : decode prog_14_method_3_code 2 = .ok (.getfield 7, 3) := by decide +kernel
theorem d6_5 : decode prog_14_method_3_code 5 = .ok (.lcmp, 1) := by decide +kernel
theorem d6_6 : decode prog_14_method_3_code 6 = .ok (.ifCond .le 23, 3) := by decide +kernel
theorem d6_9 : decode prog_14_method_3_code 9 = .ok (.aload_n 0, 1) := by decide +kernel
theorem d6_10 : decode prog_14_method_3_code 10 = .ok (.dup, 1) := by decide +kernel
theorem d6_11 : decode prog_14_method_3_code 11 = .ok (.getfield 17, 3) := by decide +kernel
theorem d6_14 : decode prog_14_method_3_code 14 = .ok (.lload_n 1, 1) := by decide +kernel
theorem d6_15 : decode prog_14_method_3_code 15 = .ok (.aload_n 0, 1) := by decide +kernel
theorem d6_16 : decode prog_14_method_3_code 16 = .ok (.getfield 7, 3) := by decide +kernel
theorem d6_19 : decode prog_14_method_3_code 19 = .ok (.lsub, 1) := by decide +kernel
theorem d6_20 : decode prog_14_method_3_code 20 = .ok (.ladd, 1) := by decide +kernel
theorem d6_21 : decode prog_14_method_3_code 21 = .ok (.putfield 17, 3) := by decide +kernel
theorem d6_24 : decode prog_14_method_3_code 24 = .ok (.aload_n 0, 1) := by decide +kernel
theorem d6_25 : decode prog_14_method_3_code 25 = .ok (.lload_n 1, 1) := by decide +kernel
theorem d6_26 : decode prog_14_method_3_code 26 = .ok (.putfield 7, 3) := by decide +kernel
theorem d6_29 : decode prog_14_method_3_code 29 = .ok (.return_, 1) := by decide +kernel
theorem ef_6 (m : MethodId) (o0 : Addr) (u1 : Int64) : entryFrame m #[(.ref o0), (.long u1)] 3 = mkF m 0 #[.val (.ref o0), .val (.long u1), .second] [] := by first | (simp [entryFrame, mkF, argsToLocals, Value.category]; done) | rfl
def Q6 (Z : State) (o0 : Addr) (u1 : Int64) (f1 : Int64) (f2 : Int32) (f3 : Int64) (f4 : Int64) (h0 : Heap) (n0 : Nat) (v : Option Value) (h : Heap) (L : List Loc) : Prop := v = none ∧ Fr n0 L ∧ Keep h0 h [o0] ∧ Fld Z h o0 "com/example/mingle/mingle/PauseBudget" "limitNanos" "J" (.long (if f1 < u1 then u1 else f1)) ∧ Fld Z h o0 "com/example/mingle/mingle/PauseBudget" "shareDivisor" "I" (.int f2) ∧ Fld Z h o0 "com/example/mingle/mingle/PauseBudget" "banked" "J" (.long (if f1 < u1 then (f3 + (u1 - f1)) else f3)) ∧ Fld Z h o0 "com/example/mingle/mingle/PauseBudget" "updated" "J" (.long f4)
set_option maxRecDepth 65536 in
set_option maxHeartbeats 40000000 in
theorem rm6 (l : Launch) (Z : State) (a0 : Array Value) (hw : ∀ d ∈ tables_1, d.before a0 Z = true) (o0 : Addr) (u1 : Int64) (f1 : Int64) (f2 : Int32) (f3 : Int64) (f4 : Int64) (h0 : Heap) (n0 : Nat) (Z0 : n0 ≤ h0.size) (E_o0 : Exa Z h0 o0 "com/example/mingle/mingle/PauseBudget") (F_o0_limitNanos : Fld Z h0 o0 "com/example/mingle/mingle/PauseBudget" "limitNanos" "J" (.long f1)) (F_o0_shareDivisor : Fld Z h0 o0 "com/example/mingle/mingle/PauseBudget" "shareDivisor" "I" (.int f2)) (F_o0_banked : Fld Z h0 o0 "com/example/mingle/mingle/PauseBudget" "banked" "J" (.long f3)) (F_o0_updated : Fld Z h0 o0 "com/example/mingle/mingle/PauseBudget" "updated" "J" (.long f4)) (g_o0 : n0 ≤ o0) :
    own_C l Z (⟨"com/example/mingle/mingle/PauseBudget", "raiseLimit", "(J)V"⟩ : MethodName) prog_14_method_3_code 3 none ({ frames := 0, cells := 0, slots := 0, locals := 0 } : Room) #[(.ref o0), (.long u1)] h0 (Q6 Z o0 u1 f1 f2 f3 f4 h0 n0) := by
  refine own_met (plainFor_of_name pn_0) ?_
  intro p e s m below meth c s₁ hx hby hml hret hlk hown hnm hZ X0 e0
  refine own_cast (ef_6 m o0 u1) ?_
  have N0 := Fr.nil n0
  have K := Keep.refl h0 [o0]
  show own_Out p e below _ s₁ (mkF m 0 #[.val (.ref o0), .val (.long u1), .second] []) _ _ _
  refine own_to (fun t k => XS.lloadN X0.here hx rfl (hb hby d6_0) rfl k) ?_
  show own_Out p e below _ s₁ (mkF m 1 #[.val (.ref o0), .val (.long u1), .second] [(.long u1)]) _ _ _
  refine own_to (fun t k => XS.aloadN X0.here hx rfl (hb hby d6_1) rfl rfl k) ?_
  show own_Out p e below _ s₁ (mkF m 2 #[.val (.ref o0), .val (.long u1), .second] [(.ref o0), (.long u1)]) _ _ _
  refine own_getF X0 hx hZ hown (hw _ (List.mem_of_getElem? (i := 11) rfl)) e0 F_o0_limitNanos rfl rfl (hb hby d6_2) fun T1 X1 e1 => ?_
  show own_Out p e below _ T1 (mkF m 5 #[.val (.ref o0), .val (.long u1), .second] [(.long f1), (.long u1)]) _ _ _
  refine own_to (fun t k => XS.lcmp X1.here hx rfl (hb hby d6_5) rfl k) ?_
  show own_Out p e below _ T1 (mkF m 6 #[.val (.ref o0), .val (.long u1), .second] [(.int (lcmpW u1 f1))]) _ _ _
  by_cases hc6 : f1 < u1
  · refine own_to (fun t k => XS.ifNo X1.here hx rfl (hb hby d6_6) rfl ((if0 _ _).trans (tlt ((lw_gt _ _).mpr hc6)).2.2.2) k) ?_
    show own_Out p e below _ T1 (mkF m 9 #[.val (.ref o0), .val (.long u1), .second] []) _ _ _
    refine own_to (fun t k => XS.aloadN X1.here hx rfl (hb hby d6_9) rfl rfl k) ?_
    show own_Out p e below _ T1 (mkF m 10 #[.val (.ref o0), .val (.long u1), .second] [(.ref o0)]) _ _ _
    refine own_to (fun t k => XS.dup X1.here hx rfl (hb hby d6_10) rfl rfl k) ?_
    show own_Out p e below _ T1 (mkF m 11 #[.val (.ref o0), .val (.long u1), .second] [(.ref o0), (.ref o0)]) _ _ _
    refine own_getF X1 hx hZ hown (hw _ (List.mem_of_getElem? (i := 15) rfl)) e1 F_o0_banked rfl rfl (hb hby d6_11) fun T2 X2 e2 => ?_
    show own_Out p e below _ T2 (mkF m 14 #[.val (.ref o0), .val (.long u1), .second] [(.long f3), (.ref o0)]) _ _ _
    refine own_to (fun t k => XS.lloadN X2.here hx rfl (hb hby d6_14) rfl k) ?_
    show own_Out p e below _ T2 (mkF m 15 #[.val (.ref o0), .val (.long u1), .second] [(.long u1), (.long f3), (.ref o0)]) _ _ _
    refine own_to (fun t k => XS.aloadN X2.here hx rfl (hb hby d6_15) rfl rfl k) ?_
    show own_Out p e below _ T2 (mkF m 16 #[.val (.ref o0), .val (.long u1), .second] [(.ref o0), (.long u1), (.long f3), (.ref o0)]) _ _ _
    refine own_getF X2 hx hZ hown (hw _ (List.mem_of_getElem? (i := 11) rfl)) e2 F_o0_limitNanos rfl rfl (hb hby d6_16) fun T3 X3 e3 => ?_
    show own_Out p e below _ T3 (mkF m 19 #[.val (.ref o0), .val (.long u1), .second] [(.long f1), (.long u1), (.long f3), (.ref o0)]) _ _ _
    refine own_to (fun t k => XS.lsub X3.here hx rfl (hb hby d6_19) rfl k) ?_
    show own_Out p e below _ T3 (mkF m 20 #[.val (.ref o0), .val (.long u1), .second] [(.long (u1 - f1)), (.long f3), (.ref o0)]) _ _ _
    refine own_to (fun t k => XS.ladd X3.here hx rfl (hb hby d6_20) rfl k) ?_
    show own_Out p e below _ T3 (mkF m 21 #[.val (.ref o0), .val (.long u1), .second] [(.long (f3 + (u1 - f1))), (.ref o0)]) _ _ _
    refine own_putF X3 hx hZ hown (hw _ (List.mem_of_getElem? (i := 15) rfl)) e3 F_o0_banked E_o0 (Or.inl (hw _ (List.mem_of_getElem? (i := 16) rfl))) (hw _ (List.mem_of_getElem? (i := 3) rfl)) (ty := .long) (by decide) rfl rfl rfl rfl (hb hby d6_21) fun T4 hh4 X4 e4 W4 => ?_
    have E_o0 := E_o0.wr W4
    have F_o0_limitNanos := F_o0_limitNanos.other W4 (Or.inr (slot_ne (Or.inl (hw _ (List.mem_of_getElem? (i := 12) rfl))) (Or.inl (hw _ (List.mem_of_getElem? (i := 16) rfl))) (by decide) (t := .long) (t' := .long) (by decide) (by decide)))
    have F_o0_shareDivisor := F_o0_shareDivisor.other W4 (Or.inr (slot_ne (Or.inr (hw _ (List.mem_of_getElem? (i := 14) rfl))) (Or.inl (hw _ (List.mem_of_getElem? (i := 16) rfl))) (by decide) (t := .int) (t' := .long) (by decide) (by decide)))
    have F_o0_banked := F_o0_banked.same W4
    have F_o0_updated := F_o0_updated.other W4 (Or.inr (slot_ne (Or.inl (hw _ (List.mem_of_getElem? (i := 18) rfl))) (Or.inl (hw _ (List.mem_of_getElem? (i := 16) rfl))) (by decide) (t := .long) (t' := .long) (by decide) (by decide)))
    have K := K.wr W4 (Or.inl (by simp))
    have Z0 := Nat.le_trans Z0 (Nat.le_of_eq W4.size.symm)
    have N4 := own_fs (sl := Jvm.RoadKit.slotOf Z "com/example/mingle/mingle/PauseBudget" "banked" "J") N0 g_o0
    show own_Out p e below _ T4 (mkF m 24 #[.val (.ref o0), .val (.long u1), .second] []) _ _ _
    refine own_to (fun t k => XS.aloadN X4.here hx rfl (hb hby d6_24) rfl rfl k) ?_
    show own_Out p e below _ T4 (mkF m 25 #[.val (.ref o0), .val (.long u1), .second] [(.ref o0)]) _ _ _
    refine own_to (fun t k => XS.lloadN X4.here hx rfl (hb hby d6_25) rfl k) ?_
    show own_Out p e below _ T4 (mkF m 26 #[.val (.ref o0), .val (.long u1), .second] [(.long u1), (.ref o0)]) _ _ _
    refine own_putF X4 hx hZ hown (hw _ (List.mem_of_getElem? (i := 11) rfl)) e4 F_o0_limitNanos E_o0 (Or.inl (hw _ (List.mem_of_getElem? (i := 12) rfl))) (hw _ (List.mem_of_getElem? (i := 3) rfl)) (ty := .long) (by decide) rfl rfl rfl rfl (hb hby d6_26) fun T5 hh5 X5 e5 W5 => ?_
    have E_o0 := E_o0.wr W5
    have F_o0_limitNanos := F_o0_limitNanos.same W5
    have F_o0_shareDivisor := F_o0_shareDivisor.other W5 (Or.inr (slot_ne (Or.inr (hw _ (List.mem_of_getElem? (i := 14) rfl))) (Or.inl (hw _ (List.mem_of_getElem? (i := 12) rfl))) (by decide) (t := .int) (t' := .long) (by decide) (by decide)))
    have F_o0_banked := F_o0_banked.other W5 (Or.inr (slot_ne (Or.inl (hw _ (List.mem_of_getElem? (i := 16) rfl))) (Or.inl (hw _ (List.mem_of_getElem? (i := 12) rfl))) (by decide) (t := .long) (t' := .long) (by decide) (by decide)))
    have F_o0_updated := F_o0_updated.other W5 (Or.inr (slot_ne (Or.inl (hw _ (List.mem_of_getElem? (i := 18) rfl))) (Or.inl (hw _ (List.mem_of_getElem? (i := 12) rfl))) (by decide) (t := .long) (t' := .long) (by decide) (by decide)))
    have K := K.wr W5 (Or.inl (by simp))
    have Z0 := Nat.le_trans Z0 (Nat.le_of_eq W5.size.symm)
    have N5 := own_fs (sl := Jvm.RoadKit.slotOf Z "com/example/mingle/mingle/PauseBudget" "limitNanos" "J") N4 g_o0
    show own_Out p e below _ T5 (mkF m 29 #[.val (.ref o0), .val (.long u1), .second] []) _ _ _
    refine own_ret0 X5 hx hlk hret (hb hby d6_29) (by decide) (by decide) ?_
    rw [e5]
    exact ⟨rfl, N5, K, (by rw [if_pos hc6]; exact F_o0_limitNanos), F_o0_shareDivisor, (by rw [if_pos hc6]; exact F_o0_banked), F_o0_updated⟩
  · refine own_to (fun t k => XS.ifYes X1.here hx rfl (pc0 := 6) (pc' := 29) rfl (hb hby d6_6) rfl ((if0 _ _).trans (flt (fun q => hc6 ((lw_gt _ _).mp q))).2.2.2) (by decide) (by decide) k) ?_
    show own_Out p e below _ T1 (mkF m 29 #[.val (.ref o0), .val (.long u1), .second] []) _ _ _
    refine own_ret0 X1 hx hlk hret (hb hby d6_29) (by decide) (by decide) ?_
    rw [e1]
    exact ⟨rfl, N0, K, (by rw [if_neg hc6]; exact F_o0_limitNanos), F_o0_shareDivisor, (by rw [if_neg hc6]; exact F_o0_banked), F_o0_updated⟩
theorem d7_0 : decode prog_14_method_2_code 0 = .ok (.aload_n 0, 1) := by decide +kernel
theorem d7_1 : decode prog_14_method_2_code 1 = .ok (.lload_n 1, 1) := by decide +kernel
theorem d7_2 : decode prog_14_method_2_code 2 = .ok (.invokevirtual 23, 3) := by decide +kernel
theorem d7_5 : decode prog_14_method_2_code 5 = .ok (.aload_n 0, 1) := by decide +kernel
theorem d7_6 : decode prog_14_method_2_code 6 = .ok (.getfield 17, 3) := by decide +kernel
theorem d7_9 : decode prog_14_method_2_code 9 = .ok (.lreturn, 1) := by decide +kernel
theorem ef_7 (m : MethodId) (o0 : Addr) (u1 : Int64) : entryFrame m #[(.ref o0), (.long u1)] 3 = mkF m 0 #[.val (.ref o0), .val (.long u1), .second] [] := by first | (simp [entryFrame, mkF, argsToLocals, Value.category]; done) | rfl
def Q7 (Z : State) (o0 : Addr) (u1 : Int64) (f1 : Int64) (f2 : Int32) (f3 : Int64) (f4 : Int64) (h0 : Heap) (n0 : Nat) (v : Option Value) (h : Heap) (L : List Loc) : Prop := v = some (.long (R5 f1 (f3 + ((u1 - f4) / (f2.toInt64))))) ∧ Fr n0 L ∧ Keep h0 h [o0] ∧ Fld Z h o0 "com/example/mingle/mingle/PauseBudget" "limitNanos" "J" (.long f1) ∧ Fld Z h o0 "com/example/mingle/mingle/PauseBudget" "shareDivisor" "I" (.int f2) ∧ Fld Z h o0 "com/example/mingle/mingle/PauseBudget" "banked" "J" (.long (R5 f1 (f3 + ((u1 - f4) / (f2.toInt64))))) ∧ Fld Z h o0 "com/example/mingle/mingle/PauseBudget" "updated" "J" (.long u1)
set_option maxRecDepth 65536 in
set_option maxHeartbeats 40000000 in
theorem rm7 (l : Launch) (Z : State) (a0 : Array Value) (hw : ∀ d ∈ tables_1, d.before a0 Z = true) (o0 : Addr) (u1 : Int64) (f1 : Int64) (f2 : Int32) (f3 : Int64) (f4 : Int64) (h0 : Heap) (n0 : Nat) (Z0 : n0 ≤ h0.size) (E_o0 : Exa Z h0 o0 "com/example/mingle/mingle/PauseBudget") (F_o0_limitNanos : Fld Z h0 o0 "com/example/mingle/mingle/PauseBudget" "limitNanos" "J" (.long f1)) (F_o0_shareDivisor : Fld Z h0 o0 "com/example/mingle/mingle/PauseBudget" "shareDivisor" "I" (.int f2)) (F_o0_banked : Fld Z h0 o0 "com/example/mingle/mingle/PauseBudget" "banked" "J" (.long f3)) (F_o0_updated : Fld Z h0 o0 "com/example/mingle/mingle/PauseBudget" "updated" "J" (.long f4)) (g_o0 : n0 ≤ o0) (hd : ¬ (f2.toInt64) = (0 : Int64)) :
    own_C l Z (⟨"com/example/mingle/mingle/PauseBudget", "left", "(J)J"⟩ : MethodName) prog_14_method_2_code 3 (some .long) ({ frames := 2, cells := 0, slots := 0, locals := 30 } : Room) #[(.ref o0), (.long u1)] h0 (Q7 Z o0 u1 f1 f2 f3 f4 h0 n0) := by
  refine own_met (plainFor_of_name pn_0) ?_
  intro p e s m below meth c s₁ hx hby hml hret hlk hown hnm hZ X0 e0
  refine own_cast (ef_7 m o0 u1) ?_
  have N0 := Fr.nil n0
  have K := Keep.refl h0 [o0]
  show own_Out p e below _ s₁ (mkF m 0 #[.val (.ref o0), .val (.long u1), .second] []) _ _ _
  refine own_to (fun t k => XS.aloadN X0.here hx rfl (hb hby d7_0) rfl rfl k) ?_
  show own_Out p e below _ s₁ (mkF m 1 #[.val (.ref o0), .val (.long u1), .second] [(.ref o0)]) _ _ _
  refine own_to (fun t k => XS.lloadN X0.here hx rfl (hb hby d7_1) rfl k) ?_
  show own_Out p e below _ s₁ (mkF m 2 #[.val (.ref o0), .val (.long u1), .second] [(.long u1), (.ref o0)]) _ _ _
  refine own_callP X0 hx hZ hown (a := o0) (argsL := [(.long u1)]) (rest := []) (hw _ (List.mem_of_getElem? (i := 24) rfl)) (hw _ (List.mem_of_getElem? (i := 26) rfl)) (hw _ (List.mem_of_getElem? (i := 3) rfl)) (hw _ (List.mem_of_getElem? (i := 25) rfl)) (hw _ (List.mem_of_getElem? (i := 4) rfl)) (hw _ (List.mem_of_getElem? (i := 27) rfl)) (by decide) (rm4 l Z a0 hw o0 u1 f1 f2 f3 f4 h0 n0 Z0 E_o0 F_o0_limitNanos F_o0_shareDivisor F_o0_banked F_o0_updated g_o0 hd) (by decide) (by decide) e0 E_o0 rfl (by rw [hml]; rfl) (lenOf pd_1 rfl) rfl (W := 0) (by show 2 * 0 + _ ≤ _; exact Nat.le_of_eq rfl) (hb hby d7_2) (by decide) (by decide) fun v1 T1 hh1 L1 X1 e1 hQ1 => ?_
  obtain ⟨rfl, NL1, KK1, P1_0, P1_1, P1_2, P1_3⟩ := hQ1
  have E_o0 := E_o0.keep KK1
  have F_o0_limitNanos := P1_0
  have F_o0_shareDivisor := P1_1
  have F_o0_banked := P1_2
  have F_o0_updated := P1_3
  have K := K.trans KK1 (by intro z hz; simp only [List.mem_cons, List.not_mem_nil, or_false] at hz; subst hz; exact Or.inl (by simp))
  have Z0 := Nat.le_trans Z0 KK1.1
  have N1 := Fr.app N0 NL1
  show own_Out p e below _ T1 (mkF m 5 #[.val (.ref o0), .val (.long u1), .second] []) _ _ _
  refine own_to (fun t k => XS.aloadN X1.here hx rfl (hb hby d7_5) rfl rfl k) ?_
  show own_Out p e below _ T1 (mkF m 6 #[.val (.ref o0), .val (.long u1), .second] [(.ref o0)]) _ _ _
  refine own_getF X1 hx hZ hown (hw _ (List.mem_of_getElem? (i := 15) rfl)) e1 F_o0_banked rfl rfl (hb hby d7_6) fun T2 X2 e2 => ?_
  show own_Out p e below _ T2 (mkF m 9 #[.val (.ref o0), .val (.long u1), .second] [(.long (R5 f1 (f3 + ((u1 - f4) / (f2.toInt64)))))]) _ _ _
  refine own_retJ X2 hx hlk hret (hb hby d7_9) (by decide) (by decide) ?_
  rw [e2]
  exact ⟨rfl, N1, K, F_o0_limitNanos, F_o0_shareDivisor, F_o0_banked, F_o0_updated⟩
theorem own_lim (x : Int64) : 0 ≤ (x &&& (1152921504606846975 : Int64)).toInt ∧ (x &&& (1152921504606846975 : Int64)).toInt ≤ 1152921504606846975 := by
  have h1 := c_maskL x 1152921504606846975 60 (by decide) (by decide)
  omega
theorem own_sp (x : Int64) : 0 ≤ (x &&& (1099511627775 : Int64)).toInt ∧ (x &&& (1099511627775 : Int64)).toInt ≤ 1099511627775 := by
  have h1 := c_maskL x 1099511627775 40 (by decide) (by decide)
  omega
theorem own_dv (x : Int32) : 1 ≤ ((x &&& (15 : Int32)) + (1 : Int32)).toInt ∧ ((x &&& (15 : Int32)) + (1 : Int32)).toInt ≤ 16 := by
  have h1 := c_mask x 15 4 (by decide) (by decide)
  have h2 := c_iadd (x &&& 15) 1
  have r := rng32 ((x &&& 15) + 1)
  have k : (1 : Int32).toInt = 1 := by decide
  omega
theorem own_dn (d : Int32) (h : 1 ≤ d.toInt ∧ d.toInt ≤ 16) : ¬ (d.toInt64) = (0 : Int64) := fun q => by
  have h1 := c_i2l d
  rw [q] at h1
  have k : (0 : Int64).toInt = 0 := by decide
  omega
theorem own_ts (t z : Int64) : (t + z) - t = z := by rw [Int64.add_comm, Int64.add_sub_cancel]
theorem own_quo (d : Int32) (z : Int64) (hd : 1 ≤ d.toInt ∧ d.toInt ≤ 16) (hz : 0 ≤ z.toInt) : 0 ≤ (z / (d.toInt64)).toInt ∧ (z / (d.toInt64)).toInt ≤ z.toInt := by
  have h1 := c_i2l d
  have hm : (-1 : Int64).toInt = -1 := by decide
  have h2 := (c_ldiv z d.toInt64 d.toInt h1 (fun q => by rw [q] at h1; omega)).1 hz
  rw [h2]
  exact ⟨Int.ediv_nonneg hz (by omega), Int.ediv_le_self _ hz⟩
theorem own_min1 (L A : Int64) (h : L.toInt ≤ A.toInt) : R5 L A = L := by
  unfold R5
  rw [if_neg (fun q => by rw [Int64.lt_iff_toInt_lt] at q; omega)]
theorem own_min2 (L A : Int64) (h : A.toInt ≤ L.toInt) : R5 L A = A := by
  unfold R5
  split
  · rfl
  · rename_i q
    rw [Int64.lt_iff_toInt_lt] at q
    exact Int64.toInt_inj.mp (by omega)
theorem own_s1 (L t z : Int64) (d : Int32) (hL : 0 ≤ L.toInt ∧ L.toInt ≤ 1152921504606846975) (hd : 1 ≤ d.toInt ∧ d.toInt ≤ 16) (hz : 0 ≤ z.toInt ∧ z.toInt ≤ 1099511627775) : (R5 L (L + (((t + z) - t) / (d.toInt64)))) - ((t + z) - t) = L - z := by
  rw [own_ts]
  have q := own_quo d z hd hz.1
  have h := c_ladd L (z / d.toInt64)
  have r := rng64 (L + z / d.toInt64)
  rw [own_min1 _ _ (by omega)]
theorem own_s2 (L z u : Int64) (d : Int32) (hL : 0 ≤ L.toInt ∧ L.toInt ≤ 1152921504606846975) (hd : 1 ≤ d.toInt ∧ d.toInt ≤ 16) (hz : 0 ≤ z.toInt ∧ z.toInt ≤ 1099511627775) : R5 L ((L - z) + ((u - u) / (d.toInt64))) = L - z := by
  have e : u - u = 0 := Int64.sub_self u
  have k : (0 : Int64).toInt = 0 := by decide
  have q := own_quo d 0 hd (by decide)
  rw [e]
  have e2 : (0 : Int64) / d.toInt64 = 0 := Int64.toInt_inj.mp (by omega)
  have h := c_lsub L z
  have r := rng64 (L - z)
  rw [e2, Int64.add_zero, own_min2 _ _ (by omega)]
theorem own_up (L N z : Int64) : (L - z) + (N - L) = N - z := by
  apply Int64.toBitVec_inj.mp
  simp only [Int64.toBitVec_add, Int64.toBitVec_sub]
  generalize L.toBitVec = a
  generalize N.toBitVec = b
  generalize z.toBitVec = d
  apply BitVec.eq_of_toInt_eq
  simp only [BitVec.toInt_add, BitVec.toInt_sub]
  have q1 := Int.bmod_emod (x := a.toInt - d.toInt) (m := 2 ^ 64)
  simp only [Int.bmod_add_bmod, Int.add_bmod_bmod]
  congr 1
  omega
theorem own_g (d : Int32) (h : 1 ≤ d.toInt ∧ d.toInt ≤ 16) : (((d.toInt64) <<< ((41 : Int32) &&& 0x3f).toInt64) / (d.toInt64)).toInt = 2199023255552 := by
  have h1 := c_i2l d
  have h2 := c_lshl d.toInt64 41 41 (by decide)
  have r := rng64 (d.toInt64 <<< ((41 : Int32) &&& 0x3f).toInt64)
  have h3 : (d.toInt64 <<< ((41 : Int32) &&& 0x3f).toInt64).toInt = d.toInt * 2199023255552 := by omega
  have hm : (-1 : Int64).toInt = -1 := by decide
  rw [(c_ldiv _ d.toInt64 d.toInt h1 (fun q => by rw [q] at h1; omega)).1 (by omega), h3, Int.mul_comm, Int.mul_ediv_cancel _ (by omega)]
theorem own_s3 (L z u : Int64) (d : Int32) (hL : 0 ≤ L.toInt ∧ L.toInt ≤ 1152921504606846975) (hd : 1 ≤ d.toInt ∧ d.toInt ≤ 16) (hz : 0 ≤ z.toInt ∧ z.toInt ≤ 1099511627775) : R5 L ((L - z) + (((u + ((d.toInt64) <<< ((41 : Int32) &&& 0x3f).toInt64)) - u) / (d.toInt64))) = L := by
  rw [own_ts]
  have q := own_g d hd
  have h := c_lsub L z
  have r := rng64 (L - z)
  have h2 := c_ladd (L - z) (((d.toInt64) <<< ((41 : Int32) &&& 0x3f).toInt64) / (d.toInt64))
  have r2 := rng64 ((L - z) + (((d.toInt64) <<< ((41 : Int32) &&& 0x3f).toInt64) / (d.toInt64)))
  rw [own_min1 _ _ (by omega)]
theorem pn_1 : plainName "com/example/mingle/mingle/PauseBudgetRaiseLimitPinLaw" = true := by first | (simp [plainName, overriddenIn]; done) | decide +kernel
theorem ef_0 (m : MethodId) (x0 : Int64) (x1 : Int64) (x2 : Int32) (x3 : Int64) (x4 : Int64) : entryFrame m #[(.long x0), (.long x1), (.int x2), (.long x3), (.long x4)] maxLocals = mkF m 0 #[.val (.long x0), .second, .val (.long x1), .second, .val (.int x2), .val (.long x3), .second, .val (.long x4), .second, .unset, .unset, .unset, .unset, .unset, .unset, .unset, .unset, .unset, .unset, .unset, .unset, .unset, .unset, .unset, .unset, .unset, .unset] [] := by first | (simp [entryFrame, mkF, argsToLocals, Value.category, maxLocals]; done) | rfl
def Q0 (Z : State) (x0 : Int64) (x1 : Int64) (x2 : Int32) (x3 : Int64) (x4 : Int64) (h0 : Heap) (n0 : Nat) (v : Option Value) (h : Heap) (L : List Loc) : Prop := v = some (.int (1 : Int32)) ∧ Fr n0 L
theorem pd_2 : parseMethodDescriptor "(JIJ)V" = some ⟨[.long, .int, .long], none⟩ := by decide +kernel
theorem pd_3 : parseMethodDescriptor "(JJ)V" = some ⟨[.long, .long], none⟩ := by decide +kernel
theorem pd_4 : parseMethodDescriptor "(J)J" = some ⟨[.long], some .long⟩ := by decide +kernel
set_option maxRecDepth 65536 in
set_option maxHeartbeats 40000000 in
theorem rm0 (l : Launch) (Z : State) (a0 : Array Value) (hw : ∀ d ∈ tables_1, d.before a0 Z = true) (x0 : Int64) (x1 : Int64) (x2 : Int32) (x3 : Int64) (x4 : Int64) (h0 : Heap) (n0 : Nat) (Z0 : n0 ≤ h0.size) :
    own_C l Z x code maxLocals ret room_1 #[(.long x0), (.long x1), (.int x2), (.long x3), (.long x4)] h0 (Q0 Z x0 x1 x2 x3 x4 h0 n0) := by
  refine own_met (plainFor_of_name pn_1) ?_
  intro p e s m below meth c s₁ hx hby hml hret hlk hown hnm hZ X0 e0
  refine own_cast (ef_0 m x0 x1 x2 x3 x4) ?_
  have N0 := Fr.nil n0
  show own_Out p e below _ s₁ (mkF m 0 #[.val (.long x0), .second, .val (.long x1), .second, .val (.int x2), .val (.long x3), .second, .val (.long x4), .second, .unset, .unset, .unset, .unset, .unset, .unset, .unset, .unset, .unset, .unset, .unset, .unset, .unset, .unset, .unset, .unset, .unset, .unset] []) _ _ _
  refine own_to (fun t k => XS.lloadN X0.here hx rfl (hb hby at_0) rfl k) ?_
  show own_Out p e below _ s₁ (mkF m 1 #[.val (.long x0), .second, .val (.long x1), .second, .val (.int x2), .val (.long x3), .second, .val (.long x4), .second, .unset, .unset, .unset, .unset, .unset, .unset, .unset, .unset, .unset, .unset, .unset, .unset, .unset, .unset, .unset, .unset, .unset, .unset] [(.long x0)]) _ _ _
  refine own_to (fun t k => X0.ldc2J hx hown (mvT hZ (hw _ (List.mem_of_getElem? (i := 0) rfl))) rfl (hb hby at_1) k) ?_
  show own_Out p e below _ s₁ (mkF m 4 #[.val (.long x0), .second, .val (.long x1), .second, .val (.int x2), .val (.long x3), .second, .val (.long x4), .second, .unset, .unset, .unset, .unset, .unset, .unset, .unset, .unset, .unset, .unset, .unset, .unset, .unset, .unset, .unset, .unset, .unset, .unset] [(.long (1152921504606846975 : Int64)), (.long x0)]) _ _ _
  refine own_to (fun t k => XS.land X0.here hx rfl (hb hby at_4) rfl k) ?_
  show own_Out p e below _ s₁ (mkF m 5 #[.val (.long x0), .second, .val (.long x1), .second, .val (.int x2), .val (.long x3), .second, .val (.long x4), .second, .unset, .unset, .unset, .unset, .unset, .unset, .unset, .unset, .unset, .unset, .unset, .unset, .unset, .unset, .unset, .unset, .unset, .unset] [(.long (x0 &&& (1152921504606846975 : Int64)))]) _ _ _
  refine own_to (fun t k => XS.lstore X0.here hx rfl (hb hby at_5) rfl (l' := #[.val (.long x0), .second, .val (.long x1), .second, .val (.int x2), .val (.long x3), .second, .val (.long x4), .second, .val (.long (x0 &&& (1152921504606846975 : Int64))), .second, .unset, .unset, .unset, .unset, .unset, .unset, .unset, .unset, .unset, .unset, .unset, .unset, .unset, .unset, .unset, .unset]) rfl k) ?_
  show own_Out p e below _ s₁ (mkF m 7 #[.val (.long x0), .second, .val (.long x1), .second, .val (.int x2), .val (.long x3), .second, .val (.long x4), .second, .val (.long (x0 &&& (1152921504606846975 : Int64))), .second, .unset, .unset, .unset, .unset, .unset, .unset, .unset, .unset, .unset, .unset, .unset, .unset, .unset, .unset, .unset, .unset] []) _ _ _
  generalize hv_fl : (x0 &&& (1152921504606846975 : Int64)) = fl
  show own_Out p e below _ s₁ (mkF m 7 #[.val (.long x0), .second, .val (.long x1), .second, .val (.int x2), .val (.long x3), .second, .val (.long x4), .second, .val (.long fl), .second, .unset, .unset, .unset, .unset, .unset, .unset, .unset, .unset, .unset, .unset, .unset, .unset, .unset, .unset, .unset, .unset] []) _ _ _
  have b1 := own_lim x0
  rw [hv_fl] at b1
  refine own_to (fun t k => XS.lloadN X0.here hx rfl (hb hby at_7) rfl k) ?_
  show own_Out p e below _ s₁ (mkF m 8 #[.val (.long x0), .second, .val (.long x1), .second, .val (.int x2), .val (.long x3), .second, .val (.long x4), .second, .val (.long fl), .second, .unset, .unset, .unset, .unset, .unset, .unset, .unset, .unset, .unset, .unset, .unset, .unset, .unset, .unset, .unset, .unset] [(.long x1)]) _ _ _
  refine own_to (fun t k => X0.ldc2J hx hown (mvT hZ (hw _ (List.mem_of_getElem? (i := 0) rfl))) rfl (hb hby at_8) k) ?_
  show own_Out p e below _ s₁ (mkF m 11 #[.val (.long x0), .second, .val (.long x1), .second, .val (.int x2), .val (.long x3), .second, .val (.long x4), .second, .val (.long fl), .second, .unset, .unset, .unset, .unset, .unset, .unset, .unset, .unset, .unset, .unset, .unset, .unset, .unset, .unset, .unset, .unset] [(.long (1152921504606846975 : Int64)), (.long x1)]) _ _ _
  refine own_to (fun t k => XS.land X0.here hx rfl (hb hby at_11) rfl k) ?_
  show own_Out p e below _ s₁ (mkF m 12 #[.val (.long x0), .second, .val (.long x1), .second, .val (.int x2), .val (.long x3), .second, .val (.long x4), .second, .val (.long fl), .second, .unset, .unset, .unset, .unset, .unset, .unset, .unset, .unset, .unset, .unset, .unset, .unset, .unset, .unset, .unset, .unset] [(.long (x1 &&& (1152921504606846975 : Int64)))]) _ _ _
  refine own_to (fun t k => XS.lstore X0.here hx rfl (hb hby at_12) rfl (l' := #[.val (.long x0), .second, .val (.long x1), .second, .val (.int x2), .val (.long x3), .second, .val (.long x4), .second, .val (.long fl), .second, .val (.long (x1 &&& (1152921504606846975 : Int64))), .second, .unset, .unset, .unset, .unset, .unset, .unset, .unset, .unset, .unset, .unset, .unset, .unset, .unset, .unset]) rfl k) ?_
  show own_Out p e below _ s₁ (mkF m 14 #[.val (.long x0), .second, .val (.long x1), .second, .val (.int x2), .val (.long x3), .second, .val (.long x4), .second, .val (.long fl), .second, .val (.long (x1 &&& (1152921504606846975 : Int64))), .second, .unset, .unset, .unset, .unset, .unset, .unset, .unset, .unset, .unset, .unset, .unset, .unset, .unset, .unset] []) _ _ _
  generalize hv_fn : (x1 &&& (1152921504606846975 : Int64)) = fn
  show own_Out p e below _ s₁ (mkF m 14 #[.val (.long x0), .second, .val (.long x1), .second, .val (.int x2), .val (.long x3), .second, .val (.long x4), .second, .val (.long fl), .second, .val (.long fn), .second, .unset, .unset, .unset, .unset, .unset, .unset, .unset, .unset, .unset, .unset, .unset, .unset, .unset, .unset] []) _ _ _
  have b2 := own_lim x1
  rw [hv_fn] at b2
  refine own_to (fun t k => XS.iload X0.here hx rfl (hb hby at_14) rfl k) ?_
  show own_Out p e below _ s₁ (mkF m 16 #[.val (.long x0), .second, .val (.long x1), .second, .val (.int x2), .val (.long x3), .second, .val (.long x4), .second, .val (.long fl), .second, .val (.long fn), .second, .unset, .unset, .unset, .unset, .unset, .unset, .unset, .unset, .unset, .unset, .unset, .unset, .unset, .unset] [(.int x2)]) _ _ _
  refine own_to (fun t k => XS.bipush X0.here hx rfl (hb hby at_16) k) ?_
  show own_Out p e below _ s₁ (mkF m 18 #[.val (.long x0), .second, .val (.long x1), .second, .val (.int x2), .val (.long x3), .second, .val (.long x4), .second, .val (.long fl), .second, .val (.long fn), .second, .unset, .unset, .unset, .unset, .unset, .unset, .unset, .unset, .unset, .unset, .unset, .unset, .unset, .unset] [(.int (15 : Int32)), (.int x2)]) _ _ _
  refine own_to (fun t k => XS.iand X0.here hx rfl (hb hby at_18) rfl k) ?_
  show own_Out p e below _ s₁ (mkF m 19 #[.val (.long x0), .second, .val (.long x1), .second, .val (.int x2), .val (.long x3), .second, .val (.long x4), .second, .val (.long fl), .second, .val (.long fn), .second, .unset, .unset, .unset, .unset, .unset, .unset, .unset, .unset, .unset, .unset, .unset, .unset, .unset, .unset] [(.int (x2 &&& (15 : Int32)))]) _ _ _
  refine own_to (fun t k => XS.iconst X0.here hx rfl (hb hby at_19) k) ?_
  show own_Out p e below _ s₁ (mkF m 20 #[.val (.long x0), .second, .val (.long x1), .second, .val (.int x2), .val (.long x3), .second, .val (.long x4), .second, .val (.long fl), .second, .val (.long fn), .second, .unset, .unset, .unset, .unset, .unset, .unset, .unset, .unset, .unset, .unset, .unset, .unset, .unset, .unset] [(.int (1 : Int32)), (.int (x2 &&& (15 : Int32)))]) _ _ _
  refine own_to (fun t k => XS.iadd X0.here hx rfl (hb hby at_20) rfl k) ?_
  show own_Out p e below _ s₁ (mkF m 21 #[.val (.long x0), .second, .val (.long x1), .second, .val (.int x2), .val (.long x3), .second, .val (.long x4), .second, .val (.long fl), .second, .val (.long fn), .second, .unset, .unset, .unset, .unset, .unset, .unset, .unset, .unset, .unset, .unset, .unset, .unset, .unset, .unset] [(.int ((x2 &&& (15 : Int32)) + (1 : Int32)))]) _ _ _
  refine own_to (fun t k => XS.istore X0.here hx rfl (hb hby at_21) rfl (l' := #[.val (.long x0), .second, .val (.long x1), .second, .val (.int x2), .val (.long x3), .second, .val (.long x4), .second, .val (.long fl), .second, .val (.long fn), .second, .val (.int ((x2 &&& (15 : Int32)) + (1 : Int32))), .unset, .unset, .unset, .unset, .unset, .unset, .unset, .unset, .unset, .unset, .unset, .unset, .unset]) rfl k) ?_
  show own_Out p e below _ s₁ (mkF m 23 #[.val (.long x0), .second, .val (.long x1), .second, .val (.int x2), .val (.long x3), .second, .val (.long x4), .second, .val (.long fl), .second, .val (.long fn), .second, .val (.int ((x2 &&& (15 : Int32)) + (1 : Int32))), .unset, .unset, .unset, .unset, .unset, .unset, .unset, .unset, .unset, .unset, .unset, .unset, .unset] []) _ _ _
  generalize hv_fd : ((x2 &&& (15 : Int32)) + (1 : Int32)) = fd
  show own_Out p e below _ s₁ (mkF m 23 #[.val (.long x0), .second, .val (.long x1), .second, .val (.int x2), .val (.long x3), .second, .val (.long x4), .second, .val (.long fl), .second, .val (.long fn), .second, .val (.int fd), .unset, .unset, .unset, .unset, .unset, .unset, .unset, .unset, .unset, .unset, .unset, .unset, .unset] []) _ _ _
  have b3 := own_dv x2
  rw [hv_fd] at b3
  refine own_to (fun t k => XS.lload X0.here hx rfl (hb hby at_23) rfl k) ?_
  show own_Out p e below _ s₁ (mkF m 25 #[.val (.long x0), .second, .val (.long x1), .second, .val (.int x2), .val (.long x3), .second, .val (.long x4), .second, .val (.long fl), .second, .val (.long fn), .second, .val (.int fd), .unset, .unset, .unset, .unset, .unset, .unset, .unset, .unset, .unset, .unset, .unset, .unset, .unset] [(.long x4)]) _ _ _
  refine own_to (fun t k => X0.ldc2J hx hown (mvT hZ (hw _ (List.mem_of_getElem? (i := 1) rfl))) rfl (hb hby at_25) k) ?_
  show own_Out p e below _ s₁ (mkF m 28 #[.val (.long x0), .second, .val (.long x1), .second, .val (.int x2), .val (.long x3), .second, .val (.long x4), .second, .val (.long fl), .second, .val (.long fn), .second, .val (.int fd), .unset, .unset, .unset, .unset, .unset, .unset, .unset, .unset, .unset, .unset, .unset, .unset, .unset] [(.long (1099511627775 : Int64)), (.long x4)]) _ _ _
  refine own_to (fun t k => XS.land X0.here hx rfl (hb hby at_28) rfl k) ?_
  show own_Out p e below _ s₁ (mkF m 29 #[.val (.long x0), .second, .val (.long x1), .second, .val (.int x2), .val (.long x3), .second, .val (.long x4), .second, .val (.long fl), .second, .val (.long fn), .second, .val (.int fd), .unset, .unset, .unset, .unset, .unset, .unset, .unset, .unset, .unset, .unset, .unset, .unset, .unset] [(.long (x4 &&& (1099511627775 : Int64)))]) _ _ _
  refine own_to (fun t k => XS.lstore X0.here hx rfl (hb hby at_29) rfl (l' := #[.val (.long x0), .second, .val (.long x1), .second, .val (.int x2), .val (.long x3), .second, .val (.long x4), .second, .val (.long fl), .second, .val (.long fn), .second, .val (.int fd), .val (.long (x4 &&& (1099511627775 : Int64))), .second, .unset, .unset, .unset, .unset, .unset, .unset, .unset, .unset, .unset, .unset, .unset]) rfl k) ?_
  show own_Out p e below _ s₁ (mkF m 31 #[.val (.long x0), .second, .val (.long x1), .second, .val (.int x2), .val (.long x3), .second, .val (.long x4), .second, .val (.long fl), .second, .val (.long fn), .second, .val (.int fd), .val (.long (x4 &&& (1099511627775 : Int64))), .second, .unset, .unset, .unset, .unset, .unset, .unset, .unset, .unset, .unset, .unset, .unset] []) _ _ _
  generalize hv_fs : (x4 &&& (1099511627775 : Int64)) = fs
  show own_Out p e below _ s₁ (mkF m 31 #[.val (.long x0), .second, .val (.long x1), .second, .val (.int x2), .val (.long x3), .second, .val (.long x4), .second, .val (.long fl), .second, .val (.long fn), .second, .val (.int fd), .val (.long fs), .second, .unset, .unset, .unset, .unset, .unset, .unset, .unset, .unset, .unset, .unset, .unset] []) _ _ _
  have b4 := own_sp x4
  rw [hv_fs] at b4
  refine own_to (fun t k => XS.lload X0.here hx rfl (hb hby at_31) rfl k) ?_
  show own_Out p e below _ s₁ (mkF m 33 #[.val (.long x0), .second, .val (.long x1), .second, .val (.int x2), .val (.long x3), .second, .val (.long x4), .second, .val (.long fl), .second, .val (.long fn), .second, .val (.int fd), .val (.long fs), .second, .unset, .unset, .unset, .unset, .unset, .unset, .unset, .unset, .unset, .unset, .unset] [(.long x3)]) _ _ _
  refine own_to (fun t k => XS.lload X0.here hx rfl (hb hby at_33) rfl k) ?_
  show own_Out p e below _ s₁ (mkF m 35 #[.val (.long x0), .second, .val (.long x1), .second, .val (.int x2), .val (.long x3), .second, .val (.long x4), .second, .val (.long fl), .second, .val (.long fn), .second, .val (.int fd), .val (.long fs), .second, .unset, .unset, .unset, .unset, .unset, .unset, .unset, .unset, .unset, .unset, .unset] [(.long fs), (.long x3)]) _ _ _
  refine own_to (fun t k => XS.ladd X0.here hx rfl (hb hby at_35) rfl k) ?_
  show own_Out p e below _ s₁ (mkF m 36 #[.val (.long x0), .second, .val (.long x1), .second, .val (.int x2), .val (.long x3), .second, .val (.long x4), .second, .val (.long fl), .second, .val (.long fn), .second, .val (.int fd), .val (.long fs), .second, .unset, .unset, .unset, .unset, .unset, .unset, .unset, .unset, .unset, .unset, .unset] [(.long (x3 + fs))]) _ _ _
  refine own_to (fun t k => XS.lstore X0.here hx rfl (hb hby at_36) rfl (l' := #[.val (.long x0), .second, .val (.long x1), .second, .val (.int x2), .val (.long x3), .second, .val (.long x4), .second, .val (.long fl), .second, .val (.long fn), .second, .val (.int fd), .val (.long fs), .second, .val (.long (x3 + fs)), .second, .unset, .unset, .unset, .unset, .unset, .unset, .unset, .unset, .unset]) rfl k) ?_
  show own_Out p e below _ s₁ (mkF m 38 #[.val (.long x0), .second, .val (.long x1), .second, .val (.int x2), .val (.long x3), .second, .val (.long x4), .second, .val (.long fl), .second, .val (.long fn), .second, .val (.int fd), .val (.long fs), .second, .val (.long (x3 + fs)), .second, .unset, .unset, .unset, .unset, .unset, .unset, .unset, .unset, .unset] []) _ _ _
  refine own_new X0 hx hZ hown (hw _ (List.mem_of_getElem? (i := 2) rfl)) (hw _ (List.mem_of_getElem? (i := 3) rfl)) (hw _ (List.mem_of_getElem? (i := 4) rfl)) e0 rfl (hb hby at_38) (by decide) (by decide) fun T1 hh1 ob1 gb1 X1 e1 E1 A1 D1 => ?_
  have g_ob1 : n0 ≤ ob1 := Nat.le_trans Z0 (Nat.le_of_eq gb1.symm)
  have Z0 := Nat.le_trans Z0 E1.1
  have E_ob1 := A1
  have F_ob1_limitNanos : Fld Z hh1 ob1 "com/example/mingle/mingle/PauseBudget" "limitNanos" "J" (.long (0 : Int64)) := D1 (Or.inl (hw _ (List.mem_of_getElem? (i := 12) rfl))) (ty := .long) (by decide)
  have F_ob1_shareDivisor : Fld Z hh1 ob1 "com/example/mingle/mingle/PauseBudget" "shareDivisor" "I" (.int (0 : Int32)) := D1 (Or.inr (hw _ (List.mem_of_getElem? (i := 14) rfl))) (ty := .int) (by decide)
  have F_ob1_banked : Fld Z hh1 ob1 "com/example/mingle/mingle/PauseBudget" "banked" "J" (.long (0 : Int64)) := D1 (Or.inl (hw _ (List.mem_of_getElem? (i := 16) rfl))) (ty := .long) (by decide)
  have F_ob1_updated : Fld Z hh1 ob1 "com/example/mingle/mingle/PauseBudget" "updated" "J" (.long (0 : Int64)) := D1 (Or.inl (hw _ (List.mem_of_getElem? (i := 18) rfl))) (ty := .long) (by decide)
  show own_Out p e below _ T1 (mkF m 41 #[.val (.long x0), .second, .val (.long x1), .second, .val (.int x2), .val (.long x3), .second, .val (.long x4), .second, .val (.long fl), .second, .val (.long fn), .second, .val (.int fd), .val (.long fs), .second, .val (.long (x3 + fs)), .second, .unset, .unset, .unset, .unset, .unset, .unset, .unset, .unset, .unset] [(.ref ob1)]) _ _ _
  refine own_to (fun t k => XS.dup X1.here hx rfl (hb hby at_41) rfl rfl k) ?_
  show own_Out p e below _ T1 (mkF m 42 #[.val (.long x0), .second, .val (.long x1), .second, .val (.int x2), .val (.long x3), .second, .val (.long x4), .second, .val (.long fl), .second, .val (.long fn), .second, .val (.int fd), .val (.long fs), .second, .val (.long (x3 + fs)), .second, .unset, .unset, .unset, .unset, .unset, .unset, .unset, .unset, .unset] [(.ref ob1), (.ref ob1)]) _ _ _
  refine own_to (fun t k => XS.lload X1.here hx rfl (hb hby at_42) rfl k) ?_
  show own_Out p e below _ T1 (mkF m 44 #[.val (.long x0), .second, .val (.long x1), .second, .val (.int x2), .val (.long x3), .second, .val (.long x4), .second, .val (.long fl), .second, .val (.long fn), .second, .val (.int fd), .val (.long fs), .second, .val (.long (x3 + fs)), .second, .unset, .unset, .unset, .unset, .unset, .unset, .unset, .unset, .unset] [(.long fl), (.ref ob1), (.ref ob1)]) _ _ _
  refine own_to (fun t k => XS.iload X1.here hx rfl (hb hby at_44) rfl k) ?_
  show own_Out p e below _ T1 (mkF m 46 #[.val (.long x0), .second, .val (.long x1), .second, .val (.int x2), .val (.long x3), .second, .val (.long x4), .second, .val (.long fl), .second, .val (.long fn), .second, .val (.int fd), .val (.long fs), .second, .val (.long (x3 + fs)), .second, .unset, .unset, .unset, .unset, .unset, .unset, .unset, .unset, .unset] [(.int fd), (.long fl), (.ref ob1), (.ref ob1)]) _ _ _
  refine own_to (fun t k => XS.lload X1.here hx rfl (hb hby at_46) rfl k) ?_
  show own_Out p e below _ T1 (mkF m 48 #[.val (.long x0), .second, .val (.long x1), .second, .val (.int x2), .val (.long x3), .second, .val (.long x4), .second, .val (.long fl), .second, .val (.long fn), .second, .val (.int fd), .val (.long fs), .second, .val (.long (x3 + fs)), .second, .unset, .unset, .unset, .unset, .unset, .unset, .unset, .unset, .unset] [(.long x3), (.int fd), (.long fl), (.ref ob1), (.ref ob1)]) _ _ _
  refine own_callC X1 hx hZ hown (a := ob1) (argsL := [(.long fl), (.int fd), (.long x3)]) (rest := [(.ref ob1)]) rfl (hw _ (List.mem_of_getElem? (i := 5) rfl)) (hw _ (List.mem_of_getElem? (i := 6) rfl)) (hw _ (List.mem_of_getElem? (i := 4) rfl)) (hw _ (List.mem_of_getElem? (i := 7) rfl)) (by decide) (rm1 l Z a0 hw ob1 fl fd x3 hh1 n0 Z0 E_ob1 F_ob1_limitNanos F_ob1_shareDivisor F_ob1_banked F_ob1_updated g_ob1) (by decide) (by decide) e1 rfl (by rw [hml]; rfl) (lenOf pd_2 rfl) rfl (W := 1) (by show 2 * 0 + _ ≤ _; exact Nat.le_of_eq rfl) (hb hby at_48) (by decide) (by decide) fun v2 T2 hh2 L2 X2 e2 hQ2 => ?_
  obtain ⟨rfl, NL2, KK2, P2_0, P2_1, P2_2, P2_3⟩ := hQ2
  have E_ob1 := E_ob1.keep KK2
  have F_ob1_limitNanos := P2_0
  have F_ob1_shareDivisor := P2_1
  have F_ob1_banked := P2_2
  have F_ob1_updated := P2_3
  have Z0 := Nat.le_trans Z0 KK2.1
  have N2 := Fr.app N0 NL2
  show own_Out p e below _ T2 (mkF m 51 #[.val (.long x0), .second, .val (.long x1), .second, .val (.int x2), .val (.long x3), .second, .val (.long x4), .second, .val (.long fl), .second, .val (.long fn), .second, .val (.int fd), .val (.long fs), .second, .val (.long (x3 + fs)), .second, .unset, .unset, .unset, .unset, .unset, .unset, .unset, .unset, .unset] [(.ref ob1)]) _ _ _
  refine own_to (fun t k => XS.astore X2.here hx rfl (hb hby at_51) rfl rfl (l' := #[.val (.long x0), .second, .val (.long x1), .second, .val (.int x2), .val (.long x3), .second, .val (.long x4), .second, .val (.long fl), .second, .val (.long fn), .second, .val (.int fd), .val (.long fs), .second, .val (.long (x3 + fs)), .second, .val (.ref ob1), .unset, .unset, .unset, .unset, .unset, .unset, .unset, .unset]) rfl k) ?_
  show own_Out p e below _ T2 (mkF m 53 #[.val (.long x0), .second, .val (.long x1), .second, .val (.int x2), .val (.long x3), .second, .val (.long x4), .second, .val (.long fl), .second, .val (.long fn), .second, .val (.int fd), .val (.long fs), .second, .val (.long (x3 + fs)), .second, .val (.ref ob1), .unset, .unset, .unset, .unset, .unset, .unset, .unset, .unset] []) _ _ _
  refine own_to (fun t k => XS.aload X2.here hx rfl (hb hby at_53) rfl rfl k) ?_
  show own_Out p e below _ T2 (mkF m 55 #[.val (.long x0), .second, .val (.long x1), .second, .val (.int x2), .val (.long x3), .second, .val (.long x4), .second, .val (.long fl), .second, .val (.long fn), .second, .val (.int fd), .val (.long fs), .second, .val (.long (x3 + fs)), .second, .val (.ref ob1), .unset, .unset, .unset, .unset, .unset, .unset, .unset, .unset] [(.ref ob1)]) _ _ _
  refine own_to (fun t k => XS.lload X2.here hx rfl (hb hby at_55) rfl k) ?_
  show own_Out p e below _ T2 (mkF m 57 #[.val (.long x0), .second, .val (.long x1), .second, .val (.int x2), .val (.long x3), .second, .val (.long x4), .second, .val (.long fl), .second, .val (.long fn), .second, .val (.int fd), .val (.long fs), .second, .val (.long (x3 + fs)), .second, .val (.ref ob1), .unset, .unset, .unset, .unset, .unset, .unset, .unset, .unset] [(.long x3), (.ref ob1)]) _ _ _
  refine own_to (fun t k => XS.lload X2.here hx rfl (hb hby at_57) rfl k) ?_
  show own_Out p e below _ T2 (mkF m 59 #[.val (.long x0), .second, .val (.long x1), .second, .val (.int x2), .val (.long x3), .second, .val (.long x4), .second, .val (.long fl), .second, .val (.long fn), .second, .val (.int fd), .val (.long fs), .second, .val (.long (x3 + fs)), .second, .val (.ref ob1), .unset, .unset, .unset, .unset, .unset, .unset, .unset, .unset] [(.long (x3 + fs)), (.long x3), (.ref ob1)]) _ _ _
  refine own_callV X2 hx hZ hown (a := ob1) (argsL := [(.long x3), (.long (x3 + fs))]) (rest := []) (hw _ (List.mem_of_getElem? (i := 19) rfl)) (hw _ (List.mem_of_getElem? (i := 20) rfl)) (hw _ (List.mem_of_getElem? (i := 22) rfl)) (hw _ (List.mem_of_getElem? (i := 21) rfl)) (hw _ (List.mem_of_getElem? (i := 4) rfl)) (hw _ (List.mem_of_getElem? (i := 23) rfl)) (by decide) (rm3 l Z a0 hw ob1 x3 (x3 + fs) fl fd fl x3 hh2 n0 Z0 E_ob1 F_ob1_limitNanos F_ob1_shareDivisor F_ob1_banked F_ob1_updated g_ob1 (own_dn fd b3)) (by decide) (by decide) e2 E_ob1 rfl (by rw [hml]; rfl) (lenOf pd_3 rfl) rfl (W := 0) (by show 2 * 0 + _ ≤ _; exact Nat.le_of_eq rfl) (hb hby at_59) (by decide) (by decide) fun v3 T3 hh3 L3 X3 e3 hQ3 => ?_
  obtain ⟨rfl, NL3, KK3, P3_0, P3_1, P3_2, P3_3⟩ := hQ3
  have E_ob1 := E_ob1.keep KK3
  have F_ob1_limitNanos := P3_0
  have F_ob1_shareDivisor := P3_1
  have F_ob1_banked := P3_2
  have F_ob1_updated := P3_3
  have Z0 := Nat.le_trans Z0 KK3.1
  have N3 := Fr.app N2 NL3
  show own_Out p e below _ T3 (mkF m 62 #[.val (.long x0), .second, .val (.long x1), .second, .val (.int x2), .val (.long x3), .second, .val (.long x4), .second, .val (.long fl), .second, .val (.long fn), .second, .val (.int fd), .val (.long fs), .second, .val (.long (x3 + fs)), .second, .val (.ref ob1), .unset, .unset, .unset, .unset, .unset, .unset, .unset, .unset] []) _ _ _
  rw [own_s1 fl x3 fs fd b1 b3 b4] at F_ob1_banked
  refine own_to (fun t k => XS.aload X3.here hx rfl (hb hby at_62) rfl rfl k) ?_
  show own_Out p e below _ T3 (mkF m 64 #[.val (.long x0), .second, .val (.long x1), .second, .val (.int x2), .val (.long x3), .second, .val (.long x4), .second, .val (.long fl), .second, .val (.long fn), .second, .val (.int fd), .val (.long fs), .second, .val (.long (x3 + fs)), .second, .val (.ref ob1), .unset, .unset, .unset, .unset, .unset, .unset, .unset, .unset] [(.ref ob1)]) _ _ _
  refine own_to (fun t k => XS.lload X3.here hx rfl (hb hby at_64) rfl k) ?_
  show own_Out p e below _ T3 (mkF m 66 #[.val (.long x0), .second, .val (.long x1), .second, .val (.int x2), .val (.long x3), .second, .val (.long x4), .second, .val (.long fl), .second, .val (.long fn), .second, .val (.int fd), .val (.long fs), .second, .val (.long (x3 + fs)), .second, .val (.ref ob1), .unset, .unset, .unset, .unset, .unset, .unset, .unset, .unset] [(.long fn), (.ref ob1)]) _ _ _
  refine own_callV X3 hx hZ hown (a := ob1) (argsL := [(.long fn)]) (rest := []) (hw _ (List.mem_of_getElem? (i := 32) rfl)) (hw _ (List.mem_of_getElem? (i := 33) rfl)) (hw _ (List.mem_of_getElem? (i := 35) rfl)) (hw _ (List.mem_of_getElem? (i := 34) rfl)) (hw _ (List.mem_of_getElem? (i := 4) rfl)) (hw _ (List.mem_of_getElem? (i := 36) rfl)) (by decide) (rm6 l Z a0 hw ob1 fn fl fd (fl - fs) (x3 + fs) hh3 n0 Z0 E_ob1 F_ob1_limitNanos F_ob1_shareDivisor F_ob1_banked F_ob1_updated g_ob1) (by decide) (by decide) e3 E_ob1 rfl (by rw [hml]; rfl) (lenOf pd_1 rfl) rfl (W := 0) (by show 2 * 0 + _ ≤ _; exact Nat.le_of_eq rfl) (hb hby at_66) (by decide) (by decide) fun v4 T4 hh4 L4 X4 e4 hQ4 => ?_
  obtain ⟨rfl, NL4, KK4, P4_0, P4_1, P4_2, P4_3⟩ := hQ4
  have E_ob1 := E_ob1.keep KK4
  have F_ob1_limitNanos := P4_0
  have F_ob1_shareDivisor := P4_1
  have F_ob1_banked := P4_2
  have F_ob1_updated := P4_3
  have Z0 := Nat.le_trans Z0 KK4.1
  have N4 := Fr.app N3 NL4
  show own_Out p e below _ T4 (mkF m 69 #[.val (.long x0), .second, .val (.long x1), .second, .val (.int x2), .val (.long x3), .second, .val (.long x4), .second, .val (.long fl), .second, .val (.long fn), .second, .val (.int fd), .val (.long fs), .second, .val (.long (x3 + fs)), .second, .val (.ref ob1), .unset, .unset, .unset, .unset, .unset, .unset, .unset, .unset] []) _ _ _
  by_cases hcR : fl < fn
  · rw [if_pos hcR] at F_ob1_limitNanos
    rw [if_pos hcR] at F_ob1_banked
    rw [own_up fl fn fs] at F_ob1_banked
    show own_Out p e below _ T4 (mkF m 69 #[.val (.long x0), .second, .val (.long x1), .second, .val (.int x2), .val (.long x3), .second, .val (.long x4), .second, .val (.long fl), .second, .val (.long fn), .second, .val (.int fd), .val (.long fs), .second, .val (.long (x3 + fs)), .second, .val (.ref ob1), .unset, .unset, .unset, .unset, .unset, .unset, .unset, .unset] []) _ _ _
    refine own_to (fun t k => XS.aload X4.here hx rfl (hb hby at_69) rfl rfl k) ?_
    show own_Out p e below _ T4 (mkF m 71 #[.val (.long x0), .second, .val (.long x1), .second, .val (.int x2), .val (.long x3), .second, .val (.long x4), .second, .val (.long fl), .second, .val (.long fn), .second, .val (.int fd), .val (.long fs), .second, .val (.long (x3 + fs)), .second, .val (.ref ob1), .unset, .unset, .unset, .unset, .unset, .unset, .unset, .unset] [(.ref ob1)]) _ _ _
    refine own_to (fun t k => XS.lload X4.here hx rfl (hb hby at_71) rfl k) ?_
    show own_Out p e below _ T4 (mkF m 73 #[.val (.long x0), .second, .val (.long x1), .second, .val (.int x2), .val (.long x3), .second, .val (.long x4), .second, .val (.long fl), .second, .val (.long fn), .second, .val (.int fd), .val (.long fs), .second, .val (.long (x3 + fs)), .second, .val (.ref ob1), .unset, .unset, .unset, .unset, .unset, .unset, .unset, .unset] [(.long (x3 + fs)), (.ref ob1)]) _ _ _
    refine own_callV X4 hx hZ hown (a := ob1) (argsL := [(.long (x3 + fs))]) (rest := []) (hw _ (List.mem_of_getElem? (i := 37) rfl)) (hw _ (List.mem_of_getElem? (i := 38) rfl)) (hw _ (List.mem_of_getElem? (i := 40) rfl)) (hw _ (List.mem_of_getElem? (i := 39) rfl)) (hw _ (List.mem_of_getElem? (i := 4) rfl)) (hw _ (List.mem_of_getElem? (i := 41) rfl)) (by decide) (rm7 l Z a0 hw ob1 (x3 + fs) fn fd (fn - fs) (x3 + fs) hh4 n0 Z0 E_ob1 F_ob1_limitNanos F_ob1_shareDivisor F_ob1_banked F_ob1_updated g_ob1 (own_dn fd b3)) (by decide) (by decide) e4 E_ob1 rfl (by rw [hml]; rfl) (lenOf pd_4 rfl) rfl (W := 0) (by show 2 * 0 + _ ≤ _; exact Nat.le_of_eq rfl) (hb hby at_73) (by decide) (by decide) fun v5 T5 hh5 L5 X5 e5 hQ5 => ?_
    obtain ⟨rfl, NL5, KK5, P5_0, P5_1, P5_2, P5_3⟩ := hQ5
    have E_ob1 := E_ob1.keep KK5
    have F_ob1_limitNanos := P5_0
    have F_ob1_shareDivisor := P5_1
    have F_ob1_banked := P5_2
    have F_ob1_updated := P5_3
    have Z0 := Nat.le_trans Z0 KK5.1
    have N5 := Fr.app N4 NL5
    show own_Out p e below _ T5 (mkF m 76 #[.val (.long x0), .second, .val (.long x1), .second, .val (.int x2), .val (.long x3), .second, .val (.long x4), .second, .val (.long fl), .second, .val (.long fn), .second, .val (.int fd), .val (.long fs), .second, .val (.long (x3 + fs)), .second, .val (.ref ob1), .unset, .unset, .unset, .unset, .unset, .unset, .unset, .unset] [(.long (R5 fn ((fn - fs) + (((x3 + fs) - (x3 + fs)) / (fd.toInt64)))))]) _ _ _
    rw [own_s2 fn fs (x3 + fs) fd b2 b3 b4] at F_ob1_banked
    rw [own_s2 fn fs (x3 + fs) fd b2 b3 b4]
    show own_Out p e below _ T5 (mkF m 76 #[.val (.long x0), .second, .val (.long x1), .second, .val (.int x2), .val (.long x3), .second, .val (.long x4), .second, .val (.long fl), .second, .val (.long fn), .second, .val (.int fd), .val (.long fs), .second, .val (.long (x3 + fs)), .second, .val (.ref ob1), .unset, .unset, .unset, .unset, .unset, .unset, .unset, .unset] [(.long (fn - fs))]) _ _ _
    refine own_to (fun t k => XS.lstore X5.here hx rfl (hb hby at_76) rfl (l' := #[.val (.long x0), .second, .val (.long x1), .second, .val (.int x2), .val (.long x3), .second, .val (.long x4), .second, .val (.long fl), .second, .val (.long fn), .second, .val (.int fd), .val (.long fs), .second, .val (.long (x3 + fs)), .second, .val (.ref ob1), .val (.long (fn - fs)), .second, .unset, .unset, .unset, .unset, .unset, .unset]) rfl k) ?_
    show own_Out p e below _ T5 (mkF m 78 #[.val (.long x0), .second, .val (.long x1), .second, .val (.int x2), .val (.long x3), .second, .val (.long x4), .second, .val (.long fl), .second, .val (.long fn), .second, .val (.int fd), .val (.long fs), .second, .val (.long (x3 + fs)), .second, .val (.ref ob1), .val (.long (fn - fs)), .second, .unset, .unset, .unset, .unset, .unset, .unset] []) _ _ _
    refine own_to (fun t k => XS.iload X5.here hx rfl (hb hby at_78) rfl k) ?_
    show own_Out p e below _ T5 (mkF m 80 #[.val (.long x0), .second, .val (.long x1), .second, .val (.int x2), .val (.long x3), .second, .val (.long x4), .second, .val (.long fl), .second, .val (.long fn), .second, .val (.int fd), .val (.long fs), .second, .val (.long (x3 + fs)), .second, .val (.ref ob1), .val (.long (fn - fs)), .second, .unset, .unset, .unset, .unset, .unset, .unset] [(.int fd)]) _ _ _
    refine own_to (fun t k => XS.i2l X5.here hx rfl (hb hby at_80) rfl k) ?_
    show own_Out p e below _ T5 (mkF m 81 #[.val (.long x0), .second, .val (.long x1), .second, .val (.int x2), .val (.long x3), .second, .val (.long x4), .second, .val (.long fl), .second, .val (.long fn), .second, .val (.int fd), .val (.long fs), .second, .val (.long (x3 + fs)), .second, .val (.ref ob1), .val (.long (fn - fs)), .second, .unset, .unset, .unset, .unset, .unset, .unset] [(.long (fd.toInt64))]) _ _ _
    refine own_to (fun t k => XS.bipush X5.here hx rfl (hb hby at_81) k) ?_
    show own_Out p e below _ T5 (mkF m 83 #[.val (.long x0), .second, .val (.long x1), .second, .val (.int x2), .val (.long x3), .second, .val (.long x4), .second, .val (.long fl), .second, .val (.long fn), .second, .val (.int fd), .val (.long fs), .second, .val (.long (x3 + fs)), .second, .val (.ref ob1), .val (.long (fn - fs)), .second, .unset, .unset, .unset, .unset, .unset, .unset] [(.int (41 : Int32)), (.long (fd.toInt64))]) _ _ _
    refine own_to (fun t k => XS.lshl X5.here hx rfl (hb hby at_83) rfl k) ?_
    show own_Out p e below _ T5 (mkF m 84 #[.val (.long x0), .second, .val (.long x1), .second, .val (.int x2), .val (.long x3), .second, .val (.long x4), .second, .val (.long fl), .second, .val (.long fn), .second, .val (.int fd), .val (.long fs), .second, .val (.long (x3 + fs)), .second, .val (.ref ob1), .val (.long (fn - fs)), .second, .unset, .unset, .unset, .unset, .unset, .unset] [(.long ((fd.toInt64) <<< ((41 : Int32) &&& 0x3f).toInt64))]) _ _ _
    refine own_to (fun t k => XS.lstore X5.here hx rfl (hb hby at_84) rfl (l' := #[.val (.long x0), .second, .val (.long x1), .second, .val (.int x2), .val (.long x3), .second, .val (.long x4), .second, .val (.long fl), .second, .val (.long fn), .second, .val (.int fd), .val (.long fs), .second, .val (.long (x3 + fs)), .second, .val (.ref ob1), .val (.long (fn - fs)), .second, .val (.long ((fd.toInt64) <<< ((41 : Int32) &&& 0x3f).toInt64)), .second, .unset, .unset, .unset, .unset]) rfl k) ?_
    show own_Out p e below _ T5 (mkF m 86 #[.val (.long x0), .second, .val (.long x1), .second, .val (.int x2), .val (.long x3), .second, .val (.long x4), .second, .val (.long fl), .second, .val (.long fn), .second, .val (.int fd), .val (.long fs), .second, .val (.long (x3 + fs)), .second, .val (.ref ob1), .val (.long (fn - fs)), .second, .val (.long ((fd.toInt64) <<< ((41 : Int32) &&& 0x3f).toInt64)), .second, .unset, .unset, .unset, .unset] []) _ _ _
    refine own_to (fun t k => XS.aload X5.here hx rfl (hb hby at_86) rfl rfl k) ?_
    show own_Out p e below _ T5 (mkF m 88 #[.val (.long x0), .second, .val (.long x1), .second, .val (.int x2), .val (.long x3), .second, .val (.long x4), .second, .val (.long fl), .second, .val (.long fn), .second, .val (.int fd), .val (.long fs), .second, .val (.long (x3 + fs)), .second, .val (.ref ob1), .val (.long (fn - fs)), .second, .val (.long ((fd.toInt64) <<< ((41 : Int32) &&& 0x3f).toInt64)), .second, .unset, .unset, .unset, .unset] [(.ref ob1)]) _ _ _
    refine own_to (fun t k => XS.lload X5.here hx rfl (hb hby at_88) rfl k) ?_
    show own_Out p e below _ T5 (mkF m 90 #[.val (.long x0), .second, .val (.long x1), .second, .val (.int x2), .val (.long x3), .second, .val (.long x4), .second, .val (.long fl), .second, .val (.long fn), .second, .val (.int fd), .val (.long fs), .second, .val (.long (x3 + fs)), .second, .val (.ref ob1), .val (.long (fn - fs)), .second, .val (.long ((fd.toInt64) <<< ((41 : Int32) &&& 0x3f).toInt64)), .second, .unset, .unset, .unset, .unset] [(.long (x3 + fs)), (.ref ob1)]) _ _ _
    refine own_to (fun t k => XS.lload X5.here hx rfl (hb hby at_90) rfl k) ?_
    show own_Out p e below _ T5 (mkF m 92 #[.val (.long x0), .second, .val (.long x1), .second, .val (.int x2), .val (.long x3), .second, .val (.long x4), .second, .val (.long fl), .second, .val (.long fn), .second, .val (.int fd), .val (.long fs), .second, .val (.long (x3 + fs)), .second, .val (.ref ob1), .val (.long (fn - fs)), .second, .val (.long ((fd.toInt64) <<< ((41 : Int32) &&& 0x3f).toInt64)), .second, .unset, .unset, .unset, .unset] [(.long ((fd.toInt64) <<< ((41 : Int32) &&& 0x3f).toInt64)), (.long (x3 + fs)), (.ref ob1)]) _ _ _
    refine own_to (fun t k => XS.ladd X5.here hx rfl (hb hby at_92) rfl k) ?_
    show own_Out p e below _ T5 (mkF m 93 #[.val (.long x0), .second, .val (.long x1), .second, .val (.int x2), .val (.long x3), .second, .val (.long x4), .second, .val (.long fl), .second, .val (.long fn), .second, .val (.int fd), .val (.long fs), .second, .val (.long (x3 + fs)), .second, .val (.ref ob1), .val (.long (fn - fs)), .second, .val (.long ((fd.toInt64) <<< ((41 : Int32) &&& 0x3f).toInt64)), .second, .unset, .unset, .unset, .unset] [(.long ((x3 + fs) + ((fd.toInt64) <<< ((41 : Int32) &&& 0x3f).toInt64))), (.ref ob1)]) _ _ _
    refine own_callV X5 hx hZ hown (a := ob1) (argsL := [(.long ((x3 + fs) + ((fd.toInt64) <<< ((41 : Int32) &&& 0x3f).toInt64)))]) (rest := []) (hw _ (List.mem_of_getElem? (i := 37) rfl)) (hw _ (List.mem_of_getElem? (i := 38) rfl)) (hw _ (List.mem_of_getElem? (i := 40) rfl)) (hw _ (List.mem_of_getElem? (i := 39) rfl)) (hw _ (List.mem_of_getElem? (i := 4) rfl)) (hw _ (List.mem_of_getElem? (i := 41) rfl)) (by decide) (rm7 l Z a0 hw ob1 ((x3 + fs) + ((fd.toInt64) <<< ((41 : Int32) &&& 0x3f).toInt64)) fn fd (fn - fs) (x3 + fs) hh5 n0 Z0 E_ob1 F_ob1_limitNanos F_ob1_shareDivisor F_ob1_banked F_ob1_updated g_ob1 (own_dn fd b3)) (by decide) (by decide) e5 E_ob1 rfl (by rw [hml]; rfl) (lenOf pd_4 rfl) rfl (W := 0) (by show 2 * 0 + _ ≤ _; exact Nat.le_of_eq rfl) (hb hby at_93) (by decide) (by decide) fun v6 T6 hh6 L6 X6 e6 hQ6 => ?_
    obtain ⟨rfl, NL6, KK6, P6_0, P6_1, P6_2, P6_3⟩ := hQ6
    have E_ob1 := E_ob1.keep KK6
    have F_ob1_limitNanos := P6_0
    have F_ob1_shareDivisor := P6_1
    have F_ob1_banked := P6_2
    have F_ob1_updated := P6_3
    have Z0 := Nat.le_trans Z0 KK6.1
    have N6 := Fr.app N5 NL6
    show own_Out p e below _ T6 (mkF m 96 #[.val (.long x0), .second, .val (.long x1), .second, .val (.int x2), .val (.long x3), .second, .val (.long x4), .second, .val (.long fl), .second, .val (.long fn), .second, .val (.int fd), .val (.long fs), .second, .val (.long (x3 + fs)), .second, .val (.ref ob1), .val (.long (fn - fs)), .second, .val (.long ((fd.toInt64) <<< ((41 : Int32) &&& 0x3f).toInt64)), .second, .unset, .unset, .unset, .unset] [(.long (R5 fn ((fn - fs) + ((((x3 + fs) + ((fd.toInt64) <<< ((41 : Int32) &&& 0x3f).toInt64)) - (x3 + fs)) / (fd.toInt64)))))]) _ _ _
    rw [own_s3 fn fs (x3 + fs) fd b2 b3 b4] at F_ob1_banked
    rw [own_s3 fn fs (x3 + fs) fd b2 b3 b4]
    show own_Out p e below _ T6 (mkF m 96 #[.val (.long x0), .second, .val (.long x1), .second, .val (.int x2), .val (.long x3), .second, .val (.long x4), .second, .val (.long fl), .second, .val (.long fn), .second, .val (.int fd), .val (.long fs), .second, .val (.long (x3 + fs)), .second, .val (.ref ob1), .val (.long (fn - fs)), .second, .val (.long ((fd.toInt64) <<< ((41 : Int32) &&& 0x3f).toInt64)), .second, .unset, .unset, .unset, .unset] [(.long fn)]) _ _ _
    refine own_to (fun t k => XS.lstore X6.here hx rfl (hb hby at_96) rfl (l' := #[.val (.long x0), .second, .val (.long x1), .second, .val (.int x2), .val (.long x3), .second, .val (.long x4), .second, .val (.long fl), .second, .val (.long fn), .second, .val (.int fd), .val (.long fs), .second, .val (.long (x3 + fs)), .second, .val (.ref ob1), .val (.long (fn - fs)), .second, .val (.long ((fd.toInt64) <<< ((41 : Int32) &&& 0x3f).toInt64)), .second, .val (.long fn), .second, .unset, .unset]) rfl k) ?_
    show own_Out p e below _ T6 (mkF m 98 #[.val (.long x0), .second, .val (.long x1), .second, .val (.int x2), .val (.long x3), .second, .val (.long x4), .second, .val (.long fl), .second, .val (.long fn), .second, .val (.int fd), .val (.long fs), .second, .val (.long (x3 + fs)), .second, .val (.ref ob1), .val (.long (fn - fs)), .second, .val (.long ((fd.toInt64) <<< ((41 : Int32) &&& 0x3f).toInt64)), .second, .val (.long fn), .second, .unset, .unset] []) _ _ _
    refine own_to (fun t k => XS.lload X6.here hx rfl (hb hby at_98) rfl k) ?_
    show own_Out p e below _ T6 (mkF m 100 #[.val (.long x0), .second, .val (.long x1), .second, .val (.int x2), .val (.long x3), .second, .val (.long x4), .second, .val (.long fl), .second, .val (.long fn), .second, .val (.int fd), .val (.long fs), .second, .val (.long (x3 + fs)), .second, .val (.ref ob1), .val (.long (fn - fs)), .second, .val (.long ((fd.toInt64) <<< ((41 : Int32) &&& 0x3f).toInt64)), .second, .val (.long fn), .second, .unset, .unset] [(.long fl)]) _ _ _
    refine own_to (fun t k => XS.lstore X6.here hx rfl (hb hby at_100) rfl (l' := #[.val (.long x0), .second, .val (.long x1), .second, .val (.int x2), .val (.long x3), .second, .val (.long x4), .second, .val (.long fl), .second, .val (.long fn), .second, .val (.int fd), .val (.long fs), .second, .val (.long (x3 + fs)), .second, .val (.ref ob1), .val (.long (fn - fs)), .second, .val (.long ((fd.toInt64) <<< ((41 : Int32) &&& 0x3f).toInt64)), .second, .val (.long fn), .second, .val (.long fl), .second]) rfl k) ?_
    show own_Out p e below _ T6 (mkF m 102 #[.val (.long x0), .second, .val (.long x1), .second, .val (.int x2), .val (.long x3), .second, .val (.long x4), .second, .val (.long fl), .second, .val (.long fn), .second, .val (.int fd), .val (.long fs), .second, .val (.long (x3 + fs)), .second, .val (.ref ob1), .val (.long (fn - fs)), .second, .val (.long ((fd.toInt64) <<< ((41 : Int32) &&& 0x3f).toInt64)), .second, .val (.long fn), .second, .val (.long fl), .second] []) _ _ _
    refine own_to (fun t k => XS.lload X6.here hx rfl (hb hby at_102) rfl k) ?_
    show own_Out p e below _ T6 (mkF m 104 #[.val (.long x0), .second, .val (.long x1), .second, .val (.int x2), .val (.long x3), .second, .val (.long x4), .second, .val (.long fl), .second, .val (.long fn), .second, .val (.int fd), .val (.long fs), .second, .val (.long (x3 + fs)), .second, .val (.ref ob1), .val (.long (fn - fs)), .second, .val (.long ((fd.toInt64) <<< ((41 : Int32) &&& 0x3f).toInt64)), .second, .val (.long fn), .second, .val (.long fl), .second] [(.long fn)]) _ _ _
    refine own_to (fun t k => XS.lload X6.here hx rfl (hb hby at_104) rfl k) ?_
    show own_Out p e below _ T6 (mkF m 106 #[.val (.long x0), .second, .val (.long x1), .second, .val (.int x2), .val (.long x3), .second, .val (.long x4), .second, .val (.long fl), .second, .val (.long fn), .second, .val (.int fd), .val (.long fs), .second, .val (.long (x3 + fs)), .second, .val (.ref ob1), .val (.long (fn - fs)), .second, .val (.long ((fd.toInt64) <<< ((41 : Int32) &&& 0x3f).toInt64)), .second, .val (.long fn), .second, .val (.long fl), .second] [(.long fl), (.long fn)]) _ _ _
    refine own_to (fun t k => XS.lcmp X6.here hx rfl (hb hby at_106) rfl k) ?_
    show own_Out p e below _ T6 (mkF m 107 #[.val (.long x0), .second, .val (.long x1), .second, .val (.int x2), .val (.long x3), .second, .val (.long x4), .second, .val (.long fl), .second, .val (.long fn), .second, .val (.int fd), .val (.long fs), .second, .val (.long (x3 + fs)), .second, .val (.ref ob1), .val (.long (fn - fs)), .second, .val (.long ((fd.toInt64) <<< ((41 : Int32) &&& 0x3f).toInt64)), .second, .val (.long fn), .second, .val (.long fl), .second] [(.int (lcmpW fn fl))]) _ _ _
    refine own_to (fun t k => XS.ifNo X6.here hx rfl (hb hby at_107) rfl ((if0 _ _).trans (tlt ((lw_gt _ _).mpr hcR)).2.2.2) k) ?_
    show own_Out p e below _ T6 (mkF m 110 #[.val (.long x0), .second, .val (.long x1), .second, .val (.int x2), .val (.long x3), .second, .val (.long x4), .second, .val (.long fl), .second, .val (.long fn), .second, .val (.int fd), .val (.long fs), .second, .val (.long (x3 + fs)), .second, .val (.ref ob1), .val (.long (fn - fs)), .second, .val (.long ((fd.toInt64) <<< ((41 : Int32) &&& 0x3f).toInt64)), .second, .val (.long fn), .second, .val (.long fl), .second] []) _ _ _
    refine own_to (fun t k => XS.lload X6.here hx rfl (hb hby at_110) rfl k) ?_
    show own_Out p e below _ T6 (mkF m 112 #[.val (.long x0), .second, .val (.long x1), .second, .val (.int x2), .val (.long x3), .second, .val (.long x4), .second, .val (.long fl), .second, .val (.long fn), .second, .val (.int fd), .val (.long fs), .second, .val (.long (x3 + fs)), .second, .val (.ref ob1), .val (.long (fn - fs)), .second, .val (.long ((fd.toInt64) <<< ((41 : Int32) &&& 0x3f).toInt64)), .second, .val (.long fn), .second, .val (.long fl), .second] [(.long fn)]) _ _ _
    refine own_to (fun t k => XS.lstore X6.here hx rfl (hb hby at_112) rfl (l' := #[.val (.long x0), .second, .val (.long x1), .second, .val (.int x2), .val (.long x3), .second, .val (.long x4), .second, .val (.long fl), .second, .val (.long fn), .second, .val (.int fd), .val (.long fs), .second, .val (.long (x3 + fs)), .second, .val (.ref ob1), .val (.long (fn - fs)), .second, .val (.long ((fd.toInt64) <<< ((41 : Int32) &&& 0x3f).toInt64)), .second, .val (.long fn), .second, .val (.long fn), .second]) rfl k) ?_
    show own_Out p e below _ T6 (mkF m 114 #[.val (.long x0), .second, .val (.long x1), .second, .val (.int x2), .val (.long x3), .second, .val (.long x4), .second, .val (.long fl), .second, .val (.long fn), .second, .val (.int fd), .val (.long fs), .second, .val (.long (x3 + fs)), .second, .val (.ref ob1), .val (.long (fn - fs)), .second, .val (.long ((fd.toInt64) <<< ((41 : Int32) &&& 0x3f).toInt64)), .second, .val (.long fn), .second, .val (.long fn), .second] []) _ _ _
    refine own_to (fun t k => XS.lload X6.here hx rfl (hb hby at_114) rfl k) ?_
    show own_Out p e below _ T6 (mkF m 116 #[.val (.long x0), .second, .val (.long x1), .second, .val (.int x2), .val (.long x3), .second, .val (.long x4), .second, .val (.long fl), .second, .val (.long fn), .second, .val (.int fd), .val (.long fs), .second, .val (.long (x3 + fs)), .second, .val (.ref ob1), .val (.long (fn - fs)), .second, .val (.long ((fd.toInt64) <<< ((41 : Int32) &&& 0x3f).toInt64)), .second, .val (.long fn), .second, .val (.long fn), .second] [(.long (fn - fs))]) _ _ _
    refine own_to (fun t k => XS.lload X6.here hx rfl (hb hby at_116) rfl k) ?_
    show own_Out p e below _ T6 (mkF m 118 #[.val (.long x0), .second, .val (.long x1), .second, .val (.int x2), .val (.long x3), .second, .val (.long x4), .second, .val (.long fl), .second, .val (.long fn), .second, .val (.int fd), .val (.long fs), .second, .val (.long (x3 + fs)), .second, .val (.ref ob1), .val (.long (fn - fs)), .second, .val (.long ((fd.toInt64) <<< ((41 : Int32) &&& 0x3f).toInt64)), .second, .val (.long fn), .second, .val (.long fn), .second] [(.long fn), (.long (fn - fs))]) _ _ _
    refine own_to (fun t k => XS.lload X6.here hx rfl (hb hby at_118) rfl k) ?_
    show own_Out p e below _ T6 (mkF m 120 #[.val (.long x0), .second, .val (.long x1), .second, .val (.int x2), .val (.long x3), .second, .val (.long x4), .second, .val (.long fl), .second, .val (.long fn), .second, .val (.int fd), .val (.long fs), .second, .val (.long (x3 + fs)), .second, .val (.ref ob1), .val (.long (fn - fs)), .second, .val (.long ((fd.toInt64) <<< ((41 : Int32) &&& 0x3f).toInt64)), .second, .val (.long fn), .second, .val (.long fn), .second] [(.long fs), (.long fn), (.long (fn - fs))]) _ _ _
    refine own_to (fun t k => XS.lsub X6.here hx rfl (hb hby at_120) rfl k) ?_
    show own_Out p e below _ T6 (mkF m 121 #[.val (.long x0), .second, .val (.long x1), .second, .val (.int x2), .val (.long x3), .second, .val (.long x4), .second, .val (.long fl), .second, .val (.long fn), .second, .val (.int fd), .val (.long fs), .second, .val (.long (x3 + fs)), .second, .val (.ref ob1), .val (.long (fn - fs)), .second, .val (.long ((fd.toInt64) <<< ((41 : Int32) &&& 0x3f).toInt64)), .second, .val (.long fn), .second, .val (.long fn), .second] [(.long (fn - fs)), (.long (fn - fs))]) _ _ _
    refine own_to (fun t k => XS.lcmp X6.here hx rfl (hb hby at_121) rfl k) ?_
    show own_Out p e below _ T6 (mkF m 122 #[.val (.long x0), .second, .val (.long x1), .second, .val (.int x2), .val (.long x3), .second, .val (.long x4), .second, .val (.long fl), .second, .val (.long fn), .second, .val (.int fd), .val (.long fs), .second, .val (.long (x3 + fs)), .second, .val (.ref ob1), .val (.long (fn - fs)), .second, .val (.long ((fd.toInt64) <<< ((41 : Int32) &&& 0x3f).toInt64)), .second, .val (.long fn), .second, .val (.long fn), .second] [(.int (lcmpW (fn - fs) (fn - fs)))]) _ _ _
    have hc122 : (fn - fs) = (fn - fs) := rfl
    refine own_to (fun t k => XS.ifNo X6.here hx rfl (hb hby at_122) rfl ((if0 _ _).trans (teq ((lw_eq _ _).mpr hc122)).2) k) ?_
    show own_Out p e below _ T6 (mkF m 125 #[.val (.long x0), .second, .val (.long x1), .second, .val (.int x2), .val (.long x3), .second, .val (.long x4), .second, .val (.long fl), .second, .val (.long fn), .second, .val (.int fd), .val (.long fs), .second, .val (.long (x3 + fs)), .second, .val (.ref ob1), .val (.long (fn - fs)), .second, .val (.long ((fd.toInt64) <<< ((41 : Int32) &&& 0x3f).toInt64)), .second, .val (.long fn), .second, .val (.long fn), .second] []) _ _ _
    refine own_to (fun t k => XS.lload X6.here hx rfl (hb hby at_125) rfl k) ?_
    show own_Out p e below _ T6 (mkF m 127 #[.val (.long x0), .second, .val (.long x1), .second, .val (.int x2), .val (.long x3), .second, .val (.long x4), .second, .val (.long fl), .second, .val (.long fn), .second, .val (.int fd), .val (.long fs), .second, .val (.long (x3 + fs)), .second, .val (.ref ob1), .val (.long (fn - fs)), .second, .val (.long ((fd.toInt64) <<< ((41 : Int32) &&& 0x3f).toInt64)), .second, .val (.long fn), .second, .val (.long fn), .second] [(.long fn)]) _ _ _
    refine own_to (fun t k => XS.lload X6.here hx rfl (hb hby at_127) rfl k) ?_
    show own_Out p e below _ T6 (mkF m 129 #[.val (.long x0), .second, .val (.long x1), .second, .val (.int x2), .val (.long x3), .second, .val (.long x4), .second, .val (.long fl), .second, .val (.long fn), .second, .val (.int fd), .val (.long fs), .second, .val (.long (x3 + fs)), .second, .val (.ref ob1), .val (.long (fn - fs)), .second, .val (.long ((fd.toInt64) <<< ((41 : Int32) &&& 0x3f).toInt64)), .second, .val (.long fn), .second, .val (.long fn), .second] [(.long fn), (.long fn)]) _ _ _
    refine own_to (fun t k => XS.lcmp X6.here hx rfl (hb hby at_129) rfl k) ?_
    show own_Out p e below _ T6 (mkF m 130 #[.val (.long x0), .second, .val (.long x1), .second, .val (.int x2), .val (.long x3), .second, .val (.long x4), .second, .val (.long fl), .second, .val (.long fn), .second, .val (.int fd), .val (.long fs), .second, .val (.long (x3 + fs)), .second, .val (.ref ob1), .val (.long (fn - fs)), .second, .val (.long ((fd.toInt64) <<< ((41 : Int32) &&& 0x3f).toInt64)), .second, .val (.long fn), .second, .val (.long fn), .second] [(.int (lcmpW fn fn))]) _ _ _
    have hc130 : fn = fn := rfl
    refine own_to (fun t k => XS.ifNo X6.here hx rfl (hb hby at_130) rfl ((if0 _ _).trans (teq ((lw_eq _ _).mpr hc130)).2) k) ?_
    show own_Out p e below _ T6 (mkF m 133 #[.val (.long x0), .second, .val (.long x1), .second, .val (.int x2), .val (.long x3), .second, .val (.long x4), .second, .val (.long fl), .second, .val (.long fn), .second, .val (.int fd), .val (.long fs), .second, .val (.long (x3 + fs)), .second, .val (.ref ob1), .val (.long (fn - fs)), .second, .val (.long ((fd.toInt64) <<< ((41 : Int32) &&& 0x3f).toInt64)), .second, .val (.long fn), .second, .val (.long fn), .second] []) _ _ _
    refine own_to (fun t k => XS.iconst X6.here hx rfl (hb hby at_133) k) ?_
    show own_Out p e below _ T6 (mkF m 134 #[.val (.long x0), .second, .val (.long x1), .second, .val (.int x2), .val (.long x3), .second, .val (.long x4), .second, .val (.long fl), .second, .val (.long fn), .second, .val (.int fd), .val (.long fs), .second, .val (.long (x3 + fs)), .second, .val (.ref ob1), .val (.long (fn - fs)), .second, .val (.long ((fd.toInt64) <<< ((41 : Int32) &&& 0x3f).toInt64)), .second, .val (.long fn), .second, .val (.long fn), .second] [(.int (1 : Int32))]) _ _ _
    refine own_to (fun t k => XS.goto X6.here hx rfl (pc0 := 134) (pc' := 138) rfl (hb hby at_134) (by decide) (by decide) k) ?_
    show own_Out p e below _ T6 (mkF m 138 #[.val (.long x0), .second, .val (.long x1), .second, .val (.int x2), .val (.long x3), .second, .val (.long x4), .second, .val (.long fl), .second, .val (.long fn), .second, .val (.int fd), .val (.long fs), .second, .val (.long (x3 + fs)), .second, .val (.ref ob1), .val (.long (fn - fs)), .second, .val (.long ((fd.toInt64) <<< ((41 : Int32) &&& 0x3f).toInt64)), .second, .val (.long fn), .second, .val (.long fn), .second] [(.int (1 : Int32))]) _ _ _
    refine own_retV X6 hx hlk (w := .int (1 : Int32)) hret rfl (Or.inl ⟨rfl, by simp, _, rfl⟩) (hb hby at_138) (by decide) (by decide) ?_
    rw [e6]
    exact ⟨rfl, N6⟩
  · rw [if_neg hcR] at F_ob1_limitNanos
    rw [if_neg hcR] at F_ob1_banked
    show own_Out p e below _ T4 (mkF m 69 #[.val (.long x0), .second, .val (.long x1), .second, .val (.int x2), .val (.long x3), .second, .val (.long x4), .second, .val (.long fl), .second, .val (.long fn), .second, .val (.int fd), .val (.long fs), .second, .val (.long (x3 + fs)), .second, .val (.ref ob1), .unset, .unset, .unset, .unset, .unset, .unset, .unset, .unset] []) _ _ _
    refine own_to (fun t k => XS.aload X4.here hx rfl (hb hby at_69) rfl rfl k) ?_
    show own_Out p e below _ T4 (mkF m 71 #[.val (.long x0), .second, .val (.long x1), .second, .val (.int x2), .val (.long x3), .second, .val (.long x4), .second, .val (.long fl), .second, .val (.long fn), .second, .val (.int fd), .val (.long fs), .second, .val (.long (x3 + fs)), .second, .val (.ref ob1), .unset, .unset, .unset, .unset, .unset, .unset, .unset, .unset] [(.ref ob1)]) _ _ _
    refine own_to (fun t k => XS.lload X4.here hx rfl (hb hby at_71) rfl k) ?_
    show own_Out p e below _ T4 (mkF m 73 #[.val (.long x0), .second, .val (.long x1), .second, .val (.int x2), .val (.long x3), .second, .val (.long x4), .second, .val (.long fl), .second, .val (.long fn), .second, .val (.int fd), .val (.long fs), .second, .val (.long (x3 + fs)), .second, .val (.ref ob1), .unset, .unset, .unset, .unset, .unset, .unset, .unset, .unset] [(.long (x3 + fs)), (.ref ob1)]) _ _ _
    refine own_callV X4 hx hZ hown (a := ob1) (argsL := [(.long (x3 + fs))]) (rest := []) (hw _ (List.mem_of_getElem? (i := 37) rfl)) (hw _ (List.mem_of_getElem? (i := 38) rfl)) (hw _ (List.mem_of_getElem? (i := 40) rfl)) (hw _ (List.mem_of_getElem? (i := 39) rfl)) (hw _ (List.mem_of_getElem? (i := 4) rfl)) (hw _ (List.mem_of_getElem? (i := 41) rfl)) (by decide) (rm7 l Z a0 hw ob1 (x3 + fs) fl fd (fl - fs) (x3 + fs) hh4 n0 Z0 E_ob1 F_ob1_limitNanos F_ob1_shareDivisor F_ob1_banked F_ob1_updated g_ob1 (own_dn fd b3)) (by decide) (by decide) e4 E_ob1 rfl (by rw [hml]; rfl) (lenOf pd_4 rfl) rfl (W := 0) (by show 2 * 0 + _ ≤ _; exact Nat.le_of_eq rfl) (hb hby at_73) (by decide) (by decide) fun v7 T7 hh7 L7 X7 e7 hQ7 => ?_
    obtain ⟨rfl, NL7, KK7, P7_0, P7_1, P7_2, P7_3⟩ := hQ7
    have E_ob1 := E_ob1.keep KK7
    have F_ob1_limitNanos := P7_0
    have F_ob1_shareDivisor := P7_1
    have F_ob1_banked := P7_2
    have F_ob1_updated := P7_3
    have Z0 := Nat.le_trans Z0 KK7.1
    have N7 := Fr.app N4 NL7
    show own_Out p e below _ T7 (mkF m 76 #[.val (.long x0), .second, .val (.long x1), .second, .val (.int x2), .val (.long x3), .second, .val (.long x4), .second, .val (.long fl), .second, .val (.long fn), .second, .val (.int fd), .val (.long fs), .second, .val (.long (x3 + fs)), .second, .val (.ref ob1), .unset, .unset, .unset, .unset, .unset, .unset, .unset, .unset] [(.long (R5 fl ((fl - fs) + (((x3 + fs) - (x3 + fs)) / (fd.toInt64)))))]) _ _ _
    rw [own_s2 fl fs (x3 + fs) fd b1 b3 b4] at F_ob1_banked
    rw [own_s2 fl fs (x3 + fs) fd b1 b3 b4]
    show own_Out p e below _ T7 (mkF m 76 #[.val (.long x0), .second, .val (.long x1), .second, .val (.int x2), .val (.long x3), .second, .val (.long x4), .second, .val (.long fl), .second, .val (.long fn), .second, .val (.int fd), .val (.long fs), .second, .val (.long (x3 + fs)), .second, .val (.ref ob1), .unset, .unset, .unset, .unset, .unset, .unset, .unset, .unset] [(.long (fl - fs))]) _ _ _
    refine own_to (fun t k => XS.lstore X7.here hx rfl (hb hby at_76) rfl (l' := #[.val (.long x0), .second, .val (.long x1), .second, .val (.int x2), .val (.long x3), .second, .val (.long x4), .second, .val (.long fl), .second, .val (.long fn), .second, .val (.int fd), .val (.long fs), .second, .val (.long (x3 + fs)), .second, .val (.ref ob1), .val (.long (fl - fs)), .second, .unset, .unset, .unset, .unset, .unset, .unset]) rfl k) ?_
    show own_Out p e below _ T7 (mkF m 78 #[.val (.long x0), .second, .val (.long x1), .second, .val (.int x2), .val (.long x3), .second, .val (.long x4), .second, .val (.long fl), .second, .val (.long fn), .second, .val (.int fd), .val (.long fs), .second, .val (.long (x3 + fs)), .second, .val (.ref ob1), .val (.long (fl - fs)), .second, .unset, .unset, .unset, .unset, .unset, .unset] []) _ _ _
    refine own_to (fun t k => XS.iload X7.here hx rfl (hb hby at_78) rfl k) ?_
    show own_Out p e below _ T7 (mkF m 80 #[.val (.long x0), .second, .val (.long x1), .second, .val (.int x2), .val (.long x3), .second, .val (.long x4), .second, .val (.long fl), .second, .val (.long fn), .second, .val (.int fd), .val (.long fs), .second, .val (.long (x3 + fs)), .second, .val (.ref ob1), .val (.long (fl - fs)), .second, .unset, .unset, .unset, .unset, .unset, .unset] [(.int fd)]) _ _ _
    refine own_to (fun t k => XS.i2l X7.here hx rfl (hb hby at_80) rfl k) ?_
    show own_Out p e below _ T7 (mkF m 81 #[.val (.long x0), .second, .val (.long x1), .second, .val (.int x2), .val (.long x3), .second, .val (.long x4), .second, .val (.long fl), .second, .val (.long fn), .second, .val (.int fd), .val (.long fs), .second, .val (.long (x3 + fs)), .second, .val (.ref ob1), .val (.long (fl - fs)), .second, .unset, .unset, .unset, .unset, .unset, .unset] [(.long (fd.toInt64))]) _ _ _
    refine own_to (fun t k => XS.bipush X7.here hx rfl (hb hby at_81) k) ?_
    show own_Out p e below _ T7 (mkF m 83 #[.val (.long x0), .second, .val (.long x1), .second, .val (.int x2), .val (.long x3), .second, .val (.long x4), .second, .val (.long fl), .second, .val (.long fn), .second, .val (.int fd), .val (.long fs), .second, .val (.long (x3 + fs)), .second, .val (.ref ob1), .val (.long (fl - fs)), .second, .unset, .unset, .unset, .unset, .unset, .unset] [(.int (41 : Int32)), (.long (fd.toInt64))]) _ _ _
    refine own_to (fun t k => XS.lshl X7.here hx rfl (hb hby at_83) rfl k) ?_
    show own_Out p e below _ T7 (mkF m 84 #[.val (.long x0), .second, .val (.long x1), .second, .val (.int x2), .val (.long x3), .second, .val (.long x4), .second, .val (.long fl), .second, .val (.long fn), .second, .val (.int fd), .val (.long fs), .second, .val (.long (x3 + fs)), .second, .val (.ref ob1), .val (.long (fl - fs)), .second, .unset, .unset, .unset, .unset, .unset, .unset] [(.long ((fd.toInt64) <<< ((41 : Int32) &&& 0x3f).toInt64))]) _ _ _
    refine own_to (fun t k => XS.lstore X7.here hx rfl (hb hby at_84) rfl (l' := #[.val (.long x0), .second, .val (.long x1), .second, .val (.int x2), .val (.long x3), .second, .val (.long x4), .second, .val (.long fl), .second, .val (.long fn), .second, .val (.int fd), .val (.long fs), .second, .val (.long (x3 + fs)), .second, .val (.ref ob1), .val (.long (fl - fs)), .second, .val (.long ((fd.toInt64) <<< ((41 : Int32) &&& 0x3f).toInt64)), .second, .unset, .unset, .unset, .unset]) rfl k) ?_
    show own_Out p e below _ T7 (mkF m 86 #[.val (.long x0), .second, .val (.long x1), .second, .val (.int x2), .val (.long x3), .second, .val (.long x4), .second, .val (.long fl), .second, .val (.long fn), .second, .val (.int fd), .val (.long fs), .second, .val (.long (x3 + fs)), .second, .val (.ref ob1), .val (.long (fl - fs)), .second, .val (.long ((fd.toInt64) <<< ((41 : Int32) &&& 0x3f).toInt64)), .second, .unset, .unset, .unset, .unset] []) _ _ _
    refine own_to (fun t k => XS.aload X7.here hx rfl (hb hby at_86) rfl rfl k) ?_
    show own_Out p e below _ T7 (mkF m 88 #[.val (.long x0), .second, .val (.long x1), .second, .val (.int x2), .val (.long x3), .second, .val (.long x4), .second, .val (.long fl), .second, .val (.long fn), .second, .val (.int fd), .val (.long fs), .second, .val (.long (x3 + fs)), .second, .val (.ref ob1), .val (.long (fl - fs)), .second, .val (.long ((fd.toInt64) <<< ((41 : Int32) &&& 0x3f).toInt64)), .second, .unset, .unset, .unset, .unset] [(.ref ob1)]) _ _ _
    refine own_to (fun t k => XS.lload X7.here hx rfl (hb hby at_88) rfl k) ?_
    show own_Out p e below _ T7 (mkF m 90 #[.val (.long x0), .second, .val (.long x1), .second, .val (.int x2), .val (.long x3), .second, .val (.long x4), .second, .val (.long fl), .second, .val (.long fn), .second, .val (.int fd), .val (.long fs), .second, .val (.long (x3 + fs)), .second, .val (.ref ob1), .val (.long (fl - fs)), .second, .val (.long ((fd.toInt64) <<< ((41 : Int32) &&& 0x3f).toInt64)), .second, .unset, .unset, .unset, .unset] [(.long (x3 + fs)), (.ref ob1)]) _ _ _
    refine own_to (fun t k => XS.lload X7.here hx rfl (hb hby at_90) rfl k) ?_
    show own_Out p e below _ T7 (mkF m 92 #[.val (.long x0), .second, .val (.long x1), .second, .val (.int x2), .val (.long x3), .second, .val (.long x4), .second, .val (.long fl), .second, .val (.long fn), .second, .val (.int fd), .val (.long fs), .second, .val (.long (x3 + fs)), .second, .val (.ref ob1), .val (.long (fl - fs)), .second, .val (.long ((fd.toInt64) <<< ((41 : Int32) &&& 0x3f).toInt64)), .second, .unset, .unset, .unset, .unset] [(.long ((fd.toInt64) <<< ((41 : Int32) &&& 0x3f).toInt64)), (.long (x3 + fs)), (.ref ob1)]) _ _ _
    refine own_to (fun t k => XS.ladd X7.here hx rfl (hb hby at_92) rfl k) ?_
    show own_Out p e below _ T7 (mkF m 93 #[.val (.long x0), .second, .val (.long x1), .second, .val (.int x2), .val (.long x3), .second, .val (.long x4), .second, .val (.long fl), .second, .val (.long fn), .second, .val (.int fd), .val (.long fs), .second, .val (.long (x3 + fs)), .second, .val (.ref ob1), .val (.long (fl - fs)), .second, .val (.long ((fd.toInt64) <<< ((41 : Int32) &&& 0x3f).toInt64)), .second, .unset, .unset, .unset, .unset] [(.long ((x3 + fs) + ((fd.toInt64) <<< ((41 : Int32) &&& 0x3f).toInt64))), (.ref ob1)]) _ _ _
    refine own_callV X7 hx hZ hown (a := ob1) (argsL := [(.long ((x3 + fs) + ((fd.toInt64) <<< ((41 : Int32) &&& 0x3f).toInt64)))]) (rest := []) (hw _ (List.mem_of_getElem? (i := 37) rfl)) (hw _ (List.mem_of_getElem? (i := 38) rfl)) (hw _ (List.mem_of_getElem? (i := 40) rfl)) (hw _ (List.mem_of_getElem? (i := 39) rfl)) (hw _ (List.mem_of_getElem? (i := 4) rfl)) (hw _ (List.mem_of_getElem? (i := 41) rfl)) (by decide) (rm7 l Z a0 hw ob1 ((x3 + fs) + ((fd.toInt64) <<< ((41 : Int32) &&& 0x3f).toInt64)) fl fd (fl - fs) (x3 + fs) hh7 n0 Z0 E_ob1 F_ob1_limitNanos F_ob1_shareDivisor F_ob1_banked F_ob1_updated g_ob1 (own_dn fd b3)) (by decide) (by decide) e7 E_ob1 rfl (by rw [hml]; rfl) (lenOf pd_4 rfl) rfl (W := 0) (by show 2 * 0 + _ ≤ _; exact Nat.le_of_eq rfl) (hb hby at_93) (by decide) (by decide) fun v8 T8 hh8 L8 X8 e8 hQ8 => ?_
    obtain ⟨rfl, NL8, KK8, P8_0, P8_1, P8_2, P8_3⟩ := hQ8
    have E_ob1 := E_ob1.keep KK8
    have F_ob1_limitNanos := P8_0
    have F_ob1_shareDivisor := P8_1
    have F_ob1_banked := P8_2
    have F_ob1_updated := P8_3
    have Z0 := Nat.le_trans Z0 KK8.1
    have N8 := Fr.app N7 NL8
    show own_Out p e below _ T8 (mkF m 96 #[.val (.long x0), .second, .val (.long x1), .second, .val (.int x2), .val (.long x3), .second, .val (.long x4), .second, .val (.long fl), .second, .val (.long fn), .second, .val (.int fd), .val (.long fs), .second, .val (.long (x3 + fs)), .second, .val (.ref ob1), .val (.long (fl - fs)), .second, .val (.long ((fd.toInt64) <<< ((41 : Int32) &&& 0x3f).toInt64)), .second, .unset, .unset, .unset, .unset] [(.long (R5 fl ((fl - fs) + ((((x3 + fs) + ((fd.toInt64) <<< ((41 : Int32) &&& 0x3f).toInt64)) - (x3 + fs)) / (fd.toInt64)))))]) _ _ _
    rw [own_s3 fl fs (x3 + fs) fd b1 b3 b4] at F_ob1_banked
    rw [own_s3 fl fs (x3 + fs) fd b1 b3 b4]
    show own_Out p e below _ T8 (mkF m 96 #[.val (.long x0), .second, .val (.long x1), .second, .val (.int x2), .val (.long x3), .second, .val (.long x4), .second, .val (.long fl), .second, .val (.long fn), .second, .val (.int fd), .val (.long fs), .second, .val (.long (x3 + fs)), .second, .val (.ref ob1), .val (.long (fl - fs)), .second, .val (.long ((fd.toInt64) <<< ((41 : Int32) &&& 0x3f).toInt64)), .second, .unset, .unset, .unset, .unset] [(.long fl)]) _ _ _
    refine own_to (fun t k => XS.lstore X8.here hx rfl (hb hby at_96) rfl (l' := #[.val (.long x0), .second, .val (.long x1), .second, .val (.int x2), .val (.long x3), .second, .val (.long x4), .second, .val (.long fl), .second, .val (.long fn), .second, .val (.int fd), .val (.long fs), .second, .val (.long (x3 + fs)), .second, .val (.ref ob1), .val (.long (fl - fs)), .second, .val (.long ((fd.toInt64) <<< ((41 : Int32) &&& 0x3f).toInt64)), .second, .val (.long fl), .second, .unset, .unset]) rfl k) ?_
    show own_Out p e below _ T8 (mkF m 98 #[.val (.long x0), .second, .val (.long x1), .second, .val (.int x2), .val (.long x3), .second, .val (.long x4), .second, .val (.long fl), .second, .val (.long fn), .second, .val (.int fd), .val (.long fs), .second, .val (.long (x3 + fs)), .second, .val (.ref ob1), .val (.long (fl - fs)), .second, .val (.long ((fd.toInt64) <<< ((41 : Int32) &&& 0x3f).toInt64)), .second, .val (.long fl), .second, .unset, .unset] []) _ _ _
    refine own_to (fun t k => XS.lload X8.here hx rfl (hb hby at_98) rfl k) ?_
    show own_Out p e below _ T8 (mkF m 100 #[.val (.long x0), .second, .val (.long x1), .second, .val (.int x2), .val (.long x3), .second, .val (.long x4), .second, .val (.long fl), .second, .val (.long fn), .second, .val (.int fd), .val (.long fs), .second, .val (.long (x3 + fs)), .second, .val (.ref ob1), .val (.long (fl - fs)), .second, .val (.long ((fd.toInt64) <<< ((41 : Int32) &&& 0x3f).toInt64)), .second, .val (.long fl), .second, .unset, .unset] [(.long fl)]) _ _ _
    refine own_to (fun t k => XS.lstore X8.here hx rfl (hb hby at_100) rfl (l' := #[.val (.long x0), .second, .val (.long x1), .second, .val (.int x2), .val (.long x3), .second, .val (.long x4), .second, .val (.long fl), .second, .val (.long fn), .second, .val (.int fd), .val (.long fs), .second, .val (.long (x3 + fs)), .second, .val (.ref ob1), .val (.long (fl - fs)), .second, .val (.long ((fd.toInt64) <<< ((41 : Int32) &&& 0x3f).toInt64)), .second, .val (.long fl), .second, .val (.long fl), .second]) rfl k) ?_
    show own_Out p e below _ T8 (mkF m 102 #[.val (.long x0), .second, .val (.long x1), .second, .val (.int x2), .val (.long x3), .second, .val (.long x4), .second, .val (.long fl), .second, .val (.long fn), .second, .val (.int fd), .val (.long fs), .second, .val (.long (x3 + fs)), .second, .val (.ref ob1), .val (.long (fl - fs)), .second, .val (.long ((fd.toInt64) <<< ((41 : Int32) &&& 0x3f).toInt64)), .second, .val (.long fl), .second, .val (.long fl), .second] []) _ _ _
    refine own_to (fun t k => XS.lload X8.here hx rfl (hb hby at_102) rfl k) ?_
    show own_Out p e below _ T8 (mkF m 104 #[.val (.long x0), .second, .val (.long x1), .second, .val (.int x2), .val (.long x3), .second, .val (.long x4), .second, .val (.long fl), .second, .val (.long fn), .second, .val (.int fd), .val (.long fs), .second, .val (.long (x3 + fs)), .second, .val (.ref ob1), .val (.long (fl - fs)), .second, .val (.long ((fd.toInt64) <<< ((41 : Int32) &&& 0x3f).toInt64)), .second, .val (.long fl), .second, .val (.long fl), .second] [(.long fn)]) _ _ _
    refine own_to (fun t k => XS.lload X8.here hx rfl (hb hby at_104) rfl k) ?_
    show own_Out p e below _ T8 (mkF m 106 #[.val (.long x0), .second, .val (.long x1), .second, .val (.int x2), .val (.long x3), .second, .val (.long x4), .second, .val (.long fl), .second, .val (.long fn), .second, .val (.int fd), .val (.long fs), .second, .val (.long (x3 + fs)), .second, .val (.ref ob1), .val (.long (fl - fs)), .second, .val (.long ((fd.toInt64) <<< ((41 : Int32) &&& 0x3f).toInt64)), .second, .val (.long fl), .second, .val (.long fl), .second] [(.long fl), (.long fn)]) _ _ _
    refine own_to (fun t k => XS.lcmp X8.here hx rfl (hb hby at_106) rfl k) ?_
    show own_Out p e below _ T8 (mkF m 107 #[.val (.long x0), .second, .val (.long x1), .second, .val (.int x2), .val (.long x3), .second, .val (.long x4), .second, .val (.long fl), .second, .val (.long fn), .second, .val (.int fd), .val (.long fs), .second, .val (.long (x3 + fs)), .second, .val (.ref ob1), .val (.long (fl - fs)), .second, .val (.long ((fd.toInt64) <<< ((41 : Int32) &&& 0x3f).toInt64)), .second, .val (.long fl), .second, .val (.long fl), .second] [(.int (lcmpW fn fl))]) _ _ _
    refine own_to (fun t k => XS.ifYes X8.here hx rfl (pc0 := 107) (pc' := 114) rfl (hb hby at_107) rfl ((if0 _ _).trans (flt (fun q => hcR ((lw_gt _ _).mp q))).2.2.2) (by decide) (by decide) k) ?_
    show own_Out p e below _ T8 (mkF m 114 #[.val (.long x0), .second, .val (.long x1), .second, .val (.int x2), .val (.long x3), .second, .val (.long x4), .second, .val (.long fl), .second, .val (.long fn), .second, .val (.int fd), .val (.long fs), .second, .val (.long (x3 + fs)), .second, .val (.ref ob1), .val (.long (fl - fs)), .second, .val (.long ((fd.toInt64) <<< ((41 : Int32) &&& 0x3f).toInt64)), .second, .val (.long fl), .second, .val (.long fl), .second] []) _ _ _
    refine own_to (fun t k => XS.lload X8.here hx rfl (hb hby at_114) rfl k) ?_
    show own_Out p e below _ T8 (mkF m 116 #[.val (.long x0), .second, .val (.long x1), .second, .val (.int x2), .val (.long x3), .second, .val (.long x4), .second, .val (.long fl), .second, .val (.long fn), .second, .val (.int fd), .val (.long fs), .second, .val (.long (x3 + fs)), .second, .val (.ref ob1), .val (.long (fl - fs)), .second, .val (.long ((fd.toInt64) <<< ((41 : Int32) &&& 0x3f).toInt64)), .second, .val (.long fl), .second, .val (.long fl), .second] [(.long (fl - fs))]) _ _ _
    refine own_to (fun t k => XS.lload X8.here hx rfl (hb hby at_116) rfl k) ?_
    show own_Out p e below _ T8 (mkF m 118 #[.val (.long x0), .second, .val (.long x1), .second, .val (.int x2), .val (.long x3), .second, .val (.long x4), .second, .val (.long fl), .second, .val (.long fn), .second, .val (.int fd), .val (.long fs), .second, .val (.long (x3 + fs)), .second, .val (.ref ob1), .val (.long (fl - fs)), .second, .val (.long ((fd.toInt64) <<< ((41 : Int32) &&& 0x3f).toInt64)), .second, .val (.long fl), .second, .val (.long fl), .second] [(.long fl), (.long (fl - fs))]) _ _ _
    refine own_to (fun t k => XS.lload X8.here hx rfl (hb hby at_118) rfl k) ?_
    show own_Out p e below _ T8 (mkF m 120 #[.val (.long x0), .second, .val (.long x1), .second, .val (.int x2), .val (.long x3), .second, .val (.long x4), .second, .val (.long fl), .second, .val (.long fn), .second, .val (.int fd), .val (.long fs), .second, .val (.long (x3 + fs)), .second, .val (.ref ob1), .val (.long (fl - fs)), .second, .val (.long ((fd.toInt64) <<< ((41 : Int32) &&& 0x3f).toInt64)), .second, .val (.long fl), .second, .val (.long fl), .second] [(.long fs), (.long fl), (.long (fl - fs))]) _ _ _
    refine own_to (fun t k => XS.lsub X8.here hx rfl (hb hby at_120) rfl k) ?_
    show own_Out p e below _ T8 (mkF m 121 #[.val (.long x0), .second, .val (.long x1), .second, .val (.int x2), .val (.long x3), .second, .val (.long x4), .second, .val (.long fl), .second, .val (.long fn), .second, .val (.int fd), .val (.long fs), .second, .val (.long (x3 + fs)), .second, .val (.ref ob1), .val (.long (fl - fs)), .second, .val (.long ((fd.toInt64) <<< ((41 : Int32) &&& 0x3f).toInt64)), .second, .val (.long fl), .second, .val (.long fl), .second] [(.long (fl - fs)), (.long (fl - fs))]) _ _ _
    refine own_to (fun t k => XS.lcmp X8.here hx rfl (hb hby at_121) rfl k) ?_
    show own_Out p e below _ T8 (mkF m 122 #[.val (.long x0), .second, .val (.long x1), .second, .val (.int x2), .val (.long x3), .second, .val (.long x4), .second, .val (.long fl), .second, .val (.long fn), .second, .val (.int fd), .val (.long fs), .second, .val (.long (x3 + fs)), .second, .val (.ref ob1), .val (.long (fl - fs)), .second, .val (.long ((fd.toInt64) <<< ((41 : Int32) &&& 0x3f).toInt64)), .second, .val (.long fl), .second, .val (.long fl), .second] [(.int (lcmpW (fl - fs) (fl - fs)))]) _ _ _
    have hc122 : (fl - fs) = (fl - fs) := rfl
    refine own_to (fun t k => XS.ifNo X8.here hx rfl (hb hby at_122) rfl ((if0 _ _).trans (teq ((lw_eq _ _).mpr hc122)).2) k) ?_
    show own_Out p e below _ T8 (mkF m 125 #[.val (.long x0), .second, .val (.long x1), .second, .val (.int x2), .val (.long x3), .second, .val (.long x4), .second, .val (.long fl), .second, .val (.long fn), .second, .val (.int fd), .val (.long fs), .second, .val (.long (x3 + fs)), .second, .val (.ref ob1), .val (.long (fl - fs)), .second, .val (.long ((fd.toInt64) <<< ((41 : Int32) &&& 0x3f).toInt64)), .second, .val (.long fl), .second, .val (.long fl), .second] []) _ _ _
    refine own_to (fun t k => XS.lload X8.here hx rfl (hb hby at_125) rfl k) ?_
    show own_Out p e below _ T8 (mkF m 127 #[.val (.long x0), .second, .val (.long x1), .second, .val (.int x2), .val (.long x3), .second, .val (.long x4), .second, .val (.long fl), .second, .val (.long fn), .second, .val (.int fd), .val (.long fs), .second, .val (.long (x3 + fs)), .second, .val (.ref ob1), .val (.long (fl - fs)), .second, .val (.long ((fd.toInt64) <<< ((41 : Int32) &&& 0x3f).toInt64)), .second, .val (.long fl), .second, .val (.long fl), .second] [(.long fl)]) _ _ _
    refine own_to (fun t k => XS.lload X8.here hx rfl (hb hby at_127) rfl k) ?_
    show own_Out p e below _ T8 (mkF m 129 #[.val (.long x0), .second, .val (.long x1), .second, .val (.int x2), .val (.long x3), .second, .val (.long x4), .second, .val (.long fl), .second, .val (.long fn), .second, .val (.int fd), .val (.long fs), .second, .val (.long (x3 + fs)), .second, .val (.ref ob1), .val (.long (fl - fs)), .second, .val (.long ((fd.toInt64) <<< ((41 : Int32) &&& 0x3f).toInt64)), .second, .val (.long fl), .second, .val (.long fl), .second] [(.long fl), (.long fl)]) _ _ _
    refine own_to (fun t k => XS.lcmp X8.here hx rfl (hb hby at_129) rfl k) ?_
    show own_Out p e below _ T8 (mkF m 130 #[.val (.long x0), .second, .val (.long x1), .second, .val (.int x2), .val (.long x3), .second, .val (.long x4), .second, .val (.long fl), .second, .val (.long fn), .second, .val (.int fd), .val (.long fs), .second, .val (.long (x3 + fs)), .second, .val (.ref ob1), .val (.long (fl - fs)), .second, .val (.long ((fd.toInt64) <<< ((41 : Int32) &&& 0x3f).toInt64)), .second, .val (.long fl), .second, .val (.long fl), .second] [(.int (lcmpW fl fl))]) _ _ _
    have hc130 : fl = fl := rfl
    refine own_to (fun t k => XS.ifNo X8.here hx rfl (hb hby at_130) rfl ((if0 _ _).trans (teq ((lw_eq _ _).mpr hc130)).2) k) ?_
    show own_Out p e below _ T8 (mkF m 133 #[.val (.long x0), .second, .val (.long x1), .second, .val (.int x2), .val (.long x3), .second, .val (.long x4), .second, .val (.long fl), .second, .val (.long fn), .second, .val (.int fd), .val (.long fs), .second, .val (.long (x3 + fs)), .second, .val (.ref ob1), .val (.long (fl - fs)), .second, .val (.long ((fd.toInt64) <<< ((41 : Int32) &&& 0x3f).toInt64)), .second, .val (.long fl), .second, .val (.long fl), .second] []) _ _ _
    refine own_to (fun t k => XS.iconst X8.here hx rfl (hb hby at_133) k) ?_
    show own_Out p e below _ T8 (mkF m 134 #[.val (.long x0), .second, .val (.long x1), .second, .val (.int x2), .val (.long x3), .second, .val (.long x4), .second, .val (.long fl), .second, .val (.long fn), .second, .val (.int fd), .val (.long fs), .second, .val (.long (x3 + fs)), .second, .val (.ref ob1), .val (.long (fl - fs)), .second, .val (.long ((fd.toInt64) <<< ((41 : Int32) &&& 0x3f).toInt64)), .second, .val (.long fl), .second, .val (.long fl), .second] [(.int (1 : Int32))]) _ _ _
    refine own_to (fun t k => XS.goto X8.here hx rfl (pc0 := 134) (pc' := 138) rfl (hb hby at_134) (by decide) (by decide) k) ?_
    show own_Out p e below _ T8 (mkF m 138 #[.val (.long x0), .second, .val (.long x1), .second, .val (.int x2), .val (.long x3), .second, .val (.long x4), .second, .val (.long fl), .second, .val (.long fn), .second, .val (.int fd), .val (.long fs), .second, .val (.long (x3 + fs)), .second, .val (.ref ob1), .val (.long (fl - fs)), .second, .val (.long ((fd.toInt64) <<< ((41 : Int32) &&& 0x3f).toInt64)), .second, .val (.long fl), .second, .val (.long fl), .second] [(.int (1 : Int32))]) _ _ _
    refine own_retV X8 hx hlk (w := .int (1 : Int32)) hret rfl (Or.inl ⟨rfl, by simp, _, rfl⟩) (hb hby at_138) (by decide) (by decide) ?_
    rw [e8]
    exact ⟨rfl, N8⟩
set_option maxRecDepth 65536 in
set_option maxHeartbeats 40000000 in
theorem comes_1 {Post : Tables → Env → Array Value → State → Outcome → State → Prop} (hpost : ∀ tb e args s v u, (limb_1_1.after args s (.returned v) u = true ∧ limb_1_2.after args s (.returned v) u = true ∧ True) → FrameEnd s (.returned v) u (Jvm.fieldLocs frame_1_writes args s ++ Jvm.arrayLocs frame_1_arrays args s ++ Jvm.staticLocs frame_1_statics s) 16 128 → Post tb e args s (.returned v) u) :
    ArmFor flags0 classFile x code maxLocals ret World_1 tables_1 room_1 Calls_1 rest_1 Pre_1 Post := by
  intro l hfl _ _ p e ha hc hk s m args below hf hA hF happ hP
  obtain ⟨hcalls, hrest, hpre⟩ := hP
  obtain ⟨-, -, -, hnamed, -, -, -, hat⟩ := (Spec.applies_iff hf).mp happ
  obtain ⟨hg, hn⟩ := and_e (Cond.before_iff.mp (show (Jvm.Cond.and given_1 narrow_1).before args s = true from hpre))
  obtain ⟨gg2, gg3⟩ := and_e hg
  obtain ⟨gg4, gg5⟩ := and_e gg3
  obtain ⟨gg6, gg7⟩ := and_e gg5
  obtain ⟨gg8, gg9⟩ := and_e gg7
  obtain ⟨gg10, gg11⟩ := and_e gg9
  obtain ⟨w0, w1, w2, w3, w4, rfl⟩ : ∃ w0 w1 w2 w3 w4 : Value, args = #[w0, w1, w2, w3, w4] := by
    have hs : args.size = 5 := by simpa [Cond.value, given_1] using gg2
    obtain ⟨L⟩ := args
    match L, hs with
    | [w0, w1, w2, w3, w4], _ => exact ⟨w0, w1, w2, w3, w4, rfl⟩
  have hw := fun d (hd : d ∈ tables_1) => atoms_spec (ws := Jvm.Cond.code x code maxLocals ret :: tables_1) hat d (List.mem_cons_of_mem _ hd)
  have hfit : Fit s := fun {y c} hc i hi => by
    obtain ⟨ha, rfl⟩ := Array.getElem?_eq_some_iff.mp hc
    have q := List.all_eq_true.mp ((Array.all_eq_true_iff_forall_mem.mp hF) _ (Array.getElem_mem ha)) i (List.mem_range.mpr hi)
    simpa [Array.getElem?_eq_getElem hi] using q
  obtain ⟨i0, ei0⟩ := isL_v gg4
  obtain rfl : w0 = (.long i0) := Option.some.inj ei0
  obtain ⟨i1, ei1⟩ := isL_v gg6
  obtain rfl : w1 = (.long i1) := Option.some.inj ei1
  obtain ⟨i2, ei2⟩ := is_v gg8
  obtain rfl : w2 = (.int i2) := Option.some.inj ei2
  obtain ⟨i3, ei3⟩ := isL_v gg10
  obtain rfl : w3 = (.long i3) := Option.some.inj ei3
  obtain ⟨i4, ei4⟩ := isL_v gg11
  obtain rfl : w4 = (.long i4) := Option.some.inj ei4
  obtain ⟨n, o, h1, h2, h3, _, L, rfl, ⟨rfl, N⟩, hq⟩ := rm0 l s _ hw i0 i1 i2 i3 i4 s.heap s.heap.size (Nat.le_refl _) tables_1 p e ha hc hk s m _ below hf ((Spec.applies_iff_loose hf).mp happ).1 ⟨rfl, State.Warmed39.refl s, rfl⟩ trivial
  refine ⟨n, _, h1, h2, h3, hpost _ _ _ _ _ _ ⟨Cond.after_iff.mpr rfl, Cond.after_iff.mpr (eq_i res_at (Term.int_eval (1)) rfl), trivial⟩ ⟨hq.1, hq.2.1, (hq.2.2.sift fun y hy => Or.inr (N y hy)).mono (by decide) (by decide)⟩⟩
theorem main_1_1 : Claimed_1_1 := comes_1 fun _ _ _ _ _ _ h hF => ⟨h.1, hF⟩
theorem main_1_2 : Claimed_1_2 := comes_1 fun _ _ _ _ _ _ h hF => ⟨h.2.1, hF⟩
end Jvm.Pilot.@@N@@
namespace Jvm.Pilot.@@N@@
open Jvm Jvm.ClassFile Sem Op Lib Jvm.Free Jvm.Stand Jvm.Pilot.@@N@@.Jvm.D
/-! MADE BY PROGRAM (witnessworld.py) out of the Statement's table words and the real class files: 10 classes; the members and pool entries that the words name. The judged class is class 1, her method 1. -/
namespace start1
open Jvm.ClassFile
def u (s : String) : CpInfo := .utf8 (stringToUtf16 s)
/-- a pool by its gaps: so many unusable entries, then the entry; so many at the end -/
def gap : Nat → List CpInfo → List CpInfo
  | 0, r => r
  | n + 1, r => .unusable :: gap n r
def poolList (es : List (Nat × CpInfo)) (last : Nat) : List CpInfo := es.foldr (fun e r => gap e.1 (e.2 :: r)) (gap last [])
def pool (es : List (Nat × CpInfo)) (last : Nat) : Array CpInfo := ⟨poolList es last⟩
def fileOf (pool : Array CpInfo) (this : Nat) (attrs : Array Attribute := #[]) (ms : Array MethodInfo := #[]) (fl : Nat := 33) (sup : Nat := 0) (ifs : Array Nat := #[]) (fds : Array FieldInfo := #[]) : ClassFile where
  minorVersion := 0
  majorVersion := 65
  constantPool := pool
  accessFlags := fl
  thisClass := this
  superClass := sup
  interfaces := ifs
  fields := fds
  methods := ms
  attributes := attrs
def plain (name : String) (sup : Option ClassId) : Class where
  name := name
  kind := .ordinary
  loader := none
  accessFlags := 33
  super := sup
  interfaces := #[]
  cf := none
  fields := #[]
  methods := #[]
  instanceTypes := #[]
  staticTypes := #[]
  resolved := #[]
  callSites := []
  init := .initialized
  statics := none
  mirror := none

def pool0 : Array CpInfo := pool [(5, u "<init>"), (0, u "()V"), (1, .class_ 10), (1, u "java/lang/Object")] 113

def k0c0 : Code := { maxStack := 0, maxLocals := 1, code := object_method_1_code, exceptionTable := #[], attributes := #[] }
def k0m0 : Method := { name := "<init>", desc := "()V", sig := { parameters := [], returnType := none }, accessFlags := 1, code := some k0c0 }
/-- java/lang/Object -/
def k0 : Class := { plain "java/lang/Object" none with
  accessFlags := 33
  interfaces := #[]
  cf := some (fileOf pool0 8 #[] #[{ accessFlags := 1, nameIndex := 5, descriptorIndex := 6, attributes := #[] }] 33 0 #[] #[])
  fields := #[]
  methods := #[k0m0]
  instanceTypes := #[]
  staticTypes := #[]
  resolved := Array.replicate 124 none
  statics := none }

def pool1 : Array CpInfo := pool [(2, .class_ 4), (1, u "java/lang/Object"), (0, u "<init>"), (0, u "()V"), (0, .long 1152921504606846975), (1, .long 1099511627775), (1, .class_ 12), (0, u "com/example/mingle/mingle/PauseBudget"), (0, .methodref 11 14), (0, .nameAndType 5 15), (0, u "(JIJ)V"), (0, .methodref 11 17), (0, .nameAndType 18 19), (0, u "spend"), (0, u "(JJ)V"), (0, .methodref 11 21), (0, .nameAndType 22 23), (0, u "raiseLimit"), (0, u "(J)V"), (0, .methodref 11 25), (0, .nameAndType 26 27), (0, u "left"), (0, u "(J)J"), (0, .class_ 29), (0, u "com/example/mingle/mingle/PauseBudgetRaiseLimitPinLaw"), (2, u "law"), (0, u "(JJIJJ)Z")] 3

def k1m0 : Method := { name := "<init>", desc := "()V", sig := { parameters := [], returnType := none }, accessFlags := 1, code := none }
def k1c1 : Code := { maxStack := 7, maxLocals := 27, code := code, exceptionTable := #[], attributes := #[] }
def k1m1 : Method := { name := "law", desc := "(JJIJJ)Z", sig := { parameters := [.long, .long, .int, .long, .long], returnType := some .boolean }, accessFlags := 9, code := some k1c1 }
/-- com/example/mingle/mingle/PauseBudgetRaiseLimitPinLaw -/
def k1 : Class := { plain "com/example/mingle/mingle/PauseBudgetRaiseLimitPinLaw" (some 0) with
  accessFlags := 49
  interfaces := #[]
  cf := some (fileOf pool1 28 #[] #[{ accessFlags := 1, nameIndex := 5, descriptorIndex := 6, attributes := #[] }, { accessFlags := 9, nameIndex := 32, descriptorIndex := 33, attributes := #[] }] 49 2 #[] #[])
  fields := #[]
  methods := #[k1m0, k1m1]
  instanceTypes := #[]
  staticTypes := #[]
  resolved := Array.replicate 37 none
  statics := none }

def pool2 : Array CpInfo := pool [(1, .methodref 2 3), (0, .class_ 4), (0, .nameAndType 5 6), (0, u "java/lang/Object"), (0, u "<init>"), (0, u "()V"), (0, .fieldref 8 9), (0, .class_ 10), (0, .nameAndType 11 12), (0, u "com/example/mingle/mingle/PauseBudget"), (0, u "limitNanos"), (0, u "J"), (0, .fieldref 8 14), (0, .nameAndType 15 16), (0, u "shareDivisor"), (0, u "I"), (0, .fieldref 8 18), (0, .nameAndType 19 12), (0, u "banked"), (0, .fieldref 8 21), (0, .nameAndType 22 12), (0, u "updated"), (0, .methodref 8 24), (0, .nameAndType 25 26), (0, u "bankUpTo"), (0, u "(J)V"), (0, .methodref 28 29), (0, .class_ 30), (0, .nameAndType 31 32), (0, u "java/lang/Math"), (0, u "min"), (0, u "(JJ)J"), (0, u "(JIJ)V"), (2, u "left"), (0, u "(J)J"), (0, u "raiseLimit"), (1, u "spend"), (0, u "(JJ)V")] 2

def k2c0 : Code := { maxStack := 3, maxLocals := 6, code := prog_14_method_1_code, exceptionTable := #[], attributes := #[] }
def k2m0 : Method := { name := "<init>", desc := "(JIJ)V", sig := { parameters := [.long, .int, .long], returnType := none }, accessFlags := 0, code := some k2c0 }
def k2c1 : Code := { maxStack := 3, maxLocals := 3, code := prog_14_method_2_code, exceptionTable := #[], attributes := #[] }
def k2m1 : Method := { name := "left", desc := "(J)J", sig := { parameters := [.long], returnType := some .long }, accessFlags := 0, code := some k2c1 }
def k2c2 : Code := { maxStack := 7, maxLocals := 3, code := prog_14_method_3_code, exceptionTable := #[], attributes := #[] }
def k2m2 : Method := { name := "raiseLimit", desc := "(J)V", sig := { parameters := [.long], returnType := none }, accessFlags := 0, code := some k2c2 }
def k2c3 : Code := { maxStack := 7, maxLocals := 5, code := prog_14_method_4_code, exceptionTable := #[], attributes := #[] }
def k2m3 : Method := { name := "spend", desc := "(JJ)V", sig := { parameters := [.long, .long], returnType := none }, accessFlags := 0, code := some k2c3 }
def k2c4 : Code := { maxStack := 9, maxLocals := 3, code := prog_14_method_5_code, exceptionTable := #[], attributes := #[] }
def k2m4 : Method := { name := "bankUpTo", desc := "(J)V", sig := { parameters := [.long], returnType := none }, accessFlags := 2, code := some k2c4 }
/-- com/example/mingle/mingle/PauseBudget -/
def k2 : Class := { plain "com/example/mingle/mingle/PauseBudget" (some 0) with
  accessFlags := 48
  interfaces := #[]
  cf := some (fileOf pool2 8 #[] #[{ accessFlags := 0, nameIndex := 5, descriptorIndex := 33, attributes := #[] }, { accessFlags := 0, nameIndex := 36, descriptorIndex := 37, attributes := #[] }, { accessFlags := 0, nameIndex := 38, descriptorIndex := 26, attributes := #[] }, { accessFlags := 0, nameIndex := 40, descriptorIndex := 41, attributes := #[] }, { accessFlags := 2, nameIndex := 25, descriptorIndex := 26, attributes := #[] }] 48 2 #[] #[{ accessFlags := 2, nameIndex := 11, descriptorIndex := 12, attributes := #[] }, { accessFlags := 18, nameIndex := 15, descriptorIndex := 16, attributes := #[] }, { accessFlags := 2, nameIndex := 19, descriptorIndex := 12, attributes := #[] }, { accessFlags := 2, nameIndex := 22, descriptorIndex := 12, attributes := #[] }])
  fields := #[{ name := "limitNanos", type := .long, accessFlags := 2, slot := 0, constantValue := 0 }, { name := "shareDivisor", type := .int, accessFlags := 18, slot := 1, constantValue := 0 }, { name := "banked", type := .long, accessFlags := 2, slot := 2, constantValue := 0 }, { name := "updated", type := .long, accessFlags := 2, slot := 3, constantValue := 0 }]
  methods := #[k2m0, k2m1, k2m2, k2m3, k2m4]
  instanceTypes := #[.long, .int, .long, .long]
  staticTypes := #[]
  resolved := Array.replicate 44 none
  statics := none }

def pool3 : Array CpInfo := pool [(1, .class_ 2), (0, u "java/lang/Math"), (1, .class_ 6), (1, u "java/lang/Object"), (0, u "<init>"), (0, u "()V"), (89, .class_ 100), (1, u "java/lang/Math$RandomNumberGeneratorHolder"), (20, u "(JJ)J"), (50, u "negativeZeroFloatBits"), (0, u "J"), (2, u "negativeZeroDoubleBits"), (24, u "min"), (43, u "$assertionsDisabled"), (0, u "Z"), (91, u "twoToTheDoubleScaleDown"), (0, u "D"), (4, u "twoToTheDoubleScaleUp"), (9, u "E"), (3, u "PI"), (2, u "TAU"), (2, u "DEGREES_TO_RADIANS"), (0, u "RADIANS_TO_DEGREES")] 94

def k3m0 : Method := { name := "<init>", desc := "()V", sig := { parameters := [], returnType := none }, accessFlags := 2, code := none }
def k3c1 : Code := { maxStack := 4, maxLocals := 4, code := jdk_29_method_70_code, exceptionTable := #[], attributes := #[] }
def k3m1 : Method := { name := "min", desc := "(JJ)J", sig := { parameters := [.long, .long], returnType := some .long }, accessFlags := 9, code := some k3c1 }
/-- java/lang/Math -/
def k3 : Class := { plain "java/lang/Math" (some 0) with
  accessFlags := 49
  interfaces := #[]
  cf := some (fileOf pool3 1 #[.nestMembers #[98]] #[{ accessFlags := 2, nameIndex := 7, descriptorIndex := 8, attributes := #[] }, { accessFlags := 9, nameIndex := 201, descriptorIndex := 121, attributes := #[] }] 49 4 #[] #[{ accessFlags := 25, nameIndex := 354, descriptorIndex := 339, attributes := #[] }, { accessFlags := 25, nameIndex := 358, descriptorIndex := 339, attributes := #[] }, { accessFlags := 25, nameIndex := 361, descriptorIndex := 339, attributes := #[] }, { accessFlags := 26, nameIndex := 364, descriptorIndex := 339, attributes := #[] }, { accessFlags := 26, nameIndex := 365, descriptorIndex := 339, attributes := #[] }, { accessFlags := 26, nameIndex := 172, descriptorIndex := 173, attributes := #[] }, { accessFlags := 26, nameIndex := 176, descriptorIndex := 173, attributes := #[] }, { accessFlags := 8, nameIndex := 344, descriptorIndex := 339, attributes := #[] }, { accessFlags := 8, nameIndex := 338, descriptorIndex := 339, attributes := #[] }, { accessFlags := 4120, nameIndex := 245, descriptorIndex := 246, attributes := #[] }])
  fields := #[{ name := "E", type := .double, accessFlags := 25, slot := 0, constantValue := 0 }, { name := "PI", type := .double, accessFlags := 25, slot := 1, constantValue := 0 }, { name := "TAU", type := .double, accessFlags := 25, slot := 2, constantValue := 0 }, { name := "DEGREES_TO_RADIANS", type := .double, accessFlags := 26, slot := 3, constantValue := 0 }, { name := "RADIANS_TO_DEGREES", type := .double, accessFlags := 26, slot := 4, constantValue := 0 }, { name := "negativeZeroFloatBits", type := .long, accessFlags := 26, slot := 5, constantValue := 0 }, { name := "negativeZeroDoubleBits", type := .long, accessFlags := 26, slot := 6, constantValue := 0 }, { name := "twoToTheDoubleScaleUp", type := .double, accessFlags := 8, slot := 7, constantValue := 0 }, { name := "twoToTheDoubleScaleDown", type := .double, accessFlags := 8, slot := 8, constantValue := 0 }, { name := "$assertionsDisabled", type := .boolean, accessFlags := 4120, slot := 9, constantValue := 0 }]
  methods := #[k3m0, k3m1]
  instanceTypes := #[]
  staticTypes := #[.double, .double, .double, .double, .double, .long, .long, .double, .double, .boolean]
  resolved := Array.replicate 460 none
  statics := none }

def pool4 : Array CpInfo := pool [(1, u "java/lang/Cloneable"), (0, .class_ 1), (0, u "java/lang/Object"), (0, .class_ 3)] 3

/-- java/lang/Cloneable -/
def k4 : Class := { plain "java/lang/Cloneable" (some 0) with
  accessFlags := 1537
  interfaces := #[]
  cf := some (fileOf pool4 2 #[] #[] 1537 4 #[] #[])
  fields := #[]
  methods := #[]
  instanceTypes := #[]
  staticTypes := #[]
  resolved := Array.replicate 8 none
  statics := none }

def pool5 : Array CpInfo := pool [(1, u "java/io/Serializable"), (0, .class_ 1), (0, u "java/lang/Object"), (0, .class_ 3)] 3

/-- java/io/Serializable -/
def k5 : Class := { plain "java/io/Serializable" (some 0) with
  accessFlags := 1537
  interfaces := #[]
  cf := some (fileOf pool5 2 #[] #[] 1537 4 #[] #[])
  fields := #[]
  methods := #[]
  instanceTypes := #[]
  staticTypes := #[]
  resolved := Array.replicate 8 none
  statics := none }

/-- the primitive byte -/
def k6 : Class := { plain "byte" none with kind := .primitive 'B', accessFlags := 0x411 }
/-- [B -/
def k7 : Class := { plain "[B" (some 0) with kind := .array 6 .byte, interfaces := #[4, 5], accessFlags := 1041 }

/-- the primitive int -/
def k8 : Class := { plain "int" none with kind := .primitive 'I', accessFlags := 0x411 }
/-- [I -/
def k9 : Class := { plain "[I" (some 0) with kind := .array 8 .int, interfaces := #[4, 5], accessFlags := 1041 }

def heap : Heap := #[]
def classes : Array Class := #[k0, k1, k2, k3, k4, k5, k6, k7, k8, k9]
def interned : List (Array UInt16 × Addr) := []
def slotsUsed : Nat := 0
def theMethod : MethodId := ⟨1, 1⟩
def args0 : Array Value := #[.long 5, .long 65, .int 1, .long 2, .long 3]
def aboutOver (below : List Frame) : State where
  vm := { classes := classes, interned := interned.toArray }
  heap := heap
  slotsUsed := slotsUsed
  threads := #[{ frames := .invoking theMethod args0 :: below }]
def below0 : List Frame := [.native { method := ⟨0, 0⟩, args := #[] }]
def about1 : State := aboutOver below0
def p0 : Program := .bare "" "" ""
def e0 : Env := launch0.env 0 0 0
theorem w_frames : about1.frames = Frame.invoking theMethod args0 :: below0 := rfl
set_option maxRecDepth 65536 in
theorem w_args : argsFit about1.vm theMethod args0 = true := by decide +kernel
set_option maxRecDepth 65536 in
theorem w_heap : heapFits about1 = true := by decide +kernel
set_option maxRecDepth 65536 in
theorem w_runnable : about1.curStatus? = some .runnable := by decide +kernel
set_option maxRecDepth 65536 in
theorem w_alone : about1.alone = true := by decide +kernel
set_option maxRecDepth 65536 in
theorem w_named : about1.methodNamed? x = some theMethod := by decide +kernel
set_option maxRecDepth 65536 in
theorem w_hears : about1.hears theMethod below0 = true := by decide +kernel
set_option maxRecDepth 65536 in
theorem w_ripe : about1.ripe theMethod args0 below0 = true := by decide +kernel
theorem w_running : about1.status = .running := rfl
set_option maxRecDepth 65536 in
theorem w_room : about1.hasRoom e0.platform room_1 = true :=
  launch0.hasRoom_least _ room_1 (by decide +kernel) (by decide +kernel) (by decide +kernel) (by decide +kernel) (by decide +kernel) (by decide +kernel)
theorem allAtoms_all (ts : List Jvm.Cond) (a : Array Jvm.Value) (st : Jvm.State) : (allAtoms ts).before a st = ts.all (fun c => c.before a st) := by
  induction ts with
  | nil => rfl
  | cons c t ih =>
    show (Jvm.Cond.and c (allAtoms t)).before a st = _
    rw [Jvm.Cond.before_and, ih, List.all_cons]
def words1 : List Jvm.Cond := Jvm.Cond.code x code maxLocals ret :: tables_1
/-- a 'code' word, met by the world's own term for the bytes: nothing is compared byte by byte -/
theorem code_word {y : MethodName} {bytes : ByteArray} {mx : Nat} {rt : Option FieldType} {a : Array Value} {s : State} {m : MethodId} {meth : Method} {c : Code} (h1 : s.methodNamed? y = some m) (h2 : s.vm.method? m = some meth) (h3 : meth.code = some c) (h4 : c.code = bytes)
    (h5 : (c.maxLocals == mx && c.exceptionTable.isEmpty && decide (c.maxStack ≤ mostOperands) && decide (meth.sig.returnType = rt) && !meth.locks && decide (parseMethodDescriptor y.desc = some meth.sig)) = true) : (Jvm.Cond.code y bytes mx rt).before a s = true := by
  simp only [Bool.and_eq_true, beq_iff_eq, Bool.not_eq_true', decide_eq_true_eq] at h5
  obtain ⟨⟨⟨⟨⟨g1, g2⟩, g3⟩, g4⟩, g5⟩, g6⟩ := h5
  simp [Cond.before, Cond.holds, Cond.value, h1, h2, h3, h4, g1, g2, g3, g4, g5, g6]
def isCode : Jvm.Cond → Bool
  | .code _ _ _ _ => true
  | _ => false
theorem all_split {L : List Jvm.Cond} {P : Jvm.Cond → Bool} (h1 : L.all (fun c => isCode c || P c) = true) (h2 : ∀ c ∈ L.filter isCode, P c = true) : L.all P = true := by
  refine List.all_eq_true.mpr fun c hc => ?_
  have h := List.all_eq_true.mp h1 c hc
  rcases Bool.eq_false_or_eq_true (isCode c) with hi | hi
  · exact h2 c (List.mem_filter.mpr ⟨hc, hi⟩)
  · simpa [hi] using h
set_option maxRecDepth 65536 in
theorem w_c0 : (Jvm.Cond.code x code maxLocals ret).before args0 about1 = true := code_word (m := ⟨1, 1⟩) (meth := k1m1) (c := k1c1) (by decide +kernel) rfl rfl rfl (by decide +kernel)
set_option maxRecDepth 65536 in
theorem w_c1 : (Jvm.Cond.code ({ cls := "com/example/mingle/mingle/PauseBudget", name := "<init>", desc := "(JIJ)V" } : Jvm.MethodName) prog_14_method_1_code (6 : Nat) (Option.none : Option Jvm.ClassFile.FieldType)).before args0 about1 = true := code_word (m := ⟨2, 0⟩) (meth := k2m0) (c := k2c0) (by decide +kernel) rfl rfl rfl (by decide +kernel)
set_option maxRecDepth 65536 in
theorem w_c2 : (Jvm.Cond.code ({ cls := "java/lang/Object", name := "<init>", desc := "()V" } : Jvm.MethodName) object_method_1_code (1 : Nat) (Option.none : Option Jvm.ClassFile.FieldType)).before args0 about1 = true := code_word (m := ⟨0, 0⟩) (meth := k0m0) (c := k0c0) (by decide +kernel) rfl rfl rfl (by decide +kernel)
set_option maxRecDepth 65536 in
theorem w_c3 : (Jvm.Cond.code ({ cls := "com/example/mingle/mingle/PauseBudget", name := "spend", desc := "(JJ)V" } : Jvm.MethodName) prog_14_method_4_code (5 : Nat) (Option.none : Option Jvm.ClassFile.FieldType)).before args0 about1 = true := code_word (m := ⟨2, 3⟩) (meth := k2m3) (c := k2c3) (by decide +kernel) rfl rfl rfl (by decide +kernel)
set_option maxRecDepth 65536 in
theorem w_c4 : (Jvm.Cond.code ({ cls := "com/example/mingle/mingle/PauseBudget", name := "bankUpTo", desc := "(J)V" } : Jvm.MethodName) prog_14_method_5_code (3 : Nat) (Option.none : Option Jvm.ClassFile.FieldType)).before args0 about1 = true := code_word (m := ⟨2, 4⟩) (meth := k2m4) (c := k2c4) (by decide +kernel) rfl rfl rfl (by decide +kernel)
set_option maxRecDepth 65536 in
theorem w_c5 : (Jvm.Cond.code ({ cls := "java/lang/Math", name := "min", desc := "(JJ)J" } : Jvm.MethodName) jdk_29_method_70_code (4 : Nat) (Option.some Jvm.ClassFile.FieldType.long)).before args0 about1 = true := code_word (m := ⟨3, 1⟩) (meth := k3m1) (c := k3c1) (by decide +kernel) rfl rfl rfl (by decide +kernel)
set_option maxRecDepth 65536 in
theorem w_c6 : (Jvm.Cond.code ({ cls := "com/example/mingle/mingle/PauseBudget", name := "raiseLimit", desc := "(J)V" } : Jvm.MethodName) prog_14_method_3_code (3 : Nat) (Option.none : Option Jvm.ClassFile.FieldType)).before args0 about1 = true := code_word (m := ⟨2, 2⟩) (meth := k2m2) (c := k2c2) (by decide +kernel) rfl rfl rfl (by decide +kernel)
set_option maxRecDepth 65536 in
theorem w_c7 : (Jvm.Cond.code ({ cls := "com/example/mingle/mingle/PauseBudget", name := "left", desc := "(J)J" } : Jvm.MethodName) prog_14_method_2_code (3 : Nat) (Option.some Jvm.ClassFile.FieldType.long)).before args0 about1 = true := code_word (m := ⟨2, 1⟩) (meth := k2m1) (c := k2c1) (by decide +kernel) rfl rfl rfl (by decide +kernel)
def codes1 : List Jvm.Cond := [Jvm.Cond.code x code maxLocals ret, Jvm.Cond.code ({ cls := "com/example/mingle/mingle/PauseBudget", name := "<init>", desc := "(JIJ)V" } : Jvm.MethodName) prog_14_method_1_code (6 : Nat) (Option.none : Option Jvm.ClassFile.FieldType), Jvm.Cond.code ({ cls := "java/lang/Object", name := "<init>", desc := "()V" } : Jvm.MethodName) object_method_1_code (1 : Nat) (Option.none : Option Jvm.ClassFile.FieldType), Jvm.Cond.code ({ cls := "com/example/mingle/mingle/PauseBudget", name := "spend", desc := "(JJ)V" } : Jvm.MethodName) prog_14_method_4_code (5 : Nat) (Option.none : Option Jvm.ClassFile.FieldType), Jvm.Cond.code ({ cls := "com/example/mingle/mingle/PauseBudget", name := "bankUpTo", desc := "(J)V" } : Jvm.MethodName) prog_14_method_5_code (3 : Nat) (Option.none : Option Jvm.ClassFile.FieldType), Jvm.Cond.code ({ cls := "java/lang/Math", name := "min", desc := "(JJ)J" } : Jvm.MethodName) jdk_29_method_70_code (4 : Nat) (Option.some Jvm.ClassFile.FieldType.long), Jvm.Cond.code ({ cls := "com/example/mingle/mingle/PauseBudget", name := "raiseLimit", desc := "(J)V" } : Jvm.MethodName) prog_14_method_3_code (3 : Nat) (Option.none : Option Jvm.ClassFile.FieldType), Jvm.Cond.code ({ cls := "com/example/mingle/mingle/PauseBudget", name := "left", desc := "(J)J" } : Jvm.MethodName) prog_14_method_2_code (3 : Nat) (Option.some Jvm.ClassFile.FieldType.long)]
set_option maxRecDepth 65536 in
theorem codes_eq : words1.filter isCode = codes1 := rfl
theorem w_codes : ∀ c ∈ words1.filter isCode, c.before args0 about1 = true := by
  rw [codes_eq]
  intro c hc
  simp only [codes1, List.mem_cons, List.not_mem_nil, or_false] at hc
  rcases hc with rfl | rfl | rfl | rfl | rfl | rfl | rfl | rfl
  · exact w_c0
  · exact w_c1
  · exact w_c2
  · exact w_c3
  · exact w_c4
  · exact w_c5
  · exact w_c6
  · exact w_c7
set_option maxRecDepth 65536 in
theorem w_t1 : (words1.take 24).all (fun c => isCode c || c.before args0 about1) = true := by decide +kernel
set_option maxRecDepth 65536 in
theorem w_t2 : (words1.drop 24).all (fun c => isCode c || c.before args0 about1) = true := by decide +kernel
theorem w_tables : (allAtoms (Jvm.Cond.code x code maxLocals ret :: tables_1)).before args0 about1 = true := by
  rw [allAtoms_all]
  show words1.all (fun c => c.before args0 about1) = true
  refine all_split ?_ w_codes
  rw [← List.take_append_drop 24 words1, List.all_append, w_t1, w_t2]
  rfl
set_option maxRecDepth 65536 in
theorem w_case : (Jvm.Cond.and given_1 narrow_1).before args0 about1 = true := by decide +kernel
theorem w_applies : (headSpec (Jvm.Cond.code x code maxLocals ret :: tables_1) room_1).applies x e0.platform about1 = true :=
  (Spec.applies_iff w_frames).mpr ⟨w_running, w_runnable, w_alone, w_named, w_hears, w_ripe, w_room, w_tables⟩
theorem atStart : AtStart classFile x code maxLocals ret World_1 tables_1 room_1 Calls_1 rest_1 Pre_1 launch0 p0 e0 about1 theMethod args0 below0 :=
  ⟨lists_1, trivial, launch0.admits_env _ _ _, launch0.least_env, fairChoices_fair.cas, fairChoices_fair.clock, w_frames, w_args, w_heap, w_applies, trivial, trivial, w_case⟩
end start1
theorem witness_1 : WitnessClaimed_1 := ⟨start1.p0, start1.e0, start1.about1, start1.theMethod, start1.args0, start1.below0, start1.atStart⟩
end Jvm.Pilot.@@N@@
