import JvmDerived
import JvmDerived.Pilot.@@N@@Statement
import JvmDerived.Pilot.@@N@@Code
set_option linter.unusedVariables false
set_option linter.unusedSimpArgs false
namespace Jvm.Pilot.@@N@@
open Jvm Jvm.ClassFile Sem Op Lib Jvm.Free Jvm.Stand Jvm.LawKit Jvm.RoadKit Bundle Jvm.Pilot.@@N@@.Jvm.D
section OwnKit
variable {p : Program} {l : Launch} {e : Env} {R : Room} {s : State} {m : MethodId} {args : Array Value} {below : List Frame} {meth : Method} {c : Code} {T T' : State} {locs : List Loc} {cells slots kc ks : Nat} {g g' : JFrame} {Q : Option Value → Heap → List Loc → Prop} {Z : State} {h h' : Heap} {a0 : Array Value} {En : Outcome → State → List Loc → Nat → Nat → Prop}
/-- from this frame the run comes to the method's end and leaves what Q says -/
def own_Out (p : Program) (e : Env) (below : List Frame) (En : Outcome → State → List Loc → Nat → Nat → Prop) (T : State) (g : JFrame) (Q : Option Value → Heap → List Loc → Prop) (kc ks : Nat) : Prop :=
  ∃ (t : State) (o : Outcome), Steps p.tables e below (T.setTop g) t ∧ t.status = .running ∧ Ended t below o ∧ ∃ (v : Option Value) (L : List Loc), o = .returned v ∧ Q v t.heap L ∧ En o t L kc ks
theorem own_to (st : ∀ t, Steps p.tables e below (T'.setTop g') t → Steps p.tables e below (T.setTop g) t) (k : own_Out p e below En T' g' Q kc ks) : own_Out p e below En T g Q kc ks := by
  obtain ⟨t, o, h1, h2⟩ := k
  exact ⟨t, o, st t h1, h2⟩
theorem own_cast (q : g = g') (k : own_Out p e below En T g' Q kc ks) : own_Out p e below En T g Q kc ks := q ▸ k
/-- a method's contract: called with these arguments over this heap it returns, and Q says what it leaves -/
def own_C (l : Launch) (Z : State) (y : MethodName) (bytes : ByteArray) (maxL : Nat) (ret : Option FieldType) (rm : Room) (as' : Array Value) (h0 : Heap) (Q : Option Value → Heap → List Loc → Prop) : Prop :=
  ∀ ws : List Jvm.Cond, MetFree l y (head1 (Jvm.Cond.code y bytes maxL ret :: ws) rm) (fun a U => a = as' ∧ Z.Warmed39 U.vm ∧ U.heap = h0) (fun _ _ _ _ _ => True) (fun _ U o U' => ∃ v L, o = .returned v ∧ Q v U'.heap L ∧ FrameEnd U o U' L rm.cells rm.slots)
theorem own_met {y : MethodName} {bytes : ByteArray} {maxL : Nat} {ret : Option FieldType} {rm : Room} {as' : Array Value} {h0 : Heap} (pl : plainFor y = true)
    (body : ∀ (p : Program) (e : Env) (s : State) (m : MethodId) (below : List Frame) (meth : Method) (c : Code) (s₁ : State), p.tables.exec = Jvm.exec → c.code = bytes → c.maxLocals = maxL → meth.sig.returnType = ret → meth.locks = false → s.vm.findClass y.cls = some m.cls → meth.name = y.name → Z.Warmed39 s.vm → Stand p l e rm s m as' below meth c s₁ [] 0 0 → s₁.heap = h0 → own_Out p e below (FrameEnd s) s₁ (entryFrame m as' maxL) Q rm.cells rm.slots) :
    own_C l Z y bytes maxL ret rm as' h0 Q := by
  intro ws
  refine MetFree.of_bodySF pl hisR ?_
  intro p e s m args below meth c s₁ Bd hml0 hP hK
  obtain ⟨rfl, hZ, hh⟩ := hP
  exact body p e s m below meth c s₁ Bd.exec Bd.bytes hml0 Bd.returns (BodyLoose.notSynchronized Bd) (findClass_of_methodNamed Bd.named) ((name_of_methodNamed Bd.named Bd.method).1) hZ (Stand.of_body Bd) (by rw [← hh, Bd.state]; rfl)
/-! returns -/
theorem own_retV (X : Stand p l e R s m args below meth c T locs cells slots) (hx : p.tables.exec = Jvm.exec) (hlk : meth.locks = false) {pc : Nat} {Ls : Array Slot} {w : Value} {t : FieldType} {i : Instr} {rest : List Value} (hret : meth.sig.returnType = some t) (hn : narrow t w = w)
    (hi : (i = .ireturn ∧ (t = .int ∨ t = .boolean ∨ t = .byte ∨ t = .char ∨ t = .short) ∧ ∃ z, w = .int z) ∨ (i = .lreturn ∧ t = .long ∧ ∃ z, w = .long z) ∨ (i = .dreturn ∧ t = .double ∧ ∃ z, w = .double z) ∨ (i = .freturn ∧ t = .float ∧ ∃ z, w = .float z) ∨ (i = .areturn ∧ t.isReference = true ∧ w.isRef = true))
    (hd : decode c.code pc = .ok (i, 1)) (hc : cells ≤ kc) (hs : slots ≤ ks) (hQ : Q (some w) T.heap locs) : own_Out p e below (FrameEnd s) T (mkF m pc Ls (w :: rest)) Q kc ks := by
  obtain ⟨fs, hr, hrun, hended, hW, hsame⟩ := X.leave (v := some w) (fun h => by rw [hret] at h; cases h) hlk
  exact ⟨_, _, retOut X hx hret hn hi hd hr, hrun, hended, _, _, rfl, hQ, ⟨_, rfl⟩, hW, hsame.mono hc hs⟩
theorem own_retI (X : Stand p l e R s m args below meth c T locs cells slots) (hx : p.tables.exec = Jvm.exec) (hlk : meth.locks = false) (hret : meth.sig.returnType = some .int) {pc : Nat} {Ls : Array Slot} {z : Int32} {rest : List Value}
    (hd : decode c.code pc = .ok (.ireturn, 1)) (hc : cells ≤ kc) (hs : slots ≤ ks) (hQ : Q (some (.int z)) T.heap locs) : own_Out p e below (FrameEnd s) T (mkF m pc Ls (.int z :: rest)) Q kc ks :=
  own_retV X hx hlk hret rfl (Or.inl ⟨rfl, Or.inl rfl, _, rfl⟩) hd hc hs hQ
theorem own_retJ (X : Stand p l e R s m args below meth c T locs cells slots) (hx : p.tables.exec = Jvm.exec) (hlk : meth.locks = false) (hret : meth.sig.returnType = some .long) {pc : Nat} {Ls : Array Slot} {z : Int64} {rest : List Value}
    (hd : decode c.code pc = .ok (.lreturn, 1)) (hc : cells ≤ kc) (hs : slots ≤ ks) (hQ : Q (some (.long z)) T.heap locs) : own_Out p e below (FrameEnd s) T (mkF m pc Ls (.long z :: rest)) Q kc ks :=
  own_retV X hx hlk hret rfl (Or.inr (Or.inl ⟨rfl, rfl, _, rfl⟩)) hd hc hs hQ
theorem own_retA (X : Stand p l e R s m args below meth c T locs cells slots) (hx : p.tables.exec = Jvm.exec) (hlk : meth.locks = false) {t : FieldType} (hret : meth.sig.returnType = some t) (ht : t.isReference = true) {pc : Nat} {Ls : Array Slot} {z : Addr} {rest : List Value}
    (hd : decode c.code pc = .ok (.areturn, 1)) (hc : cells ≤ kc) (hs : slots ≤ ks) (hQ : Q (some (.ref z)) T.heap locs) : own_Out p e below (FrameEnd s) T (mkF m pc Ls (.ref z :: rest)) Q kc ks :=
  own_retV X hx hlk hret (by cases t <;> rfl) (Or.inr (Or.inr (Or.inr (Or.inr ⟨rfl, ht, rfl⟩)))) hd hc hs hQ
/-- a boolean, byte, char or short: the value is narrowed -/
theorem own_retN (X : Stand p l e R s m args below meth c T locs cells slots) (hx : p.tables.exec = Jvm.exec) (hlk : meth.locks = false) {t : FieldType} (hret : meth.sig.returnType = some t) (ht : t = .boolean ∨ t = .byte ∨ t = .char ∨ t = .short) {pc : Nat} {Ls : Array Slot} {z : Int32} {rest : List Value}
    (hd : decode c.code pc = .ok (.ireturn, 1)) (hc : cells ≤ kc) (hs : slots ≤ ks) (hQ : Q (some (.int (nar t z))) T.heap locs) : own_Out p e below (FrameEnd s) T (mkF m pc Ls (.int z :: rest)) Q kc ks := by
  obtain ⟨fs, hr, hrun, hended, hW, hsame⟩ := X.leave (v := some (.int (nar t z))) (fun h => by rw [hret] at h; cases h) hlk
  exact ⟨_, _, retN X hx hret ht hd hr, hrun, hended, _, _, rfl, hQ, ⟨_, rfl⟩, hW, hsame.mono hc hs⟩
theorem own_ret0 (X : Stand p l e R s m args below meth c T locs cells slots) (hx : p.tables.exec = Jvm.exec) (hlk : meth.locks = false) (hret : meth.sig.returnType = none) {pc : Nat} {Ls : Array Slot}
    (hd : decode c.code pc = .ok (.return_, 1)) (hc : cells ≤ kc) (hs : slots ≤ ks) (hQ : Q none T.heap locs) : own_Out p e below (FrameEnd s) T (mkF m pc Ls []) Q kc ks := by
  obtain ⟨fs, hr, hrun, hended, hW, hsame⟩ := X.leave (v := none) (fun _ => rfl) hlk
  exact ⟨_, _, X.returnOut hx hret hd hr, hrun, hended, _, _, rfl, hQ, ⟨_, rfl⟩, hW, hsame.mono hc hs⟩
/-! calls -/
theorem own_callS (X : Stand p l e R s m args below meth c T locs cells slots) (hx : p.tables.exec = Jvm.exec) (hZ : Z.Warmed39 s.vm) {own : String} (hown : s.vm.findClass own = some m.cls) {index : Nat} {y : MethodName} {bytes : ByteArray} {maxL : Nat} {ret : Option FieldType} {rm : Room} {W : Nat} {Qc : Option Value → Heap → List Loc → Prop} {argsL rest : List Value}
    (w1 : (Jvm.Cond.methodLink own index y).before a0 Z = true) (w2 : (Jvm.Cond.static y).before a0 Z = true) (w3 : (Jvm.Cond.initialized y.cls).before a0 Z = true) (w4 : (Jvm.Cond.code y bytes maxL ret).before a0 Z = true) (hy : y.cls ≠ "java/lang/invoke/MethodHandle" ∧ y.cls ≠ "java/lang/invoke/VarHandle")
    (hM : own_C l Z y bytes maxL ret rm argsL.toArray h Qc) (hf : rm.frames + 1 ≤ R.frames) (hl : W + (maxL + 11) + rm.locals ≤ R.locals) (eT : T.heap = h) (hg : g.method = m) (hsize : g.locals.size = c.maxLocals) (hlen : ∀ sig, parseMethodDescriptor y.desc = some sig → argsL.length = sig.parameters.length)
    (hstack : g.stack = argsL.reverse ++ rest) (hW : 2 * g.monitorRoom + (rest.map fun v => v.category).sum ≤ W) (hd : decode c.code g.pc = .ok (.invokestatic index, 3)) (hc : cells + rm.cells ≤ R.cells) (hs : slots + rm.slots ≤ R.slots)
    (k : ∀ (v : Option Value) (T' : State) (h' : Heap) (L : List Loc), Stand p l e R s m args below meth c T' (locs ++ L) (cells + rm.cells) (slots + rm.slots) → T'.heap = h' → Qc v h' L → own_Out p e below En T' { g with pc := g.pc + 3, stack := v.toList ++ rest } Q kc ks) : own_Out p e below En T g Q kc ks := by
  obtain ⟨v, _, ⟨T', L', k', n'⟩, -, X', ⟨Lc, hQ, l1, l2, l3⟩, st⟩ := Jvm.LawKit.callS X hx hown (mvT hZ w1) (mvT hZ w2) (mvT hZ w3) (mvT hZ w4) hy (backOf (W := W) (hM []) hZ w4 w3 hf hl) hg hsize hlen hstack hW hd (fun _ _ => ⟨rfl, eT, hc, hs⟩)
  dsimp only [Pt.U, Pt.locs, Pt.cells, Pt.slots] at X' l1 l2 l3 st hQ
  subst l1 l2 l3
  exact own_to st (k v T' _ Lc X' rfl hQ)
/-- a constructor -/
theorem own_callC (X : Stand p l e R s m args below meth c T locs cells slots) (hx : p.tables.exec = Jvm.exec) (hZ : Z.Warmed39 s.vm) {own : String} (hown : s.vm.findClass own = some m.cls) {index : Nat} {y : MethodName} {bytes : ByteArray} {maxL : Nat} {rm : Room} {W : Nat} {Qc : Option Value → Heap → List Loc → Prop} {a : Addr} {argsL rest : List Value}
    (hy1 : y.name = "<init>") (w1 : (Jvm.Cond.methodLink own index y).before a0 Z = true) (w2 : (Jvm.Cond.instanceMethod y).before a0 Z = true) (w3 : (Jvm.Cond.initialized y.cls).before a0 Z = true) (w4 : (Jvm.Cond.code y bytes maxL none).before a0 Z = true) (hy : y.cls ≠ "java/lang/invoke/MethodHandle" ∧ y.cls ≠ "java/lang/invoke/VarHandle")
    (hM : own_C l Z y bytes maxL none rm (.ref a :: argsL).toArray h Qc) (hf : rm.frames + 1 ≤ R.frames) (hl : W + (maxL + 11) + rm.locals ≤ R.locals) (eT : T.heap = h) (hg : g.method = m) (hsize : g.locals.size = c.maxLocals) (hlen : ∀ sig, parseMethodDescriptor y.desc = some sig → argsL.length = sig.parameters.length)
    (hstack : g.stack = argsL.reverse ++ .ref a :: rest) (hW : 2 * g.monitorRoom + (rest.map fun v => v.category).sum ≤ W) (hd : decode c.code g.pc = .ok (.invokespecial index, 3)) (hc : cells + rm.cells ≤ R.cells) (hs : slots + rm.slots ≤ R.slots)
    (k : ∀ (v : Option Value) (T' : State) (h' : Heap) (L : List Loc), Stand p l e R s m args below meth c T' (locs ++ L) (cells + rm.cells) (slots + rm.slots) → T'.heap = h' → Qc v h' L → own_Out p e below En T' { g with pc := g.pc + 3, stack := v.toList ++ rest } Q kc ks) : own_Out p e below En T g Q kc ks := by
  obtain ⟨v, _, ⟨T', L', k', n'⟩, -, X', ⟨Lc, hQ, l1, l2, l3⟩, st⟩ := X.specialBack hx hy1 hown (mvT hZ w1) (mvT hZ w2) (mvT hZ w4) hy (backOf (W := W) (hM []) hZ w4 w3 hf hl) hg hsize (Steps.refl _) hlen hstack hW hd (fun _ _ => ⟨rfl, eT, hc, hs⟩)
  dsimp only [Pt.U, Pt.locs, Pt.cells, Pt.slots] at X' l1 l2 l3 st hQ
  subst l1 l2 l3
  exact own_to (fun t k => st.trans k) (k v T' _ Lc X' rfl hQ)
/-- an instance method of the object's own class -/
theorem own_callV (X : Stand p l e R s m args below meth c T locs cells slots) (hx : p.tables.exec = Jvm.exec) (hZ : Z.Warmed39 s.vm) {own C : String} (hown : s.vm.findClass own = some m.cls) {index : Nat} {y : MethodName} {bytes : ByteArray} {maxL : Nat} {ret : Option FieldType} {rm : Room} {W : Nat} {Qc : Option Value → Heap → List Loc → Prop} {a : Addr} {argsL rest : List Value}
    (w1 : (Jvm.Cond.methodLink own index y).before a0 Z = true) (w5 : (Jvm.Cond.declares y).before a0 Z = true) (w6 : (Jvm.Cond.selects C y y).before a0 Z = true) (w2 : (Jvm.Cond.instanceMethod y).before a0 Z = true) (w3 : (Jvm.Cond.initialized y.cls).before a0 Z = true) (w4 : (Jvm.Cond.code y bytes maxL ret).before a0 Z = true) (hy : y.cls ≠ "java/lang/invoke/MethodHandle" ∧ y.cls ≠ "java/lang/invoke/VarHandle")
    (hM : own_C l Z y bytes maxL ret rm (.ref a :: argsL).toArray h Qc) (hf : rm.frames + 1 ≤ R.frames) (hl : W + (maxL + 11) + rm.locals ≤ R.locals) (eT : T.heap = h) (E : Exa Z h a C) (hg : g.method = m) (hsize : g.locals.size = c.maxLocals) (hlen : ∀ sig, parseMethodDescriptor y.desc = some sig → argsL.length = sig.parameters.length)
    (hstack : g.stack = argsL.reverse ++ .ref a :: rest) (hW : 2 * g.monitorRoom + (rest.map fun v => v.category).sum ≤ W) (hd : decode c.code g.pc = .ok (.invokevirtual index, 3)) (hc : cells + rm.cells ≤ R.cells) (hs : slots + rm.slots ≤ R.slots)
    (k : ∀ (v : Option Value) (T' : State) (h' : Heap) (L : List Loc), Stand p l e R s m args below meth c T' (locs ++ L) (cells + rm.cells) (slots + rm.slots) → T'.heap = h' → Qc v h' L → own_Out p e below En T' { g with pc := g.pc + 3, stack := v.toList ++ rest } Q kc ks) : own_Out p e below En T g Q kc ks := by
  obtain ⟨cq, kq, qa, qb, qc⟩ := isOf hZ eT E
  obtain ⟨v, _, ⟨T', L', k', n'⟩, -, X', ⟨Lc, hQ, l1, l2, l3⟩, st⟩ := X.virtualBack hx hown (mvT hZ w1) (mvT hZ w5) (notFace_of_selects (args := #[]) (mvT hZ w6)) (mvT hZ w6) (mvT hZ w2) hy (backOf (W := W) (hM []) hZ w4 w3 hf hl) qa qc hg hsize (Steps.refl _) hlen hstack hW hd (fun _ _ => ⟨rfl, eT, hc, hs⟩)
  dsimp only [Pt.U, Pt.locs, Pt.cells, Pt.slots] at X' l1 l2 l3 st hQ
  subst l1 l2 l3
  exact own_to (fun t k => st.trans k) (k v T' _ Lc X' rfl hQ)
/-- a private method of the object's own class, by invokevirtual -/
theorem own_callP (X : Stand p l e R s m args below meth c T locs cells slots) (hx : p.tables.exec = Jvm.exec) (hZ : Z.Warmed39 s.vm) {own C : String} (hown : s.vm.findClass own = some m.cls) {index kk : Nat} {y : MethodName} {bytes : ByteArray} {maxL : Nat} {ret : Option FieldType} {rm : Room} {W : Nat} {Qc : Option Value → Heap → List Loc → Prop} {a : Addr} {argsL rest : List Value}
    (w1 : (Jvm.Cond.methodLink own index y).before a0 Z = true) (w5 : (Jvm.Cond.privateMethod y).before a0 Z = true) (w6 : (Jvm.Cond.instantiable y.cls kk).before a0 Z = true) (w2 : (Jvm.Cond.instanceMethod y).before a0 Z = true) (w3 : (Jvm.Cond.initialized y.cls).before a0 Z = true) (w4 : (Jvm.Cond.code y bytes maxL ret).before a0 Z = true) (hy : y.cls ≠ "java/lang/invoke/MethodHandle" ∧ y.cls ≠ "java/lang/invoke/VarHandle")
    (hM : own_C l Z y bytes maxL ret rm (.ref a :: argsL).toArray h Qc) (hf : rm.frames + 1 ≤ R.frames) (hl : W + (maxL + 11) + rm.locals ≤ R.locals) (eT : T.heap = h) (E : Exa Z h a C) (hg : g.method = m) (hsize : g.locals.size = c.maxLocals) (hlen : ∀ sig, parseMethodDescriptor y.desc = some sig → argsL.length = sig.parameters.length)
    (hstack : g.stack = argsL.reverse ++ .ref a :: rest) (hW : 2 * g.monitorRoom + (rest.map fun v => v.category).sum ≤ W) (hd : decode c.code g.pc = .ok (.invokevirtual index, 3)) (hc : cells + rm.cells ≤ R.cells) (hs : slots + rm.slots ≤ R.slots)
    (k : ∀ (v : Option Value) (T' : State) (h' : Heap) (L : List Loc), Stand p l e R s m args below meth c T' (locs ++ L) (cells + rm.cells) (slots + rm.slots) → T'.heap = h' → Qc v h' L → own_Out p e below En T' { g with pc := g.pc + 3, stack := v.toList ++ rest } Q kc ks) : own_Out p e below En T g Q kc ks := by
  obtain ⟨cq, q, q'⟩ := E.cell
  have hp : s.PrivateAt y := Cond.privateMethod_at (mvP hZ w5 (args := #[]))
  obtain ⟨cy, ky, f1, f2, -, f3, -⟩ := Cond.instantiable_spec (mvT (args := args) hZ w6)
  have hi : ky.isInterface = false := (Bool.or_eq_false_iff.mp f3).1
  have hse : (Jvm.Cond.selects y.cls y y).before args s = true := selects_self_of_private f1 f2 hi hp (mvT hZ w2) hy
  obtain ⟨v, _, ⟨T', L', k', n'⟩, -, X', ⟨Lc, hQ, l1, l2, l3⟩, st⟩ := X.privateBack hx hown (mvT hZ w1) (mvT hZ w2) hse hp (mvT hZ w4) hy (backOf (W := W) (hM []) hZ w4 w3 hf hl) hg hsize (Steps.refl _) (by rw [eT]; exact q) q' hlen hstack hW hd (fun _ _ => ⟨rfl, eT, hc, hs⟩)
  dsimp only [Pt.U, Pt.locs, Pt.cells, Pt.slots] at X' l1 l2 l3 st hQ
  subst l1 l2 l3
  exact own_to (fun t k => st.trans k) (k v T' _ Lc X' rfl hQ)
/-! the heap's steps -/
theorem own_getF (X : Stand p l e R s m args below meth c T locs cells slots) (hx : p.tables.exec = Jvm.exec) (hZ : Z.Warmed39 s.vm) {own O n d : String} {index : Nat} (hown : s.vm.findClass own = some m.cls) (w : (Jvm.Cond.fieldLink own index O n d).before a0 Z = true) (eT : T.heap = h) {a : Addr} {v : Value} (F : Fld Z h a O n d v)
    (hg : g.method = m) {rest : List Value} (hs : g.stack = .ref a :: rest) (hd : decode c.code g.pc = .ok (.getfield index, 3)) (k : ∀ T', Stand p l e R s m args below meth c T' locs cells slots → T'.heap = h → own_Out p e below En T' { g with pc := g.pc + 3, stack := v :: rest } Q kc ks) : own_Out p e below En T g Q kc ks := by
  obtain ⟨T', X', e', st⟩ := getF X hx hZ hown (host := "") (Or.inl w) Via.refl eT F hg hs hd
  exact own_to st (k T' X' e')
theorem own_putF (X : Stand p l e R s m args below meth c T locs cells slots) (hx : p.tables.exec = Jvm.exec) (hZ : Z.Warmed39 s.vm) {own O n d C : String} {index kk : Nat} {ty : FieldType} (hown : s.vm.findClass own = some m.cls) (w : (Jvm.Cond.fieldLink own index O n d).before a0 Z = true) (eT : T.heap = h) {a : Addr} {v old : Value} (F : Fld Z h a O n d old) (E : Exa Z h a C)
    (L : (Jvm.Cond.lays C O n d).before a0 Z = true ∨ ((Jvm.Cond.laysFinal C O n d).before a0 Z = true ∧ own = O ∧ meth.name = "<init>")) (wi : (Jvm.Cond.instantiable C kk).before a0 Z = true) (hty : parseFieldDescriptor d = some ty) (hn : narrow ty v = v) (hf : fits ty v = true)
    (hg : g.method = m) {rest : List Value} (hs : g.stack = v :: .ref a :: rest) (hd : decode c.code g.pc = .ok (.putfield index, 3)) (k : ∀ T' h', Stand p l e R s m args below meth c T' (locs ++ [⟨a, Jvm.RoadKit.slotOf Z O n d⟩]) cells slots → T'.heap = h' → Wr h h' a (Jvm.RoadKit.slotOf Z O n d) v → own_Out p e below En T' { g with pc := g.pc + 3, stack := rest } Q kc ks) : own_Out p e below En T g Q kc ks := by
  obtain ⟨T', h', X', e', W', st⟩ := putF X hx hZ hown (host := "") (Or.inl w) Via.refl eT F E L wi hty hn hf hg hs hd
  exact own_to st (k T' h' X' e' W')
theorem own_new (X : Stand p l e R s m args below meth c T locs cells slots) (hx : p.tables.exec = Jvm.exec) (hZ : Z.Warmed39 s.vm) {own C : String} {index n : Nat} (hown : s.vm.findClass own = some m.cls) (w : (Jvm.Cond.classLink own index C).before a0 Z = true) (wi : (Jvm.Cond.instantiable C n).before a0 Z = true) (wz : (Jvm.Cond.initialized C).before a0 Z = true) (eT : T.heap = h)
    (hg : g.method = m) (hd : decode c.code g.pc = .ok (.new index, 3)) (hc : cells + 1 ≤ R.cells) (hl : slots + n ≤ R.slots)
    (k : ∀ T' h' a, a = h.size → Stand p l e R s m args below meth c T' locs (cells + 1) (slots + n) → T'.heap = h' → Ext h h' → Exa Z h' a C → (∀ {O nm d : String} {ty : FieldType}, Laid Z a0 C O nm d → parseFieldDescriptor d = some ty → Fld Z h' a O nm d (defaultValue ty)) → own_Out p e below En T' { g with pc := g.pc + 3, stack := .ref a :: g.stack } Q kc ks) : own_Out p e below En T g Q kc ks := by
  obtain ⟨T', h', X', e', E', A', D', -, st⟩ := newO X hx hZ hown w wi wz eT hg hd hc hl
  exact own_to st (k T' h' _ rfl X' e' E' A' D')
/-! arrays of ints, bytes, booleans: how many places, and what each holds -/
def own_upd (f : Nat → Int32) (j : Nat) (x : Int32) : Nat → Int32 := fun i => if i = j then x else f i
def own_A (Z : State) (h : Heap) (a : Addr) (ty : FieldType) (n : Nat) (f : Nat → Int32) : Prop := ∃ cl : Cell, Arr Z h a cl ty ∧ cl.slots.size = n ∧ ∀ j, j < n → cl.slots[j]? = some (.int (f j))
variable {a b : Addr} {ty : FieldType} {n : Nat} {f : Nat → Int32} {ws : List Addr} {v : Value} {sl : Nat}
theorem own_A.lt (F : own_A Z h a ty n f) : a < h.size := by obtain ⟨_, A, -⟩ := F; exact A.lt
theorem own_A.ext (F : own_A Z h a ty n f) (E : Ext h h') : own_A Z h' a ty n f := by obtain ⟨cl, A, r⟩ := F; exact ⟨cl, A.ext E, r⟩
theorem own_A.other (F : own_A Z h b ty n f) (W : Wr h h' a sl v) (q : b ≠ a) : own_A Z h' b ty n f := by obtain ⟨cl, A, r⟩ := F; exact ⟨cl, A.other W q, r⟩
theorem own_A.keep (F : own_A Z h a ty n f) (K : Keep h h' ws) (q : a ∉ ws) : own_A Z h' a ty n f := by obtain ⟨cl, A, r⟩ := F; exact ⟨cl, ⟨K.2.1 a cl A.1 q, A.2⟩, r⟩
theorem own_A.congr {f' : Nat → Int32} (F : own_A Z h a ty n f) (q : ∀ j, j < n → f j = f' j) : own_A Z h a ty n f' := by obtain ⟨cl, A, r1, r2⟩ := F; exact ⟨cl, A, r1, fun j hj => by rw [r2 j hj, q j hj]⟩
theorem own_A.set {cl : Cell} {j : Nat} {x : Int32} (A : Arr Z h a cl ty) (q1 : cl.slots.size = n) (q2 : ∀ j, j < n → cl.slots[j]? = some (.int (f j))) (W : Wr h h' a j (.int x)) (hj : j < n) : own_A Z h' a ty n (own_upd f j x) := by
  refine ⟨_, A.same W, by rw [sz_set, q1], fun i hi => ?_⟩
  simp only [Cell.setSlot, Array.getElem?_setIfInBounds, own_upd]
  by_cases e : j = i
  · subst e
    simp [q1, hj]
  · rw [if_neg e, q2 i hi, if_neg (fun q => e q.symm)]
theorem own_in {j : Int32} {N : Nat} (h0 : ¬ j < 0) (h1 : j.toNatClampNeg < N) : ¬ (j < 0 ∨ N ≤ j.toNatClampNeg) := fun q => q.elim h0 (fun r => Nat.not_lt.mpr r h1)
theorem own_stI (X : Stand p l e R s m args below meth c T locs cells slots) (hx : p.tables.exec = Jvm.exec) (hZ : Z.Warmed39 s.vm) (eT : T.heap = h) (F : own_A Z h a .int n f) {j x : Int32} (h0 : ¬ j < 0) (h1 : j.toNatClampNeg < n) (hg : g.method = m) {rest : List Value} (hs : g.stack = .int x :: .int j :: .ref a :: rest) (hd : decode c.code g.pc = .ok (.iastore, 1))
    (k : ∀ T' h', Stand p l e R s m args below meth c T' (locs ++ [⟨a, j.toNatClampNeg⟩]) cells slots → T'.heap = h' → Wr h h' a j.toNatClampNeg (.int x) → own_A Z h' a .int n (own_upd f j.toNatClampNeg x) → own_Out p e below En T' { g with pc := g.pc + 1, stack := rest } Q kc ks) : own_Out p e below En T g Q kc ks := by
  obtain ⟨cl, A, q1, q2⟩ := F
  obtain ⟨T', h', X', e', W', st⟩ := stI X hx hZ eT A (own_in h0 (by rw [q1]; exact h1)) hg hs hd
  exact own_to st (k T' h' X' e' W' (own_A.set A q1 q2 W' h1))
theorem own_stZ (X : Stand p l e R s m args below meth c T locs cells slots) (hx : p.tables.exec = Jvm.exec) (hZ : Z.Warmed39 s.vm) (eT : T.heap = h) (F : own_A Z h a .boolean n f) {j x : Int32} (h0 : ¬ j < 0) (h1 : j.toNatClampNeg < n) (hg : g.method = m) {rest : List Value} (hs : g.stack = .int x :: .int j :: .ref a :: rest) (hd : decode c.code g.pc = .ok (.bastore, 1))
    (k : ∀ T' h', Stand p l e R s m args below meth c T' (locs ++ [⟨a, j.toNatClampNeg⟩]) cells slots → T'.heap = h' → Wr h h' a j.toNatClampNeg (.int (nar .boolean x)) → own_A Z h' a .boolean n (own_upd f j.toNatClampNeg (nar .boolean x)) → own_Out p e below En T' { g with pc := g.pc + 1, stack := rest } Q kc ks) : own_Out p e below En T g Q kc ks := by
  obtain ⟨cl, A, q1, q2⟩ := F
  obtain ⟨T', h', X', e', W', st⟩ := stZ X hx hZ eT A (own_in h0 (by rw [q1]; exact h1)) hg hs hd
  exact own_to st (k T' h' X' e' W' (own_A.set A q1 q2 W' h1))
theorem own_stB (X : Stand p l e R s m args below meth c T locs cells slots) (hx : p.tables.exec = Jvm.exec) (hZ : Z.Warmed39 s.vm) (eT : T.heap = h) (F : own_A Z h a .byte n f) {j x : Int32} (h0 : ¬ j < 0) (h1 : j.toNatClampNeg < n) (hg : g.method = m) {rest : List Value} (hs : g.stack = .int x :: .int j :: .ref a :: rest) (hd : decode c.code g.pc = .ok (.bastore, 1))
    (k : ∀ T' h', Stand p l e R s m args below meth c T' (locs ++ [⟨a, j.toNatClampNeg⟩]) cells slots → T'.heap = h' → Wr h h' a j.toNatClampNeg (.int (nar .byte x)) → own_A Z h' a .byte n (own_upd f j.toNatClampNeg (nar .byte x)) → own_Out p e below En T' { g with pc := g.pc + 1, stack := rest } Q kc ks) : own_Out p e below En T g Q kc ks := by
  obtain ⟨cl, A, q1, q2⟩ := F
  obtain ⟨T', h', X', e', W', st⟩ := stB X hx hZ eT A (own_in h0 (by rw [q1]; exact h1)) hg hs hd
  exact own_to st (k T' h' X' e' W' (own_A.set A q1 q2 W' h1))
theorem own_newA (X : Stand p l e R s m args below meth c T locs cells slots) (hx : p.tables.exec = Jvm.exec) (hZ : Z.Warmed39 s.vm) {aty : ArrayType} (w : (Jvm.Cond.arrayClass (newarray.typeOf aty)).before a0 Z = true) (hdef : defaultValue (newarray.typeOf aty) = .int 0) (eT : T.heap = h) (hg : g.method = m) (hd : decode c.code g.pc = .ok (.newarray aty, 2)) {N : Int32} {rest : List Value} (hs : g.stack = .int N :: rest)
    (hn : ¬ N < 0) {cap : Nat} (hcap : N.toNatClampNeg ≤ cap) (hb : cap * 8 ≤ 536870912) (hc : cells + 1 ≤ R.cells) (hl : slots + cap ≤ R.slots)
    (k : ∀ T' h' a, a = h.size → Stand p l e R s m args below meth c T' locs (cells + 1) (slots + cap) → T'.heap = h' → Ext h h' → own_A Z h' a (newarray.typeOf aty) N.toNatClampNeg (fun _ => 0) → own_Out p e below En T' { g with pc := g.pc + 2, stack := .ref a :: rest } Q kc ks) : own_Out p e below En T g Q kc ks := by
  obtain ⟨T', h', cA, X', e', E', A', st⟩ := newP X hx hZ w eT hg hd hs hn hcap hb hc hl
  refine own_to st (k T' h' _ rfl X' e' E' ⟨_, A', sz_new _ _ _, fun j hj => ?_⟩)
  simp [newA, hdef, hj]
theorem own_len (X : Stand p l e R s m args below meth c T locs cells slots) (hx : p.tables.exec = Jvm.exec) (hZ : Z.Warmed39 s.vm) (eT : T.heap = h) (F : own_A Z h a ty n f) (hg : g.method = m) {rest : List Value} (hs : g.stack = .ref a :: rest) (hd : decode c.code g.pc = .ok (.arraylength, 1))
    (k : own_Out p e below En T { g with pc := g.pc + 1, stack := .int n.toInt32 :: rest } Q kc ks) : own_Out p e below En T g Q kc ks := by
  obtain ⟨cl, A, q1, q2⟩ := F
  subst q1
  exact own_to (X.arraylength hx (by rw [eT]; exact A.1) (State.isArrayOf_alike hZ.alike A.2.1) hg hs hd) k
theorem own_ldI (X : Stand p l e R s m args below meth c T locs cells slots) (hx : p.tables.exec = Jvm.exec) (hZ : Z.Warmed39 s.vm) (eT : T.heap = h) (F : own_A Z h a .int n f) {j : Int32} (h0 : ¬ j < 0) (h1 : j.toNatClampNeg < n) (hg : g.method = m) {rest : List Value} (hs : g.stack = .int j :: .ref a :: rest) (hd : decode c.code g.pc = .ok (.iaload, 1))
    (k : ∀ w : Int32, w = f j.toNatClampNeg → own_Out p e below En T { g with pc := g.pc + 1, stack := .int w :: rest } Q kc ks) : own_Out p e below En T g Q kc ks := by
  obtain ⟨cl, A, q1, q2⟩ := F
  exact own_to (X.iaload hx (by rw [eT]; exact A.1) (State.isArrayOf_alike hZ.alike A.2.1) A.2.2 (own_in h0 (by rw [q1]; exact h1)) (q2 _ h1) hg hs hd) (k _ rfl)
theorem own_ldZ (X : Stand p l e R s m args below meth c T locs cells slots) (hx : p.tables.exec = Jvm.exec) (hZ : Z.Warmed39 s.vm) (eT : T.heap = h) (F : own_A Z h a .boolean n f) {j : Int32} (h0 : ¬ j < 0) (h1 : j.toNatClampNeg < n) (hg : g.method = m) {rest : List Value} (hs : g.stack = .int j :: .ref a :: rest) (hd : decode c.code g.pc = .ok (.baload, 1))
    (k : ∀ w : Int32, w = f j.toNatClampNeg → own_Out p e below En T { g with pc := g.pc + 1, stack := .int w :: rest } Q kc ks) : own_Out p e below En T g Q kc ks := by
  obtain ⟨cl, A, q1, q2⟩ := F
  exact own_to (X.baloadBooleans hx (by rw [eT]; exact A.1) (State.isArrayOf_alike hZ.alike A.2.1) A.2.2 (own_in h0 (by rw [q1]; exact h1)) (q2 _ h1) hg hs hd) (k _ rfl)
theorem own_ldB (X : Stand p l e R s m args below meth c T locs cells slots) (hx : p.tables.exec = Jvm.exec) (hZ : Z.Warmed39 s.vm) (eT : T.heap = h) (F : own_A Z h a .byte n f) {j : Int32} (h0 : ¬ j < 0) (h1 : j.toNatClampNeg < n) (hg : g.method = m) {rest : List Value} (hs : g.stack = .int j :: .ref a :: rest) (hd : decode c.code g.pc = .ok (.baload, 1))
    (k : ∀ w : Int32, w = f j.toNatClampNeg → own_Out p e below En T { g with pc := g.pc + 1, stack := .int w :: rest } Q kc ks) : own_Out p e below En T g Q kc ks := by
  obtain ⟨cl, A, q1, q2⟩ := F
  exact own_to (X.baloadBytes hx (by rw [eT]; exact A.1) (State.isArrayOf_alike hZ.alike A.2.1) A.2.2 (own_in h0 (by rw [q1]; exact h1)) (q2 _ h1) hg hs hd) (k _ rfl)
theorem own_idx (x n : Int32) (N : Nat) (hn : n.toInt = (N : Int)) (h0 : 0 < N) : ¬ ((x &&& (2147483647 : Int32)) % n < 0) ∧ ((x &&& (2147483647 : Int32)) % n).toNatClampNeg < N := by
  have h1 := c_mask x 2147483647 31 (by decide) (by decide)
  have h2 := c_irem (x &&& 2147483647) n N hn
  have k : (0 : Int32).toInt = 0 := by decide
  have h3 : ¬ ((x &&& (2147483647 : Int32)) % n < 0) := by
    rw [Int32.lt_iff_toInt_lt, k, h2.1 (by omega)]
    have := Int.emod_nonneg (x &&& 2147483647).toInt (show (N : Int) ≠ 0 by omega)
    omega
  have h4 := nat_of h3
  have h5 := Int.emod_lt_of_pos (x &&& 2147483647).toInt (show (0 : Int) < N by omega)
  rw [h2.1 (by omega)] at h4
  exact ⟨h3, by omega⟩
theorem own_fs {k : Nat} {L : List Loc} (N : Fr k L) (q : k ≤ a) : Fr k (L ++ [⟨a, sl⟩]) := N.app fun y hy => by cases List.mem_singleton.mp hy; exact q
end OwnKit
theorem d1_0 : decode prog_6_method_1_code 0 = .ok (.aload_n 0, 1) := by decide +kernel
theorem d1_1 : decode prog_6_method_1_code 1 = .ok (.invokespecial 1, 3) := by decide +kernel
theorem d1_4 : decode prog_6_method_1_code 4 = .ok (.return_, 1) := by decide +kernel
theorem pn_0 : plainName "com/example/mingle/mingle/FrameCounts" = true := by first | (simp [plainName, overriddenIn]; done) | decide +kernel
theorem ef_1 (m : MethodId) (o0 : Addr) : entryFrame m #[(.ref o0)] 1 = mkF m 0 #[.val (.ref o0)] [] := by first | (simp [entryFrame, mkF, argsToLocals, Value.category]; done) | rfl
def Q1 (Z : State) (o0 : Addr) (h0 : Heap) (n0 : Nat) (v : Option Value) (h : Heap) (L : List Loc) : Prop := v = none ∧ Fr n0 L ∧ h = h0
set_option maxRecDepth 65536 in
set_option maxHeartbeats 40000000 in
theorem rm1 (l : Launch) (Z : State) (a0 : Array Value) (hw : ∀ d ∈ tables_1, d.before a0 Z = true) (o0 : Addr) (h0 : Heap) (n0 : Nat) (Z0 : n0 ≤ h0.size) :
    own_C l Z (⟨"com/example/mingle/mingle/FrameCounts", "<init>", "()V"⟩ : MethodName) prog_6_method_1_code 1 none ({ frames := 1, cells := 0, slots := 0, locals := 12 } : Room) #[(.ref o0)] h0 (Q1 Z o0 h0 n0) := by
  refine own_met (plainFor_of_name pn_0) ?_
  intro p e s m below meth c s₁ hx hby hml hret hlk hown hnm hZ X0 e0
  refine own_cast (ef_1 m o0) ?_
  have N0 := Fr.nil n0
  show own_Out p e below _ s₁ (mkF m 0 #[.val (.ref o0)] []) _ _ _
  refine own_to (fun t k => XS.aloadN X0.here hx rfl (hb hby d1_0) rfl rfl k) ?_
  show own_Out p e below _ s₁ (mkF m 1 #[.val (.ref o0)] [(.ref o0)]) _ _ _
  obtain ⟨T1, X1, e1, st1⟩ := initO X0 hx hZ hown (hw _ (List.mem_of_getElem? (i := 6) rfl)) (hw _ (List.mem_of_getElem? (i := 7) rfl)) (hw _ (List.mem_of_getElem? (i := 8) rfl)) e0 (g := (mkF m 1 #[.val (.ref o0)] [(.ref o0)])) rfl (by rw [hml]; rfl) rfl (hb hby d1_1) (by decide) (W := 0) (by show 2 * 0 + _ ≤ _; exact Nat.le_of_eq rfl) (by decide)
  refine own_to st1 ?_
  show own_Out p e below _ T1 (mkF m 4 #[.val (.ref o0)] []) _ _ _
  refine own_ret0 X1 hx hlk hret (hb hby d1_4) (by decide) (by decide) ?_
  rw [e1]
  exact ⟨rfl, N0, rfl⟩
theorem d3_0 : decode prog_6_method_2_code 0 = .ok (.aload_n 0, 1) := by decide +kernel
theorem d3_1 : decode prog_6_method_2_code 1 = .ok (.dup, 1) := by decide +kernel
theorem d3_2 : decode prog_6_method_2_code 2 = .ok (.getfield 7, 3) := by decide +kernel
theorem d3_5 : decode prog_6_method_2_code 5 = .ok (.lconst 1, 1) := by decide +kernel
theorem d3_6 : decode prog_6_method_2_code 6 = .ok (.ladd, 1) := by decide +kernel
theorem d3_7 : decode prog_6_method_2_code 7 = .ok (.putfield 7, 3) := by decide +kernel
theorem d3_10 : decode prog_6_method_2_code 10 = .ok (.aload_n 0, 1) := by decide +kernel
theorem d3_11 : decode prog_6_method_2_code 11 = .ok (.dup, 1) := by decide +kernel
theorem d3_12 : decode prog_6_method_2_code 12 = .ok (.getfield 13, 3) := by decide +kernel
theorem d3_15 : decode prog_6_method_2_code 15 = .ok (.iload_n 1, 1) := by decide +kernel
theorem d3_16 : decode prog_6_method_2_code 16 = .ok (.i2l, 1) := by decide +kernel
theorem d3_17 : decode prog_6_method_2_code 17 = .ok (.ladd, 1) := by decide +kernel
theorem d3_18 : decode prog_6_method_2_code 18 = .ok (.putfield 13, 3) := by decide +kernel
theorem d3_21 : decode prog_6_method_2_code 21 = .ok (.return_, 1) := by decide +kernel
theorem ef_3 (m : MethodId) (o0 : Addr) (u1 : Int32) : entryFrame m #[(.ref o0), (.int u1)] 2 = mkF m 0 #[.val (.ref o0), .val (.int u1)] [] := by first | (simp [entryFrame, mkF, argsToLocals, Value.category]; done) | rfl
def Q3 (Z : State) (o0 : Addr) (u1 : Int32) (f1 : Int64) (f2 : Int64) (f3 : Int64) (f4 : Int64) (h0 : Heap) (n0 : Nat) (v : Option Value) (h : Heap) (L : List Loc) : Prop := v = none ∧ Fr n0 L ∧ Keep h0 h [o0] ∧ Fld Z h o0 "com/example/mingle/mingle/FrameCounts" "messageFrames" "J" (.long (f1 + (1 : Int64))) ∧ Fld Z h o0 "com/example/mingle/mingle/FrameCounts" "messageBytes" "J" (.long (f2 + (u1.toInt64))) ∧ Fld Z h o0 "com/example/mingle/mingle/FrameCounts" "ackFrames" "J" (.long f3) ∧ Fld Z h o0 "com/example/mingle/mingle/FrameCounts" "ackBytes" "J" (.long f4)
set_option maxRecDepth 65536 in
set_option maxHeartbeats 40000000 in
theorem rm3 (l : Launch) (Z : State) (a0 : Array Value) (hw : ∀ d ∈ tables_1, d.before a0 Z = true) (o0 : Addr) (u1 : Int32) (f1 : Int64) (f2 : Int64) (f3 : Int64) (f4 : Int64) (h0 : Heap) (n0 : Nat) (Z0 : n0 ≤ h0.size) (E_o0 : Exa Z h0 o0 "com/example/mingle/mingle/FrameCounts") (F_o0_messageFrames : Fld Z h0 o0 "com/example/mingle/mingle/FrameCounts" "messageFrames" "J" (.long f1)) (F_o0_messageBytes : Fld Z h0 o0 "com/example/mingle/mingle/FrameCounts" "messageBytes" "J" (.long f2)) (g_o0 : n0 ≤ o0) (F_o0_ackFrames : Fld Z h0 o0 "com/example/mingle/mingle/FrameCounts" "ackFrames" "J" (.long f3)) (F_o0_ackBytes : Fld Z h0 o0 "com/example/mingle/mingle/FrameCounts" "ackBytes" "J" (.long f4)) :
    own_C l Z (⟨"com/example/mingle/mingle/FrameCounts", "countMessageFrame", "(I)V"⟩ : MethodName) prog_6_method_2_code 2 none ({ frames := 0, cells := 0, slots := 0, locals := 0 } : Room) #[(.ref o0), (.int u1)] h0 (Q3 Z o0 u1 f1 f2 f3 f4 h0 n0) := by
  refine own_met (plainFor_of_name pn_0) ?_
  intro p e s m below meth c s₁ hx hby hml hret hlk hown hnm hZ X0 e0
  refine own_cast (ef_3 m o0 u1) ?_
  have N0 := Fr.nil n0
  have K := Keep.refl h0 [o0]
  show own_Out p e below _ s₁ (mkF m 0 #[.val (.ref o0), .val (.int u1)] []) _ _ _
  refine own_to (fun t k => XS.aloadN X0.here hx rfl (hb hby d3_0) rfl rfl k) ?_
  show own_Out p e below _ s₁ (mkF m 1 #[.val (.ref o0), .val (.int u1)] [(.ref o0)]) _ _ _
  refine own_to (fun t k => XS.dup X0.here hx rfl (hb hby d3_1) rfl rfl k) ?_
  show own_Out p e below _ s₁ (mkF m 2 #[.val (.ref o0), .val (.int u1)] [(.ref o0), (.ref o0)]) _ _ _
  refine own_getF X0 hx hZ hown (hw _ (List.mem_of_getElem? (i := 14) rfl)) e0 F_o0_messageFrames rfl rfl (hb hby d3_2) fun T1 X1 e1 => ?_
  show own_Out p e below _ T1 (mkF m 5 #[.val (.ref o0), .val (.int u1)] [(.long f1), (.ref o0)]) _ _ _
  refine own_to (fun t k => XS.lconst X1.here hx rfl (hb hby d3_5) k) ?_
  show own_Out p e below _ T1 (mkF m 6 #[.val (.ref o0), .val (.int u1)] [(.long (1 : Int64)), (.long f1), (.ref o0)]) _ _ _
  refine own_to (fun t k => XS.ladd X1.here hx rfl (hb hby d3_6) rfl k) ?_
  show own_Out p e below _ T1 (mkF m 7 #[.val (.ref o0), .val (.int u1)] [(.long (f1 + (1 : Int64))), (.ref o0)]) _ _ _
  refine own_putF X1 hx hZ hown (hw _ (List.mem_of_getElem? (i := 14) rfl)) e1 F_o0_messageFrames E_o0 (Or.inl (hw _ (List.mem_of_getElem? (i := 15) rfl))) (hw _ (List.mem_of_getElem? (i := 1) rfl)) (ty := .long) (by decide) rfl rfl rfl rfl (hb hby d3_7) fun T2 hh2 X2 e2 W2 => ?_
  have E_o0 := E_o0.wr W2
  have F_o0_messageFrames := F_o0_messageFrames.same W2
  have F_o0_messageBytes := F_o0_messageBytes.other W2 (Or.inr (slot_ne (Or.inl (hw _ (List.mem_of_getElem? (i := 17) rfl))) (Or.inl (hw _ (List.mem_of_getElem? (i := 15) rfl))) (by decide) (t := .long) (t' := .long) (by decide) (by decide)))
  have F_o0_ackFrames := F_o0_ackFrames.other W2 (Or.inr (slot_ne (Or.inl (hw _ (List.mem_of_getElem? (i := 24) rfl))) (Or.inl (hw _ (List.mem_of_getElem? (i := 15) rfl))) (by decide) (t := .long) (t' := .long) (by decide) (by decide)))
  have F_o0_ackBytes := F_o0_ackBytes.other W2 (Or.inr (slot_ne (Or.inl (hw _ (List.mem_of_getElem? (i := 26) rfl))) (Or.inl (hw _ (List.mem_of_getElem? (i := 15) rfl))) (by decide) (t := .long) (t' := .long) (by decide) (by decide)))
  have K := K.wr W2 (Or.inl (by simp))
  have Z0 := Nat.le_trans Z0 (Nat.le_of_eq W2.size.symm)
  have N2 := own_fs (sl := Jvm.RoadKit.slotOf Z "com/example/mingle/mingle/FrameCounts" "messageFrames" "J") N0 g_o0
  show own_Out p e below _ T2 (mkF m 10 #[.val (.ref o0), .val (.int u1)] []) _ _ _
  refine own_to (fun t k => XS.aloadN X2.here hx rfl (hb hby d3_10) rfl rfl k) ?_
  show own_Out p e below _ T2 (mkF m 11 #[.val (.ref o0), .val (.int u1)] [(.ref o0)]) _ _ _
  refine own_to (fun t k => XS.dup X2.here hx rfl (hb hby d3_11) rfl rfl k) ?_
  show own_Out p e below _ T2 (mkF m 12 #[.val (.ref o0), .val (.int u1)] [(.ref o0), (.ref o0)]) _ _ _
  refine own_getF X2 hx hZ hown (hw _ (List.mem_of_getElem? (i := 16) rfl)) e2 F_o0_messageBytes rfl rfl (hb hby d3_12) fun T3 X3 e3 => ?_
  show own_Out p e below _ T3 (mkF m 15 #[.val (.ref o0), .val (.int u1)] [(.long f2), (.ref o0)]) _ _ _
  refine own_to (fun t k => XS.iloadN X3.here hx rfl (hb hby d3_15) rfl k) ?_
  show own_Out p e below _ T3 (mkF m 16 #[.val (.ref o0), .val (.int u1)] [(.int u1), (.long f2), (.ref o0)]) _ _ _
  refine own_to (fun t k => XS.i2l X3.here hx rfl (hb hby d3_16) rfl k) ?_
  show own_Out p e below _ T3 (mkF m 17 #[.val (.ref o0), .val (.int u1)] [(.long (u1.toInt64)), (.long f2), (.ref o0)]) _ _ _
  refine own_to (fun t k => XS.ladd X3.here hx rfl (hb hby d3_17) rfl k) ?_
  show own_Out p e below _ T3 (mkF m 18 #[.val (.ref o0), .val (.int u1)] [(.long (f2 + (u1.toInt64))), (.ref o0)]) _ _ _
  refine own_putF X3 hx hZ hown (hw _ (List.mem_of_getElem? (i := 16) rfl)) e3 F_o0_messageBytes E_o0 (Or.inl (hw _ (List.mem_of_getElem? (i := 17) rfl))) (hw _ (List.mem_of_getElem? (i := 1) rfl)) (ty := .long) (by decide) rfl rfl rfl rfl (hb hby d3_18) fun T4 hh4 X4 e4 W4 => ?_
  have E_o0 := E_o0.wr W4
  have F_o0_messageFrames := F_o0_messageFrames.other W4 (Or.inr (slot_ne (Or.inl (hw _ (List.mem_of_getElem? (i := 15) rfl))) (Or.inl (hw _ (List.mem_of_getElem? (i := 17) rfl))) (by decide) (t := .long) (t' := .long) (by decide) (by decide)))
  have F_o0_messageBytes := F_o0_messageBytes.same W4
  have F_o0_ackFrames := F_o0_ackFrames.other W4 (Or.inr (slot_ne (Or.inl (hw _ (List.mem_of_getElem? (i := 24) rfl))) (Or.inl (hw _ (List.mem_of_getElem? (i := 17) rfl))) (by decide) (t := .long) (t' := .long) (by decide) (by decide)))
  have F_o0_ackBytes := F_o0_ackBytes.other W4 (Or.inr (slot_ne (Or.inl (hw _ (List.mem_of_getElem? (i := 26) rfl))) (Or.inl (hw _ (List.mem_of_getElem? (i := 17) rfl))) (by decide) (t := .long) (t' := .long) (by decide) (by decide)))
  have K := K.wr W4 (Or.inl (by simp))
  have Z0 := Nat.le_trans Z0 (Nat.le_of_eq W4.size.symm)
  have N4 := own_fs (sl := Jvm.RoadKit.slotOf Z "com/example/mingle/mingle/FrameCounts" "messageBytes" "J") N2 g_o0
  show own_Out p e below _ T4 (mkF m 21 #[.val (.ref o0), .val (.int u1)] []) _ _ _
  refine own_ret0 X4 hx hlk hret (hb hby d3_21) (by decide) (by decide) ?_
  rw [e4]
  exact ⟨rfl, N4, K, F_o0_messageFrames, F_o0_messageBytes, F_o0_ackFrames, F_o0_ackBytes⟩
theorem d4_0 : decode prog_6_method_3_code 0 = .ok (.aload_n 0, 1) := by decide +kernel
theorem d4_1 : decode prog_6_method_3_code 1 = .ok (.dup, 1) := by decide +kernel
theorem d4_2 : decode prog_6_method_3_code 2 = .ok (.getfield 16, 3) := by decide +kernel
theorem d4_5 : decode prog_6_method_3_code 5 = .ok (.lconst 1, 1) := by decide +kernel
theorem d4_6 : decode prog_6_method_3_code 6 = .ok (.ladd, 1) := by decide +kernel
theorem d4_7 : decode prog_6_method_3_code 7 = .ok (.putfield 16, 3) := by decide +kernel
theorem d4_10 : decode prog_6_method_3_code 10 = .ok (.aload_n 0, 1) := by decide +kernel
theorem d4_11 : decode prog_6_method_3_code 11 = .ok (.dup, 1) := by decide +kernel
theorem d4_12 : decode prog_6_method_3_code 12 = .ok (.getfield 19, 3) := by decide +kernel
theorem d4_15 : decode prog_6_method_3_code 15 = .ok (.iload_n 1, 1) := by decide +kernel
theorem d4_16 : decode prog_6_method_3_code 16 = .ok (.i2l, 1) := by decide +kernel
theorem d4_17 : decode prog_6_method_3_code 17 = .ok (.ladd, 1) := by decide +kernel
theorem d4_18 : decode prog_6_method_3_code 18 = .ok (.putfield 19, 3) := by decide +kernel
theorem d4_21 : decode prog_6_method_3_code 21 = .ok (.return_, 1) := by decide +kernel
theorem ef_4 (m : MethodId) (o0 : Addr) (u1 : Int32) : entryFrame m #[(.ref o0), (.int u1)] 2 = mkF m 0 #[.val (.ref o0), .val (.int u1)] [] := by first | (simp [entryFrame, mkF, argsToLocals, Value.category]; done) | rfl
def Q4 (Z : State) (o0 : Addr) (u1 : Int32) (f1 : Int64) (f2 : Int64) (f3 : Int64) (f4 : Int64) (h0 : Heap) (n0 : Nat) (v : Option Value) (h : Heap) (L : List Loc) : Prop := v = none ∧ Fr n0 L ∧ Keep h0 h [o0] ∧ Fld Z h o0 "com/example/mingle/mingle/FrameCounts" "ackFrames" "J" (.long (f1 + (1 : Int64))) ∧ Fld Z h o0 "com/example/mingle/mingle/FrameCounts" "ackBytes" "J" (.long (f2 + (u1.toInt64))) ∧ Fld Z h o0 "com/example/mingle/mingle/FrameCounts" "messageFrames" "J" (.long f3) ∧ Fld Z h o0 "com/example/mingle/mingle/FrameCounts" "messageBytes" "J" (.long f4)
set_option maxRecDepth 65536 in
set_option maxHeartbeats 40000000 in
theorem rm4 (l : Launch) (Z : State) (a0 : Array Value) (hw : ∀ d ∈ tables_1, d.before a0 Z = true) (o0 : Addr) (u1 : Int32) (f1 : Int64) (f2 : Int64) (f3 : Int64) (f4 : Int64) (h0 : Heap) (n0 : Nat) (Z0 : n0 ≤ h0.size) (E_o0 : Exa Z h0 o0 "com/example/mingle/mingle/FrameCounts") (F_o0_ackFrames : Fld Z h0 o0 "com/example/mingle/mingle/FrameCounts" "ackFrames" "J" (.long f1)) (F_o0_ackBytes : Fld Z h0 o0 "com/example/mingle/mingle/FrameCounts" "ackBytes" "J" (.long f2)) (g_o0 : n0 ≤ o0) (F_o0_messageFrames : Fld Z h0 o0 "com/example/mingle/mingle/FrameCounts" "messageFrames" "J" (.long f3)) (F_o0_messageBytes : Fld Z h0 o0 "com/example/mingle/mingle/FrameCounts" "messageBytes" "J" (.long f4)) :
    own_C l Z (⟨"com/example/mingle/mingle/FrameCounts", "countAckFrame", "(I)V"⟩ : MethodName) prog_6_method_3_code 2 none ({ frames := 0, cells := 0, slots := 0, locals := 0 } : Room) #[(.ref o0), (.int u1)] h0 (Q4 Z o0 u1 f1 f2 f3 f4 h0 n0) := by
  refine own_met (plainFor_of_name pn_0) ?_
  intro p e s m below meth c s₁ hx hby hml hret hlk hown hnm hZ X0 e0
  refine own_cast (ef_4 m o0 u1) ?_
  have N0 := Fr.nil n0
  have K := Keep.refl h0 [o0]
  show own_Out p e below _ s₁ (mkF m 0 #[.val (.ref o0), .val (.int u1)] []) _ _ _
  refine own_to (fun t k => XS.aloadN X0.here hx rfl (hb hby d4_0) rfl rfl k) ?_
  show own_Out p e below _ s₁ (mkF m 1 #[.val (.ref o0), .val (.int u1)] [(.ref o0)]) _ _ _
  refine own_to (fun t k => XS.dup X0.here hx rfl (hb hby d4_1) rfl rfl k) ?_
  show own_Out p e below _ s₁ (mkF m 2 #[.val (.ref o0), .val (.int u1)] [(.ref o0), (.ref o0)]) _ _ _
  refine own_getF X0 hx hZ hown (hw _ (List.mem_of_getElem? (i := 23) rfl)) e0 F_o0_ackFrames rfl rfl (hb hby d4_2) fun T1 X1 e1 => ?_
  show own_Out p e below _ T1 (mkF m 5 #[.val (.ref o0), .val (.int u1)] [(.long f1), (.ref o0)]) _ _ _
  refine own_to (fun t k => XS.lconst X1.here hx rfl (hb hby d4_5) k) ?_
  show own_Out p e below _ T1 (mkF m 6 #[.val (.ref o0), .val (.int u1)] [(.long (1 : Int64)), (.long f1), (.ref o0)]) _ _ _
  refine own_to (fun t k => XS.ladd X1.here hx rfl (hb hby d4_6) rfl k) ?_
  show own_Out p e below _ T1 (mkF m 7 #[.val (.ref o0), .val (.int u1)] [(.long (f1 + (1 : Int64))), (.ref o0)]) _ _ _
  refine own_putF X1 hx hZ hown (hw _ (List.mem_of_getElem? (i := 23) rfl)) e1 F_o0_ackFrames E_o0 (Or.inl (hw _ (List.mem_of_getElem? (i := 24) rfl))) (hw _ (List.mem_of_getElem? (i := 1) rfl)) (ty := .long) (by decide) rfl rfl rfl rfl (hb hby d4_7) fun T2 hh2 X2 e2 W2 => ?_
  have E_o0 := E_o0.wr W2
  have F_o0_ackFrames := F_o0_ackFrames.same W2
  have F_o0_ackBytes := F_o0_ackBytes.other W2 (Or.inr (slot_ne (Or.inl (hw _ (List.mem_of_getElem? (i := 26) rfl))) (Or.inl (hw _ (List.mem_of_getElem? (i := 24) rfl))) (by decide) (t := .long) (t' := .long) (by decide) (by decide)))
  have F_o0_messageFrames := F_o0_messageFrames.other W2 (Or.inr (slot_ne (Or.inl (hw _ (List.mem_of_getElem? (i := 15) rfl))) (Or.inl (hw _ (List.mem_of_getElem? (i := 24) rfl))) (by decide) (t := .long) (t' := .long) (by decide) (by decide)))
  have F_o0_messageBytes := F_o0_messageBytes.other W2 (Or.inr (slot_ne (Or.inl (hw _ (List.mem_of_getElem? (i := 17) rfl))) (Or.inl (hw _ (List.mem_of_getElem? (i := 24) rfl))) (by decide) (t := .long) (t' := .long) (by decide) (by decide)))
  have K := K.wr W2 (Or.inl (by simp))
  have Z0 := Nat.le_trans Z0 (Nat.le_of_eq W2.size.symm)
  have N2 := own_fs (sl := Jvm.RoadKit.slotOf Z "com/example/mingle/mingle/FrameCounts" "ackFrames" "J") N0 g_o0
  show own_Out p e below _ T2 (mkF m 10 #[.val (.ref o0), .val (.int u1)] []) _ _ _
  refine own_to (fun t k => XS.aloadN X2.here hx rfl (hb hby d4_10) rfl rfl k) ?_
  show own_Out p e below _ T2 (mkF m 11 #[.val (.ref o0), .val (.int u1)] [(.ref o0)]) _ _ _
  refine own_to (fun t k => XS.dup X2.here hx rfl (hb hby d4_11) rfl rfl k) ?_
  show own_Out p e below _ T2 (mkF m 12 #[.val (.ref o0), .val (.int u1)] [(.ref o0), (.ref o0)]) _ _ _
  refine own_getF X2 hx hZ hown (hw _ (List.mem_of_getElem? (i := 25) rfl)) e2 F_o0_ackBytes rfl rfl (hb hby d4_12) fun T3 X3 e3 => ?_
  show own_Out p e below _ T3 (mkF m 15 #[.val (.ref o0), .val (.int u1)] [(.long f2), (.ref o0)]) _ _ _
  refine own_to (fun t k => XS.iloadN X3.here hx rfl (hb hby d4_15) rfl k) ?_
  show own_Out p e below _ T3 (mkF m 16 #[.val (.ref o0), .val (.int u1)] [(.int u1), (.long f2), (.ref o0)]) _ _ _
  refine own_to (fun t k => XS.i2l X3.here hx rfl (hb hby d4_16) rfl k) ?_
  show own_Out p e below _ T3 (mkF m 17 #[.val (.ref o0), .val (.int u1)] [(.long (u1.toInt64)), (.long f2), (.ref o0)]) _ _ _
  refine own_to (fun t k => XS.ladd X3.here hx rfl (hb hby d4_17) rfl k) ?_
  show own_Out p e below _ T3 (mkF m 18 #[.val (.ref o0), .val (.int u1)] [(.long (f2 + (u1.toInt64))), (.ref o0)]) _ _ _
  refine own_putF X3 hx hZ hown (hw _ (List.mem_of_getElem? (i := 25) rfl)) e3 F_o0_ackBytes E_o0 (Or.inl (hw _ (List.mem_of_getElem? (i := 26) rfl))) (hw _ (List.mem_of_getElem? (i := 1) rfl)) (ty := .long) (by decide) rfl rfl rfl rfl (hb hby d4_18) fun T4 hh4 X4 e4 W4 => ?_
  have E_o0 := E_o0.wr W4
  have F_o0_ackFrames := F_o0_ackFrames.other W4 (Or.inr (slot_ne (Or.inl (hw _ (List.mem_of_getElem? (i := 24) rfl))) (Or.inl (hw _ (List.mem_of_getElem? (i := 26) rfl))) (by decide) (t := .long) (t' := .long) (by decide) (by decide)))
  have F_o0_ackBytes := F_o0_ackBytes.same W4
  have F_o0_messageFrames := F_o0_messageFrames.other W4 (Or.inr (slot_ne (Or.inl (hw _ (List.mem_of_getElem? (i := 15) rfl))) (Or.inl (hw _ (List.mem_of_getElem? (i := 26) rfl))) (by decide) (t := .long) (t' := .long) (by decide) (by decide)))
  have F_o0_messageBytes := F_o0_messageBytes.other W4 (Or.inr (slot_ne (Or.inl (hw _ (List.mem_of_getElem? (i := 17) rfl))) (Or.inl (hw _ (List.mem_of_getElem? (i := 26) rfl))) (by decide) (t := .long) (t' := .long) (by decide) (by decide)))
  have K := K.wr W4 (Or.inl (by simp))
  have Z0 := Nat.le_trans Z0 (Nat.le_of_eq W4.size.symm)
  have N4 := own_fs (sl := Jvm.RoadKit.slotOf Z "com/example/mingle/mingle/FrameCounts" "ackBytes" "J") N2 g_o0
  show own_Out p e below _ T4 (mkF m 21 #[.val (.ref o0), .val (.int u1)] []) _ _ _
  refine own_ret0 X4 hx hlk hret (hb hby d4_21) (by decide) (by decide) ?_
  rw [e4]
  exact ⟨rfl, N4, K, F_o0_ackFrames, F_o0_ackBytes, F_o0_messageFrames, F_o0_messageBytes⟩
theorem d7_0 : decode prog_6_method_4_code 0 = .ok (.aload_n 0, 1) := by decide +kernel
theorem d7_1 : decode prog_6_method_4_code 1 = .ok (.getfield 7, 3) := by decide +kernel
theorem d7_4 : decode prog_6_method_4_code 4 = .ok (.lreturn, 1) := by decide +kernel
theorem ef_7 (m : MethodId) (o0 : Addr) : entryFrame m #[(.ref o0)] 1 = mkF m 0 #[.val (.ref o0)] [] := by first | (simp [entryFrame, mkF, argsToLocals, Value.category]; done) | rfl
def Q7 (Z : State) (o0 : Addr) (f1 : Int64) (h0 : Heap) (n0 : Nat) (v : Option Value) (h : Heap) (L : List Loc) : Prop := v = some (.long f1) ∧ Fr n0 L ∧ h = h0
set_option maxRecDepth 65536 in
set_option maxHeartbeats 40000000 in
theorem rm7 (l : Launch) (Z : State) (a0 : Array Value) (hw : ∀ d ∈ tables_1, d.before a0 Z = true) (o0 : Addr) (f1 : Int64) (h0 : Heap) (n0 : Nat) (Z0 : n0 ≤ h0.size) (F_o0_messageFrames : Fld Z h0 o0 "com/example/mingle/mingle/FrameCounts" "messageFrames" "J" (.long f1)) :
    own_C l Z (⟨"com/example/mingle/mingle/FrameCounts", "messageFrames", "()J"⟩ : MethodName) prog_6_method_4_code 1 (some .long) ({ frames := 0, cells := 0, slots := 0, locals := 0 } : Room) #[(.ref o0)] h0 (Q7 Z o0 f1 h0 n0) := by
  refine own_met (plainFor_of_name pn_0) ?_
  intro p e s m below meth c s₁ hx hby hml hret hlk hown hnm hZ X0 e0
  refine own_cast (ef_7 m o0) ?_
  have N0 := Fr.nil n0
  show own_Out p e below _ s₁ (mkF m 0 #[.val (.ref o0)] []) _ _ _
  refine own_to (fun t k => XS.aloadN X0.here hx rfl (hb hby d7_0) rfl rfl k) ?_
  show own_Out p e below _ s₁ (mkF m 1 #[.val (.ref o0)] [(.ref o0)]) _ _ _
  refine own_getF X0 hx hZ hown (hw _ (List.mem_of_getElem? (i := 14) rfl)) e0 F_o0_messageFrames rfl rfl (hb hby d7_1) fun T1 X1 e1 => ?_
  show own_Out p e below _ T1 (mkF m 4 #[.val (.ref o0)] [(.long f1)]) _ _ _
  refine own_retJ X1 hx hlk hret (hb hby d7_4) (by decide) (by decide) ?_
  rw [e1]
  exact ⟨rfl, N0, rfl⟩
theorem d8_0 : decode prog_6_method_5_code 0 = .ok (.aload_n 0, 1) := by decide +kernel
theorem d8_1 : decode prog_6_method_5_code 1 = .ok (.getfield 13, 3) := by decide +kernel
theorem d8_4 : decode prog_6_method_5_code 4 = .ok (.lreturn, 1) := by decide +kernel
theorem ef_8 (m : MethodId) (o0 : Addr) : entryFrame m #[(.ref o0)] 1 = mkF m 0 #[.val (.ref o0)] [] := by first | (simp [entryFrame, mkF, argsToLocals, Value.category]; done) | rfl
def Q8 (Z : State) (o0 : Addr) (f1 : Int64) (h0 : Heap) (n0 : Nat) (v : Option Value) (h : Heap) (L : List Loc) : Prop := v = some (.long f1) ∧ Fr n0 L ∧ h = h0
set_option maxRecDepth 65536 in
set_option maxHeartbeats 40000000 in
theorem rm8 (l : Launch) (Z : State) (a0 : Array Value) (hw : ∀ d ∈ tables_1, d.before a0 Z = true) (o0 : Addr) (f1 : Int64) (h0 : Heap) (n0 : Nat) (Z0 : n0 ≤ h0.size) (F_o0_messageBytes : Fld Z h0 o0 "com/example/mingle/mingle/FrameCounts" "messageBytes" "J" (.long f1)) :
    own_C l Z (⟨"com/example/mingle/mingle/FrameCounts", "messageBytes", "()J"⟩ : MethodName) prog_6_method_5_code 1 (some .long) ({ frames := 0, cells := 0, slots := 0, locals := 0 } : Room) #[(.ref o0)] h0 (Q8 Z o0 f1 h0 n0) := by
  refine own_met (plainFor_of_name pn_0) ?_
  intro p e s m below meth c s₁ hx hby hml hret hlk hown hnm hZ X0 e0
  refine own_cast (ef_8 m o0) ?_
  have N0 := Fr.nil n0
  show own_Out p e below _ s₁ (mkF m 0 #[.val (.ref o0)] []) _ _ _
  refine own_to (fun t k => XS.aloadN X0.here hx rfl (hb hby d8_0) rfl rfl k) ?_
  show own_Out p e below _ s₁ (mkF m 1 #[.val (.ref o0)] [(.ref o0)]) _ _ _
  refine own_getF X0 hx hZ hown (hw _ (List.mem_of_getElem? (i := 16) rfl)) e0 F_o0_messageBytes rfl rfl (hb hby d8_1) fun T1 X1 e1 => ?_
  show own_Out p e below _ T1 (mkF m 4 #[.val (.ref o0)] [(.long f1)]) _ _ _
  refine own_retJ X1 hx hlk hret (hb hby d8_4) (by decide) (by decide) ?_
  rw [e1]
  exact ⟨rfl, N0, rfl⟩
theorem d5_0 : decode prog_6_method_6_code 0 = .ok (.aload_n 0, 1) := by decide +kernel
theorem d5_1 : decode prog_6_method_6_code 1 = .ok (.getfield 16, 3) := by decide +kernel
theorem d5_4 : decode prog_6_method_6_code 4 = .ok (.lreturn, 1) := by decide +kernel
theorem ef_5 (m : MethodId) (o0 : Addr) : entryFrame m #[(.ref o0)] 1 = mkF m 0 #[.val (.ref o0)] [] := by first | (simp [entryFrame, mkF, argsToLocals, Value.category]; done) | rfl
def Q5 (Z : State) (o0 : Addr) (f1 : Int64) (h0 : Heap) (n0 : Nat) (v : Option Value) (h : Heap) (L : List Loc) : Prop := v = some (.long f1) ∧ Fr n0 L ∧ h = h0
set_option maxRecDepth 65536 in
set_option maxHeartbeats 40000000 in
theorem rm5 (l : Launch) (Z : State) (a0 : Array Value) (hw : ∀ d ∈ tables_1, d.before a0 Z = true) (o0 : Addr) (f1 : Int64) (h0 : Heap) (n0 : Nat) (Z0 : n0 ≤ h0.size) (F_o0_ackFrames : Fld Z h0 o0 "com/example/mingle/mingle/FrameCounts" "ackFrames" "J" (.long f1)) :
    own_C l Z (⟨"com/example/mingle/mingle/FrameCounts", "ackFrames", "()J"⟩ : MethodName) prog_6_method_6_code 1 (some .long) ({ frames := 0, cells := 0, slots := 0, locals := 0 } : Room) #[(.ref o0)] h0 (Q5 Z o0 f1 h0 n0) := by
  refine own_met (plainFor_of_name pn_0) ?_
  intro p e s m below meth c s₁ hx hby hml hret hlk hown hnm hZ X0 e0
  refine own_cast (ef_5 m o0) ?_
  have N0 := Fr.nil n0
  show own_Out p e below _ s₁ (mkF m 0 #[.val (.ref o0)] []) _ _ _
  refine own_to (fun t k => XS.aloadN X0.here hx rfl (hb hby d5_0) rfl rfl k) ?_
  show own_Out p e below _ s₁ (mkF m 1 #[.val (.ref o0)] [(.ref o0)]) _ _ _
  refine own_getF X0 hx hZ hown (hw _ (List.mem_of_getElem? (i := 23) rfl)) e0 F_o0_ackFrames rfl rfl (hb hby d5_1) fun T1 X1 e1 => ?_
  show own_Out p e below _ T1 (mkF m 4 #[.val (.ref o0)] [(.long f1)]) _ _ _
  refine own_retJ X1 hx hlk hret (hb hby d5_4) (by decide) (by decide) ?_
  rw [e1]
  exact ⟨rfl, N0, rfl⟩
theorem d6_0 : decode prog_6_method_7_code 0 = .ok (.aload_n 0, 1) := by decide +kernel
theorem d6_1 : decode prog_6_method_7_code 1 = .ok (.getfield 19, 3) := by decide +kernel
theorem d6_4 : decode prog_6_method_7_code 4 = .ok (.lreturn, 1) := by decide +kernel
theorem ef_6 (m : MethodId) (o0 : Addr) : entryFrame m #[(.ref o0)] 1 = mkF m 0 #[.val (.ref o0)] [] := by first | (simp [entryFrame, mkF, argsToLocals, Value.category]; done) | rfl
def Q6 (Z : State) (o0 : Addr) (f1 : Int64) (h0 : Heap) (n0 : Nat) (v : Option Value) (h : Heap) (L : List Loc) : Prop := v = some (.long f1) ∧ Fr n0 L ∧ h = h0
set_option maxRecDepth 65536 in
set_option maxHeartbeats 40000000 in
theorem rm6 (l : Launch) (Z : State) (a0 : Array Value) (hw : ∀ d ∈ tables_1, d.before a0 Z = true) (o0 : Addr) (f1 : Int64) (h0 : Heap) (n0 : Nat) (Z0 : n0 ≤ h0.size) (F_o0_ackBytes : Fld Z h0 o0 "com/example/mingle/mingle/FrameCounts" "ackBytes" "J" (.long f1)) :
    own_C l Z (⟨"com/example/mingle/mingle/FrameCounts", "ackBytes", "()J"⟩ : MethodName) prog_6_method_7_code 1 (some .long) ({ frames := 0, cells := 0, slots := 0, locals := 0 } : Room) #[(.ref o0)] h0 (Q6 Z o0 f1 h0 n0) := by
  refine own_met (plainFor_of_name pn_0) ?_
  intro p e s m below meth c s₁ hx hby hml hret hlk hown hnm hZ X0 e0
  refine own_cast (ef_6 m o0) ?_
  have N0 := Fr.nil n0
  show own_Out p e below _ s₁ (mkF m 0 #[.val (.ref o0)] []) _ _ _
  refine own_to (fun t k => XS.aloadN X0.here hx rfl (hb hby d6_0) rfl rfl k) ?_
  show own_Out p e below _ s₁ (mkF m 1 #[.val (.ref o0)] [(.ref o0)]) _ _ _
  refine own_getF X0 hx hZ hown (hw _ (List.mem_of_getElem? (i := 25) rfl)) e0 F_o0_ackBytes rfl rfl (hb hby d6_1) fun T1 X1 e1 => ?_
  show own_Out p e below _ T1 (mkF m 4 #[.val (.ref o0)] [(.long f1)]) _ _ _
  refine own_retJ X1 hx hlk hret (hb hby d6_4) (by decide) (by decide) ?_
  rw [e1]
  exact ⟨rfl, N0, rfl⟩
theorem pn_1 : plainName "com/example/mingle/mingle/FrameCountsCountAckFramePinLaw" = true := by first | (simp [plainName, overriddenIn]; done) | decide +kernel
theorem ef_0 (m : MethodId) (x0 : Int32) (x1 : Int32) (x2 : Int32) (x3 : Int32) : entryFrame m #[(.int x0), (.int x1), (.int x2), (.int x3)] maxLocals = mkF m 0 #[.val (.int x0), .val (.int x1), .val (.int x2), .val (.int x3), .unset, .unset, .unset, .unset, .unset, .unset, .unset] [] := by first | (simp [entryFrame, mkF, argsToLocals, Value.category, maxLocals]; done) | rfl
def Q0 (Z : State) (x0 : Int32) (x1 : Int32) (x2 : Int32) (x3 : Int32) (h0 : Heap) (n0 : Nat) (v : Option Value) (h : Heap) (L : List Loc) : Prop := v = some (.int (1 : Int32)) ∧ Fr n0 L
theorem pd_0 : parseMethodDescriptor "()V" = some ⟨[], none⟩ := by decide +kernel
theorem pd_1 : parseMethodDescriptor "(I)V" = some ⟨[.int], none⟩ := by decide +kernel
theorem pd_2 : parseMethodDescriptor "()J" = some ⟨[], some .long⟩ := by decide +kernel
set_option maxRecDepth 65536 in
set_option maxHeartbeats 40000000 in
theorem rm0 (l : Launch) (Z : State) (a0 : Array Value) (hw : ∀ d ∈ tables_1, d.before a0 Z = true) (x0 : Int32) (x1 : Int32) (x2 : Int32) (x3 : Int32) (h0 : Heap) (n0 : Nat) (Z0 : n0 ≤ h0.size) :
    own_C l Z x code maxLocals ret room_1 #[(.int x0), (.int x1), (.int x2), (.int x3)] h0 (Q0 Z x0 x1 x2 x3 h0 n0) := by
  refine own_met (plainFor_of_name pn_1) ?_
  intro p e s m below meth c s₁ hx hby hml hret hlk hown hnm hZ X0 e0
  refine own_cast (ef_0 m x0 x1 x2 x3) ?_
  have N0 := Fr.nil n0
  show own_Out p e below _ s₁ (mkF m 0 #[.val (.int x0), .val (.int x1), .val (.int x2), .val (.int x3), .unset, .unset, .unset, .unset, .unset, .unset, .unset] []) _ _ _
  refine own_to (fun t k => XS.iloadN X0.here hx rfl (hb hby at_0) rfl k) ?_
  show own_Out p e below _ s₁ (mkF m 1 #[.val (.int x0), .val (.int x1), .val (.int x2), .val (.int x3), .unset, .unset, .unset, .unset, .unset, .unset, .unset] [(.int x3)]) _ _ _
  refine own_to (fun t k => XS.iconst X0.here hx rfl (hb hby at_1) k) ?_
  show own_Out p e below _ s₁ (mkF m 2 #[.val (.int x0), .val (.int x1), .val (.int x2), .val (.int x3), .unset, .unset, .unset, .unset, .unset, .unset, .unset] [(.int (1 : Int32)), (.int x3)]) _ _ _
  refine own_to (fun t k => XS.iand X0.here hx rfl (hb hby at_2) rfl k) ?_
  show own_Out p e below _ s₁ (mkF m 3 #[.val (.int x0), .val (.int x1), .val (.int x2), .val (.int x3), .unset, .unset, .unset, .unset, .unset, .unset, .unset] [(.int (x3 &&& (1 : Int32)))]) _ _ _
  by_cases hc3 : (x3 &&& (1 : Int32)) = (0 : Int32)
  · refine own_to (fun t k => XS.ifYes X0.here hx rfl (pc0 := 3) (pc' := 10) rfl (hb hby at_3) rfl ((if0 _ _).trans (teq hc3).1) (by decide) (by decide) k) ?_
    show own_Out p e below _ s₁ (mkF m 10 #[.val (.int x0), .val (.int x1), .val (.int x2), .val (.int x3), .unset, .unset, .unset, .unset, .unset, .unset, .unset] []) _ _ _
    refine own_to (fun t k => XS.iconst X0.here hx rfl (hb hby at_10) k) ?_
    show own_Out p e below _ s₁ (mkF m 11 #[.val (.int x0), .val (.int x1), .val (.int x2), .val (.int x3), .unset, .unset, .unset, .unset, .unset, .unset, .unset] [(.int (0 : Int32))]) _ _ _
    refine own_to (fun t k => XS.istore X0.here hx rfl (hb hby at_11) rfl (l' := #[.val (.int x0), .val (.int x1), .val (.int x2), .val (.int x3), .val (.int (0 : Int32)), .unset, .unset, .unset, .unset, .unset, .unset]) rfl k) ?_
    show own_Out p e below _ s₁ (mkF m 13 #[.val (.int x0), .val (.int x1), .val (.int x2), .val (.int x3), .val (.int (0 : Int32)), .unset, .unset, .unset, .unset, .unset, .unset] []) _ _ _
    refine own_new X0 hx hZ hown (hw _ (List.mem_of_getElem? (i := 0) rfl)) (hw _ (List.mem_of_getElem? (i := 1) rfl)) (hw _ (List.mem_of_getElem? (i := 2) rfl)) e0 rfl (hb hby at_13) (by decide) (by decide) fun T1 hh1 ob1 gb1 X1 e1 E1 A1 D1 => ?_
    have g_ob1 : n0 ≤ ob1 := Nat.le_trans Z0 (Nat.le_of_eq gb1.symm)
    have Z0 := Nat.le_trans Z0 E1.1
    have E_ob1 := A1
    have F_ob1_messageFrames : Fld Z hh1 ob1 "com/example/mingle/mingle/FrameCounts" "messageFrames" "J" (.long (0 : Int64)) := D1 (Or.inl (hw _ (List.mem_of_getElem? (i := 15) rfl))) (ty := .long) (by decide)
    have F_ob1_messageBytes : Fld Z hh1 ob1 "com/example/mingle/mingle/FrameCounts" "messageBytes" "J" (.long (0 : Int64)) := D1 (Or.inl (hw _ (List.mem_of_getElem? (i := 17) rfl))) (ty := .long) (by decide)
    have F_ob1_ackFrames : Fld Z hh1 ob1 "com/example/mingle/mingle/FrameCounts" "ackFrames" "J" (.long (0 : Int64)) := D1 (Or.inl (hw _ (List.mem_of_getElem? (i := 24) rfl))) (ty := .long) (by decide)
    have F_ob1_ackBytes : Fld Z hh1 ob1 "com/example/mingle/mingle/FrameCounts" "ackBytes" "J" (.long (0 : Int64)) := D1 (Or.inl (hw _ (List.mem_of_getElem? (i := 26) rfl))) (ty := .long) (by decide)
    show own_Out p e below _ T1 (mkF m 16 #[.val (.int x0), .val (.int x1), .val (.int x2), .val (.int x3), .val (.int (0 : Int32)), .unset, .unset, .unset, .unset, .unset, .unset] [(.ref ob1)]) _ _ _
    refine own_to (fun t k => XS.dup X1.here hx rfl (hb hby at_16) rfl rfl k) ?_
    show own_Out p e below _ T1 (mkF m 17 #[.val (.int x0), .val (.int x1), .val (.int x2), .val (.int x3), .val (.int (0 : Int32)), .unset, .unset, .unset, .unset, .unset, .unset] [(.ref ob1), (.ref ob1)]) _ _ _
    refine own_callC X1 hx hZ hown (a := ob1) (argsL := []) (rest := [(.ref ob1)]) rfl (hw _ (List.mem_of_getElem? (i := 3) rfl)) (hw _ (List.mem_of_getElem? (i := 4) rfl)) (hw _ (List.mem_of_getElem? (i := 2) rfl)) (hw _ (List.mem_of_getElem? (i := 5) rfl)) (by decide) (rm1 l Z a0 hw ob1 hh1 n0 Z0 ) (by decide) (by decide) e1 rfl (by rw [hml]; rfl) (lenOf pd_0 rfl) rfl (W := 1) (by show 2 * 0 + _ ≤ _; exact Nat.le_of_eq rfl) (hb hby at_17) (by decide) (by decide) fun v2 T2 hh2 L2 X2 e2 hQ2 => ?_
    obtain ⟨rfl, NL2, he2⟩ := hQ2
    replace e2 := e2.trans he2
    have N2 := Fr.app N0 NL2
    show own_Out p e below _ T2 (mkF m 20 #[.val (.int x0), .val (.int x1), .val (.int x2), .val (.int x3), .val (.int (0 : Int32)), .unset, .unset, .unset, .unset, .unset, .unset] [(.ref ob1)]) _ _ _
    refine own_to (fun t k => XS.astore X2.here hx rfl (hb hby at_20) rfl rfl (l' := #[.val (.int x0), .val (.int x1), .val (.int x2), .val (.int x3), .val (.int (0 : Int32)), .val (.ref ob1), .unset, .unset, .unset, .unset, .unset]) rfl k) ?_
    show own_Out p e below _ T2 (mkF m 22 #[.val (.int x0), .val (.int x1), .val (.int x2), .val (.int x3), .val (.int (0 : Int32)), .val (.ref ob1), .unset, .unset, .unset, .unset, .unset] []) _ _ _
    refine own_to (fun t k => XS.iload X2.here hx rfl (hb hby at_22) rfl k) ?_
    show own_Out p e below _ T2 (mkF m 24 #[.val (.int x0), .val (.int x1), .val (.int x2), .val (.int x3), .val (.int (0 : Int32)), .val (.ref ob1), .unset, .unset, .unset, .unset, .unset] [(.int (0 : Int32))]) _ _ _
    have hc24 : (0 : Int32) = (0 : Int32) := by decide
    refine own_to (fun t k => XS.ifYes X2.here hx rfl (pc0 := 24) (pc' := 33) rfl (hb hby at_24) rfl ((if0 _ _).trans (teq hc24).1) (by decide) (by decide) k) ?_
    show own_Out p e below _ T2 (mkF m 33 #[.val (.int x0), .val (.int x1), .val (.int x2), .val (.int x3), .val (.int (0 : Int32)), .val (.ref ob1), .unset, .unset, .unset, .unset, .unset] []) _ _ _
    refine own_to (fun t k => XS.aload X2.here hx rfl (hb hby at_33) rfl rfl k) ?_
    show own_Out p e below _ T2 (mkF m 35 #[.val (.int x0), .val (.int x1), .val (.int x2), .val (.int x3), .val (.int (0 : Int32)), .val (.ref ob1), .unset, .unset, .unset, .unset, .unset] [(.ref ob1)]) _ _ _
    refine own_to (fun t k => XS.iloadN X2.here hx rfl (hb hby at_35) rfl k) ?_
    show own_Out p e below _ T2 (mkF m 36 #[.val (.int x0), .val (.int x1), .val (.int x2), .val (.int x3), .val (.int (0 : Int32)), .val (.ref ob1), .unset, .unset, .unset, .unset, .unset] [(.int x0), (.ref ob1)]) _ _ _
    refine own_callV X2 hx hZ hown (a := ob1) (argsL := [(.int x0)]) (rest := []) (hw _ (List.mem_of_getElem? (i := 18) rfl)) (hw _ (List.mem_of_getElem? (i := 19) rfl)) (hw _ (List.mem_of_getElem? (i := 21) rfl)) (hw _ (List.mem_of_getElem? (i := 20) rfl)) (hw _ (List.mem_of_getElem? (i := 2) rfl)) (hw _ (List.mem_of_getElem? (i := 22) rfl)) (by decide) (rm4 l Z a0 hw ob1 x0 (0 : Int64) (0 : Int64) (0 : Int64) (0 : Int64) hh1 n0 Z0 E_ob1 F_ob1_ackFrames F_ob1_ackBytes g_ob1 F_ob1_messageFrames F_ob1_messageBytes) (by decide) (by decide) e2 E_ob1 rfl (by rw [hml]; rfl) (lenOf pd_1 rfl) rfl (W := 0) (by show 2 * 0 + _ ≤ _; exact Nat.le_of_eq rfl) (hb hby at_36) (by decide) (by decide) fun v3 T3 hh3 L3 X3 e3 hQ3 => ?_
    obtain ⟨rfl, NL3, KK3, P3_0, P3_1, P3_2, P3_3⟩ := hQ3
    have E_ob1 := E_ob1.keep KK3
    have F_ob1_ackFrames := P3_0
    have F_ob1_ackBytes := P3_1
    have F_ob1_messageFrames := P3_2
    have F_ob1_messageBytes := P3_3
    have Z0 := Nat.le_trans Z0 KK3.1
    have N3 := Fr.app N2 NL3
    show own_Out p e below _ T3 (mkF m 39 #[.val (.int x0), .val (.int x1), .val (.int x2), .val (.int x3), .val (.int (0 : Int32)), .val (.ref ob1), .unset, .unset, .unset, .unset, .unset] []) _ _ _
    refine own_to (fun t k => XS.aload X3.here hx rfl (hb hby at_39) rfl rfl k) ?_
    show own_Out p e below _ T3 (mkF m 41 #[.val (.int x0), .val (.int x1), .val (.int x2), .val (.int x3), .val (.int (0 : Int32)), .val (.ref ob1), .unset, .unset, .unset, .unset, .unset] [(.ref ob1)]) _ _ _
    refine own_callV X3 hx hZ hown (a := ob1) (argsL := []) (rest := []) (hw _ (List.mem_of_getElem? (i := 27) rfl)) (hw _ (List.mem_of_getElem? (i := 28) rfl)) (hw _ (List.mem_of_getElem? (i := 30) rfl)) (hw _ (List.mem_of_getElem? (i := 29) rfl)) (hw _ (List.mem_of_getElem? (i := 2) rfl)) (hw _ (List.mem_of_getElem? (i := 31) rfl)) (by decide) (rm5 l Z a0 hw ob1 ((0 : Int64) + (1 : Int64)) hh3 n0 Z0 F_ob1_ackFrames) (by decide) (by decide) e3 E_ob1 rfl (by rw [hml]; rfl) (lenOf pd_2 rfl) rfl (W := 0) (by show 2 * 0 + _ ≤ _; exact Nat.le_of_eq rfl) (hb hby at_41) (by decide) (by decide) fun v4 T4 hh4 L4 X4 e4 hQ4 => ?_
    obtain ⟨rfl, NL4, he4⟩ := hQ4
    replace e4 := e4.trans he4
    have N4 := Fr.app N3 NL4
    show own_Out p e below _ T4 (mkF m 44 #[.val (.int x0), .val (.int x1), .val (.int x2), .val (.int x3), .val (.int (0 : Int32)), .val (.ref ob1), .unset, .unset, .unset, .unset, .unset] [(.long ((0 : Int64) + (1 : Int64)))]) _ _ _
    refine own_to (fun t k => XS.lconst X4.here hx rfl (hb hby at_44) k) ?_
    show own_Out p e below _ T4 (mkF m 45 #[.val (.int x0), .val (.int x1), .val (.int x2), .val (.int x3), .val (.int (0 : Int32)), .val (.ref ob1), .unset, .unset, .unset, .unset, .unset] [(.long (1 : Int64)), (.long ((0 : Int64) + (1 : Int64)))]) _ _ _
    refine own_to (fun t k => XS.lcmp X4.here hx rfl (hb hby at_45) rfl k) ?_
    show own_Out p e below _ T4 (mkF m 46 #[.val (.int x0), .val (.int x1), .val (.int x2), .val (.int x3), .val (.int (0 : Int32)), .val (.ref ob1), .unset, .unset, .unset, .unset, .unset] [(.int (lcmpW ((0 : Int64) + (1 : Int64)) (1 : Int64)))]) _ _ _
    have hc46 : ((0 : Int64) + (1 : Int64)) = (1 : Int64) := by first | rfl | decide | (simp only [Int64.zero_add]; done) | simp
    refine own_to (fun t k => XS.ifNo X4.here hx rfl (hb hby at_46) rfl ((if0 _ _).trans (teq ((lw_eq _ _).mpr hc46)).2) k) ?_
    show own_Out p e below _ T4 (mkF m 49 #[.val (.int x0), .val (.int x1), .val (.int x2), .val (.int x3), .val (.int (0 : Int32)), .val (.ref ob1), .unset, .unset, .unset, .unset, .unset] []) _ _ _
    refine own_to (fun t k => XS.aload X4.here hx rfl (hb hby at_49) rfl rfl k) ?_
    show own_Out p e below _ T4 (mkF m 51 #[.val (.int x0), .val (.int x1), .val (.int x2), .val (.int x3), .val (.int (0 : Int32)), .val (.ref ob1), .unset, .unset, .unset, .unset, .unset] [(.ref ob1)]) _ _ _
    refine own_callV X4 hx hZ hown (a := ob1) (argsL := []) (rest := []) (hw _ (List.mem_of_getElem? (i := 32) rfl)) (hw _ (List.mem_of_getElem? (i := 33) rfl)) (hw _ (List.mem_of_getElem? (i := 35) rfl)) (hw _ (List.mem_of_getElem? (i := 34) rfl)) (hw _ (List.mem_of_getElem? (i := 2) rfl)) (hw _ (List.mem_of_getElem? (i := 36) rfl)) (by decide) (rm6 l Z a0 hw ob1 ((0 : Int64) + (x0.toInt64)) hh3 n0 Z0 F_ob1_ackBytes) (by decide) (by decide) e4 E_ob1 rfl (by rw [hml]; rfl) (lenOf pd_2 rfl) rfl (W := 0) (by show 2 * 0 + _ ≤ _; exact Nat.le_of_eq rfl) (hb hby at_51) (by decide) (by decide) fun v5 T5 hh5 L5 X5 e5 hQ5 => ?_
    obtain ⟨rfl, NL5, he5⟩ := hQ5
    replace e5 := e5.trans he5
    have N5 := Fr.app N4 NL5
    show own_Out p e below _ T5 (mkF m 54 #[.val (.int x0), .val (.int x1), .val (.int x2), .val (.int x3), .val (.int (0 : Int32)), .val (.ref ob1), .unset, .unset, .unset, .unset, .unset] [(.long ((0 : Int64) + (x0.toInt64)))]) _ _ _
    refine own_to (fun t k => XS.iloadN X5.here hx rfl (hb hby at_54) rfl k) ?_
    show own_Out p e below _ T5 (mkF m 55 #[.val (.int x0), .val (.int x1), .val (.int x2), .val (.int x3), .val (.int (0 : Int32)), .val (.ref ob1), .unset, .unset, .unset, .unset, .unset] [(.int x0), (.long ((0 : Int64) + (x0.toInt64)))]) _ _ _
    refine own_to (fun t k => XS.i2l X5.here hx rfl (hb hby at_55) rfl k) ?_
    show own_Out p e below _ T5 (mkF m 56 #[.val (.int x0), .val (.int x1), .val (.int x2), .val (.int x3), .val (.int (0 : Int32)), .val (.ref ob1), .unset, .unset, .unset, .unset, .unset] [(.long (x0.toInt64)), (.long ((0 : Int64) + (x0.toInt64)))]) _ _ _
    refine own_to (fun t k => XS.lcmp X5.here hx rfl (hb hby at_56) rfl k) ?_
    show own_Out p e below _ T5 (mkF m 57 #[.val (.int x0), .val (.int x1), .val (.int x2), .val (.int x3), .val (.int (0 : Int32)), .val (.ref ob1), .unset, .unset, .unset, .unset, .unset] [(.int (lcmpW ((0 : Int64) + (x0.toInt64)) (x0.toInt64)))]) _ _ _
    have hc57 : ((0 : Int64) + (x0.toInt64)) = (x0.toInt64) := by first | rfl | decide | (simp only [Int64.zero_add]; done) | simp
    refine own_to (fun t k => XS.ifNo X5.here hx rfl (hb hby at_57) rfl ((if0 _ _).trans (teq ((lw_eq _ _).mpr hc57)).2) k) ?_
    show own_Out p e below _ T5 (mkF m 60 #[.val (.int x0), .val (.int x1), .val (.int x2), .val (.int x3), .val (.int (0 : Int32)), .val (.ref ob1), .unset, .unset, .unset, .unset, .unset] []) _ _ _
    refine own_to (fun t k => XS.iconst X5.here hx rfl (hb hby at_60) k) ?_
    show own_Out p e below _ T5 (mkF m 61 #[.val (.int x0), .val (.int x1), .val (.int x2), .val (.int x3), .val (.int (0 : Int32)), .val (.ref ob1), .unset, .unset, .unset, .unset, .unset] [(.int (1 : Int32))]) _ _ _
    refine own_to (fun t k => XS.goto X5.here hx rfl (pc0 := 61) (pc' := 65) rfl (hb hby at_61) (by decide) (by decide) k) ?_
    show own_Out p e below _ T5 (mkF m 65 #[.val (.int x0), .val (.int x1), .val (.int x2), .val (.int x3), .val (.int (0 : Int32)), .val (.ref ob1), .unset, .unset, .unset, .unset, .unset] [(.int (1 : Int32))]) _ _ _
    refine own_to (fun t k => XS.istore X5.here hx rfl (hb hby at_65) rfl (l' := #[.val (.int x0), .val (.int x1), .val (.int x2), .val (.int x3), .val (.int (0 : Int32)), .val (.ref ob1), .val (.int (1 : Int32)), .unset, .unset, .unset, .unset]) rfl k) ?_
    show own_Out p e below _ T5 (mkF m 67 #[.val (.int x0), .val (.int x1), .val (.int x2), .val (.int x3), .val (.int (0 : Int32)), .val (.ref ob1), .val (.int (1 : Int32)), .unset, .unset, .unset, .unset] []) _ _ _
    refine own_to (fun t k => XS.aload X5.here hx rfl (hb hby at_67) rfl rfl k) ?_
    show own_Out p e below _ T5 (mkF m 69 #[.val (.int x0), .val (.int x1), .val (.int x2), .val (.int x3), .val (.int (0 : Int32)), .val (.ref ob1), .val (.int (1 : Int32)), .unset, .unset, .unset, .unset] [(.ref ob1)]) _ _ _
    refine own_to (fun t k => XS.iloadN X5.here hx rfl (hb hby at_69) rfl k) ?_
    show own_Out p e below _ T5 (mkF m 70 #[.val (.int x0), .val (.int x1), .val (.int x2), .val (.int x3), .val (.int (0 : Int32)), .val (.ref ob1), .val (.int (1 : Int32)), .unset, .unset, .unset, .unset] [(.int x1), (.ref ob1)]) _ _ _
    refine own_callV X5 hx hZ hown (a := ob1) (argsL := [(.int x1)]) (rest := []) (hw _ (List.mem_of_getElem? (i := 18) rfl)) (hw _ (List.mem_of_getElem? (i := 19) rfl)) (hw _ (List.mem_of_getElem? (i := 21) rfl)) (hw _ (List.mem_of_getElem? (i := 20) rfl)) (hw _ (List.mem_of_getElem? (i := 2) rfl)) (hw _ (List.mem_of_getElem? (i := 22) rfl)) (by decide) (rm4 l Z a0 hw ob1 x1 ((0 : Int64) + (1 : Int64)) ((0 : Int64) + (x0.toInt64)) (0 : Int64) (0 : Int64) hh3 n0 Z0 E_ob1 F_ob1_ackFrames F_ob1_ackBytes g_ob1 F_ob1_messageFrames F_ob1_messageBytes) (by decide) (by decide) e5 E_ob1 rfl (by rw [hml]; rfl) (lenOf pd_1 rfl) rfl (W := 0) (by show 2 * 0 + _ ≤ _; exact Nat.le_of_eq rfl) (hb hby at_70) (by decide) (by decide) fun v6 T6 hh6 L6 X6 e6 hQ6 => ?_
    obtain ⟨rfl, NL6, KK6, P6_0, P6_1, P6_2, P6_3⟩ := hQ6
    have E_ob1 := E_ob1.keep KK6
    have F_ob1_ackFrames := P6_0
    have F_ob1_ackBytes := P6_1
    have F_ob1_messageFrames := P6_2
    have F_ob1_messageBytes := P6_3
    have Z0 := Nat.le_trans Z0 KK6.1
    have N6 := Fr.app N5 NL6
    show own_Out p e below _ T6 (mkF m 73 #[.val (.int x0), .val (.int x1), .val (.int x2), .val (.int x3), .val (.int (0 : Int32)), .val (.ref ob1), .val (.int (1 : Int32)), .unset, .unset, .unset, .unset] []) _ _ _
    refine own_to (fun t k => XS.iload X6.here hx rfl (hb hby at_73) rfl k) ?_
    show own_Out p e below _ T6 (mkF m 75 #[.val (.int x0), .val (.int x1), .val (.int x2), .val (.int x3), .val (.int (0 : Int32)), .val (.ref ob1), .val (.int (1 : Int32)), .unset, .unset, .unset, .unset] [(.int (0 : Int32))]) _ _ _
    have hc75 : (0 : Int32) = (0 : Int32) := by decide
    refine own_to (fun t k => XS.ifYes X6.here hx rfl (pc0 := 75) (pc' := 82) rfl (hb hby at_75) rfl ((if0 _ _).trans (teq hc75).1) (by decide) (by decide) k) ?_
    show own_Out p e below _ T6 (mkF m 82 #[.val (.int x0), .val (.int x1), .val (.int x2), .val (.int x3), .val (.int (0 : Int32)), .val (.ref ob1), .val (.int (1 : Int32)), .unset, .unset, .unset, .unset] []) _ _ _
    refine own_to (fun t k => XS.lconst X6.here hx rfl (hb hby at_82) k) ?_
    show own_Out p e below _ T6 (mkF m 83 #[.val (.int x0), .val (.int x1), .val (.int x2), .val (.int x3), .val (.int (0 : Int32)), .val (.ref ob1), .val (.int (1 : Int32)), .unset, .unset, .unset, .unset] [(.long (0 : Int64))]) _ _ _
    refine own_to (fun t k => XS.lstore X6.here hx rfl (hb hby at_83) rfl (l' := #[.val (.int x0), .val (.int x1), .val (.int x2), .val (.int x3), .val (.int (0 : Int32)), .val (.ref ob1), .val (.int (1 : Int32)), .val (.long (0 : Int64)), .second, .unset, .unset]) rfl k) ?_
    show own_Out p e below _ T6 (mkF m 85 #[.val (.int x0), .val (.int x1), .val (.int x2), .val (.int x3), .val (.int (0 : Int32)), .val (.ref ob1), .val (.int (1 : Int32)), .val (.long (0 : Int64)), .second, .unset, .unset] []) _ _ _
    refine own_to (fun t k => XS.iload X6.here hx rfl (hb hby at_85) rfl k) ?_
    show own_Out p e below _ T6 (mkF m 87 #[.val (.int x0), .val (.int x1), .val (.int x2), .val (.int x3), .val (.int (0 : Int32)), .val (.ref ob1), .val (.int (1 : Int32)), .val (.long (0 : Int64)), .second, .unset, .unset] [(.int (0 : Int32))]) _ _ _
    have hc87 : (0 : Int32) = (0 : Int32) := by decide
    refine own_to (fun t k => XS.ifYes X6.here hx rfl (pc0 := 87) (pc' := 95) rfl (hb hby at_87) rfl ((if0 _ _).trans (teq hc87).1) (by decide) (by decide) k) ?_
    show own_Out p e below _ T6 (mkF m 95 #[.val (.int x0), .val (.int x1), .val (.int x2), .val (.int x3), .val (.int (0 : Int32)), .val (.ref ob1), .val (.int (1 : Int32)), .val (.long (0 : Int64)), .second, .unset, .unset] []) _ _ _
    refine own_to (fun t k => XS.lconst X6.here hx rfl (hb hby at_95) k) ?_
    show own_Out p e below _ T6 (mkF m 96 #[.val (.int x0), .val (.int x1), .val (.int x2), .val (.int x3), .val (.int (0 : Int32)), .val (.ref ob1), .val (.int (1 : Int32)), .val (.long (0 : Int64)), .second, .unset, .unset] [(.long (0 : Int64))]) _ _ _
    refine own_to (fun t k => XS.lstore X6.here hx rfl (hb hby at_96) rfl (l' := #[.val (.int x0), .val (.int x1), .val (.int x2), .val (.int x3), .val (.int (0 : Int32)), .val (.ref ob1), .val (.int (1 : Int32)), .val (.long (0 : Int64)), .second, .val (.long (0 : Int64)), .second]) rfl k) ?_
    show own_Out p e below _ T6 (mkF m 98 #[.val (.int x0), .val (.int x1), .val (.int x2), .val (.int x3), .val (.int (0 : Int32)), .val (.ref ob1), .val (.int (1 : Int32)), .val (.long (0 : Int64)), .second, .val (.long (0 : Int64)), .second] []) _ _ _
    refine own_to (fun t k => XS.iload X6.here hx rfl (hb hby at_98) rfl k) ?_
    show own_Out p e below _ T6 (mkF m 100 #[.val (.int x0), .val (.int x1), .val (.int x2), .val (.int x3), .val (.int (0 : Int32)), .val (.ref ob1), .val (.int (1 : Int32)), .val (.long (0 : Int64)), .second, .val (.long (0 : Int64)), .second] [(.int (1 : Int32))]) _ _ _
    have hc100 : ¬ ((1 : Int32) = (0 : Int32)) := by decide
    refine own_to (fun t k => XS.ifNo X6.here hx rfl (hb hby at_100) rfl ((if0 _ _).trans (feq hc100).1) k) ?_
    show own_Out p e below _ T6 (mkF m 103 #[.val (.int x0), .val (.int x1), .val (.int x2), .val (.int x3), .val (.int (0 : Int32)), .val (.ref ob1), .val (.int (1 : Int32)), .val (.long (0 : Int64)), .second, .val (.long (0 : Int64)), .second] []) _ _ _
    refine own_to (fun t k => XS.aload X6.here hx rfl (hb hby at_103) rfl rfl k) ?_
    show own_Out p e below _ T6 (mkF m 105 #[.val (.int x0), .val (.int x1), .val (.int x2), .val (.int x3), .val (.int (0 : Int32)), .val (.ref ob1), .val (.int (1 : Int32)), .val (.long (0 : Int64)), .second, .val (.long (0 : Int64)), .second] [(.ref ob1)]) _ _ _
    refine own_callV X6 hx hZ hown (a := ob1) (argsL := []) (rest := []) (hw _ (List.mem_of_getElem? (i := 27) rfl)) (hw _ (List.mem_of_getElem? (i := 28) rfl)) (hw _ (List.mem_of_getElem? (i := 30) rfl)) (hw _ (List.mem_of_getElem? (i := 29) rfl)) (hw _ (List.mem_of_getElem? (i := 2) rfl)) (hw _ (List.mem_of_getElem? (i := 31) rfl)) (by decide) (rm5 l Z a0 hw ob1 (((0 : Int64) + (1 : Int64)) + (1 : Int64)) hh6 n0 Z0 F_ob1_ackFrames) (by decide) (by decide) e6 E_ob1 rfl (by rw [hml]; rfl) (lenOf pd_2 rfl) rfl (W := 0) (by show 2 * 0 + _ ≤ _; exact Nat.le_of_eq rfl) (hb hby at_105) (by decide) (by decide) fun v7 T7 hh7 L7 X7 e7 hQ7 => ?_
    obtain ⟨rfl, NL7, he7⟩ := hQ7
    replace e7 := e7.trans he7
    have N7 := Fr.app N6 NL7
    show own_Out p e below _ T7 (mkF m 108 #[.val (.int x0), .val (.int x1), .val (.int x2), .val (.int x3), .val (.int (0 : Int32)), .val (.ref ob1), .val (.int (1 : Int32)), .val (.long (0 : Int64)), .second, .val (.long (0 : Int64)), .second] [(.long (((0 : Int64) + (1 : Int64)) + (1 : Int64)))]) _ _ _
    refine own_to (fun t k => X7.ldc2J hx hown (mvT hZ (hw _ (List.mem_of_getElem? (i := 37) rfl))) rfl (hb hby at_108) k) ?_
    show own_Out p e below _ T7 (mkF m 111 #[.val (.int x0), .val (.int x1), .val (.int x2), .val (.int x3), .val (.int (0 : Int32)), .val (.ref ob1), .val (.int (1 : Int32)), .val (.long (0 : Int64)), .second, .val (.long (0 : Int64)), .second] [(.long (2 : Int64)), (.long (((0 : Int64) + (1 : Int64)) + (1 : Int64)))]) _ _ _
    refine own_to (fun t k => XS.lcmp X7.here hx rfl (hb hby at_111) rfl k) ?_
    show own_Out p e below _ T7 (mkF m 112 #[.val (.int x0), .val (.int x1), .val (.int x2), .val (.int x3), .val (.int (0 : Int32)), .val (.ref ob1), .val (.int (1 : Int32)), .val (.long (0 : Int64)), .second, .val (.long (0 : Int64)), .second] [(.int (lcmpW (((0 : Int64) + (1 : Int64)) + (1 : Int64)) (2 : Int64)))]) _ _ _
    have hc112 : (((0 : Int64) + (1 : Int64)) + (1 : Int64)) = (2 : Int64) := by first | rfl | decide | (simp only [Int64.zero_add]; done) | simp
    refine own_to (fun t k => XS.ifNo X7.here hx rfl (hb hby at_112) rfl ((if0 _ _).trans (teq ((lw_eq _ _).mpr hc112)).2) k) ?_
    show own_Out p e below _ T7 (mkF m 115 #[.val (.int x0), .val (.int x1), .val (.int x2), .val (.int x3), .val (.int (0 : Int32)), .val (.ref ob1), .val (.int (1 : Int32)), .val (.long (0 : Int64)), .second, .val (.long (0 : Int64)), .second] []) _ _ _
    refine own_to (fun t k => XS.aload X7.here hx rfl (hb hby at_115) rfl rfl k) ?_
    show own_Out p e below _ T7 (mkF m 117 #[.val (.int x0), .val (.int x1), .val (.int x2), .val (.int x3), .val (.int (0 : Int32)), .val (.ref ob1), .val (.int (1 : Int32)), .val (.long (0 : Int64)), .second, .val (.long (0 : Int64)), .second] [(.ref ob1)]) _ _ _
    refine own_callV X7 hx hZ hown (a := ob1) (argsL := []) (rest := []) (hw _ (List.mem_of_getElem? (i := 32) rfl)) (hw _ (List.mem_of_getElem? (i := 33) rfl)) (hw _ (List.mem_of_getElem? (i := 35) rfl)) (hw _ (List.mem_of_getElem? (i := 34) rfl)) (hw _ (List.mem_of_getElem? (i := 2) rfl)) (hw _ (List.mem_of_getElem? (i := 36) rfl)) (by decide) (rm6 l Z a0 hw ob1 (((0 : Int64) + (x0.toInt64)) + (x1.toInt64)) hh6 n0 Z0 F_ob1_ackBytes) (by decide) (by decide) e7 E_ob1 rfl (by rw [hml]; rfl) (lenOf pd_2 rfl) rfl (W := 0) (by show 2 * 0 + _ ≤ _; exact Nat.le_of_eq rfl) (hb hby at_117) (by decide) (by decide) fun v8 T8 hh8 L8 X8 e8 hQ8 => ?_
    obtain ⟨rfl, NL8, he8⟩ := hQ8
    replace e8 := e8.trans he8
    have N8 := Fr.app N7 NL8
    show own_Out p e below _ T8 (mkF m 120 #[.val (.int x0), .val (.int x1), .val (.int x2), .val (.int x3), .val (.int (0 : Int32)), .val (.ref ob1), .val (.int (1 : Int32)), .val (.long (0 : Int64)), .second, .val (.long (0 : Int64)), .second] [(.long (((0 : Int64) + (x0.toInt64)) + (x1.toInt64)))]) _ _ _
    refine own_to (fun t k => XS.iloadN X8.here hx rfl (hb hby at_120) rfl k) ?_
    show own_Out p e below _ T8 (mkF m 121 #[.val (.int x0), .val (.int x1), .val (.int x2), .val (.int x3), .val (.int (0 : Int32)), .val (.ref ob1), .val (.int (1 : Int32)), .val (.long (0 : Int64)), .second, .val (.long (0 : Int64)), .second] [(.int x0), (.long (((0 : Int64) + (x0.toInt64)) + (x1.toInt64)))]) _ _ _
    refine own_to (fun t k => XS.i2l X8.here hx rfl (hb hby at_121) rfl k) ?_
    show own_Out p e below _ T8 (mkF m 122 #[.val (.int x0), .val (.int x1), .val (.int x2), .val (.int x3), .val (.int (0 : Int32)), .val (.ref ob1), .val (.int (1 : Int32)), .val (.long (0 : Int64)), .second, .val (.long (0 : Int64)), .second] [(.long (x0.toInt64)), (.long (((0 : Int64) + (x0.toInt64)) + (x1.toInt64)))]) _ _ _
    refine own_to (fun t k => XS.iloadN X8.here hx rfl (hb hby at_122) rfl k) ?_
    show own_Out p e below _ T8 (mkF m 123 #[.val (.int x0), .val (.int x1), .val (.int x2), .val (.int x3), .val (.int (0 : Int32)), .val (.ref ob1), .val (.int (1 : Int32)), .val (.long (0 : Int64)), .second, .val (.long (0 : Int64)), .second] [(.int x1), (.long (x0.toInt64)), (.long (((0 : Int64) + (x0.toInt64)) + (x1.toInt64)))]) _ _ _
    refine own_to (fun t k => XS.i2l X8.here hx rfl (hb hby at_123) rfl k) ?_
    show own_Out p e below _ T8 (mkF m 124 #[.val (.int x0), .val (.int x1), .val (.int x2), .val (.int x3), .val (.int (0 : Int32)), .val (.ref ob1), .val (.int (1 : Int32)), .val (.long (0 : Int64)), .second, .val (.long (0 : Int64)), .second] [(.long (x1.toInt64)), (.long (x0.toInt64)), (.long (((0 : Int64) + (x0.toInt64)) + (x1.toInt64)))]) _ _ _
    refine own_to (fun t k => XS.ladd X8.here hx rfl (hb hby at_124) rfl k) ?_
    show own_Out p e below _ T8 (mkF m 125 #[.val (.int x0), .val (.int x1), .val (.int x2), .val (.int x3), .val (.int (0 : Int32)), .val (.ref ob1), .val (.int (1 : Int32)), .val (.long (0 : Int64)), .second, .val (.long (0 : Int64)), .second] [(.long ((x0.toInt64) + (x1.toInt64))), (.long (((0 : Int64) + (x0.toInt64)) + (x1.toInt64)))]) _ _ _
    refine own_to (fun t k => XS.lcmp X8.here hx rfl (hb hby at_125) rfl k) ?_
    show own_Out p e below _ T8 (mkF m 126 #[.val (.int x0), .val (.int x1), .val (.int x2), .val (.int x3), .val (.int (0 : Int32)), .val (.ref ob1), .val (.int (1 : Int32)), .val (.long (0 : Int64)), .second, .val (.long (0 : Int64)), .second] [(.int (lcmpW (((0 : Int64) + (x0.toInt64)) + (x1.toInt64)) ((x0.toInt64) + (x1.toInt64))))]) _ _ _
    have hc126 : (((0 : Int64) + (x0.toInt64)) + (x1.toInt64)) = ((x0.toInt64) + (x1.toInt64)) := by first | rfl | decide | (simp only [Int64.zero_add]; done) | simp
    refine own_to (fun t k => XS.ifNo X8.here hx rfl (hb hby at_126) rfl ((if0 _ _).trans (teq ((lw_eq _ _).mpr hc126)).2) k) ?_
    show own_Out p e below _ T8 (mkF m 129 #[.val (.int x0), .val (.int x1), .val (.int x2), .val (.int x3), .val (.int (0 : Int32)), .val (.ref ob1), .val (.int (1 : Int32)), .val (.long (0 : Int64)), .second, .val (.long (0 : Int64)), .second] []) _ _ _
    refine own_to (fun t k => XS.aload X8.here hx rfl (hb hby at_129) rfl rfl k) ?_
    show own_Out p e below _ T8 (mkF m 131 #[.val (.int x0), .val (.int x1), .val (.int x2), .val (.int x3), .val (.int (0 : Int32)), .val (.ref ob1), .val (.int (1 : Int32)), .val (.long (0 : Int64)), .second, .val (.long (0 : Int64)), .second] [(.ref ob1)]) _ _ _
    refine own_callV X8 hx hZ hown (a := ob1) (argsL := []) (rest := []) (hw _ (List.mem_of_getElem? (i := 38) rfl)) (hw _ (List.mem_of_getElem? (i := 39) rfl)) (hw _ (List.mem_of_getElem? (i := 41) rfl)) (hw _ (List.mem_of_getElem? (i := 40) rfl)) (hw _ (List.mem_of_getElem? (i := 2) rfl)) (hw _ (List.mem_of_getElem? (i := 42) rfl)) (by decide) (rm7 l Z a0 hw ob1 (0 : Int64) hh6 n0 Z0 F_ob1_messageFrames) (by decide) (by decide) e8 E_ob1 rfl (by rw [hml]; rfl) (lenOf pd_2 rfl) rfl (W := 0) (by show 2 * 0 + _ ≤ _; exact Nat.le_of_eq rfl) (hb hby at_131) (by decide) (by decide) fun v9 T9 hh9 L9 X9 e9 hQ9 => ?_
    obtain ⟨rfl, NL9, he9⟩ := hQ9
    replace e9 := e9.trans he9
    have N9 := Fr.app N8 NL9
    show own_Out p e below _ T9 (mkF m 134 #[.val (.int x0), .val (.int x1), .val (.int x2), .val (.int x3), .val (.int (0 : Int32)), .val (.ref ob1), .val (.int (1 : Int32)), .val (.long (0 : Int64)), .second, .val (.long (0 : Int64)), .second] [(.long (0 : Int64))]) _ _ _
    refine own_to (fun t k => XS.lload X9.here hx rfl (hb hby at_134) rfl k) ?_
    show own_Out p e below _ T9 (mkF m 136 #[.val (.int x0), .val (.int x1), .val (.int x2), .val (.int x3), .val (.int (0 : Int32)), .val (.ref ob1), .val (.int (1 : Int32)), .val (.long (0 : Int64)), .second, .val (.long (0 : Int64)), .second] [(.long (0 : Int64)), (.long (0 : Int64))]) _ _ _
    refine own_to (fun t k => XS.lcmp X9.here hx rfl (hb hby at_136) rfl k) ?_
    show own_Out p e below _ T9 (mkF m 137 #[.val (.int x0), .val (.int x1), .val (.int x2), .val (.int x3), .val (.int (0 : Int32)), .val (.ref ob1), .val (.int (1 : Int32)), .val (.long (0 : Int64)), .second, .val (.long (0 : Int64)), .second] [(.int (lcmpW (0 : Int64) (0 : Int64)))]) _ _ _
    have hc137 : (0 : Int64) = (0 : Int64) := by first | rfl | decide | (simp only [Int64.zero_add]; done) | simp
    refine own_to (fun t k => XS.ifNo X9.here hx rfl (hb hby at_137) rfl ((if0 _ _).trans (teq ((lw_eq _ _).mpr hc137)).2) k) ?_
    show own_Out p e below _ T9 (mkF m 140 #[.val (.int x0), .val (.int x1), .val (.int x2), .val (.int x3), .val (.int (0 : Int32)), .val (.ref ob1), .val (.int (1 : Int32)), .val (.long (0 : Int64)), .second, .val (.long (0 : Int64)), .second] []) _ _ _
    refine own_to (fun t k => XS.aload X9.here hx rfl (hb hby at_140) rfl rfl k) ?_
    show own_Out p e below _ T9 (mkF m 142 #[.val (.int x0), .val (.int x1), .val (.int x2), .val (.int x3), .val (.int (0 : Int32)), .val (.ref ob1), .val (.int (1 : Int32)), .val (.long (0 : Int64)), .second, .val (.long (0 : Int64)), .second] [(.ref ob1)]) _ _ _
    refine own_callV X9 hx hZ hown (a := ob1) (argsL := []) (rest := []) (hw _ (List.mem_of_getElem? (i := 43) rfl)) (hw _ (List.mem_of_getElem? (i := 44) rfl)) (hw _ (List.mem_of_getElem? (i := 46) rfl)) (hw _ (List.mem_of_getElem? (i := 45) rfl)) (hw _ (List.mem_of_getElem? (i := 2) rfl)) (hw _ (List.mem_of_getElem? (i := 47) rfl)) (by decide) (rm8 l Z a0 hw ob1 (0 : Int64) hh6 n0 Z0 F_ob1_messageBytes) (by decide) (by decide) e9 E_ob1 rfl (by rw [hml]; rfl) (lenOf pd_2 rfl) rfl (W := 0) (by show 2 * 0 + _ ≤ _; exact Nat.le_of_eq rfl) (hb hby at_142) (by decide) (by decide) fun v10 T10 hh10 L10 X10 e10 hQ10 => ?_
    obtain ⟨rfl, NL10, he10⟩ := hQ10
    replace e10 := e10.trans he10
    have N10 := Fr.app N9 NL10
    show own_Out p e below _ T10 (mkF m 145 #[.val (.int x0), .val (.int x1), .val (.int x2), .val (.int x3), .val (.int (0 : Int32)), .val (.ref ob1), .val (.int (1 : Int32)), .val (.long (0 : Int64)), .second, .val (.long (0 : Int64)), .second] [(.long (0 : Int64))]) _ _ _
    refine own_to (fun t k => XS.lload X10.here hx rfl (hb hby at_145) rfl k) ?_
    show own_Out p e below _ T10 (mkF m 147 #[.val (.int x0), .val (.int x1), .val (.int x2), .val (.int x3), .val (.int (0 : Int32)), .val (.ref ob1), .val (.int (1 : Int32)), .val (.long (0 : Int64)), .second, .val (.long (0 : Int64)), .second] [(.long (0 : Int64)), (.long (0 : Int64))]) _ _ _
    refine own_to (fun t k => XS.lcmp X10.here hx rfl (hb hby at_147) rfl k) ?_
    show own_Out p e below _ T10 (mkF m 148 #[.val (.int x0), .val (.int x1), .val (.int x2), .val (.int x3), .val (.int (0 : Int32)), .val (.ref ob1), .val (.int (1 : Int32)), .val (.long (0 : Int64)), .second, .val (.long (0 : Int64)), .second] [(.int (lcmpW (0 : Int64) (0 : Int64)))]) _ _ _
    have hc148 : (0 : Int64) = (0 : Int64) := by first | rfl | decide | (simp only [Int64.zero_add]; done) | simp
    refine own_to (fun t k => XS.ifNo X10.here hx rfl (hb hby at_148) rfl ((if0 _ _).trans (teq ((lw_eq _ _).mpr hc148)).2) k) ?_
    show own_Out p e below _ T10 (mkF m 151 #[.val (.int x0), .val (.int x1), .val (.int x2), .val (.int x3), .val (.int (0 : Int32)), .val (.ref ob1), .val (.int (1 : Int32)), .val (.long (0 : Int64)), .second, .val (.long (0 : Int64)), .second] []) _ _ _
    refine own_to (fun t k => XS.iconst X10.here hx rfl (hb hby at_151) k) ?_
    show own_Out p e below _ T10 (mkF m 152 #[.val (.int x0), .val (.int x1), .val (.int x2), .val (.int x3), .val (.int (0 : Int32)), .val (.ref ob1), .val (.int (1 : Int32)), .val (.long (0 : Int64)), .second, .val (.long (0 : Int64)), .second] [(.int (1 : Int32))]) _ _ _
    refine own_to (fun t k => XS.goto X10.here hx rfl (pc0 := 152) (pc' := 156) rfl (hb hby at_152) (by decide) (by decide) k) ?_
    show own_Out p e below _ T10 (mkF m 156 #[.val (.int x0), .val (.int x1), .val (.int x2), .val (.int x3), .val (.int (0 : Int32)), .val (.ref ob1), .val (.int (1 : Int32)), .val (.long (0 : Int64)), .second, .val (.long (0 : Int64)), .second] [(.int (1 : Int32))]) _ _ _
    refine own_retV X10 hx hlk (w := .int (1 : Int32)) hret rfl (Or.inl ⟨rfl, by simp, _, rfl⟩) (hb hby at_156) (by decide) (by decide) ?_
    rw [e10]
    exact ⟨rfl, N10⟩
  · refine own_to (fun t k => XS.ifNo X0.here hx rfl (hb hby at_3) rfl ((if0 _ _).trans (feq hc3).1) k) ?_
    show own_Out p e below _ s₁ (mkF m 6 #[.val (.int x0), .val (.int x1), .val (.int x2), .val (.int x3), .unset, .unset, .unset, .unset, .unset, .unset, .unset] []) _ _ _
    refine own_to (fun t k => XS.iconst X0.here hx rfl (hb hby at_6) k) ?_
    show own_Out p e below _ s₁ (mkF m 7 #[.val (.int x0), .val (.int x1), .val (.int x2), .val (.int x3), .unset, .unset, .unset, .unset, .unset, .unset, .unset] [(.int (1 : Int32))]) _ _ _
    refine own_to (fun t k => XS.goto X0.here hx rfl (pc0 := 7) (pc' := 11) rfl (hb hby at_7) (by decide) (by decide) k) ?_
    show own_Out p e below _ s₁ (mkF m 11 #[.val (.int x0), .val (.int x1), .val (.int x2), .val (.int x3), .unset, .unset, .unset, .unset, .unset, .unset, .unset] [(.int (1 : Int32))]) _ _ _
    refine own_to (fun t k => XS.istore X0.here hx rfl (hb hby at_11) rfl (l' := #[.val (.int x0), .val (.int x1), .val (.int x2), .val (.int x3), .val (.int (1 : Int32)), .unset, .unset, .unset, .unset, .unset, .unset]) rfl k) ?_
    show own_Out p e below _ s₁ (mkF m 13 #[.val (.int x0), .val (.int x1), .val (.int x2), .val (.int x3), .val (.int (1 : Int32)), .unset, .unset, .unset, .unset, .unset, .unset] []) _ _ _
    refine own_new X0 hx hZ hown (hw _ (List.mem_of_getElem? (i := 0) rfl)) (hw _ (List.mem_of_getElem? (i := 1) rfl)) (hw _ (List.mem_of_getElem? (i := 2) rfl)) e0 rfl (hb hby at_13) (by decide) (by decide) fun T11 hh11 ob11 gb11 X11 e11 E11 A11 D11 => ?_
    have g_ob11 : n0 ≤ ob11 := Nat.le_trans Z0 (Nat.le_of_eq gb11.symm)
    have Z0 := Nat.le_trans Z0 E11.1
    have E_ob11 := A11
    have F_ob11_messageFrames : Fld Z hh11 ob11 "com/example/mingle/mingle/FrameCounts" "messageFrames" "J" (.long (0 : Int64)) := D11 (Or.inl (hw _ (List.mem_of_getElem? (i := 15) rfl))) (ty := .long) (by decide)
    have F_ob11_messageBytes : Fld Z hh11 ob11 "com/example/mingle/mingle/FrameCounts" "messageBytes" "J" (.long (0 : Int64)) := D11 (Or.inl (hw _ (List.mem_of_getElem? (i := 17) rfl))) (ty := .long) (by decide)
    have F_ob11_ackFrames : Fld Z hh11 ob11 "com/example/mingle/mingle/FrameCounts" "ackFrames" "J" (.long (0 : Int64)) := D11 (Or.inl (hw _ (List.mem_of_getElem? (i := 24) rfl))) (ty := .long) (by decide)
    have F_ob11_ackBytes : Fld Z hh11 ob11 "com/example/mingle/mingle/FrameCounts" "ackBytes" "J" (.long (0 : Int64)) := D11 (Or.inl (hw _ (List.mem_of_getElem? (i := 26) rfl))) (ty := .long) (by decide)
    show own_Out p e below _ T11 (mkF m 16 #[.val (.int x0), .val (.int x1), .val (.int x2), .val (.int x3), .val (.int (1 : Int32)), .unset, .unset, .unset, .unset, .unset, .unset] [(.ref ob11)]) _ _ _
    refine own_to (fun t k => XS.dup X11.here hx rfl (hb hby at_16) rfl rfl k) ?_
    show own_Out p e below _ T11 (mkF m 17 #[.val (.int x0), .val (.int x1), .val (.int x2), .val (.int x3), .val (.int (1 : Int32)), .unset, .unset, .unset, .unset, .unset, .unset] [(.ref ob11), (.ref ob11)]) _ _ _
    refine own_callC X11 hx hZ hown (a := ob11) (argsL := []) (rest := [(.ref ob11)]) rfl (hw _ (List.mem_of_getElem? (i := 3) rfl)) (hw _ (List.mem_of_getElem? (i := 4) rfl)) (hw _ (List.mem_of_getElem? (i := 2) rfl)) (hw _ (List.mem_of_getElem? (i := 5) rfl)) (by decide) (rm1 l Z a0 hw ob11 hh11 n0 Z0 ) (by decide) (by decide) e11 rfl (by rw [hml]; rfl) (lenOf pd_0 rfl) rfl (W := 1) (by show 2 * 0 + _ ≤ _; exact Nat.le_of_eq rfl) (hb hby at_17) (by decide) (by decide) fun v12 T12 hh12 L12 X12 e12 hQ12 => ?_
    obtain ⟨rfl, NL12, he12⟩ := hQ12
    replace e12 := e12.trans he12
    have N12 := Fr.app N0 NL12
    show own_Out p e below _ T12 (mkF m 20 #[.val (.int x0), .val (.int x1), .val (.int x2), .val (.int x3), .val (.int (1 : Int32)), .unset, .unset, .unset, .unset, .unset, .unset] [(.ref ob11)]) _ _ _
    refine own_to (fun t k => XS.astore X12.here hx rfl (hb hby at_20) rfl rfl (l' := #[.val (.int x0), .val (.int x1), .val (.int x2), .val (.int x3), .val (.int (1 : Int32)), .val (.ref ob11), .unset, .unset, .unset, .unset, .unset]) rfl k) ?_
    show own_Out p e below _ T12 (mkF m 22 #[.val (.int x0), .val (.int x1), .val (.int x2), .val (.int x3), .val (.int (1 : Int32)), .val (.ref ob11), .unset, .unset, .unset, .unset, .unset] []) _ _ _
    refine own_to (fun t k => XS.iload X12.here hx rfl (hb hby at_22) rfl k) ?_
    show own_Out p e below _ T12 (mkF m 24 #[.val (.int x0), .val (.int x1), .val (.int x2), .val (.int x3), .val (.int (1 : Int32)), .val (.ref ob11), .unset, .unset, .unset, .unset, .unset] [(.int (1 : Int32))]) _ _ _
    have hc24 : ¬ ((1 : Int32) = (0 : Int32)) := by decide
    refine own_to (fun t k => XS.ifNo X12.here hx rfl (hb hby at_24) rfl ((if0 _ _).trans (feq hc24).1) k) ?_
    show own_Out p e below _ T12 (mkF m 27 #[.val (.int x0), .val (.int x1), .val (.int x2), .val (.int x3), .val (.int (1 : Int32)), .val (.ref ob11), .unset, .unset, .unset, .unset, .unset] []) _ _ _
    refine own_to (fun t k => XS.aload X12.here hx rfl (hb hby at_27) rfl rfl k) ?_
    show own_Out p e below _ T12 (mkF m 29 #[.val (.int x0), .val (.int x1), .val (.int x2), .val (.int x3), .val (.int (1 : Int32)), .val (.ref ob11), .unset, .unset, .unset, .unset, .unset] [(.ref ob11)]) _ _ _
    refine own_to (fun t k => XS.iloadN X12.here hx rfl (hb hby at_29) rfl k) ?_
    show own_Out p e below _ T12 (mkF m 30 #[.val (.int x0), .val (.int x1), .val (.int x2), .val (.int x3), .val (.int (1 : Int32)), .val (.ref ob11), .unset, .unset, .unset, .unset, .unset] [(.int x2), (.ref ob11)]) _ _ _
    refine own_callV X12 hx hZ hown (a := ob11) (argsL := [(.int x2)]) (rest := []) (hw _ (List.mem_of_getElem? (i := 9) rfl)) (hw _ (List.mem_of_getElem? (i := 10) rfl)) (hw _ (List.mem_of_getElem? (i := 12) rfl)) (hw _ (List.mem_of_getElem? (i := 11) rfl)) (hw _ (List.mem_of_getElem? (i := 2) rfl)) (hw _ (List.mem_of_getElem? (i := 13) rfl)) (by decide) (rm3 l Z a0 hw ob11 x2 (0 : Int64) (0 : Int64) (0 : Int64) (0 : Int64) hh11 n0 Z0 E_ob11 F_ob11_messageFrames F_ob11_messageBytes g_ob11 F_ob11_ackFrames F_ob11_ackBytes) (by decide) (by decide) e12 E_ob11 rfl (by rw [hml]; rfl) (lenOf pd_1 rfl) rfl (W := 0) (by show 2 * 0 + _ ≤ _; exact Nat.le_of_eq rfl) (hb hby at_30) (by decide) (by decide) fun v13 T13 hh13 L13 X13 e13 hQ13 => ?_
    obtain ⟨rfl, NL13, KK13, P13_0, P13_1, P13_2, P13_3⟩ := hQ13
    have E_ob11 := E_ob11.keep KK13
    have F_ob11_messageFrames := P13_0
    have F_ob11_messageBytes := P13_1
    have F_ob11_ackFrames := P13_2
    have F_ob11_ackBytes := P13_3
    have Z0 := Nat.le_trans Z0 KK13.1
    have N13 := Fr.app N12 NL13
    show own_Out p e below _ T13 (mkF m 33 #[.val (.int x0), .val (.int x1), .val (.int x2), .val (.int x3), .val (.int (1 : Int32)), .val (.ref ob11), .unset, .unset, .unset, .unset, .unset] []) _ _ _
    refine own_to (fun t k => XS.aload X13.here hx rfl (hb hby at_33) rfl rfl k) ?_
    show own_Out p e below _ T13 (mkF m 35 #[.val (.int x0), .val (.int x1), .val (.int x2), .val (.int x3), .val (.int (1 : Int32)), .val (.ref ob11), .unset, .unset, .unset, .unset, .unset] [(.ref ob11)]) _ _ _
    refine own_to (fun t k => XS.iloadN X13.here hx rfl (hb hby at_35) rfl k) ?_
    show own_Out p e below _ T13 (mkF m 36 #[.val (.int x0), .val (.int x1), .val (.int x2), .val (.int x3), .val (.int (1 : Int32)), .val (.ref ob11), .unset, .unset, .unset, .unset, .unset] [(.int x0), (.ref ob11)]) _ _ _
    refine own_callV X13 hx hZ hown (a := ob11) (argsL := [(.int x0)]) (rest := []) (hw _ (List.mem_of_getElem? (i := 18) rfl)) (hw _ (List.mem_of_getElem? (i := 19) rfl)) (hw _ (List.mem_of_getElem? (i := 21) rfl)) (hw _ (List.mem_of_getElem? (i := 20) rfl)) (hw _ (List.mem_of_getElem? (i := 2) rfl)) (hw _ (List.mem_of_getElem? (i := 22) rfl)) (by decide) (rm4 l Z a0 hw ob11 x0 (0 : Int64) (0 : Int64) ((0 : Int64) + (1 : Int64)) ((0 : Int64) + (x2.toInt64)) hh13 n0 Z0 E_ob11 F_ob11_ackFrames F_ob11_ackBytes g_ob11 F_ob11_messageFrames F_ob11_messageBytes) (by decide) (by decide) e13 E_ob11 rfl (by rw [hml]; rfl) (lenOf pd_1 rfl) rfl (W := 0) (by show 2 * 0 + _ ≤ _; exact Nat.le_of_eq rfl) (hb hby at_36) (by decide) (by decide) fun v14 T14 hh14 L14 X14 e14 hQ14 => ?_
    obtain ⟨rfl, NL14, KK14, P14_0, P14_1, P14_2, P14_3⟩ := hQ14
    have E_ob11 := E_ob11.keep KK14
    have F_ob11_ackFrames := P14_0
    have F_ob11_ackBytes := P14_1
    have F_ob11_messageFrames := P14_2
    have F_ob11_messageBytes := P14_3
    have Z0 := Nat.le_trans Z0 KK14.1
    have N14 := Fr.app N13 NL14
    show own_Out p e below _ T14 (mkF m 39 #[.val (.int x0), .val (.int x1), .val (.int x2), .val (.int x3), .val (.int (1 : Int32)), .val (.ref ob11), .unset, .unset, .unset, .unset, .unset] []) _ _ _
    refine own_to (fun t k => XS.aload X14.here hx rfl (hb hby at_39) rfl rfl k) ?_
    show own_Out p e below _ T14 (mkF m 41 #[.val (.int x0), .val (.int x1), .val (.int x2), .val (.int x3), .val (.int (1 : Int32)), .val (.ref ob11), .unset, .unset, .unset, .unset, .unset] [(.ref ob11)]) _ _ _
    refine own_callV X14 hx hZ hown (a := ob11) (argsL := []) (rest := []) (hw _ (List.mem_of_getElem? (i := 27) rfl)) (hw _ (List.mem_of_getElem? (i := 28) rfl)) (hw _ (List.mem_of_getElem? (i := 30) rfl)) (hw _ (List.mem_of_getElem? (i := 29) rfl)) (hw _ (List.mem_of_getElem? (i := 2) rfl)) (hw _ (List.mem_of_getElem? (i := 31) rfl)) (by decide) (rm5 l Z a0 hw ob11 ((0 : Int64) + (1 : Int64)) hh14 n0 Z0 F_ob11_ackFrames) (by decide) (by decide) e14 E_ob11 rfl (by rw [hml]; rfl) (lenOf pd_2 rfl) rfl (W := 0) (by show 2 * 0 + _ ≤ _; exact Nat.le_of_eq rfl) (hb hby at_41) (by decide) (by decide) fun v15 T15 hh15 L15 X15 e15 hQ15 => ?_
    obtain ⟨rfl, NL15, he15⟩ := hQ15
    replace e15 := e15.trans he15
    have N15 := Fr.app N14 NL15
    show own_Out p e below _ T15 (mkF m 44 #[.val (.int x0), .val (.int x1), .val (.int x2), .val (.int x3), .val (.int (1 : Int32)), .val (.ref ob11), .unset, .unset, .unset, .unset, .unset] [(.long ((0 : Int64) + (1 : Int64)))]) _ _ _
    refine own_to (fun t k => XS.lconst X15.here hx rfl (hb hby at_44) k) ?_
    show own_Out p e below _ T15 (mkF m 45 #[.val (.int x0), .val (.int x1), .val (.int x2), .val (.int x3), .val (.int (1 : Int32)), .val (.ref ob11), .unset, .unset, .unset, .unset, .unset] [(.long (1 : Int64)), (.long ((0 : Int64) + (1 : Int64)))]) _ _ _
    refine own_to (fun t k => XS.lcmp X15.here hx rfl (hb hby at_45) rfl k) ?_
    show own_Out p e below _ T15 (mkF m 46 #[.val (.int x0), .val (.int x1), .val (.int x2), .val (.int x3), .val (.int (1 : Int32)), .val (.ref ob11), .unset, .unset, .unset, .unset, .unset] [(.int (lcmpW ((0 : Int64) + (1 : Int64)) (1 : Int64)))]) _ _ _
    have hc46 : ((0 : Int64) + (1 : Int64)) = (1 : Int64) := by first | rfl | decide | (simp only [Int64.zero_add]; done) | simp
    refine own_to (fun t k => XS.ifNo X15.here hx rfl (hb hby at_46) rfl ((if0 _ _).trans (teq ((lw_eq _ _).mpr hc46)).2) k) ?_
    show own_Out p e below _ T15 (mkF m 49 #[.val (.int x0), .val (.int x1), .val (.int x2), .val (.int x3), .val (.int (1 : Int32)), .val (.ref ob11), .unset, .unset, .unset, .unset, .unset] []) _ _ _
    refine own_to (fun t k => XS.aload X15.here hx rfl (hb hby at_49) rfl rfl k) ?_
    show own_Out p e below _ T15 (mkF m 51 #[.val (.int x0), .val (.int x1), .val (.int x2), .val (.int x3), .val (.int (1 : Int32)), .val (.ref ob11), .unset, .unset, .unset, .unset, .unset] [(.ref ob11)]) _ _ _
    refine own_callV X15 hx hZ hown (a := ob11) (argsL := []) (rest := []) (hw _ (List.mem_of_getElem? (i := 32) rfl)) (hw _ (List.mem_of_getElem? (i := 33) rfl)) (hw _ (List.mem_of_getElem? (i := 35) rfl)) (hw _ (List.mem_of_getElem? (i := 34) rfl)) (hw _ (List.mem_of_getElem? (i := 2) rfl)) (hw _ (List.mem_of_getElem? (i := 36) rfl)) (by decide) (rm6 l Z a0 hw ob11 ((0 : Int64) + (x0.toInt64)) hh14 n0 Z0 F_ob11_ackBytes) (by decide) (by decide) e15 E_ob11 rfl (by rw [hml]; rfl) (lenOf pd_2 rfl) rfl (W := 0) (by show 2 * 0 + _ ≤ _; exact Nat.le_of_eq rfl) (hb hby at_51) (by decide) (by decide) fun v16 T16 hh16 L16 X16 e16 hQ16 => ?_
    obtain ⟨rfl, NL16, he16⟩ := hQ16
    replace e16 := e16.trans he16
    have N16 := Fr.app N15 NL16
    show own_Out p e below _ T16 (mkF m 54 #[.val (.int x0), .val (.int x1), .val (.int x2), .val (.int x3), .val (.int (1 : Int32)), .val (.ref ob11), .unset, .unset, .unset, .unset, .unset] [(.long ((0 : Int64) + (x0.toInt64)))]) _ _ _
    refine own_to (fun t k => XS.iloadN X16.here hx rfl (hb hby at_54) rfl k) ?_
    show own_Out p e below _ T16 (mkF m 55 #[.val (.int x0), .val (.int x1), .val (.int x2), .val (.int x3), .val (.int (1 : Int32)), .val (.ref ob11), .unset, .unset, .unset, .unset, .unset] [(.int x0), (.long ((0 : Int64) + (x0.toInt64)))]) _ _ _
    refine own_to (fun t k => XS.i2l X16.here hx rfl (hb hby at_55) rfl k) ?_
    show own_Out p e below _ T16 (mkF m 56 #[.val (.int x0), .val (.int x1), .val (.int x2), .val (.int x3), .val (.int (1 : Int32)), .val (.ref ob11), .unset, .unset, .unset, .unset, .unset] [(.long (x0.toInt64)), (.long ((0 : Int64) + (x0.toInt64)))]) _ _ _
    refine own_to (fun t k => XS.lcmp X16.here hx rfl (hb hby at_56) rfl k) ?_
    show own_Out p e below _ T16 (mkF m 57 #[.val (.int x0), .val (.int x1), .val (.int x2), .val (.int x3), .val (.int (1 : Int32)), .val (.ref ob11), .unset, .unset, .unset, .unset, .unset] [(.int (lcmpW ((0 : Int64) + (x0.toInt64)) (x0.toInt64)))]) _ _ _
    have hc57 : ((0 : Int64) + (x0.toInt64)) = (x0.toInt64) := by first | rfl | decide | (simp only [Int64.zero_add]; done) | simp
    refine own_to (fun t k => XS.ifNo X16.here hx rfl (hb hby at_57) rfl ((if0 _ _).trans (teq ((lw_eq _ _).mpr hc57)).2) k) ?_
    show own_Out p e below _ T16 (mkF m 60 #[.val (.int x0), .val (.int x1), .val (.int x2), .val (.int x3), .val (.int (1 : Int32)), .val (.ref ob11), .unset, .unset, .unset, .unset, .unset] []) _ _ _
    refine own_to (fun t k => XS.iconst X16.here hx rfl (hb hby at_60) k) ?_
    show own_Out p e below _ T16 (mkF m 61 #[.val (.int x0), .val (.int x1), .val (.int x2), .val (.int x3), .val (.int (1 : Int32)), .val (.ref ob11), .unset, .unset, .unset, .unset, .unset] [(.int (1 : Int32))]) _ _ _
    refine own_to (fun t k => XS.goto X16.here hx rfl (pc0 := 61) (pc' := 65) rfl (hb hby at_61) (by decide) (by decide) k) ?_
    show own_Out p e below _ T16 (mkF m 65 #[.val (.int x0), .val (.int x1), .val (.int x2), .val (.int x3), .val (.int (1 : Int32)), .val (.ref ob11), .unset, .unset, .unset, .unset, .unset] [(.int (1 : Int32))]) _ _ _
    refine own_to (fun t k => XS.istore X16.here hx rfl (hb hby at_65) rfl (l' := #[.val (.int x0), .val (.int x1), .val (.int x2), .val (.int x3), .val (.int (1 : Int32)), .val (.ref ob11), .val (.int (1 : Int32)), .unset, .unset, .unset, .unset]) rfl k) ?_
    show own_Out p e below _ T16 (mkF m 67 #[.val (.int x0), .val (.int x1), .val (.int x2), .val (.int x3), .val (.int (1 : Int32)), .val (.ref ob11), .val (.int (1 : Int32)), .unset, .unset, .unset, .unset] []) _ _ _
    refine own_to (fun t k => XS.aload X16.here hx rfl (hb hby at_67) rfl rfl k) ?_
    show own_Out p e below _ T16 (mkF m 69 #[.val (.int x0), .val (.int x1), .val (.int x2), .val (.int x3), .val (.int (1 : Int32)), .val (.ref ob11), .val (.int (1 : Int32)), .unset, .unset, .unset, .unset] [(.ref ob11)]) _ _ _
    refine own_to (fun t k => XS.iloadN X16.here hx rfl (hb hby at_69) rfl k) ?_
    show own_Out p e below _ T16 (mkF m 70 #[.val (.int x0), .val (.int x1), .val (.int x2), .val (.int x3), .val (.int (1 : Int32)), .val (.ref ob11), .val (.int (1 : Int32)), .unset, .unset, .unset, .unset] [(.int x1), (.ref ob11)]) _ _ _
    refine own_callV X16 hx hZ hown (a := ob11) (argsL := [(.int x1)]) (rest := []) (hw _ (List.mem_of_getElem? (i := 18) rfl)) (hw _ (List.mem_of_getElem? (i := 19) rfl)) (hw _ (List.mem_of_getElem? (i := 21) rfl)) (hw _ (List.mem_of_getElem? (i := 20) rfl)) (hw _ (List.mem_of_getElem? (i := 2) rfl)) (hw _ (List.mem_of_getElem? (i := 22) rfl)) (by decide) (rm4 l Z a0 hw ob11 x1 ((0 : Int64) + (1 : Int64)) ((0 : Int64) + (x0.toInt64)) ((0 : Int64) + (1 : Int64)) ((0 : Int64) + (x2.toInt64)) hh14 n0 Z0 E_ob11 F_ob11_ackFrames F_ob11_ackBytes g_ob11 F_ob11_messageFrames F_ob11_messageBytes) (by decide) (by decide) e16 E_ob11 rfl (by rw [hml]; rfl) (lenOf pd_1 rfl) rfl (W := 0) (by show 2 * 0 + _ ≤ _; exact Nat.le_of_eq rfl) (hb hby at_70) (by decide) (by decide) fun v17 T17 hh17 L17 X17 e17 hQ17 => ?_
    obtain ⟨rfl, NL17, KK17, P17_0, P17_1, P17_2, P17_3⟩ := hQ17
    have E_ob11 := E_ob11.keep KK17
    have F_ob11_ackFrames := P17_0
    have F_ob11_ackBytes := P17_1
    have F_ob11_messageFrames := P17_2
    have F_ob11_messageBytes := P17_3
    have Z0 := Nat.le_trans Z0 KK17.1
    have N17 := Fr.app N16 NL17
    show own_Out p e below _ T17 (mkF m 73 #[.val (.int x0), .val (.int x1), .val (.int x2), .val (.int x3), .val (.int (1 : Int32)), .val (.ref ob11), .val (.int (1 : Int32)), .unset, .unset, .unset, .unset] []) _ _ _
    refine own_to (fun t k => XS.iload X17.here hx rfl (hb hby at_73) rfl k) ?_
    show own_Out p e below _ T17 (mkF m 75 #[.val (.int x0), .val (.int x1), .val (.int x2), .val (.int x3), .val (.int (1 : Int32)), .val (.ref ob11), .val (.int (1 : Int32)), .unset, .unset, .unset, .unset] [(.int (1 : Int32))]) _ _ _
    have hc75 : ¬ ((1 : Int32) = (0 : Int32)) := by decide
    refine own_to (fun t k => XS.ifNo X17.here hx rfl (hb hby at_75) rfl ((if0 _ _).trans (feq hc75).1) k) ?_
    show own_Out p e below _ T17 (mkF m 78 #[.val (.int x0), .val (.int x1), .val (.int x2), .val (.int x3), .val (.int (1 : Int32)), .val (.ref ob11), .val (.int (1 : Int32)), .unset, .unset, .unset, .unset] []) _ _ _
    refine own_to (fun t k => XS.lconst X17.here hx rfl (hb hby at_78) k) ?_
    show own_Out p e below _ T17 (mkF m 79 #[.val (.int x0), .val (.int x1), .val (.int x2), .val (.int x3), .val (.int (1 : Int32)), .val (.ref ob11), .val (.int (1 : Int32)), .unset, .unset, .unset, .unset] [(.long (1 : Int64))]) _ _ _
    refine own_to (fun t k => XS.goto X17.here hx rfl (pc0 := 79) (pc' := 83) rfl (hb hby at_79) (by decide) (by decide) k) ?_
    show own_Out p e below _ T17 (mkF m 83 #[.val (.int x0), .val (.int x1), .val (.int x2), .val (.int x3), .val (.int (1 : Int32)), .val (.ref ob11), .val (.int (1 : Int32)), .unset, .unset, .unset, .unset] [(.long (1 : Int64))]) _ _ _
    refine own_to (fun t k => XS.lstore X17.here hx rfl (hb hby at_83) rfl (l' := #[.val (.int x0), .val (.int x1), .val (.int x2), .val (.int x3), .val (.int (1 : Int32)), .val (.ref ob11), .val (.int (1 : Int32)), .val (.long (1 : Int64)), .second, .unset, .unset]) rfl k) ?_
    show own_Out p e below _ T17 (mkF m 85 #[.val (.int x0), .val (.int x1), .val (.int x2), .val (.int x3), .val (.int (1 : Int32)), .val (.ref ob11), .val (.int (1 : Int32)), .val (.long (1 : Int64)), .second, .unset, .unset] []) _ _ _
    refine own_to (fun t k => XS.iload X17.here hx rfl (hb hby at_85) rfl k) ?_
    show own_Out p e below _ T17 (mkF m 87 #[.val (.int x0), .val (.int x1), .val (.int x2), .val (.int x3), .val (.int (1 : Int32)), .val (.ref ob11), .val (.int (1 : Int32)), .val (.long (1 : Int64)), .second, .unset, .unset] [(.int (1 : Int32))]) _ _ _
    have hc87 : ¬ ((1 : Int32) = (0 : Int32)) := by decide
    refine own_to (fun t k => XS.ifNo X17.here hx rfl (hb hby at_87) rfl ((if0 _ _).trans (feq hc87).1) k) ?_
    show own_Out p e below _ T17 (mkF m 90 #[.val (.int x0), .val (.int x1), .val (.int x2), .val (.int x3), .val (.int (1 : Int32)), .val (.ref ob11), .val (.int (1 : Int32)), .val (.long (1 : Int64)), .second, .unset, .unset] []) _ _ _
    refine own_to (fun t k => XS.iloadN X17.here hx rfl (hb hby at_90) rfl k) ?_
    show own_Out p e below _ T17 (mkF m 91 #[.val (.int x0), .val (.int x1), .val (.int x2), .val (.int x3), .val (.int (1 : Int32)), .val (.ref ob11), .val (.int (1 : Int32)), .val (.long (1 : Int64)), .second, .unset, .unset] [(.int x2)]) _ _ _
    refine own_to (fun t k => XS.i2l X17.here hx rfl (hb hby at_91) rfl k) ?_
    show own_Out p e below _ T17 (mkF m 92 #[.val (.int x0), .val (.int x1), .val (.int x2), .val (.int x3), .val (.int (1 : Int32)), .val (.ref ob11), .val (.int (1 : Int32)), .val (.long (1 : Int64)), .second, .unset, .unset] [(.long (x2.toInt64))]) _ _ _
    refine own_to (fun t k => XS.goto X17.here hx rfl (pc0 := 92) (pc' := 96) rfl (hb hby at_92) (by decide) (by decide) k) ?_
    show own_Out p e below _ T17 (mkF m 96 #[.val (.int x0), .val (.int x1), .val (.int x2), .val (.int x3), .val (.int (1 : Int32)), .val (.ref ob11), .val (.int (1 : Int32)), .val (.long (1 : Int64)), .second, .unset, .unset] [(.long (x2.toInt64))]) _ _ _
    refine own_to (fun t k => XS.lstore X17.here hx rfl (hb hby at_96) rfl (l' := #[.val (.int x0), .val (.int x1), .val (.int x2), .val (.int x3), .val (.int (1 : Int32)), .val (.ref ob11), .val (.int (1 : Int32)), .val (.long (1 : Int64)), .second, .val (.long (x2.toInt64)), .second]) rfl k) ?_
    show own_Out p e below _ T17 (mkF m 98 #[.val (.int x0), .val (.int x1), .val (.int x2), .val (.int x3), .val (.int (1 : Int32)), .val (.ref ob11), .val (.int (1 : Int32)), .val (.long (1 : Int64)), .second, .val (.long (x2.toInt64)), .second] []) _ _ _
    refine own_to (fun t k => XS.iload X17.here hx rfl (hb hby at_98) rfl k) ?_
    show own_Out p e below _ T17 (mkF m 100 #[.val (.int x0), .val (.int x1), .val (.int x2), .val (.int x3), .val (.int (1 : Int32)), .val (.ref ob11), .val (.int (1 : Int32)), .val (.long (1 : Int64)), .second, .val (.long (x2.toInt64)), .second] [(.int (1 : Int32))]) _ _ _
    have hc100 : ¬ ((1 : Int32) = (0 : Int32)) := by decide
    refine own_to (fun t k => XS.ifNo X17.here hx rfl (hb hby at_100) rfl ((if0 _ _).trans (feq hc100).1) k) ?_
    show own_Out p e below _ T17 (mkF m 103 #[.val (.int x0), .val (.int x1), .val (.int x2), .val (.int x3), .val (.int (1 : Int32)), .val (.ref ob11), .val (.int (1 : Int32)), .val (.long (1 : Int64)), .second, .val (.long (x2.toInt64)), .second] []) _ _ _
    refine own_to (fun t k => XS.aload X17.here hx rfl (hb hby at_103) rfl rfl k) ?_
    show own_Out p e below _ T17 (mkF m 105 #[.val (.int x0), .val (.int x1), .val (.int x2), .val (.int x3), .val (.int (1 : Int32)), .val (.ref ob11), .val (.int (1 : Int32)), .val (.long (1 : Int64)), .second, .val (.long (x2.toInt64)), .second] [(.ref ob11)]) _ _ _
    refine own_callV X17 hx hZ hown (a := ob11) (argsL := []) (rest := []) (hw _ (List.mem_of_getElem? (i := 27) rfl)) (hw _ (List.mem_of_getElem? (i := 28) rfl)) (hw _ (List.mem_of_getElem? (i := 30) rfl)) (hw _ (List.mem_of_getElem? (i := 29) rfl)) (hw _ (List.mem_of_getElem? (i := 2) rfl)) (hw _ (List.mem_of_getElem? (i := 31) rfl)) (by decide) (rm5 l Z a0 hw ob11 (((0 : Int64) + (1 : Int64)) + (1 : Int64)) hh17 n0 Z0 F_ob11_ackFrames) (by decide) (by decide) e17 E_ob11 rfl (by rw [hml]; rfl) (lenOf pd_2 rfl) rfl (W := 0) (by show 2 * 0 + _ ≤ _; exact Nat.le_of_eq rfl) (hb hby at_105) (by decide) (by decide) fun v18 T18 hh18 L18 X18 e18 hQ18 => ?_
    obtain ⟨rfl, NL18, he18⟩ := hQ18
    replace e18 := e18.trans he18
    have N18 := Fr.app N17 NL18
    show own_Out p e below _ T18 (mkF m 108 #[.val (.int x0), .val (.int x1), .val (.int x2), .val (.int x3), .val (.int (1 : Int32)), .val (.ref ob11), .val (.int (1 : Int32)), .val (.long (1 : Int64)), .second, .val (.long (x2.toInt64)), .second] [(.long (((0 : Int64) + (1 : Int64)) + (1 : Int64)))]) _ _ _
    refine own_to (fun t k => X18.ldc2J hx hown (mvT hZ (hw _ (List.mem_of_getElem? (i := 37) rfl))) rfl (hb hby at_108) k) ?_
    show own_Out p e below _ T18 (mkF m 111 #[.val (.int x0), .val (.int x1), .val (.int x2), .val (.int x3), .val (.int (1 : Int32)), .val (.ref ob11), .val (.int (1 : Int32)), .val (.long (1 : Int64)), .second, .val (.long (x2.toInt64)), .second] [(.long (2 : Int64)), (.long (((0 : Int64) + (1 : Int64)) + (1 : Int64)))]) _ _ _
    refine own_to (fun t k => XS.lcmp X18.here hx rfl (hb hby at_111) rfl k) ?_
    show own_Out p e below _ T18 (mkF m 112 #[.val (.int x0), .val (.int x1), .val (.int x2), .val (.int x3), .val (.int (1 : Int32)), .val (.ref ob11), .val (.int (1 : Int32)), .val (.long (1 : Int64)), .second, .val (.long (x2.toInt64)), .second] [(.int (lcmpW (((0 : Int64) + (1 : Int64)) + (1 : Int64)) (2 : Int64)))]) _ _ _
    have hc112 : (((0 : Int64) + (1 : Int64)) + (1 : Int64)) = (2 : Int64) := by first | rfl | decide | (simp only [Int64.zero_add]; done) | simp
    refine own_to (fun t k => XS.ifNo X18.here hx rfl (hb hby at_112) rfl ((if0 _ _).trans (teq ((lw_eq _ _).mpr hc112)).2) k) ?_
    show own_Out p e below _ T18 (mkF m 115 #[.val (.int x0), .val (.int x1), .val (.int x2), .val (.int x3), .val (.int (1 : Int32)), .val (.ref ob11), .val (.int (1 : Int32)), .val (.long (1 : Int64)), .second, .val (.long (x2.toInt64)), .second] []) _ _ _
    refine own_to (fun t k => XS.aload X18.here hx rfl (hb hby at_115) rfl rfl k) ?_
    show own_Out p e below _ T18 (mkF m 117 #[.val (.int x0), .val (.int x1), .val (.int x2), .val (.int x3), .val (.int (1 : Int32)), .val (.ref ob11), .val (.int (1 : Int32)), .val (.long (1 : Int64)), .second, .val (.long (x2.toInt64)), .second] [(.ref ob11)]) _ _ _
    refine own_callV X18 hx hZ hown (a := ob11) (argsL := []) (rest := []) (hw _ (List.mem_of_getElem? (i := 32) rfl)) (hw _ (List.mem_of_getElem? (i := 33) rfl)) (hw _ (List.mem_of_getElem? (i := 35) rfl)) (hw _ (List.mem_of_getElem? (i := 34) rfl)) (hw _ (List.mem_of_getElem? (i := 2) rfl)) (hw _ (List.mem_of_getElem? (i := 36) rfl)) (by decide) (rm6 l Z a0 hw ob11 (((0 : Int64) + (x0.toInt64)) + (x1.toInt64)) hh17 n0 Z0 F_ob11_ackBytes) (by decide) (by decide) e18 E_ob11 rfl (by rw [hml]; rfl) (lenOf pd_2 rfl) rfl (W := 0) (by show 2 * 0 + _ ≤ _; exact Nat.le_of_eq rfl) (hb hby at_117) (by decide) (by decide) fun v19 T19 hh19 L19 X19 e19 hQ19 => ?_
    obtain ⟨rfl, NL19, he19⟩ := hQ19
    replace e19 := e19.trans he19
    have N19 := Fr.app N18 NL19
    show own_Out p e below _ T19 (mkF m 120 #[.val (.int x0), .val (.int x1), .val (.int x2), .val (.int x3), .val (.int (1 : Int32)), .val (.ref ob11), .val (.int (1 : Int32)), .val (.long (1 : Int64)), .second, .val (.long (x2.toInt64)), .second] [(.long (((0 : Int64) + (x0.toInt64)) + (x1.toInt64)))]) _ _ _
    refine own_to (fun t k => XS.iloadN X19.here hx rfl (hb hby at_120) rfl k) ?_
    show own_Out p e below _ T19 (mkF m 121 #[.val (.int x0), .val (.int x1), .val (.int x2), .val (.int x3), .val (.int (1 : Int32)), .val (.ref ob11), .val (.int (1 : Int32)), .val (.long (1 : Int64)), .second, .val (.long (x2.toInt64)), .second] [(.int x0), (.long (((0 : Int64) + (x0.toInt64)) + (x1.toInt64)))]) _ _ _
    refine own_to (fun t k => XS.i2l X19.here hx rfl (hb hby at_121) rfl k) ?_
    show own_Out p e below _ T19 (mkF m 122 #[.val (.int x0), .val (.int x1), .val (.int x2), .val (.int x3), .val (.int (1 : Int32)), .val (.ref ob11), .val (.int (1 : Int32)), .val (.long (1 : Int64)), .second, .val (.long (x2.toInt64)), .second] [(.long (x0.toInt64)), (.long (((0 : Int64) + (x0.toInt64)) + (x1.toInt64)))]) _ _ _
    refine own_to (fun t k => XS.iloadN X19.here hx rfl (hb hby at_122) rfl k) ?_
    show own_Out p e below _ T19 (mkF m 123 #[.val (.int x0), .val (.int x1), .val (.int x2), .val (.int x3), .val (.int (1 : Int32)), .val (.ref ob11), .val (.int (1 : Int32)), .val (.long (1 : Int64)), .second, .val (.long (x2.toInt64)), .second] [(.int x1), (.long (x0.toInt64)), (.long (((0 : Int64) + (x0.toInt64)) + (x1.toInt64)))]) _ _ _
    refine own_to (fun t k => XS.i2l X19.here hx rfl (hb hby at_123) rfl k) ?_
    show own_Out p e below _ T19 (mkF m 124 #[.val (.int x0), .val (.int x1), .val (.int x2), .val (.int x3), .val (.int (1 : Int32)), .val (.ref ob11), .val (.int (1 : Int32)), .val (.long (1 : Int64)), .second, .val (.long (x2.toInt64)), .second] [(.long (x1.toInt64)), (.long (x0.toInt64)), (.long (((0 : Int64) + (x0.toInt64)) + (x1.toInt64)))]) _ _ _
    refine own_to (fun t k => XS.ladd X19.here hx rfl (hb hby at_124) rfl k) ?_
    show own_Out p e below _ T19 (mkF m 125 #[.val (.int x0), .val (.int x1), .val (.int x2), .val (.int x3), .val (.int (1 : Int32)), .val (.ref ob11), .val (.int (1 : Int32)), .val (.long (1 : Int64)), .second, .val (.long (x2.toInt64)), .second] [(.long ((x0.toInt64) + (x1.toInt64))), (.long (((0 : Int64) + (x0.toInt64)) + (x1.toInt64)))]) _ _ _
    refine own_to (fun t k => XS.lcmp X19.here hx rfl (hb hby at_125) rfl k) ?_
    show own_Out p e below _ T19 (mkF m 126 #[.val (.int x0), .val (.int x1), .val (.int x2), .val (.int x3), .val (.int (1 : Int32)), .val (.ref ob11), .val (.int (1 : Int32)), .val (.long (1 : Int64)), .second, .val (.long (x2.toInt64)), .second] [(.int (lcmpW (((0 : Int64) + (x0.toInt64)) + (x1.toInt64)) ((x0.toInt64) + (x1.toInt64))))]) _ _ _
    have hc126 : (((0 : Int64) + (x0.toInt64)) + (x1.toInt64)) = ((x0.toInt64) + (x1.toInt64)) := by first | rfl | decide | (simp only [Int64.zero_add]; done) | simp
    refine own_to (fun t k => XS.ifNo X19.here hx rfl (hb hby at_126) rfl ((if0 _ _).trans (teq ((lw_eq _ _).mpr hc126)).2) k) ?_
    show own_Out p e below _ T19 (mkF m 129 #[.val (.int x0), .val (.int x1), .val (.int x2), .val (.int x3), .val (.int (1 : Int32)), .val (.ref ob11), .val (.int (1 : Int32)), .val (.long (1 : Int64)), .second, .val (.long (x2.toInt64)), .second] []) _ _ _
    refine own_to (fun t k => XS.aload X19.here hx rfl (hb hby at_129) rfl rfl k) ?_
    show own_Out p e below _ T19 (mkF m 131 #[.val (.int x0), .val (.int x1), .val (.int x2), .val (.int x3), .val (.int (1 : Int32)), .val (.ref ob11), .val (.int (1 : Int32)), .val (.long (1 : Int64)), .second, .val (.long (x2.toInt64)), .second] [(.ref ob11)]) _ _ _
    refine own_callV X19 hx hZ hown (a := ob11) (argsL := []) (rest := []) (hw _ (List.mem_of_getElem? (i := 38) rfl)) (hw _ (List.mem_of_getElem? (i := 39) rfl)) (hw _ (List.mem_of_getElem? (i := 41) rfl)) (hw _ (List.mem_of_getElem? (i := 40) rfl)) (hw _ (List.mem_of_getElem? (i := 2) rfl)) (hw _ (List.mem_of_getElem? (i := 42) rfl)) (by decide) (rm7 l Z a0 hw ob11 ((0 : Int64) + (1 : Int64)) hh17 n0 Z0 F_ob11_messageFrames) (by decide) (by decide) e19 E_ob11 rfl (by rw [hml]; rfl) (lenOf pd_2 rfl) rfl (W := 0) (by show 2 * 0 + _ ≤ _; exact Nat.le_of_eq rfl) (hb hby at_131) (by decide) (by decide) fun v20 T20 hh20 L20 X20 e20 hQ20 => ?_
    obtain ⟨rfl, NL20, he20⟩ := hQ20
    replace e20 := e20.trans he20
    have N20 := Fr.app N19 NL20
    show own_Out p e below _ T20 (mkF m 134 #[.val (.int x0), .val (.int x1), .val (.int x2), .val (.int x3), .val (.int (1 : Int32)), .val (.ref ob11), .val (.int (1 : Int32)), .val (.long (1 : Int64)), .second, .val (.long (x2.toInt64)), .second] [(.long ((0 : Int64) + (1 : Int64)))]) _ _ _
    refine own_to (fun t k => XS.lload X20.here hx rfl (hb hby at_134) rfl k) ?_
    show own_Out p e below _ T20 (mkF m 136 #[.val (.int x0), .val (.int x1), .val (.int x2), .val (.int x3), .val (.int (1 : Int32)), .val (.ref ob11), .val (.int (1 : Int32)), .val (.long (1 : Int64)), .second, .val (.long (x2.toInt64)), .second] [(.long (1 : Int64)), (.long ((0 : Int64) + (1 : Int64)))]) _ _ _
    refine own_to (fun t k => XS.lcmp X20.here hx rfl (hb hby at_136) rfl k) ?_
    show own_Out p e below _ T20 (mkF m 137 #[.val (.int x0), .val (.int x1), .val (.int x2), .val (.int x3), .val (.int (1 : Int32)), .val (.ref ob11), .val (.int (1 : Int32)), .val (.long (1 : Int64)), .second, .val (.long (x2.toInt64)), .second] [(.int (lcmpW ((0 : Int64) + (1 : Int64)) (1 : Int64)))]) _ _ _
    have hc137 : ((0 : Int64) + (1 : Int64)) = (1 : Int64) := by first | rfl | decide | (simp only [Int64.zero_add]; done) | simp
    refine own_to (fun t k => XS.ifNo X20.here hx rfl (hb hby at_137) rfl ((if0 _ _).trans (teq ((lw_eq _ _).mpr hc137)).2) k) ?_
    show own_Out p e below _ T20 (mkF m 140 #[.val (.int x0), .val (.int x1), .val (.int x2), .val (.int x3), .val (.int (1 : Int32)), .val (.ref ob11), .val (.int (1 : Int32)), .val (.long (1 : Int64)), .second, .val (.long (x2.toInt64)), .second] []) _ _ _
    refine own_to (fun t k => XS.aload X20.here hx rfl (hb hby at_140) rfl rfl k) ?_
    show own_Out p e below _ T20 (mkF m 142 #[.val (.int x0), .val (.int x1), .val (.int x2), .val (.int x3), .val (.int (1 : Int32)), .val (.ref ob11), .val (.int (1 : Int32)), .val (.long (1 : Int64)), .second, .val (.long (x2.toInt64)), .second] [(.ref ob11)]) _ _ _
    refine own_callV X20 hx hZ hown (a := ob11) (argsL := []) (rest := []) (hw _ (List.mem_of_getElem? (i := 43) rfl)) (hw _ (List.mem_of_getElem? (i := 44) rfl)) (hw _ (List.mem_of_getElem? (i := 46) rfl)) (hw _ (List.mem_of_getElem? (i := 45) rfl)) (hw _ (List.mem_of_getElem? (i := 2) rfl)) (hw _ (List.mem_of_getElem? (i := 47) rfl)) (by decide) (rm8 l Z a0 hw ob11 ((0 : Int64) + (x2.toInt64)) hh17 n0 Z0 F_ob11_messageBytes) (by decide) (by decide) e20 E_ob11 rfl (by rw [hml]; rfl) (lenOf pd_2 rfl) rfl (W := 0) (by show 2 * 0 + _ ≤ _; exact Nat.le_of_eq rfl) (hb hby at_142) (by decide) (by decide) fun v21 T21 hh21 L21 X21 e21 hQ21 => ?_
    obtain ⟨rfl, NL21, he21⟩ := hQ21
    replace e21 := e21.trans he21
    have N21 := Fr.app N20 NL21
    show own_Out p e below _ T21 (mkF m 145 #[.val (.int x0), .val (.int x1), .val (.int x2), .val (.int x3), .val (.int (1 : Int32)), .val (.ref ob11), .val (.int (1 : Int32)), .val (.long (1 : Int64)), .second, .val (.long (x2.toInt64)), .second] [(.long ((0 : Int64) + (x2.toInt64)))]) _ _ _
    refine own_to (fun t k => XS.lload X21.here hx rfl (hb hby at_145) rfl k) ?_
    show own_Out p e below _ T21 (mkF m 147 #[.val (.int x0), .val (.int x1), .val (.int x2), .val (.int x3), .val (.int (1 : Int32)), .val (.ref ob11), .val (.int (1 : Int32)), .val (.long (1 : Int64)), .second, .val (.long (x2.toInt64)), .second] [(.long (x2.toInt64)), (.long ((0 : Int64) + (x2.toInt64)))]) _ _ _
    refine own_to (fun t k => XS.lcmp X21.here hx rfl (hb hby at_147) rfl k) ?_
    show own_Out p e below _ T21 (mkF m 148 #[.val (.int x0), .val (.int x1), .val (.int x2), .val (.int x3), .val (.int (1 : Int32)), .val (.ref ob11), .val (.int (1 : Int32)), .val (.long (1 : Int64)), .second, .val (.long (x2.toInt64)), .second] [(.int (lcmpW ((0 : Int64) + (x2.toInt64)) (x2.toInt64)))]) _ _ _
    have hc148 : ((0 : Int64) + (x2.toInt64)) = (x2.toInt64) := by first | rfl | decide | (simp only [Int64.zero_add]; done) | simp
    refine own_to (fun t k => XS.ifNo X21.here hx rfl (hb hby at_148) rfl ((if0 _ _).trans (teq ((lw_eq _ _).mpr hc148)).2) k) ?_
    show own_Out p e below _ T21 (mkF m 151 #[.val (.int x0), .val (.int x1), .val (.int x2), .val (.int x3), .val (.int (1 : Int32)), .val (.ref ob11), .val (.int (1 : Int32)), .val (.long (1 : Int64)), .second, .val (.long (x2.toInt64)), .second] []) _ _ _
    refine own_to (fun t k => XS.iconst X21.here hx rfl (hb hby at_151) k) ?_
    show own_Out p e below _ T21 (mkF m 152 #[.val (.int x0), .val (.int x1), .val (.int x2), .val (.int x3), .val (.int (1 : Int32)), .val (.ref ob11), .val (.int (1 : Int32)), .val (.long (1 : Int64)), .second, .val (.long (x2.toInt64)), .second] [(.int (1 : Int32))]) _ _ _
    refine own_to (fun t k => XS.goto X21.here hx rfl (pc0 := 152) (pc' := 156) rfl (hb hby at_152) (by decide) (by decide) k) ?_
    show own_Out p e below _ T21 (mkF m 156 #[.val (.int x0), .val (.int x1), .val (.int x2), .val (.int x3), .val (.int (1 : Int32)), .val (.ref ob11), .val (.int (1 : Int32)), .val (.long (1 : Int64)), .second, .val (.long (x2.toInt64)), .second] [(.int (1 : Int32))]) _ _ _
    refine own_retV X21 hx hlk (w := .int (1 : Int32)) hret rfl (Or.inl ⟨rfl, by simp, _, rfl⟩) (hb hby at_156) (by decide) (by decide) ?_
    rw [e21]
    exact ⟨rfl, N21⟩
set_option maxRecDepth 65536 in
set_option maxHeartbeats 40000000 in
theorem comes_1 {Post : Tables → Env → Array Value → State → Outcome → State → Prop} (hpost : ∀ tb e args s v u, (limb_1_1.after args s (.returned v) u = true ∧ limb_1_2.after args s (.returned v) u = true ∧ True) → FrameEnd s (.returned v) u (Jvm.fieldLocs frame_1_writes args s ++ Jvm.arrayLocs frame_1_arrays args s ++ Jvm.staticLocs frame_1_statics s) 16 128 → Post tb e args s (.returned v) u) :
    ArmFor flags0 classFile x code maxLocals ret World_1 tables_1 room_1 Calls_1 rest_1 Pre_1 Post := by
  intro l hfl _ _ p e ha hc hk s m args below hf hA hF happ hP
  obtain ⟨hcalls, hrest, hpre⟩ := hP
  obtain ⟨-, -, -, hnamed, -, -, -, hat⟩ := (Spec.applies_iff hf).mp happ
  obtain ⟨hg, hn⟩ := and_e (Cond.before_iff.mp (show (Jvm.Cond.and given_1 narrow_1).before args s = true from hpre))
  obtain ⟨gg2, gg3⟩ := and_e hg
  obtain ⟨gg4, gg5⟩ := and_e gg3
  obtain ⟨gg6, gg7⟩ := and_e gg5
  obtain ⟨gg8, gg9⟩ := and_e gg7
  obtain ⟨w0, w1, w2, w3, rfl⟩ : ∃ w0 w1 w2 w3 : Value, args = #[w0, w1, w2, w3] := by
    have hs : args.size = 4 := by simpa [Cond.value, given_1] using gg2
    obtain ⟨L⟩ := args
    match L, hs with
    | [w0, w1, w2, w3], _ => exact ⟨w0, w1, w2, w3, rfl⟩
  have hw := fun d (hd : d ∈ tables_1) => atoms_spec (ws := Jvm.Cond.code x code maxLocals ret :: tables_1) hat d (List.mem_cons_of_mem _ hd)
  have hfit : Fit s := fun {y c} hc i hi => by
    obtain ⟨ha, rfl⟩ := Array.getElem?_eq_some_iff.mp hc
    have q := List.all_eq_true.mp ((Array.all_eq_true_iff_forall_mem.mp hF) _ (Array.getElem_mem ha)) i (List.mem_range.mpr hi)
    simpa [Array.getElem?_eq_getElem hi] using q
  obtain ⟨i0, ei0⟩ := is_v gg4
  obtain rfl : w0 = (.int i0) := Option.some.inj ei0
  obtain ⟨i1, ei1⟩ := is_v gg6
  obtain rfl : w1 = (.int i1) := Option.some.inj ei1
  obtain ⟨i2, ei2⟩ := is_v gg8
  obtain rfl : w2 = (.int i2) := Option.some.inj ei2
  obtain ⟨i3, ei3⟩ := is_v gg9
  obtain rfl : w3 = (.int i3) := Option.some.inj ei3
  obtain ⟨n, o, h1, h2, h3, _, L, rfl, ⟨rfl, N⟩, hq⟩ := rm0 l s _ hw i0 i1 i2 i3 s.heap s.heap.size (Nat.le_refl _) tables_1 p e ha hc hk s m _ below hf ((Spec.applies_iff_loose hf).mp happ).1 ⟨rfl, State.Warmed39.refl s, rfl⟩ trivial
  refine ⟨n, _, h1, h2, h3, hpost _ _ _ _ _ _ ⟨Cond.after_iff.mpr rfl, Cond.after_iff.mpr (eq_i res_at (Term.int_eval (1)) rfl), trivial⟩ ⟨hq.1, hq.2.1, (hq.2.2.sift fun y hy => Or.inr (N y hy)).mono (by decide) (by decide)⟩⟩
theorem main_1_1 : Claimed_1_1 := comes_1 fun _ _ _ _ _ _ h hF => ⟨h.1, hF⟩
theorem main_1_2 : Claimed_1_2 := comes_1 fun _ _ _ _ _ _ h hF => ⟨h.2.1, hF⟩
end Jvm.Pilot.@@N@@
namespace Jvm.Pilot.@@N@@
open Jvm Jvm.ClassFile Sem Op Lib Jvm.Free Jvm.Stand Jvm.Pilot.@@N@@.Jvm.D
/-! MADE BY PROGRAM (witnessworld.py) out of the Statement's table words and the real class files: 9 classes; the members and pool entries that the words name. The judged class is class 1, her method 1. -/
namespace start1
open Jvm.ClassFile
def u (s : String) : CpInfo := .utf8 (stringToUtf16 s)
/-- a pool by its gaps: so many unusable entries, then the entry; so many at the end -/
def gap : Nat → List CpInfo → List CpInfo
  | 0, r => r
  | n + 1, r => .unusable :: gap n r
def poolList (es : List (Nat × CpInfo)) (last : Nat) : List CpInfo := es.foldr (fun e r => gap e.1 (e.2 :: r)) (gap last [])
def pool (es : List (Nat × CpInfo)) (last : Nat) : Array CpInfo := ⟨poolList es last⟩
def fileOf (pool : Array CpInfo) (this : Nat) (attrs : Array Attribute := #[]) (ms : Array MethodInfo := #[]) (fl : Nat := 33) (sup : Nat := 0) (ifs : Array Nat := #[]) (fds : Array FieldInfo := #[]) : ClassFile where
  minorVersion := 0
  majorVersion := 65
  constantPool := pool
  accessFlags := fl
  thisClass := this
  superClass := sup
  interfaces := ifs
  fields := fds
  methods := ms
  attributes := attrs
def plain (name : String) (sup : Option ClassId) : Class where
  name := name
  kind := .ordinary
  loader := none
  accessFlags := 33
  super := sup
  interfaces := #[]
  cf := none
  fields := #[]
  methods := #[]
  instanceTypes := #[]
  staticTypes := #[]
  resolved := #[]
  callSites := []
  init := .initialized
  statics := none
  mirror := none

def pool0 : Array CpInfo := pool [(5, u "<init>"), (0, u "()V"), (1, .class_ 10), (1, u "java/lang/Object")] 113

def k0c0 : Code := { maxStack := 0, maxLocals := 1, code := object_method_1_code, exceptionTable := #[], attributes := #[] }
def k0m0 : Method := { name := "<init>", desc := "()V", sig := { parameters := [], returnType := none }, accessFlags := 1, code := some k0c0 }
/-- java/lang/Object -/
def k0 : Class := { plain "java/lang/Object" none with
  accessFlags := 33
  interfaces := #[]
  cf := some (fileOf pool0 8 #[] #[{ accessFlags := 1, nameIndex := 5, descriptorIndex := 6, attributes := #[] }] 33 0 #[] #[])
  fields := #[]
  methods := #[k0m0]
  instanceTypes := #[]
  staticTypes := #[]
  resolved := Array.replicate 124 none
  statics := none }

def pool1 : Array CpInfo := pool [(2, .class_ 4), (0, .nameAndType 5 6), (0, u "java/lang/Object"), (0, u "<init>"), (0, u "()V"), (0, .class_ 8), (0, u "com/example/mingle/mingle/FrameCounts"), (0, .methodref 7 3), (0, .methodref 7 11), (0, .nameAndType 12 13), (0, u "countMessageFrame"), (0, u "(I)V"), (0, .methodref 7 15), (0, .nameAndType 16 13), (0, u "countAckFrame"), (0, .methodref 7 18), (0, .nameAndType 19 20), (0, u "ackFrames"), (0, u "()J"), (0, .methodref 7 22), (0, .nameAndType 23 20), (0, u "ackBytes"), (0, .long 2), (1, .methodref 7 27), (0, .nameAndType 28 20), (0, u "messageFrames"), (0, .methodref 7 30), (0, .nameAndType 31 20), (0, u "messageBytes"), (0, .class_ 33), (0, u "com/example/mingle/mingle/FrameCountsCountAckFramePinLaw"), (2, u "law"), (0, u "(IIII)Z")] 3

def k1m0 : Method := { name := "<init>", desc := "()V", sig := { parameters := [], returnType := none }, accessFlags := 1, code := none }
def k1c1 : Code := { maxStack := 6, maxLocals := 11, code := code, exceptionTable := #[], attributes := #[] }
def k1m1 : Method := { name := "law", desc := "(IIII)Z", sig := { parameters := [.int, .int, .int, .int], returnType := some .boolean }, accessFlags := 9, code := some k1c1 }
/-- com/example/mingle/mingle/FrameCountsCountAckFramePinLaw -/
def k1 : Class := { plain "com/example/mingle/mingle/FrameCountsCountAckFramePinLaw" (some 0) with
  accessFlags := 49
  interfaces := #[]
  cf := some (fileOf pool1 32 #[] #[{ accessFlags := 1, nameIndex := 5, descriptorIndex := 6, attributes := #[] }, { accessFlags := 9, nameIndex := 36, descriptorIndex := 37, attributes := #[] }] 49 2 #[] #[])
  fields := #[]
  methods := #[k1m0, k1m1]
  instanceTypes := #[]
  staticTypes := #[]
  resolved := Array.replicate 41 none
  statics := none }

def pool2 : Array CpInfo := pool [(1, .methodref 2 3), (0, .class_ 4), (0, .nameAndType 5 6), (0, u "java/lang/Object"), (0, u "<init>"), (0, u "()V"), (0, .fieldref 8 9), (0, .class_ 10), (0, .nameAndType 11 12), (0, u "com/example/mingle/mingle/FrameCounts"), (0, u "messageFrames"), (0, u "J"), (0, .fieldref 8 14), (0, .nameAndType 15 12), (0, u "messageBytes"), (0, .fieldref 8 17), (0, .nameAndType 18 12), (0, u "ackFrames"), (0, .fieldref 8 20), (0, .nameAndType 21 12), (0, u "ackBytes"), (2, u "countMessageFrame"), (0, u "(I)V"), (0, u "countAckFrame"), (0, u "()J")] 2

def k2c0 : Code := { maxStack := 1, maxLocals := 1, code := prog_6_method_1_code, exceptionTable := #[], attributes := #[] }
def k2m0 : Method := { name := "<init>", desc := "()V", sig := { parameters := [], returnType := none }, accessFlags := 0, code := some k2c0 }
def k2c1 : Code := { maxStack := 5, maxLocals := 2, code := prog_6_method_2_code, exceptionTable := #[], attributes := #[] }
def k2m1 : Method := { name := "countMessageFrame", desc := "(I)V", sig := { parameters := [.int], returnType := none }, accessFlags := 0, code := some k2c1 }
def k2c2 : Code := { maxStack := 5, maxLocals := 2, code := prog_6_method_3_code, exceptionTable := #[], attributes := #[] }
def k2m2 : Method := { name := "countAckFrame", desc := "(I)V", sig := { parameters := [.int], returnType := none }, accessFlags := 0, code := some k2c2 }
def k2c3 : Code := { maxStack := 2, maxLocals := 1, code := prog_6_method_4_code, exceptionTable := #[], attributes := #[] }
def k2m3 : Method := { name := "messageFrames", desc := "()J", sig := { parameters := [], returnType := some .long }, accessFlags := 1, code := some k2c3 }
def k2c4 : Code := { maxStack := 2, maxLocals := 1, code := prog_6_method_5_code, exceptionTable := #[], attributes := #[] }
def k2m4 : Method := { name := "messageBytes", desc := "()J", sig := { parameters := [], returnType := some .long }, accessFlags := 1, code := some k2c4 }
def k2c5 : Code := { maxStack := 2, maxLocals := 1, code := prog_6_method_6_code, exceptionTable := #[], attributes := #[] }
def k2m5 : Method := { name := "ackFrames", desc := "()J", sig := { parameters := [], returnType := some .long }, accessFlags := 1, code := some k2c5 }
def k2c6 : Code := { maxStack := 2, maxLocals := 1, code := prog_6_method_7_code, exceptionTable := #[], attributes := #[] }
def k2m6 : Method := { name := "ackBytes", desc := "()J", sig := { parameters := [], returnType := some .long }, accessFlags := 1, code := some k2c6 }
/-- com/example/mingle/mingle/FrameCounts -/
def k2 : Class := { plain "com/example/mingle/mingle/FrameCounts" (some 0) with
  accessFlags := 49
  interfaces := #[]
  cf := some (fileOf pool2 8 #[] #[{ accessFlags := 0, nameIndex := 5, descriptorIndex := 6, attributes := #[] }, { accessFlags := 0, nameIndex := 24, descriptorIndex := 25, attributes := #[] }, { accessFlags := 0, nameIndex := 26, descriptorIndex := 25, attributes := #[] }, { accessFlags := 1, nameIndex := 11, descriptorIndex := 27, attributes := #[] }, { accessFlags := 1, nameIndex := 15, descriptorIndex := 27, attributes := #[] }, { accessFlags := 1, nameIndex := 18, descriptorIndex := 27, attributes := #[] }, { accessFlags := 1, nameIndex := 21, descriptorIndex := 27, attributes := #[] }] 49 2 #[] #[{ accessFlags := 66, nameIndex := 11, descriptorIndex := 12, attributes := #[] }, { accessFlags := 66, nameIndex := 15, descriptorIndex := 12, attributes := #[] }, { accessFlags := 66, nameIndex := 18, descriptorIndex := 12, attributes := #[] }, { accessFlags := 66, nameIndex := 21, descriptorIndex := 12, attributes := #[] }])
  fields := #[{ name := "messageFrames", type := .long, accessFlags := 66, slot := 0, constantValue := 0 }, { name := "messageBytes", type := .long, accessFlags := 66, slot := 1, constantValue := 0 }, { name := "ackFrames", type := .long, accessFlags := 66, slot := 2, constantValue := 0 }, { name := "ackBytes", type := .long, accessFlags := 66, slot := 3, constantValue := 0 }]
  methods := #[k2m0, k2m1, k2m2, k2m3, k2m4, k2m5, k2m6]
  instanceTypes := #[.long, .long, .long, .long]
  staticTypes := #[]
  resolved := Array.replicate 30 none
  statics := none }

def pool3 : Array CpInfo := pool [(1, u "java/lang/Cloneable"), (0, .class_ 1), (0, u "java/lang/Object"), (0, .class_ 3)] 3

/-- java/lang/Cloneable -/
def k3 : Class := { plain "java/lang/Cloneable" (some 0) with
  accessFlags := 1537
  interfaces := #[]
  cf := some (fileOf pool3 2 #[] #[] 1537 4 #[] #[])
  fields := #[]
  methods := #[]
  instanceTypes := #[]
  staticTypes := #[]
  resolved := Array.replicate 8 none
  statics := none }

def pool4 : Array CpInfo := pool [(1, u "java/io/Serializable"), (0, .class_ 1), (0, u "java/lang/Object"), (0, .class_ 3)] 3

/-- java/io/Serializable -/
def k4 : Class := { plain "java/io/Serializable" (some 0) with
  accessFlags := 1537
  interfaces := #[]
  cf := some (fileOf pool4 2 #[] #[] 1537 4 #[] #[])
  fields := #[]
  methods := #[]
  instanceTypes := #[]
  staticTypes := #[]
  resolved := Array.replicate 8 none
  statics := none }

/-- the primitive byte -/
def k5 : Class := { plain "byte" none with kind := .primitive 'B', accessFlags := 0x411 }
/-- [B -/
def k6 : Class := { plain "[B" (some 0) with kind := .array 5 .byte, interfaces := #[3, 4], accessFlags := 1041 }

/-- the primitive int -/
def k7 : Class := { plain "int" none with kind := .primitive 'I', accessFlags := 0x411 }
/-- [I -/
def k8 : Class := { plain "[I" (some 0) with kind := .array 7 .int, interfaces := #[3, 4], accessFlags := 1041 }

def heap : Heap := #[]
def classes : Array Class := #[k0, k1, k2, k3, k4, k5, k6, k7, k8]
def interned : List (Array UInt16 × Addr) := []
def slotsUsed : Nat := 0
def theMethod : MethodId := ⟨1, 1⟩
def args0 : Array Value := #[.int 5, .int 65, .int 1, .int 2]
def aboutOver (below : List Frame) : State where
  vm := { classes := classes, interned := interned.toArray }
  heap := heap
  slotsUsed := slotsUsed
  threads := #[{ frames := .invoking theMethod args0 :: below }]
def below0 : List Frame := [.native { method := ⟨0, 0⟩, args := #[] }]
def about1 : State := aboutOver below0
def p0 : Program := .bare "" "" ""
def e0 : Env := launch0.env 0 0 0
theorem w_frames : about1.frames = Frame.invoking theMethod args0 :: below0 := rfl
set_option maxRecDepth 65536 in
theorem w_args : argsFit about1.vm theMethod args0 = true := by decide +kernel
set_option maxRecDepth 65536 in
theorem w_heap : heapFits about1 = true := by decide +kernel
set_option maxRecDepth 65536 in
theorem w_runnable : about1.curStatus? = some .runnable := by decide +kernel
set_option maxRecDepth 65536 in
theorem w_alone : about1.alone = true := by decide +kernel
set_option maxRecDepth 65536 in
theorem w_named : about1.methodNamed? x = some theMethod := by decide +kernel
set_option maxRecDepth 65536 in
theorem w_hears : about1.hears theMethod below0 = true := by decide +kernel
set_option maxRecDepth 65536 in
theorem w_ripe : about1.ripe theMethod args0 below0 = true := by decide +kernel
theorem w_running : about1.status = .running := rfl
set_option maxRecDepth 65536 in
theorem w_room : about1.hasRoom e0.platform room_1 = true :=
  launch0.hasRoom_least _ room_1 (by decide +kernel) (by decide +kernel) (by decide +kernel) (by decide +kernel) (by decide +kernel) (by decide +kernel)
theorem allAtoms_all (ts : List Jvm.Cond) (a : Array Jvm.Value) (st : Jvm.State) : (allAtoms ts).before a st = ts.all (fun c => c.before a st) := by
  induction ts with
  | nil => rfl
  | cons c t ih =>
    show (Jvm.Cond.and c (allAtoms t)).before a st = _
    rw [Jvm.Cond.before_and, ih, List.all_cons]
def words1 : List Jvm.Cond := Jvm.Cond.code x code maxLocals ret :: tables_1
/-- a 'code' word, met by the world's own term for the bytes: nothing is compared byte by byte -/
theorem code_word {y : MethodName} {bytes : ByteArray} {mx : Nat} {rt : Option FieldType} {a : Array Value} {s : State} {m : MethodId} {meth : Method} {c : Code} (h1 : s.methodNamed? y = some m) (h2 : s.vm.method? m = some meth) (h3 : meth.code = some c) (h4 : c.code = bytes)
    (h5 : (c.maxLocals == mx && c.exceptionTable.isEmpty && decide (c.maxStack ≤ mostOperands) && decide (meth.sig.returnType = rt) && !meth.locks && decide (parseMethodDescriptor y.desc = some meth.sig)) = true) : (Jvm.Cond.code y bytes mx rt).before a s = true := by
  simp only [Bool.and_eq_true, beq_iff_eq, Bool.not_eq_true', decide_eq_true_eq] at h5
  obtain ⟨⟨⟨⟨⟨g1, g2⟩, g3⟩, g4⟩, g5⟩, g6⟩ := h5
  simp [Cond.before, Cond.holds, Cond.value, h1, h2, h3, h4, g1, g2, g3, g4, g5, g6]
def isCode : Jvm.Cond → Bool
  | .code _ _ _ _ => true
  | _ => false
theorem all_split {L : List Jvm.Cond} {P : Jvm.Cond → Bool} (h1 : L.all (fun c => isCode c || P c) = true) (h2 : ∀ c ∈ L.filter isCode, P c = true) : L.all P = true := by
  refine List.all_eq_true.mpr fun c hc => ?_
  have h := List.all_eq_true.mp h1 c hc
  rcases Bool.eq_false_or_eq_true (isCode c) with hi | hi
  · exact h2 c (List.mem_filter.mpr ⟨hc, hi⟩)
  · simpa [hi] using h
set_option maxRecDepth 65536 in
theorem w_c0 : (Jvm.Cond.code x code maxLocals ret).before args0 about1 = true := code_word (m := ⟨1, 1⟩) (meth := k1m1) (c := k1c1) (by decide +kernel) rfl rfl rfl (by decide +kernel)
set_option maxRecDepth 65536 in
theorem w_c1 : (Jvm.Cond.code ({ cls := "com/example/mingle/mingle/FrameCounts", name := "<init>", desc := "()V" } : Jvm.MethodName) prog_6_method_1_code (1 : Nat) (Option.none : Option Jvm.ClassFile.FieldType)).before args0 about1 = true := code_word (m := ⟨2, 0⟩) (meth := k2m0) (c := k2c0) (by decide +kernel) rfl rfl rfl (by decide +kernel)
set_option maxRecDepth 65536 in
theorem w_c2 : (Jvm.Cond.code ({ cls := "java/lang/Object", name := "<init>", desc := "()V" } : Jvm.MethodName) object_method_1_code (1 : Nat) (Option.none : Option Jvm.ClassFile.FieldType)).before args0 about1 = true := code_word (m := ⟨0, 0⟩) (meth := k0m0) (c := k0c0) (by decide +kernel) rfl rfl rfl (by decide +kernel)
set_option maxRecDepth 65536 in
theorem w_c3 : (Jvm.Cond.code ({ cls := "com/example/mingle/mingle/FrameCounts", name := "countMessageFrame", desc := "(I)V" } : Jvm.MethodName) prog_6_method_2_code (2 : Nat) (Option.none : Option Jvm.ClassFile.FieldType)).before args0 about1 = true := code_word (m := ⟨2, 1⟩) (meth := k2m1) (c := k2c1) (by decide +kernel) rfl rfl rfl (by decide +kernel)
set_option maxRecDepth 65536 in
theorem w_c4 : (Jvm.Cond.code ({ cls := "com/example/mingle/mingle/FrameCounts", name := "countAckFrame", desc := "(I)V" } : Jvm.MethodName) prog_6_method_3_code (2 : Nat) (Option.none : Option Jvm.ClassFile.FieldType)).before args0 about1 = true := code_word (m := ⟨2, 2⟩) (meth := k2m2) (c := k2c2) (by decide +kernel) rfl rfl rfl (by decide +kernel)
set_option maxRecDepth 65536 in
theorem w_c5 : (Jvm.Cond.code ({ cls := "com/example/mingle/mingle/FrameCounts", name := "ackFrames", desc := "()J" } : Jvm.MethodName) prog_6_method_6_code (1 : Nat) (Option.some Jvm.ClassFile.FieldType.long)).before args0 about1 = true := code_word (m := ⟨2, 5⟩) (meth := k2m5) (c := k2c5) (by decide +kernel) rfl rfl rfl (by decide +kernel)
set_option maxRecDepth 65536 in
theorem w_c6 : (Jvm.Cond.code ({ cls := "com/example/mingle/mingle/FrameCounts", name := "ackBytes", desc := "()J" } : Jvm.MethodName) prog_6_method_7_code (1 : Nat) (Option.some Jvm.ClassFile.FieldType.long)).before args0 about1 = true := code_word (m := ⟨2, 6⟩) (meth := k2m6) (c := k2c6) (by decide +kernel) rfl rfl rfl (by decide +kernel)
set_option maxRecDepth 65536 in
theorem w_c7 : (Jvm.Cond.code ({ cls := "com/example/mingle/mingle/FrameCounts", name := "messageFrames", desc := "()J" } : Jvm.MethodName) prog_6_method_4_code (1 : Nat) (Option.some Jvm.ClassFile.FieldType.long)).before args0 about1 = true := code_word (m := ⟨2, 3⟩) (meth := k2m3) (c := k2c3) (by decide +kernel) rfl rfl rfl (by decide +kernel)
set_option maxRecDepth 65536 in
theorem w_c8 : (Jvm.Cond.code ({ cls := "com/example/mingle/mingle/FrameCounts", name := "messageBytes", desc := "()J" } : Jvm.MethodName) prog_6_method_5_code (1 : Nat) (Option.some Jvm.ClassFile.FieldType.long)).before args0 about1 = true := code_word (m := ⟨2, 4⟩) (meth := k2m4) (c := k2c4) (by decide +kernel) rfl rfl rfl (by decide +kernel)
def codes1 : List Jvm.Cond := [Jvm.Cond.code x code maxLocals ret, Jvm.Cond.code ({ cls := "com/example/mingle/mingle/FrameCounts", name := "<init>", desc := "()V" } : Jvm.MethodName) prog_6_method_1_code (1 : Nat) (Option.none : Option Jvm.ClassFile.FieldType), Jvm.Cond.code ({ cls := "java/lang/Object", name := "<init>", desc := "()V" } : Jvm.MethodName) object_method_1_code (1 : Nat) (Option.none : Option Jvm.ClassFile.FieldType), Jvm.Cond.code ({ cls := "com/example/mingle/mingle/FrameCounts", name := "countMessageFrame", desc := "(I)V" } : Jvm.MethodName) prog_6_method_2_code (2 : Nat) (Option.none : Option Jvm.ClassFile.FieldType), Jvm.Cond.code ({ cls := "com/example/mingle/mingle/FrameCounts", name := "countAckFrame", desc := "(I)V" } : Jvm.MethodName) prog_6_method_3_code (2 : Nat) (Option.none : Option Jvm.ClassFile.FieldType), Jvm.Cond.code ({ cls := "com/example/mingle/mingle/FrameCounts", name := "ackFrames", desc := "()J" } : Jvm.MethodName) prog_6_method_6_code (1 : Nat) (Option.some Jvm.ClassFile.FieldType.long), Jvm.Cond.code ({ cls := "com/example/mingle/mingle/FrameCounts", name := "ackBytes", desc := "()J" } : Jvm.MethodName) prog_6_method_7_code (1 : Nat) (Option.some Jvm.ClassFile.FieldType.long), Jvm.Cond.code ({ cls := "com/example/mingle/mingle/FrameCounts", name := "messageFrames", desc := "()J" } : Jvm.MethodName) prog_6_method_4_code (1 : Nat) (Option.some Jvm.ClassFile.FieldType.long), Jvm.Cond.code ({ cls := "com/example/mingle/mingle/FrameCounts", name := "messageBytes", desc := "()J" } : Jvm.MethodName) prog_6_method_5_code (1 : Nat) (Option.some Jvm.ClassFile.FieldType.long)]
set_option maxRecDepth 65536 in
theorem codes_eq : words1.filter isCode = codes1 := rfl
theorem w_codes : ∀ c ∈ words1.filter isCode, c.before args0 about1 = true := by
  rw [codes_eq]
  intro c hc
  simp only [codes1, List.mem_cons, List.not_mem_nil, or_false] at hc
  rcases hc with rfl | rfl | rfl | rfl | rfl | rfl | rfl | rfl | rfl
  · exact w_c0
  · exact w_c1
  · exact w_c2
  · exact w_c3
  · exact w_c4
  · exact w_c5
  · exact w_c6
  · exact w_c7
  · exact w_c8
set_option maxRecDepth 65536 in
theorem w_t1 : (words1.take 24).all (fun c => isCode c || c.before args0 about1) = true := by decide +kernel
set_option maxRecDepth 65536 in
theorem w_t2 : ((words1.drop 24).take 24).all (fun c => isCode c || c.before args0 about1) = true := by decide +kernel
set_option maxRecDepth 65536 in
theorem w_t3 : ((words1.drop 24).drop 24).all (fun c => isCode c || c.before args0 about1) = true := by decide +kernel
theorem w_tables : (allAtoms (Jvm.Cond.code x code maxLocals ret :: tables_1)).before args0 about1 = true := by
  rw [allAtoms_all]
  show words1.all (fun c => c.before args0 about1) = true
  refine all_split ?_ w_codes
  rw [← List.take_append_drop 24 words1, List.all_append, w_t1, ← List.take_append_drop 24 (words1.drop 24), List.all_append, w_t2, w_t3]
  rfl
set_option maxRecDepth 65536 in
theorem w_case : (Jvm.Cond.and given_1 narrow_1).before args0 about1 = true := by decide +kernel
theorem w_applies : (headSpec (Jvm.Cond.code x code maxLocals ret :: tables_1) room_1).applies x e0.platform about1 = true :=
  (Spec.applies_iff w_frames).mpr ⟨w_running, w_runnable, w_alone, w_named, w_hears, w_ripe, w_room, w_tables⟩
theorem atStart : AtStart classFile x code maxLocals ret World_1 tables_1 room_1 Calls_1 rest_1 Pre_1 launch0 p0 e0 about1 theMethod args0 below0 :=
  ⟨lists_1, trivial, launch0.admits_env _ _ _, launch0.least_env, fairChoices_fair.cas, fairChoices_fair.clock, w_frames, w_args, w_heap, w_applies, trivial, trivial, w_case⟩
end start1
theorem witness_1 : WitnessClaimed_1 := ⟨start1.p0, start1.e0, start1.about1, start1.theMethod, start1.args0, start1.below0, start1.atStart⟩
end Jvm.Pilot.@@N@@
