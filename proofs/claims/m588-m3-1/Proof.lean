import JvmDerived
import JvmDerived.Pilot.@@N@@Statement
import JvmDerived.Pilot.@@N@@Code
set_option linter.unusedVariables false
set_option linter.unusedSimpArgs false
namespace Jvm.Pilot.@@N@@
open Jvm Jvm.ClassFile Sem Op Lib Jvm.Free Jvm.Stand Jvm.LawKit Jvm.RoadKit Bundle Jvm.Pilot.@@N@@.Jvm.D
section OwnKit
variable {p : Program} {l : Launch} {e : Env} {R : Room} {s : State} {m : MethodId} {args : Array Value} {below : List Frame} {meth : Method} {c : Code} {T T' : State} {locs : List Loc} {cells slots kc ks : Nat} {g g' : JFrame} {Q : Option Value → Heap → List Loc → Prop} {Z : State} {h h' : Heap} {a0 : Array Value} {En : Outcome → State → List Loc → Nat → Nat → Prop}
/-- from this frame the run comes to the method's end and leaves what Q says -/
def own_Out (p : Program) (e : Env) (below : List Frame) (En : Outcome → State → List Loc → Nat → Nat → Prop) (T : State) (g : JFrame) (Q : Option Value → Heap → List Loc → Prop) (kc ks : Nat) : Prop :=
  ∃ (t : State) (o : Outcome), Steps p.tables e below (T.setTop g) t ∧ t.status = .running ∧ Ended t below o ∧ ∃ (v : Option Value) (L : List Loc), o = .returned v ∧ Q v t.heap L ∧ En o t L kc ks
theorem own_to (st : ∀ t, Steps p.tables e below (T'.setTop g') t → Steps p.tables e below (T.setTop g) t) (k : own_Out p e below En T' g' Q kc ks) : own_Out p e below En T g Q kc ks := by
  obtain ⟨t, o, h1, h2⟩ := k
  exact ⟨t, o, st t h1, h2⟩
theorem own_cast (q : g = g') (k : own_Out p e below En T g' Q kc ks) : own_Out p e below En T g Q kc ks := q ▸ k
/-- a method's contract: called with these arguments over this heap it returns, and Q says what it leaves -/
def own_C (l : Launch) (Z : State) (y : MethodName) (bytes : ByteArray) (maxL : Nat) (ret : Option FieldType) (rm : Room) (as' : Array Value) (h0 : Heap) (Q : Option Value → Heap → List Loc → Prop) : Prop :=
  ∀ ws : List Jvm.Cond, MetFree l y (head1 (Jvm.Cond.code y bytes maxL ret :: ws) rm) (fun a U => a = as' ∧ Z.Warmed39 U.vm ∧ U.heap = h0) (fun _ _ _ _ _ => True) (fun _ U o U' => ∃ v L, o = .returned v ∧ Q v U'.heap L ∧ FrameEnd U o U' L rm.cells rm.slots)
theorem own_met {y : MethodName} {bytes : ByteArray} {maxL : Nat} {ret : Option FieldType} {rm : Room} {as' : Array Value} {h0 : Heap} (pl : plainFor y = true)
    (body : ∀ (p : Program) (e : Env) (s : State) (m : MethodId) (below : List Frame) (meth : Method) (c : Code) (s₁ : State), p.tables.exec = Jvm.exec → c.code = bytes → c.maxLocals = maxL → meth.sig.returnType = ret → meth.locks = false → s.vm.findClass y.cls = some m.cls → meth.name = y.name → Z.Warmed39 s.vm → Stand p l e rm s m as' below meth c s₁ [] 0 0 → s₁.heap = h0 → own_Out p e below (FrameEnd s) s₁ (entryFrame m as' maxL) Q rm.cells rm.slots) :
    own_C l Z y bytes maxL ret rm as' h0 Q := by
  intro ws
  refine MetFree.of_bodySF pl hisR ?_
  intro p e s m args below meth c s₁ Bd hml0 hP hK
  obtain ⟨rfl, hZ, hh⟩ := hP
  exact body p e s m below meth c s₁ Bd.exec Bd.bytes hml0 Bd.returns (BodyLoose.notSynchronized Bd) (findClass_of_methodNamed Bd.named) ((name_of_methodNamed Bd.named Bd.method).1) hZ (Stand.of_body Bd) (by rw [← hh, Bd.state]; rfl)
/-! returns -/
theorem own_retV (X : Stand p l e R s m args below meth c T locs cells slots) (hx : p.tables.exec = Jvm.exec) (hlk : meth.locks = false) {pc : Nat} {Ls : Array Slot} {w : Value} {t : FieldType} {i : Instr} {rest : List Value} (hret : meth.sig.returnType = some t) (hn : narrow t w = w)
    (hi : (i = .ireturn ∧ (t = .int ∨ t = .boolean ∨ t = .byte ∨ t = .char ∨ t = .short) ∧ ∃ z, w = .int z) ∨ (i = .lreturn ∧ t = .long ∧ ∃ z, w = .long z) ∨ (i = .dreturn ∧ t = .double ∧ ∃ z, w = .double z) ∨ (i = .freturn ∧ t = .float ∧ ∃ z, w = .float z) ∨ (i = .areturn ∧ t.isReference = true ∧ w.isRef = true))
    (hd : decode c.code pc = .ok (i, 1)) (hc : cells ≤ kc) (hs : slots ≤ ks) (hQ : Q (some w) T.heap locs) : own_Out p e below (FrameEnd s) T (mkF m pc Ls (w :: rest)) Q kc ks := by
  obtain ⟨fs, hr, hrun, hended, hW, hsame⟩ := X.leave (v := some w) (fun h => by rw [hret] at h; cases h) hlk
  exact ⟨_, _, retOut X hx hret hn hi hd hr, hrun, hended, _, _, rfl, hQ, ⟨_, rfl⟩, hW, hsame.mono hc hs⟩
theorem own_retI (X : Stand p l e R s m args below meth c T locs cells slots) (hx : p.tables.exec = Jvm.exec) (hlk : meth.locks = false) (hret : meth.sig.returnType = some .int) {pc : Nat} {Ls : Array Slot} {z : Int32} {rest : List Value}
    (hd : decode c.code pc = .ok (.ireturn, 1)) (hc : cells ≤ kc) (hs : slots ≤ ks) (hQ : Q (some (.int z)) T.heap locs) : own_Out p e below (FrameEnd s) T (mkF m pc Ls (.int z :: rest)) Q kc ks :=
  own_retV X hx hlk hret rfl (Or.inl ⟨rfl, Or.inl rfl, _, rfl⟩) hd hc hs hQ
theorem own_retJ (X : Stand p l e R s m args below meth c T locs cells slots) (hx : p.tables.exec = Jvm.exec) (hlk : meth.locks = false) (hret : meth.sig.returnType = some .long) {pc : Nat} {Ls : Array Slot} {z : Int64} {rest : List Value}
    (hd : decode c.code pc = .ok (.lreturn, 1)) (hc : cells ≤ kc) (hs : slots ≤ ks) (hQ : Q (some (.long z)) T.heap locs) : own_Out p e below (FrameEnd s) T (mkF m pc Ls (.long z :: rest)) Q kc ks :=
  own_retV X hx hlk hret rfl (Or.inr (Or.inl ⟨rfl, rfl, _, rfl⟩)) hd hc hs hQ
theorem own_retA (X : Stand p l e R s m args below meth c T locs cells slots) (hx : p.tables.exec = Jvm.exec) (hlk : meth.locks = false) {t : FieldType} (hret : meth.sig.returnType = some t) (ht : t.isReference = true) {pc : Nat} {Ls : Array Slot} {z : Addr} {rest : List Value}
    (hd : decode c.code pc = .ok (.areturn, 1)) (hc : cells ≤ kc) (hs : slots ≤ ks) (hQ : Q (some (.ref z)) T.heap locs) : own_Out p e below (FrameEnd s) T (mkF m pc Ls (.ref z :: rest)) Q kc ks :=
  own_retV X hx hlk hret (by cases t <;> rfl) (Or.inr (Or.inr (Or.inr (Or.inr ⟨rfl, ht, rfl⟩)))) hd hc hs hQ
/-- a boolean, byte, char or short: the value is narrowed -/
theorem own_retN (X : Stand p l e R s m args below meth c T locs cells slots) (hx : p.tables.exec = Jvm.exec) (hlk : meth.locks = false) {t : FieldType} (hret : meth.sig.returnType = some t) (ht : t = .boolean ∨ t = .byte ∨ t = .char ∨ t = .short) {pc : Nat} {Ls : Array Slot} {z : Int32} {rest : List Value}
    (hd : decode c.code pc = .ok (.ireturn, 1)) (hc : cells ≤ kc) (hs : slots ≤ ks) (hQ : Q (some (.int (nar t z))) T.heap locs) : own_Out p e below (FrameEnd s) T (mkF m pc Ls (.int z :: rest)) Q kc ks := by
  obtain ⟨fs, hr, hrun, hended, hW, hsame⟩ := X.leave (v := some (.int (nar t z))) (fun h => by rw [hret] at h; cases h) hlk
  exact ⟨_, _, retN X hx hret ht hd hr, hrun, hended, _, _, rfl, hQ, ⟨_, rfl⟩, hW, hsame.mono hc hs⟩
theorem own_ret0 (X : Stand p l e R s m args below meth c T locs cells slots) (hx : p.tables.exec = Jvm.exec) (hlk : meth.locks = false) (hret : meth.sig.returnType = none) {pc : Nat} {Ls : Array Slot}
    (hd : decode c.code pc = .ok (.return_, 1)) (hc : cells ≤ kc) (hs : slots ≤ ks) (hQ : Q none T.heap locs) : own_Out p e below (FrameEnd s) T (mkF m pc Ls []) Q kc ks := by
  obtain ⟨fs, hr, hrun, hended, hW, hsame⟩ := X.leave (v := none) (fun _ => rfl) hlk
  exact ⟨_, _, X.returnOut hx hret hd hr, hrun, hended, _, _, rfl, hQ, ⟨_, rfl⟩, hW, hsame.mono hc hs⟩
/-! calls -/
theorem own_callS (X : Stand p l e R s m args below meth c T locs cells slots) (hx : p.tables.exec = Jvm.exec) (hZ : Z.Warmed39 s.vm) {own : String} (hown : s.vm.findClass own = some m.cls) {index : Nat} {y : MethodName} {bytes : ByteArray} {maxL : Nat} {ret : Option FieldType} {rm : Room} {W : Nat} {Qc : Option Value → Heap → List Loc → Prop} {argsL rest : List Value}
    (w1 : (Jvm.Cond.methodLink own index y).before a0 Z = true) (w2 : (Jvm.Cond.static y).before a0 Z = true) (w3 : (Jvm.Cond.initialized y.cls).before a0 Z = true) (w4 : (Jvm.Cond.code y bytes maxL ret).before a0 Z = true) (hy : y.cls ≠ "java/lang/invoke/MethodHandle" ∧ y.cls ≠ "java/lang/invoke/VarHandle")
    (hM : own_C l Z y bytes maxL ret rm argsL.toArray h Qc) (hf : rm.frames + 1 ≤ R.frames) (hl : W + (maxL + 11) + rm.locals ≤ R.locals) (eT : T.heap = h) (hg : g.method = m) (hsize : g.locals.size = c.maxLocals) (hlen : ∀ sig, parseMethodDescriptor y.desc = some sig → argsL.length = sig.parameters.length)
    (hstack : g.stack = argsL.reverse ++ rest) (hW : 2 * g.monitorRoom + (rest.map fun v => v.category).sum ≤ W) (hd : decode c.code g.pc = .ok (.invokestatic index, 3)) (hc : cells + rm.cells ≤ R.cells) (hs : slots + rm.slots ≤ R.slots)
    (k : ∀ (v : Option Value) (T' : State) (h' : Heap) (L : List Loc), Stand p l e R s m args below meth c T' (locs ++ L) (cells + rm.cells) (slots + rm.slots) → T'.heap = h' → Qc v h' L → own_Out p e below En T' { g with pc := g.pc + 3, stack := v.toList ++ rest } Q kc ks) : own_Out p e below En T g Q kc ks := by
  obtain ⟨v, _, ⟨T', L', k', n'⟩, -, X', ⟨Lc, hQ, l1, l2, l3⟩, st⟩ := Jvm.LawKit.callS X hx hown (mvT hZ w1) (mvT hZ w2) (mvT hZ w3) (mvT hZ w4) hy (backOf (W := W) (hM []) hZ w4 w3 hf hl) hg hsize hlen hstack hW hd (fun _ _ => ⟨rfl, eT, hc, hs⟩)
  dsimp only [Pt.U, Pt.locs, Pt.cells, Pt.slots] at X' l1 l2 l3 st hQ
  subst l1 l2 l3
  exact own_to st (k v T' _ Lc X' rfl hQ)
/-- a constructor -/
theorem own_callC (X : Stand p l e R s m args below meth c T locs cells slots) (hx : p.tables.exec = Jvm.exec) (hZ : Z.Warmed39 s.vm) {own : String} (hown : s.vm.findClass own = some m.cls) {index : Nat} {y : MethodName} {bytes : ByteArray} {maxL : Nat} {rm : Room} {W : Nat} {Qc : Option Value → Heap → List Loc → Prop} {a : Addr} {argsL rest : List Value}
    (hy1 : y.name = "<init>") (w1 : (Jvm.Cond.methodLink own index y).before a0 Z = true) (w2 : (Jvm.Cond.instanceMethod y).before a0 Z = true) (w3 : (Jvm.Cond.initialized y.cls).before a0 Z = true) (w4 : (Jvm.Cond.code y bytes maxL none).before a0 Z = true) (hy : y.cls ≠ "java/lang/invoke/MethodHandle" ∧ y.cls ≠ "java/lang/invoke/VarHandle")
    (hM : own_C l Z y bytes maxL none rm (.ref a :: argsL).toArray h Qc) (hf : rm.frames + 1 ≤ R.frames) (hl : W + (maxL + 11) + rm.locals ≤ R.locals) (eT : T.heap = h) (hg : g.method = m) (hsize : g.locals.size = c.maxLocals) (hlen : ∀ sig, parseMethodDescriptor y.desc = some sig → argsL.length = sig.parameters.length)
    (hstack : g.stack = argsL.reverse ++ .ref a :: rest) (hW : 2 * g.monitorRoom + (rest.map fun v => v.category).sum ≤ W) (hd : decode c.code g.pc = .ok (.invokespecial index, 3)) (hc : cells + rm.cells ≤ R.cells) (hs : slots + rm.slots ≤ R.slots)
    (k : ∀ (v : Option Value) (T' : State) (h' : Heap) (L : List Loc), Stand p l e R s m args below meth c T' (locs ++ L) (cells + rm.cells) (slots + rm.slots) → T'.heap = h' → Qc v h' L → own_Out p e below En T' { g with pc := g.pc + 3, stack := v.toList ++ rest } Q kc ks) : own_Out p e below En T g Q kc ks := by
  obtain ⟨v, _, ⟨T', L', k', n'⟩, -, X', ⟨Lc, hQ, l1, l2, l3⟩, st⟩ := X.specialBack hx hy1 hown (mvT hZ w1) (mvT hZ w2) (mvT hZ w4) hy (backOf (W := W) (hM []) hZ w4 w3 hf hl) hg hsize (Steps.refl _) hlen hstack hW hd (fun _ _ => ⟨rfl, eT, hc, hs⟩)
  dsimp only [Pt.U, Pt.locs, Pt.cells, Pt.slots] at X' l1 l2 l3 st hQ
  subst l1 l2 l3
  exact own_to (fun t k => st.trans k) (k v T' _ Lc X' rfl hQ)
/-- an instance method of the object's own class -/
theorem own_callV (X : Stand p l e R s m args below meth c T locs cells slots) (hx : p.tables.exec = Jvm.exec) (hZ : Z.Warmed39 s.vm) {own C : String} (hown : s.vm.findClass own = some m.cls) {index : Nat} {y : MethodName} {bytes : ByteArray} {maxL : Nat} {ret : Option FieldType} {rm : Room} {W : Nat} {Qc : Option Value → Heap → List Loc → Prop} {a : Addr} {argsL rest : List Value}
    (w1 : (Jvm.Cond.methodLink own index y).before a0 Z = true) (w5 : (Jvm.Cond.declares y).before a0 Z = true) (w6 : (Jvm.Cond.selects C y y).before a0 Z = true) (w2 : (Jvm.Cond.instanceMethod y).before a0 Z = true) (w3 : (Jvm.Cond.initialized y.cls).before a0 Z = true) (w4 : (Jvm.Cond.code y bytes maxL ret).before a0 Z = true) (hy : y.cls ≠ "java/lang/invoke/MethodHandle" ∧ y.cls ≠ "java/lang/invoke/VarHandle")
    (hM : own_C l Z y bytes maxL ret rm (.ref a :: argsL).toArray h Qc) (hf : rm.frames + 1 ≤ R.frames) (hl : W + (maxL + 11) + rm.locals ≤ R.locals) (eT : T.heap = h) (E : Exa Z h a C) (hg : g.method = m) (hsize : g.locals.size = c.maxLocals) (hlen : ∀ sig, parseMethodDescriptor y.desc = some sig → argsL.length = sig.parameters.length)
    (hstack : g.stack = argsL.reverse ++ .ref a :: rest) (hW : 2 * g.monitorRoom + (rest.map fun v => v.category).sum ≤ W) (hd : decode c.code g.pc = .ok (.invokevirtual index, 3)) (hc : cells + rm.cells ≤ R.cells) (hs : slots + rm.slots ≤ R.slots)
    (k : ∀ (v : Option Value) (T' : State) (h' : Heap) (L : List Loc), Stand p l e R s m args below meth c T' (locs ++ L) (cells + rm.cells) (slots + rm.slots) → T'.heap = h' → Qc v h' L → own_Out p e below En T' { g with pc := g.pc + 3, stack := v.toList ++ rest } Q kc ks) : own_Out p e below En T g Q kc ks := by
  obtain ⟨cq, kq, qa, qb, qc⟩ := isOf hZ eT E
  obtain ⟨v, _, ⟨T', L', k', n'⟩, -, X', ⟨Lc, hQ, l1, l2, l3⟩, st⟩ := X.virtualBack hx hown (mvT hZ w1) (mvT hZ w5) (notFace_of_selects (args := #[]) (mvT hZ w6)) (mvT hZ w6) (mvT hZ w2) hy (backOf (W := W) (hM []) hZ w4 w3 hf hl) qa qc hg hsize (Steps.refl _) hlen hstack hW hd (fun _ _ => ⟨rfl, eT, hc, hs⟩)
  dsimp only [Pt.U, Pt.locs, Pt.cells, Pt.slots] at X' l1 l2 l3 st hQ
  subst l1 l2 l3
  exact own_to (fun t k => st.trans k) (k v T' _ Lc X' rfl hQ)
/-- a private method of the object's own class, by invokevirtual -/
theorem own_callP (X : Stand p l e R s m args below meth c T locs cells slots) (hx : p.tables.exec = Jvm.exec) (hZ : Z.Warmed39 s.vm) {own C : String} (hown : s.vm.findClass own = some m.cls) {index kk : Nat} {y : MethodName} {bytes : ByteArray} {maxL : Nat} {ret : Option FieldType} {rm : Room} {W : Nat} {Qc : Option Value → Heap → List Loc → Prop} {a : Addr} {argsL rest : List Value}
    (w1 : (Jvm.Cond.methodLink own index y).before a0 Z = true) (w5 : (Jvm.Cond.privateMethod y).before a0 Z = true) (w6 : (Jvm.Cond.instantiable y.cls kk).before a0 Z = true) (w2 : (Jvm.Cond.instanceMethod y).before a0 Z = true) (w3 : (Jvm.Cond.initialized y.cls).before a0 Z = true) (w4 : (Jvm.Cond.code y bytes maxL ret).before a0 Z = true) (hy : y.cls ≠ "java/lang/invoke/MethodHandle" ∧ y.cls ≠ "java/lang/invoke/VarHandle")
    (hM : own_C l Z y bytes maxL ret rm (.ref a :: argsL).toArray h Qc) (hf : rm.frames + 1 ≤ R.frames) (hl : W + (maxL + 11) + rm.locals ≤ R.locals) (eT : T.heap = h) (E : Exa Z h a C) (hg : g.method = m) (hsize : g.locals.size = c.maxLocals) (hlen : ∀ sig, parseMethodDescriptor y.desc = some sig → argsL.length = sig.parameters.length)
    (hstack : g.stack = argsL.reverse ++ .ref a :: rest) (hW : 2 * g.monitorRoom + (rest.map fun v => v.category).sum ≤ W) (hd : decode c.code g.pc = .ok (.invokevirtual index, 3)) (hc : cells + rm.cells ≤ R.cells) (hs : slots + rm.slots ≤ R.slots)
    (k : ∀ (v : Option Value) (T' : State) (h' : Heap) (L : List Loc), Stand p l e R s m args below meth c T' (locs ++ L) (cells + rm.cells) (slots + rm.slots) → T'.heap = h' → Qc v h' L → own_Out p e below En T' { g with pc := g.pc + 3, stack := v.toList ++ rest } Q kc ks) : own_Out p e below En T g Q kc ks := by
  obtain ⟨cq, q, q'⟩ := E.cell
  have hp : s.PrivateAt y := Cond.privateMethod_at (mvP hZ w5 (args := #[]))
  obtain ⟨cy, ky, f1, f2, -, f3, -⟩ := Cond.instantiable_spec (mvT (args := args) hZ w6)
  have hi : ky.isInterface = false := (Bool.or_eq_false_iff.mp f3).1
  have hse : (Jvm.Cond.selects y.cls y y).before args s = true := selects_self_of_private f1 f2 hi hp (mvT hZ w2) hy
  obtain ⟨v, _, ⟨T', L', k', n'⟩, -, X', ⟨Lc, hQ, l1, l2, l3⟩, st⟩ := X.privateBack hx hown (mvT hZ w1) (mvT hZ w2) hse hp (mvT hZ w4) hy (backOf (W := W) (hM []) hZ w4 w3 hf hl) hg hsize (Steps.refl _) (by rw [eT]; exact q) q' hlen hstack hW hd (fun _ _ => ⟨rfl, eT, hc, hs⟩)
  dsimp only [Pt.U, Pt.locs, Pt.cells, Pt.slots] at X' l1 l2 l3 st hQ
  subst l1 l2 l3
  exact own_to (fun t k => st.trans k) (k v T' _ Lc X' rfl hQ)
/-! the heap's steps -/
theorem own_getF (X : Stand p l e R s m args below meth c T locs cells slots) (hx : p.tables.exec = Jvm.exec) (hZ : Z.Warmed39 s.vm) {own O n d : String} {index : Nat} (hown : s.vm.findClass own = some m.cls) (w : (Jvm.Cond.fieldLink own index O n d).before a0 Z = true) (eT : T.heap = h) {a : Addr} {v : Value} (F : Fld Z h a O n d v)
    (hg : g.method = m) {rest : List Value} (hs : g.stack = .ref a :: rest) (hd : decode c.code g.pc = .ok (.getfield index, 3)) (k : ∀ T', Stand p l e R s m args below meth c T' locs cells slots → T'.heap = h → own_Out p e below En T' { g with pc := g.pc + 3, stack := v :: rest } Q kc ks) : own_Out p e below En T g Q kc ks := by
  obtain ⟨T', X', e', st⟩ := getF X hx hZ hown (host := "") (Or.inl w) Via.refl eT F hg hs hd
  exact own_to st (k T' X' e')
theorem own_putF (X : Stand p l e R s m args below meth c T locs cells slots) (hx : p.tables.exec = Jvm.exec) (hZ : Z.Warmed39 s.vm) {own O n d C : String} {index kk : Nat} {ty : FieldType} (hown : s.vm.findClass own = some m.cls) (w : (Jvm.Cond.fieldLink own index O n d).before a0 Z = true) (eT : T.heap = h) {a : Addr} {v old : Value} (F : Fld Z h a O n d old) (E : Exa Z h a C)
    (L : (Jvm.Cond.lays C O n d).before a0 Z = true ∨ ((Jvm.Cond.laysFinal C O n d).before a0 Z = true ∧ own = O ∧ meth.name = "<init>")) (wi : (Jvm.Cond.instantiable C kk).before a0 Z = true) (hty : parseFieldDescriptor d = some ty) (hn : narrow ty v = v) (hf : fits ty v = true)
    (hg : g.method = m) {rest : List Value} (hs : g.stack = v :: .ref a :: rest) (hd : decode c.code g.pc = .ok (.putfield index, 3)) (k : ∀ T' h', Stand p l e R s m args below meth c T' (locs ++ [⟨a, Jvm.RoadKit.slotOf Z O n d⟩]) cells slots → T'.heap = h' → Wr h h' a (Jvm.RoadKit.slotOf Z O n d) v → own_Out p e below En T' { g with pc := g.pc + 3, stack := rest } Q kc ks) : own_Out p e below En T g Q kc ks := by
  obtain ⟨T', h', X', e', W', st⟩ := putF X hx hZ hown (host := "") (Or.inl w) Via.refl eT F E L wi hty hn hf hg hs hd
  exact own_to st (k T' h' X' e' W')
theorem own_new (X : Stand p l e R s m args below meth c T locs cells slots) (hx : p.tables.exec = Jvm.exec) (hZ : Z.Warmed39 s.vm) {own C : String} {index n : Nat} (hown : s.vm.findClass own = some m.cls) (w : (Jvm.Cond.classLink own index C).before a0 Z = true) (wi : (Jvm.Cond.instantiable C n).before a0 Z = true) (wz : (Jvm.Cond.initialized C).before a0 Z = true) (eT : T.heap = h)
    (hg : g.method = m) (hd : decode c.code g.pc = .ok (.new index, 3)) (hc : cells + 1 ≤ R.cells) (hl : slots + n ≤ R.slots)
    (k : ∀ T' h' a, a = h.size → Stand p l e R s m args below meth c T' locs (cells + 1) (slots + n) → T'.heap = h' → Ext h h' → Exa Z h' a C → (∀ {O nm d : String} {ty : FieldType}, Laid Z a0 C O nm d → parseFieldDescriptor d = some ty → Fld Z h' a O nm d (defaultValue ty)) → own_Out p e below En T' { g with pc := g.pc + 3, stack := .ref a :: g.stack } Q kc ks) : own_Out p e below En T g Q kc ks := by
  obtain ⟨T', h', X', e', E', A', D', -, st⟩ := newO X hx hZ hown w wi wz eT hg hd hc hl
  exact own_to st (k T' h' _ rfl X' e' E' A' D')
/-! arrays of ints, bytes, booleans: how many places, and what each holds -/
def own_upd (f : Nat → Int32) (j : Nat) (x : Int32) : Nat → Int32 := fun i => if i = j then x else f i
def own_A (Z : State) (h : Heap) (a : Addr) (ty : FieldType) (n : Nat) (f : Nat → Int32) : Prop := ∃ cl : Cell, Arr Z h a cl ty ∧ cl.slots.size = n ∧ ∀ j, j < n → cl.slots[j]? = some (.int (f j))
variable {a b : Addr} {ty : FieldType} {n : Nat} {f : Nat → Int32} {ws : List Addr} {v : Value} {sl : Nat}
theorem own_A.lt (F : own_A Z h a ty n f) : a < h.size := by obtain ⟨_, A, -⟩ := F; exact A.lt
theorem own_A.ext (F : own_A Z h a ty n f) (E : Ext h h') : own_A Z h' a ty n f := by obtain ⟨cl, A, r⟩ := F; exact ⟨cl, A.ext E, r⟩
theorem own_A.other (F : own_A Z h b ty n f) (W : Wr h h' a sl v) (q : b ≠ a) : own_A Z h' b ty n f := by obtain ⟨cl, A, r⟩ := F; exact ⟨cl, A.other W q, r⟩
theorem own_A.keep (F : own_A Z h a ty n f) (K : Keep h h' ws) (q : a ∉ ws) : own_A Z h' a ty n f := by obtain ⟨cl, A, r⟩ := F; exact ⟨cl, ⟨K.2.1 a cl A.1 q, A.2⟩, r⟩
theorem own_A.congr {f' : Nat → Int32} (F : own_A Z h a ty n f) (q : ∀ j, j < n → f j = f' j) : own_A Z h a ty n f' := by obtain ⟨cl, A, r1, r2⟩ := F; exact ⟨cl, A, r1, fun j hj => by rw [r2 j hj, q j hj]⟩
theorem own_A.set {cl : Cell} {j : Nat} {x : Int32} (A : Arr Z h a cl ty) (q1 : cl.slots.size = n) (q2 : ∀ j, j < n → cl.slots[j]? = some (.int (f j))) (W : Wr h h' a j (.int x)) (hj : j < n) : own_A Z h' a ty n (own_upd f j x) := by
  refine ⟨_, A.same W, by rw [sz_set, q1], fun i hi => ?_⟩
  simp only [Cell.setSlot, Array.getElem?_setIfInBounds, own_upd]
  by_cases e : j = i
  · subst e
    simp [q1, hj]
  · rw [if_neg e, q2 i hi, if_neg (fun q => e q.symm)]
theorem own_in {j : Int32} {N : Nat} (h0 : ¬ j < 0) (h1 : j.toNatClampNeg < N) : ¬ (j < 0 ∨ N ≤ j.toNatClampNeg) := fun q => q.elim h0 (fun r => Nat.not_lt.mpr r h1)
theorem own_stI (X : Stand p l e R s m args below meth c T locs cells slots) (hx : p.tables.exec = Jvm.exec) (hZ : Z.Warmed39 s.vm) (eT : T.heap = h) (F : own_A Z h a .int n f) {j x : Int32} (h0 : ¬ j < 0) (h1 : j.toNatClampNeg < n) (hg : g.method = m) {rest : List Value} (hs : g.stack = .int x :: .int j :: .ref a :: rest) (hd : decode c.code g.pc = .ok (.iastore, 1))
    (k : ∀ T' h', Stand p l e R s m args below meth c T' (locs ++ [⟨a, j.toNatClampNeg⟩]) cells slots → T'.heap = h' → Wr h h' a j.toNatClampNeg (.int x) → own_A Z h' a .int n (own_upd f j.toNatClampNeg x) → own_Out p e below En T' { g with pc := g.pc + 1, stack := rest } Q kc ks) : own_Out p e below En T g Q kc ks := by
  obtain ⟨cl, A, q1, q2⟩ := F
  obtain ⟨T', h', X', e', W', st⟩ := stI X hx hZ eT A (own_in h0 (by rw [q1]; exact h1)) hg hs hd
  exact own_to st (k T' h' X' e' W' (own_A.set A q1 q2 W' h1))
theorem own_stZ (X : Stand p l e R s m args below meth c T locs cells slots) (hx : p.tables.exec = Jvm.exec) (hZ : Z.Warmed39 s.vm) (eT : T.heap = h) (F : own_A Z h a .boolean n f) {j x : Int32} (h0 : ¬ j < 0) (h1 : j.toNatClampNeg < n) (hg : g.method = m) {rest : List Value} (hs : g.stack = .int x :: .int j :: .ref a :: rest) (hd : decode c.code g.pc = .ok (.bastore, 1))
    (k : ∀ T' h', Stand p l e R s m args below meth c T' (locs ++ [⟨a, j.toNatClampNeg⟩]) cells slots → T'.heap = h' → Wr h h' a j.toNatClampNeg (.int (nar .boolean x)) → own_A Z h' a .boolean n (own_upd f j.toNatClampNeg (nar .boolean x)) → own_Out p e below En T' { g with pc := g.pc + 1, stack := rest } Q kc ks) : own_Out p e below En T g Q kc ks := by
  obtain ⟨cl, A, q1, q2⟩ := F
  obtain ⟨T', h', X', e', W', st⟩ := stZ X hx hZ eT A (own_in h0 (by rw [q1]; exact h1)) hg hs hd
  exact own_to st (k T' h' X' e' W' (own_A.set A q1 q2 W' h1))
theorem own_stB (X : Stand p l e R s m args below meth c T locs cells slots) (hx : p.tables.exec = Jvm.exec) (hZ : Z.Warmed39 s.vm) (eT : T.heap = h) (F : own_A Z h a .byte n f) {j x : Int32} (h0 : ¬ j < 0) (h1 : j.toNatClampNeg < n) (hg : g.method = m) {rest : List Value} (hs : g.stack = .int x :: .int j :: .ref a :: rest) (hd : decode c.code g.pc = .ok (.bastore, 1))
    (k : ∀ T' h', Stand p l e R s m args below meth c T' (locs ++ [⟨a, j.toNatClampNeg⟩]) cells slots → T'.heap = h' → Wr h h' a j.toNatClampNeg (.int (nar .byte x)) → own_A Z h' a .byte n (own_upd f j.toNatClampNeg (nar .byte x)) → own_Out p e below En T' { g with pc := g.pc + 1, stack := rest } Q kc ks) : own_Out p e below En T g Q kc ks := by
  obtain ⟨cl, A, q1, q2⟩ := F
  obtain ⟨T', h', X', e', W', st⟩ := stB X hx hZ eT A (own_in h0 (by rw [q1]; exact h1)) hg hs hd
  exact own_to st (k T' h' X' e' W' (own_A.set A q1 q2 W' h1))
theorem own_newA (X : Stand p l e R s m args below meth c T locs cells slots) (hx : p.tables.exec = Jvm.exec) (hZ : Z.Warmed39 s.vm) {aty : ArrayType} (w : (Jvm.Cond.arrayClass (newarray.typeOf aty)).before a0 Z = true) (hdef : defaultValue (newarray.typeOf aty) = .int 0) (eT : T.heap = h) (hg : g.method = m) (hd : decode c.code g.pc = .ok (.newarray aty, 2)) {N : Int32} {rest : List Value} (hs : g.stack = .int N :: rest)
    (hn : ¬ N < 0) {cap : Nat} (hcap : N.toNatClampNeg ≤ cap) (hb : cap * 8 ≤ 536870912) (hc : cells + 1 ≤ R.cells) (hl : slots + cap ≤ R.slots)
    (k : ∀ T' h' a, a = h.size → Stand p l e R s m args below meth c T' locs (cells + 1) (slots + cap) → T'.heap = h' → Ext h h' → own_A Z h' a (newarray.typeOf aty) N.toNatClampNeg (fun _ => 0) → own_Out p e below En T' { g with pc := g.pc + 2, stack := .ref a :: rest } Q kc ks) : own_Out p e below En T g Q kc ks := by
  obtain ⟨T', h', cA, X', e', E', A', st⟩ := newP X hx hZ w eT hg hd hs hn hcap hb hc hl
  refine own_to st (k T' h' _ rfl X' e' E' ⟨_, A', sz_new _ _ _, fun j hj => ?_⟩)
  simp [newA, hdef, hj]
theorem own_len (X : Stand p l e R s m args below meth c T locs cells slots) (hx : p.tables.exec = Jvm.exec) (hZ : Z.Warmed39 s.vm) (eT : T.heap = h) (F : own_A Z h a ty n f) (hg : g.method = m) {rest : List Value} (hs : g.stack = .ref a :: rest) (hd : decode c.code g.pc = .ok (.arraylength, 1))
    (k : own_Out p e below En T { g with pc := g.pc + 1, stack := .int n.toInt32 :: rest } Q kc ks) : own_Out p e below En T g Q kc ks := by
  obtain ⟨cl, A, q1, q2⟩ := F
  subst q1
  exact own_to (X.arraylength hx (by rw [eT]; exact A.1) (State.isArrayOf_alike hZ.alike A.2.1) hg hs hd) k
theorem own_ldI (X : Stand p l e R s m args below meth c T locs cells slots) (hx : p.tables.exec = Jvm.exec) (hZ : Z.Warmed39 s.vm) (eT : T.heap = h) (F : own_A Z h a .int n f) {j : Int32} (h0 : ¬ j < 0) (h1 : j.toNatClampNeg < n) (hg : g.method = m) {rest : List Value} (hs : g.stack = .int j :: .ref a :: rest) (hd : decode c.code g.pc = .ok (.iaload, 1))
    (k : ∀ w : Int32, w = f j.toNatClampNeg → own_Out p e below En T { g with pc := g.pc + 1, stack := .int w :: rest } Q kc ks) : own_Out p e below En T g Q kc ks := by
  obtain ⟨cl, A, q1, q2⟩ := F
  exact own_to (X.iaload hx (by rw [eT]; exact A.1) (State.isArrayOf_alike hZ.alike A.2.1) A.2.2 (own_in h0 (by rw [q1]; exact h1)) (q2 _ h1) hg hs hd) (k _ rfl)
theorem own_ldZ (X : Stand p l e R s m args below meth c T locs cells slots) (hx : p.tables.exec = Jvm.exec) (hZ : Z.Warmed39 s.vm) (eT : T.heap = h) (F : own_A Z h a .boolean n f) {j : Int32} (h0 : ¬ j < 0) (h1 : j.toNatClampNeg < n) (hg : g.method = m) {rest : List Value} (hs : g.stack = .int j :: .ref a :: rest) (hd : decode c.code g.pc = .ok (.baload, 1))
    (k : ∀ w : Int32, w = f j.toNatClampNeg → own_Out p e below En T { g with pc := g.pc + 1, stack := .int w :: rest } Q kc ks) : own_Out p e below En T g Q kc ks := by
  obtain ⟨cl, A, q1, q2⟩ := F
  exact own_to (X.baloadBooleans hx (by rw [eT]; exact A.1) (State.isArrayOf_alike hZ.alike A.2.1) A.2.2 (own_in h0 (by rw [q1]; exact h1)) (q2 _ h1) hg hs hd) (k _ rfl)
theorem own_ldB (X : Stand p l e R s m args below meth c T locs cells slots) (hx : p.tables.exec = Jvm.exec) (hZ : Z.Warmed39 s.vm) (eT : T.heap = h) (F : own_A Z h a .byte n f) {j : Int32} (h0 : ¬ j < 0) (h1 : j.toNatClampNeg < n) (hg : g.method = m) {rest : List Value} (hs : g.stack = .int j :: .ref a :: rest) (hd : decode c.code g.pc = .ok (.baload, 1))
    (k : ∀ w : Int32, w = f j.toNatClampNeg → own_Out p e below En T { g with pc := g.pc + 1, stack := .int w :: rest } Q kc ks) : own_Out p e below En T g Q kc ks := by
  obtain ⟨cl, A, q1, q2⟩ := F
  exact own_to (X.baloadBytes hx (by rw [eT]; exact A.1) (State.isArrayOf_alike hZ.alike A.2.1) A.2.2 (own_in h0 (by rw [q1]; exact h1)) (q2 _ h1) hg hs hd) (k _ rfl)
theorem own_idx (x n : Int32) (N : Nat) (hn : n.toInt = (N : Int)) (h0 : 0 < N) : ¬ ((x &&& (2147483647 : Int32)) % n < 0) ∧ ((x &&& (2147483647 : Int32)) % n).toNatClampNeg < N := by
  have h1 := c_mask x 2147483647 31 (by decide) (by decide)
  have h2 := c_irem (x &&& 2147483647) n N hn
  have k : (0 : Int32).toInt = 0 := by decide
  have h3 : ¬ ((x &&& (2147483647 : Int32)) % n < 0) := by
    rw [Int32.lt_iff_toInt_lt, k, h2.1 (by omega)]
    have := Int.emod_nonneg (x &&& 2147483647).toInt (show (N : Int) ≠ 0 by omega)
    omega
  have h4 := nat_of h3
  have h5 := Int.emod_lt_of_pos (x &&& 2147483647).toInt (show (0 : Int) < N by omega)
  rw [h2.1 (by omega)] at h4
  exact ⟨h3, by omega⟩
theorem own_fs {k : Nat} {L : List Loc} (N : Fr k L) (q : k ≤ a) : Fr k (L ++ [⟨a, sl⟩]) := N.app fun y hy => by cases List.mem_singleton.mp hy; exact q
end OwnKit
theorem d1_0 : decode prog_6_method_1_code 0 = .ok (.aload_n 0, 1) := by decide +kernel
theorem d1_1 : decode prog_6_method_1_code 1 = .ok (.invokespecial 1, 3) := by decide +kernel
theorem d1_4 : decode prog_6_method_1_code 4 = .ok (.return_, 1) := by decide +kernel
theorem pn_0 : plainName "com/example/mingle/mingle/FrameCounts" = true := by first | (simp [plainName, overriddenIn]; done) | decide +kernel
theorem ef_1 (m : MethodId) (o0 : Addr) : entryFrame m #[(.ref o0)] 1 = mkF m 0 #[.val (.ref o0)] [] := by first | (simp [entryFrame, mkF, argsToLocals, Value.category]; done) | rfl
def Q1 (Z : State) (o0 : Addr) (h0 : Heap) (n0 : Nat) (v : Option Value) (h : Heap) (L : List Loc) : Prop := v = none ∧ Fr n0 L ∧ h = h0
set_option maxRecDepth 65536 in
set_option maxHeartbeats 40000000 in
theorem rm1 (l : Launch) (Z : State) (a0 : Array Value) (hw : ∀ d ∈ tables_1, d.before a0 Z = true) (o0 : Addr) (h0 : Heap) (n0 : Nat) (Z0 : n0 ≤ h0.size) :
    own_C l Z (⟨"com/example/mingle/mingle/FrameCounts", "<init>", "()V"⟩ : MethodName) prog_6_method_1_code 1 none ({ frames := 1, cells := 0, slots := 0, locals := 12 } : Room) #[(.ref o0)] h0 (Q1 Z o0 h0 n0) := by
  refine own_met (plainFor_of_name pn_0) ?_
  intro p e s m below meth c s₁ hx hby hml hret hlk hown hnm hZ X0 e0
  refine own_cast (ef_1 m o0) ?_
  have N0 := Fr.nil n0
  show own_Out p e below _ s₁ (mkF m 0 #[.val (.ref o0)] []) _ _ _
  refine own_to (fun t k => XS.aloadN X0.here hx rfl (hb hby d1_0) rfl rfl k) ?_
  show own_Out p e below _ s₁ (mkF m 1 #[.val (.ref o0)] [(.ref o0)]) _ _ _
  obtain ⟨T1, X1, e1, st1⟩ := initO X0 hx hZ hown (hw _ (List.mem_of_getElem? (i := 6) rfl)) (hw _ (List.mem_of_getElem? (i := 7) rfl)) (hw _ (List.mem_of_getElem? (i := 8) rfl)) e0 (g := (mkF m 1 #[.val (.ref o0)] [(.ref o0)])) rfl (by rw [hml]; rfl) rfl (hb hby d1_1) (by decide) (W := 0) (by show 2 * 0 + _ ≤ _; exact Nat.le_of_eq rfl) (by decide)
  refine own_to st1 ?_
  show own_Out p e below _ T1 (mkF m 4 #[.val (.ref o0)] []) _ _ _
  refine own_ret0 X1 hx hlk hret (hb hby d1_4) (by decide) (by decide) ?_
  rw [e1]
  exact ⟨rfl, N0, rfl⟩
theorem d7_0 : decode prog_6_method_2_code 0 = .ok (.aload_n 0, 1) := by decide +kernel
theorem d7_1 : decode prog_6_method_2_code 1 = .ok (.dup, 1) := by decide +kernel
theorem d7_2 : decode prog_6_method_2_code 2 = .ok (.getfield 7, 3) := by decide +kernel
theorem d7_5 : decode prog_6_method_2_code 5 = .ok (.lconst 1, 1) := by decide +kernel
theorem d7_6 : decode prog_6_method_2_code 6 = .ok (.ladd, 1) := by decide +kernel
theorem d7_7 : decode prog_6_method_2_code 7 = .ok (.putfield 7, 3) := by decide +kernel
theorem d7_10 : decode prog_6_method_2_code 10 = .ok (.aload_n 0, 1) := by decide +kernel
theorem d7_11 : decode prog_6_method_2_code 11 = .ok (.dup, 1) := by decide +kernel
theorem d7_12 : decode prog_6_method_2_code 12 = .ok (.getfield 13, 3) := by decide +kernel
theorem d7_15 : decode prog_6_method_2_code 15 = .ok (.iload_n 1, 1) := by decide +kernel
theorem d7_16 : decode prog_6_method_2_code 16 = .ok (.i2l, 1) := by decide +kernel
theorem d7_17 : decode prog_6_method_2_code 17 = .ok (.ladd, 1) := by decide +kernel
theorem d7_18 : decode prog_6_method_2_code 18 = .ok (.putfield 13, 3) := by decide +kernel
theorem d7_21 : decode prog_6_method_2_code 21 = .ok (.return_, 1) := by decide +kernel
theorem ef_7 (m : MethodId) (o0 : Addr) (u1 : Int32) : entryFrame m #[(.ref o0), (.int u1)] 2 = mkF m 0 #[.val (.ref o0), .val (.int u1)] [] := by first | (simp [entryFrame, mkF, argsToLocals, Value.category]; done) | rfl
def Q7 (Z : State) (o0 : Addr) (u1 : Int32) (f1 : Int64) (f2 : Int64) (f3 : Int64) (f4 : Int64) (h0 : Heap) (n0 : Nat) (v : Option Value) (h : Heap) (L : List Loc) : Prop := v = none ∧ Fr n0 L ∧ Keep h0 h [o0] ∧ Fld Z h o0 "com/example/mingle/mingle/FrameCounts" "messageFrames" "J" (.long (f1 + (1 : Int64))) ∧ Fld Z h o0 "com/example/mingle/mingle/FrameCounts" "messageBytes" "J" (.long (f2 + (u1.toInt64))) ∧ Fld Z h o0 "com/example/mingle/mingle/FrameCounts" "ackFrames" "J" (.long f3) ∧ Fld Z h o0 "com/example/mingle/mingle/FrameCounts" "ackBytes" "J" (.long f4)
set_option maxRecDepth 65536 in
set_option maxHeartbeats 40000000 in
theorem rm7 (l : Launch) (Z : State) (a0 : Array Value) (hw : ∀ d ∈ tables_1, d.before a0 Z = true) (o0 : Addr) (u1 : Int32) (f1 : Int64) (f2 : Int64) (f3 : Int64) (f4 : Int64) (h0 : Heap) (n0 : Nat) (Z0 : n0 ≤ h0.size) (E_o0 : Exa Z h0 o0 "com/example/mingle/mingle/FrameCounts") (F_o0_messageFrames : Fld Z h0 o0 "com/example/mingle/mingle/FrameCounts" "messageFrames" "J" (.long f1)) (F_o0_messageBytes : Fld Z h0 o0 "com/example/mingle/mingle/FrameCounts" "messageBytes" "J" (.long f2)) (g_o0 : n0 ≤ o0) (F_o0_ackFrames : Fld Z h0 o0 "com/example/mingle/mingle/FrameCounts" "ackFrames" "J" (.long f3)) (F_o0_ackBytes : Fld Z h0 o0 "com/example/mingle/mingle/FrameCounts" "ackBytes" "J" (.long f4)) :
    own_C l Z (⟨"com/example/mingle/mingle/FrameCounts", "countMessageFrame", "(I)V"⟩ : MethodName) prog_6_method_2_code 2 none ({ frames := 0, cells := 0, slots := 0, locals := 0 } : Room) #[(.ref o0), (.int u1)] h0 (Q7 Z o0 u1 f1 f2 f3 f4 h0 n0) := by
  refine own_met (plainFor_of_name pn_0) ?_
  intro p e s m below meth c s₁ hx hby hml hret hlk hown hnm hZ X0 e0
  refine own_cast (ef_7 m o0 u1) ?_
  have N0 := Fr.nil n0
  have K := Keep.refl h0 [o0]
  show own_Out p e below _ s₁ (mkF m 0 #[.val (.ref o0), .val (.int u1)] []) _ _ _
  refine own_to (fun t k => XS.aloadN X0.here hx rfl (hb hby d7_0) rfl rfl k) ?_
  show own_Out p e below _ s₁ (mkF m 1 #[.val (.ref o0), .val (.int u1)] [(.ref o0)]) _ _ _
  refine own_to (fun t k => XS.dup X0.here hx rfl (hb hby d7_1) rfl rfl k) ?_
  show own_Out p e below _ s₁ (mkF m 2 #[.val (.ref o0), .val (.int u1)] [(.ref o0), (.ref o0)]) _ _ _
  refine own_getF X0 hx hZ hown (hw _ (List.mem_of_getElem? (i := 14) rfl)) e0 F_o0_messageFrames rfl rfl (hb hby d7_2) fun T1 X1 e1 => ?_
  show own_Out p e below _ T1 (mkF m 5 #[.val (.ref o0), .val (.int u1)] [(.long f1), (.ref o0)]) _ _ _
  refine own_to (fun t k => XS.lconst X1.here hx rfl (hb hby d7_5) k) ?_
  show own_Out p e below _ T1 (mkF m 6 #[.val (.ref o0), .val (.int u1)] [(.long (1 : Int64)), (.long f1), (.ref o0)]) _ _ _
  refine own_to (fun t k => XS.ladd X1.here hx rfl (hb hby d7_6) rfl k) ?_
  show own_Out p e below _ T1 (mkF m 7 #[.val (.ref o0), .val (.int u1)] [(.long (f1 + (1 : Int64))), (.ref o0)]) _ _ _
  refine own_putF X1 hx hZ hown (hw _ (List.mem_of_getElem? (i := 14) rfl)) e1 F_o0_messageFrames E_o0 (Or.inl (hw _ (List.mem_of_getElem? (i := 15) rfl))) (hw _ (List.mem_of_getElem? (i := 1) rfl)) (ty := .long) (by decide) rfl rfl rfl rfl (hb hby d7_7) fun T2 hh2 X2 e2 W2 => ?_
  have E_o0 := E_o0.wr W2
  have F_o0_messageFrames := F_o0_messageFrames.same W2
  have F_o0_messageBytes := F_o0_messageBytes.other W2 (Or.inr (slot_ne (Or.inl (hw _ (List.mem_of_getElem? (i := 22) rfl))) (Or.inl (hw _ (List.mem_of_getElem? (i := 15) rfl))) (by decide) (t := .long) (t' := .long) (by decide) (by decide)))
  have F_o0_ackFrames := F_o0_ackFrames.other W2 (Or.inr (slot_ne (Or.inl (hw _ (List.mem_of_getElem? (i := 29) rfl))) (Or.inl (hw _ (List.mem_of_getElem? (i := 15) rfl))) (by decide) (t := .long) (t' := .long) (by decide) (by decide)))
  have F_o0_ackBytes := F_o0_ackBytes.other W2 (Or.inr (slot_ne (Or.inl (hw _ (List.mem_of_getElem? (i := 36) rfl))) (Or.inl (hw _ (List.mem_of_getElem? (i := 15) rfl))) (by decide) (t := .long) (t' := .long) (by decide) (by decide)))
  have K := K.wr W2 (Or.inl (by simp))
  have Z0 := Nat.le_trans Z0 (Nat.le_of_eq W2.size.symm)
  have N2 := own_fs (sl := Jvm.RoadKit.slotOf Z "com/example/mingle/mingle/FrameCounts" "messageFrames" "J") N0 g_o0
  show own_Out p e below _ T2 (mkF m 10 #[.val (.ref o0), .val (.int u1)] []) _ _ _
  refine own_to (fun t k => XS.aloadN X2.here hx rfl (hb hby d7_10) rfl rfl k) ?_
  show own_Out p e below _ T2 (mkF m 11 #[.val (.ref o0), .val (.int u1)] [(.ref o0)]) _ _ _
  refine own_to (fun t k => XS.dup X2.here hx rfl (hb hby d7_11) rfl rfl k) ?_
  show own_Out p e below _ T2 (mkF m 12 #[.val (.ref o0), .val (.int u1)] [(.ref o0), (.ref o0)]) _ _ _
  refine own_getF X2 hx hZ hown (hw _ (List.mem_of_getElem? (i := 21) rfl)) e2 F_o0_messageBytes rfl rfl (hb hby d7_12) fun T3 X3 e3 => ?_
  show own_Out p e below _ T3 (mkF m 15 #[.val (.ref o0), .val (.int u1)] [(.long f2), (.ref o0)]) _ _ _
  refine own_to (fun t k => XS.iloadN X3.here hx rfl (hb hby d7_15) rfl k) ?_
  show own_Out p e below _ T3 (mkF m 16 #[.val (.ref o0), .val (.int u1)] [(.int u1), (.long f2), (.ref o0)]) _ _ _
  refine own_to (fun t k => XS.i2l X3.here hx rfl (hb hby d7_16) rfl k) ?_
  show own_Out p e below _ T3 (mkF m 17 #[.val (.ref o0), .val (.int u1)] [(.long (u1.toInt64)), (.long f2), (.ref o0)]) _ _ _
  refine own_to (fun t k => XS.ladd X3.here hx rfl (hb hby d7_17) rfl k) ?_
  show own_Out p e below _ T3 (mkF m 18 #[.val (.ref o0), .val (.int u1)] [(.long (f2 + (u1.toInt64))), (.ref o0)]) _ _ _
  refine own_putF X3 hx hZ hown (hw _ (List.mem_of_getElem? (i := 21) rfl)) e3 F_o0_messageBytes E_o0 (Or.inl (hw _ (List.mem_of_getElem? (i := 22) rfl))) (hw _ (List.mem_of_getElem? (i := 1) rfl)) (ty := .long) (by decide) rfl rfl rfl rfl (hb hby d7_18) fun T4 hh4 X4 e4 W4 => ?_
  have E_o0 := E_o0.wr W4
  have F_o0_messageFrames := F_o0_messageFrames.other W4 (Or.inr (slot_ne (Or.inl (hw _ (List.mem_of_getElem? (i := 15) rfl))) (Or.inl (hw _ (List.mem_of_getElem? (i := 22) rfl))) (by decide) (t := .long) (t' := .long) (by decide) (by decide)))
  have F_o0_messageBytes := F_o0_messageBytes.same W4
  have F_o0_ackFrames := F_o0_ackFrames.other W4 (Or.inr (slot_ne (Or.inl (hw _ (List.mem_of_getElem? (i := 29) rfl))) (Or.inl (hw _ (List.mem_of_getElem? (i := 22) rfl))) (by decide) (t := .long) (t' := .long) (by decide) (by decide)))
  have F_o0_ackBytes := F_o0_ackBytes.other W4 (Or.inr (slot_ne (Or.inl (hw _ (List.mem_of_getElem? (i := 36) rfl))) (Or.inl (hw _ (List.mem_of_getElem? (i := 22) rfl))) (by decide) (t := .long) (t' := .long) (by decide) (by decide)))
  have K := K.wr W4 (Or.inl (by simp))
  have Z0 := Nat.le_trans Z0 (Nat.le_of_eq W4.size.symm)
  have N4 := own_fs (sl := Jvm.RoadKit.slotOf Z "com/example/mingle/mingle/FrameCounts" "messageBytes" "J") N2 g_o0
  show own_Out p e below _ T4 (mkF m 21 #[.val (.ref o0), .val (.int u1)] []) _ _ _
  refine own_ret0 X4 hx hlk hret (hb hby d7_21) (by decide) (by decide) ?_
  rw [e4]
  exact ⟨rfl, N4, K, F_o0_messageFrames, F_o0_messageBytes, F_o0_ackFrames, F_o0_ackBytes⟩
theorem d8_0 : decode prog_6_method_3_code 0 = .ok (.aload_n 0, 1) := by decide +kernel
theorem d8_1 : decode prog_6_method_3_code 1 = .ok (.dup, 1) := by decide +kernel
theorem d8_2 : decode prog_6_method_3_code 2 = .ok (.getfield 16, 3) := by decide +kernel
theorem d8_5 : decode prog_6_method_3_code 5 = .ok (.lconst 1, 1) := by decide +kernel
theorem d8_6 : decode prog_6_method_3_code 6 = .ok (.ladd, 1) := by decide +kernel
theorem d8_7 : decode prog_6_method_3_code 7 = .ok (.putfield 16, 3) := by decide +kernel
theorem d8_10 : decode prog_6_method_3_code 10 = .ok (.aload_n 0, 1) := by decide +kernel
theorem d8_11 : decode prog_6_method_3_code 11 = .ok (.dup, 1) := by decide +kernel
theorem d8_12 : decode prog_6_method_3_code 12 = .ok (.getfield 19, 3) := by decide +kernel
theorem d8_15 : decode prog_6_method_3_code 15 = .ok (.iload_n 1, 1) := by decide +kernel
theorem d8_16 : decode prog_6_method_3_code 16 = .ok (.i2l, 1) := by decide +kernel
theorem d8_17 : decode prog_6_method_3_code 17 = .ok (.ladd, 1) := by decide +kernel
theorem d8_18 : decode prog_6_method_3_code 18 = .ok (.putfield 19, 3) := by decide +kernel
theorem d8_21 : decode prog_6_method_3_code 21 = .ok (.return_, 1) := by decide +kernel
theorem ef_8 (m : MethodId) (o0 : Addr) (u1 : Int32) : entryFrame m #[(.ref o0), (.int u1)] 2 = mkF m 0 #[.val (.ref o0), .val (.int u1)] [] := by first | (simp [entryFrame, mkF, argsToLocals, Value.category]; done) | rfl
def Q8 (Z : State) (o0 : Addr) (u1 : Int32) (f1 : Int64) (f2 : Int64) (f3 : Int64) (f4 : Int64) (h0 : Heap) (n0 : Nat) (v : Option Value) (h : Heap) (L : List Loc) : Prop := v = none ∧ Fr n0 L ∧ Keep h0 h [o0] ∧ Fld Z h o0 "com/example/mingle/mingle/FrameCounts" "ackFrames" "J" (.long (f1 + (1 : Int64))) ∧ Fld Z h o0 "com/example/mingle/mingle/FrameCounts" "ackBytes" "J" (.long (f2 + (u1.toInt64))) ∧ Fld Z h o0 "com/example/mingle/mingle/FrameCounts" "messageFrames" "J" (.long f3) ∧ Fld Z h o0 "com/example/mingle/mingle/FrameCounts" "messageBytes" "J" (.long f4)
set_option maxRecDepth 65536 in
set_option maxHeartbeats 40000000 in
theorem rm8 (l : Launch) (Z : State) (a0 : Array Value) (hw : ∀ d ∈ tables_1, d.before a0 Z = true) (o0 : Addr) (u1 : Int32) (f1 : Int64) (f2 : Int64) (f3 : Int64) (f4 : Int64) (h0 : Heap) (n0 : Nat) (Z0 : n0 ≤ h0.size) (E_o0 : Exa Z h0 o0 "com/example/mingle/mingle/FrameCounts") (F_o0_ackFrames : Fld Z h0 o0 "com/example/mingle/mingle/FrameCounts" "ackFrames" "J" (.long f1)) (F_o0_ackBytes : Fld Z h0 o0 "com/example/mingle/mingle/FrameCounts" "ackBytes" "J" (.long f2)) (g_o0 : n0 ≤ o0) (F_o0_messageFrames : Fld Z h0 o0 "com/example/mingle/mingle/FrameCounts" "messageFrames" "J" (.long f3)) (F_o0_messageBytes : Fld Z h0 o0 "com/example/mingle/mingle/FrameCounts" "messageBytes" "J" (.long f4)) :
    own_C l Z (⟨"com/example/mingle/mingle/FrameCounts", "countAckFrame", "(I)V"⟩ : MethodName) prog_6_method_3_code 2 none ({ frames := 0, cells := 0, slots := 0, locals := 0 } : Room) #[(.ref o0), (.int u1)] h0 (Q8 Z o0 u1 f1 f2 f3 f4 h0 n0) := by
  refine own_met (plainFor_of_name pn_0) ?_
  intro p e s m below meth c s₁ hx hby hml hret hlk hown hnm hZ X0 e0
  refine own_cast (ef_8 m o0 u1) ?_
  have N0 := Fr.nil n0
  have K := Keep.refl h0 [o0]
  show own_Out p e below _ s₁ (mkF m 0 #[.val (.ref o0), .val (.int u1)] []) _ _ _
  refine own_to (fun t k => XS.aloadN X0.here hx rfl (hb hby d8_0) rfl rfl k) ?_
  show own_Out p e below _ s₁ (mkF m 1 #[.val (.ref o0), .val (.int u1)] [(.ref o0)]) _ _ _
  refine own_to (fun t k => XS.dup X0.here hx rfl (hb hby d8_1) rfl rfl k) ?_
  show own_Out p e below _ s₁ (mkF m 2 #[.val (.ref o0), .val (.int u1)] [(.ref o0), (.ref o0)]) _ _ _
  refine own_getF X0 hx hZ hown (hw _ (List.mem_of_getElem? (i := 28) rfl)) e0 F_o0_ackFrames rfl rfl (hb hby d8_2) fun T1 X1 e1 => ?_
  show own_Out p e below _ T1 (mkF m 5 #[.val (.ref o0), .val (.int u1)] [(.long f1), (.ref o0)]) _ _ _
  refine own_to (fun t k => XS.lconst X1.here hx rfl (hb hby d8_5) k) ?_
  show own_Out p e below _ T1 (mkF m 6 #[.val (.ref o0), .val (.int u1)] [(.long (1 : Int64)), (.long f1), (.ref o0)]) _ _ _
  refine own_to (fun t k => XS.ladd X1.here hx rfl (hb hby d8_6) rfl k) ?_
  show own_Out p e below _ T1 (mkF m 7 #[.val (.ref o0), .val (.int u1)] [(.long (f1 + (1 : Int64))), (.ref o0)]) _ _ _
  refine own_putF X1 hx hZ hown (hw _ (List.mem_of_getElem? (i := 28) rfl)) e1 F_o0_ackFrames E_o0 (Or.inl (hw _ (List.mem_of_getElem? (i := 29) rfl))) (hw _ (List.mem_of_getElem? (i := 1) rfl)) (ty := .long) (by decide) rfl rfl rfl rfl (hb hby d8_7) fun T2 hh2 X2 e2 W2 => ?_
  have E_o0 := E_o0.wr W2
  have F_o0_ackFrames := F_o0_ackFrames.same W2
  have F_o0_ackBytes := F_o0_ackBytes.other W2 (Or.inr (slot_ne (Or.inl (hw _ (List.mem_of_getElem? (i := 36) rfl))) (Or.inl (hw _ (List.mem_of_getElem? (i := 29) rfl))) (by decide) (t := .long) (t' := .long) (by decide) (by decide)))
  have F_o0_messageFrames := F_o0_messageFrames.other W2 (Or.inr (slot_ne (Or.inl (hw _ (List.mem_of_getElem? (i := 15) rfl))) (Or.inl (hw _ (List.mem_of_getElem? (i := 29) rfl))) (by decide) (t := .long) (t' := .long) (by decide) (by decide)))
  have F_o0_messageBytes := F_o0_messageBytes.other W2 (Or.inr (slot_ne (Or.inl (hw _ (List.mem_of_getElem? (i := 22) rfl))) (Or.inl (hw _ (List.mem_of_getElem? (i := 29) rfl))) (by decide) (t := .long) (t' := .long) (by decide) (by decide)))
  have K := K.wr W2 (Or.inl (by simp))
  have Z0 := Nat.le_trans Z0 (Nat.le_of_eq W2.size.symm)
  have N2 := own_fs (sl := Jvm.RoadKit.slotOf Z "com/example/mingle/mingle/FrameCounts" "ackFrames" "J") N0 g_o0
  show own_Out p e below _ T2 (mkF m 10 #[.val (.ref o0), .val (.int u1)] []) _ _ _
  refine own_to (fun t k => XS.aloadN X2.here hx rfl (hb hby d8_10) rfl rfl k) ?_
  show own_Out p e below _ T2 (mkF m 11 #[.val (.ref o0), .val (.int u1)] [(.ref o0)]) _ _ _
  refine own_to (fun t k => XS.dup X2.here hx rfl (hb hby d8_11) rfl rfl k) ?_
  show own_Out p e below _ T2 (mkF m 12 #[.val (.ref o0), .val (.int u1)] [(.ref o0), (.ref o0)]) _ _ _
  refine own_getF X2 hx hZ hown (hw _ (List.mem_of_getElem? (i := 35) rfl)) e2 F_o0_ackBytes rfl rfl (hb hby d8_12) fun T3 X3 e3 => ?_
  show own_Out p e below _ T3 (mkF m 15 #[.val (.ref o0), .val (.int u1)] [(.long f2), (.ref o0)]) _ _ _
  refine own_to (fun t k => XS.iloadN X3.here hx rfl (hb hby d8_15) rfl k) ?_
  show own_Out p e below _ T3 (mkF m 16 #[.val (.ref o0), .val (.int u1)] [(.int u1), (.long f2), (.ref o0)]) _ _ _
  refine own_to (fun t k => XS.i2l X3.here hx rfl (hb hby d8_16) rfl k) ?_
  show own_Out p e below _ T3 (mkF m 17 #[.val (.ref o0), .val (.int u1)] [(.long (u1.toInt64)), (.long f2), (.ref o0)]) _ _ _
  refine own_to (fun t k => XS.ladd X3.here hx rfl (hb hby d8_17) rfl k) ?_
  show own_Out p e below _ T3 (mkF m 18 #[.val (.ref o0), .val (.int u1)] [(.long (f2 + (u1.toInt64))), (.ref o0)]) _ _ _
  refine own_putF X3 hx hZ hown (hw _ (List.mem_of_getElem? (i := 35) rfl)) e3 F_o0_ackBytes E_o0 (Or.inl (hw _ (List.mem_of_getElem? (i := 36) rfl))) (hw _ (List.mem_of_getElem? (i := 1) rfl)) (ty := .long) (by decide) rfl rfl rfl rfl (hb hby d8_18) fun T4 hh4 X4 e4 W4 => ?_
  have E_o0 := E_o0.wr W4
  have F_o0_ackFrames := F_o0_ackFrames.other W4 (Or.inr (slot_ne (Or.inl (hw _ (List.mem_of_getElem? (i := 29) rfl))) (Or.inl (hw _ (List.mem_of_getElem? (i := 36) rfl))) (by decide) (t := .long) (t' := .long) (by decide) (by decide)))
  have F_o0_ackBytes := F_o0_ackBytes.same W4
  have F_o0_messageFrames := F_o0_messageFrames.other W4 (Or.inr (slot_ne (Or.inl (hw _ (List.mem_of_getElem? (i := 15) rfl))) (Or.inl (hw _ (List.mem_of_getElem? (i := 36) rfl))) (by decide) (t := .long) (t' := .long) (by decide) (by decide)))
  have F_o0_messageBytes := F_o0_messageBytes.other W4 (Or.inr (slot_ne (Or.inl (hw _ (List.mem_of_getElem? (i := 22) rfl))) (Or.inl (hw _ (List.mem_of_getElem? (i := 36) rfl))) (by decide) (t := .long) (t' := .long) (by decide) (by decide)))
  have K := K.wr W4 (Or.inl (by simp))
  have Z0 := Nat.le_trans Z0 (Nat.le_of_eq W4.size.symm)
  have N4 := own_fs (sl := Jvm.RoadKit.slotOf Z "com/example/mingle/mingle/FrameCounts" "ackBytes" "J") N2 g_o0
  show own_Out p e below _ T4 (mkF m 21 #[.val (.ref o0), .val (.int u1)] []) _ _ _
  refine own_ret0 X4 hx hlk hret (hb hby d8_21) (by decide) (by decide) ?_
  rw [e4]
  exact ⟨rfl, N4, K, F_o0_ackFrames, F_o0_ackBytes, F_o0_messageFrames, F_o0_messageBytes⟩
theorem d3_0 : decode prog_6_method_4_code 0 = .ok (.aload_n 0, 1) := by decide +kernel
theorem d3_1 : decode prog_6_method_4_code 1 = .ok (.getfield 7, 3) := by decide +kernel
theorem d3_4 : decode prog_6_method_4_code 4 = .ok (.lreturn, 1) := by decide +kernel
theorem ef_3 (m : MethodId) (o0 : Addr) : entryFrame m #[(.ref o0)] 1 = mkF m 0 #[.val (.ref o0)] [] := by first | (simp [entryFrame, mkF, argsToLocals, Value.category]; done) | rfl
def Q3 (Z : State) (o0 : Addr) (f1 : Int64) (h0 : Heap) (n0 : Nat) (v : Option Value) (h : Heap) (L : List Loc) : Prop := v = some (.long f1) ∧ Fr n0 L ∧ h = h0
set_option maxRecDepth 65536 in
set_option maxHeartbeats 40000000 in
theorem rm3 (l : Launch) (Z : State) (a0 : Array Value) (hw : ∀ d ∈ tables_1, d.before a0 Z = true) (o0 : Addr) (f1 : Int64) (h0 : Heap) (n0 : Nat) (Z0 : n0 ≤ h0.size) (F_o0_messageFrames : Fld Z h0 o0 "com/example/mingle/mingle/FrameCounts" "messageFrames" "J" (.long f1)) :
    own_C l Z (⟨"com/example/mingle/mingle/FrameCounts", "messageFrames", "()J"⟩ : MethodName) prog_6_method_4_code 1 (some .long) ({ frames := 0, cells := 0, slots := 0, locals := 0 } : Room) #[(.ref o0)] h0 (Q3 Z o0 f1 h0 n0) := by
  refine own_met (plainFor_of_name pn_0) ?_
  intro p e s m below meth c s₁ hx hby hml hret hlk hown hnm hZ X0 e0
  refine own_cast (ef_3 m o0) ?_
  have N0 := Fr.nil n0
  show own_Out p e below _ s₁ (mkF m 0 #[.val (.ref o0)] []) _ _ _
  refine own_to (fun t k => XS.aloadN X0.here hx rfl (hb hby d3_0) rfl rfl k) ?_
  show own_Out p e below _ s₁ (mkF m 1 #[.val (.ref o0)] [(.ref o0)]) _ _ _
  refine own_getF X0 hx hZ hown (hw _ (List.mem_of_getElem? (i := 14) rfl)) e0 F_o0_messageFrames rfl rfl (hb hby d3_1) fun T1 X1 e1 => ?_
  show own_Out p e below _ T1 (mkF m 4 #[.val (.ref o0)] [(.long f1)]) _ _ _
  refine own_retJ X1 hx hlk hret (hb hby d3_4) (by decide) (by decide) ?_
  rw [e1]
  exact ⟨rfl, N0, rfl⟩
theorem d4_0 : decode prog_6_method_5_code 0 = .ok (.aload_n 0, 1) := by decide +kernel
theorem d4_1 : decode prog_6_method_5_code 1 = .ok (.getfield 13, 3) := by decide +kernel
theorem d4_4 : decode prog_6_method_5_code 4 = .ok (.lreturn, 1) := by decide +kernel
theorem ef_4 (m : MethodId) (o0 : Addr) : entryFrame m #[(.ref o0)] 1 = mkF m 0 #[.val (.ref o0)] [] := by first | (simp [entryFrame, mkF, argsToLocals, Value.category]; done) | rfl
def Q4 (Z : State) (o0 : Addr) (f1 : Int64) (h0 : Heap) (n0 : Nat) (v : Option Value) (h : Heap) (L : List Loc) : Prop := v = some (.long f1) ∧ Fr n0 L ∧ h = h0
set_option maxRecDepth 65536 in
set_option maxHeartbeats 40000000 in
theorem rm4 (l : Launch) (Z : State) (a0 : Array Value) (hw : ∀ d ∈ tables_1, d.before a0 Z = true) (o0 : Addr) (f1 : Int64) (h0 : Heap) (n0 : Nat) (Z0 : n0 ≤ h0.size) (F_o0_messageBytes : Fld Z h0 o0 "com/example/mingle/mingle/FrameCounts" "messageBytes" "J" (.long f1)) :
    own_C l Z (⟨"com/example/mingle/mingle/FrameCounts", "messageBytes", "()J"⟩ : MethodName) prog_6_method_5_code 1 (some .long) ({ frames := 0, cells := 0, slots := 0, locals := 0 } : Room) #[(.ref o0)] h0 (Q4 Z o0 f1 h0 n0) := by
  refine own_met (plainFor_of_name pn_0) ?_
  intro p e s m below meth c s₁ hx hby hml hret hlk hown hnm hZ X0 e0
  refine own_cast (ef_4 m o0) ?_
  have N0 := Fr.nil n0
  show own_Out p e below _ s₁ (mkF m 0 #[.val (.ref o0)] []) _ _ _
  refine own_to (fun t k => XS.aloadN X0.here hx rfl (hb hby d4_0) rfl rfl k) ?_
  show own_Out p e below _ s₁ (mkF m 1 #[.val (.ref o0)] [(.ref o0)]) _ _ _
  refine own_getF X0 hx hZ hown (hw _ (List.mem_of_getElem? (i := 21) rfl)) e0 F_o0_messageBytes rfl rfl (hb hby d4_1) fun T1 X1 e1 => ?_
  show own_Out p e below _ T1 (mkF m 4 #[.val (.ref o0)] [(.long f1)]) _ _ _
  refine own_retJ X1 hx hlk hret (hb hby d4_4) (by decide) (by decide) ?_
  rw [e1]
  exact ⟨rfl, N0, rfl⟩
theorem d5_0 : decode prog_6_method_6_code 0 = .ok (.aload_n 0, 1) := by decide +kernel
theorem d5_1 : decode prog_6_method_6_code 1 = .ok (.getfield 16, 3) := by decide +kernel
theorem d5_4 : decode prog_6_method_6_code 4 = .ok (.lreturn, 1) := by decide +kernel
theorem ef_5 (m : MethodId) (o0 : Addr) : entryFrame m #[(.ref o0)] 1 = mkF m 0 #[.val (.ref o0)] [] := by first | (simp [entryFrame, mkF, argsToLocals, Value.category]; done) | rfl
def Q5 (Z : State) (o0 : Addr) (f1 : Int64) (h0 : Heap) (n0 : Nat) (v : Option Value) (h : Heap) (L : List Loc) : Prop := v = some (.long f1) ∧ Fr n0 L ∧ h = h0
set_option maxRecDepth 65536 in
set_option maxHeartbeats 40000000 in
theorem rm5 (l : Launch) (Z : State) (a0 : Array Value) (hw : ∀ d ∈ tables_1, d.before a0 Z = true) (o0 : Addr) (f1 : Int64) (h0 : Heap) (n0 : Nat) (Z0 : n0 ≤ h0.size) (F_o0_ackFrames : Fld Z h0 o0 "com/example/mingle/mingle/FrameCounts" "ackFrames" "J" (.long f1)) :
    own_C l Z (⟨"com/example/mingle/mingle/FrameCounts", "ackFrames", "()J"⟩ : MethodName) prog_6_method_6_code 1 (some .long) ({ frames := 0, cells := 0, slots := 0, locals := 0 } : Room) #[(.ref o0)] h0 (Q5 Z o0 f1 h0 n0) := by
  refine own_met (plainFor_of_name pn_0) ?_
  intro p e s m below meth c s₁ hx hby hml hret hlk hown hnm hZ X0 e0
  refine own_cast (ef_5 m o0) ?_
  have N0 := Fr.nil n0
  show own_Out p e below _ s₁ (mkF m 0 #[.val (.ref o0)] []) _ _ _
  refine own_to (fun t k => XS.aloadN X0.here hx rfl (hb hby d5_0) rfl rfl k) ?_
  show own_Out p e below _ s₁ (mkF m 1 #[.val (.ref o0)] [(.ref o0)]) _ _ _
  refine own_getF X0 hx hZ hown (hw _ (List.mem_of_getElem? (i := 28) rfl)) e0 F_o0_ackFrames rfl rfl (hb hby d5_1) fun T1 X1 e1 => ?_
  show own_Out p e below _ T1 (mkF m 4 #[.val (.ref o0)] [(.long f1)]) _ _ _
  refine own_retJ X1 hx hlk hret (hb hby d5_4) (by decide) (by decide) ?_
  rw [e1]
  exact ⟨rfl, N0, rfl⟩
theorem d6_0 : decode prog_6_method_7_code 0 = .ok (.aload_n 0, 1) := by decide +kernel
theorem d6_1 : decode prog_6_method_7_code 1 = .ok (.getfield 19, 3) := by decide +kernel
theorem d6_4 : decode prog_6_method_7_code 4 = .ok (.lreturn, 1) := by decide +kernel
theorem ef_6 (m : MethodId) (o0 : Addr) : entryFrame m #[(.ref o0)] 1 = mkF m 0 #[.val (.ref o0)] [] := by first | (simp [entryFrame, mkF, argsToLocals, Value.category]; done) | rfl
def Q6 (Z : State) (o0 : Addr) (f1 : Int64) (h0 : Heap) (n0 : Nat) (v : Option Value) (h : Heap) (L : List Loc) : Prop := v = some (.long f1) ∧ Fr n0 L ∧ h = h0
set_option maxRecDepth 65536 in
set_option maxHeartbeats 40000000 in
theorem rm6 (l : Launch) (Z : State) (a0 : Array Value) (hw : ∀ d ∈ tables_1, d.before a0 Z = true) (o0 : Addr) (f1 : Int64) (h0 : Heap) (n0 : Nat) (Z0 : n0 ≤ h0.size) (F_o0_ackBytes : Fld Z h0 o0 "com/example/mingle/mingle/FrameCounts" "ackBytes" "J" (.long f1)) :
    own_C l Z (⟨"com/example/mingle/mingle/FrameCounts", "ackBytes", "()J"⟩ : MethodName) prog_6_method_7_code 1 (some .long) ({ frames := 0, cells := 0, slots := 0, locals := 0 } : Room) #[(.ref o0)] h0 (Q6 Z o0 f1 h0 n0) := by
  refine own_met (plainFor_of_name pn_0) ?_
  intro p e s m below meth c s₁ hx hby hml hret hlk hown hnm hZ X0 e0
  refine own_cast (ef_6 m o0) ?_
  have N0 := Fr.nil n0
  show own_Out p e below _ s₁ (mkF m 0 #[.val (.ref o0)] []) _ _ _
  refine own_to (fun t k => XS.aloadN X0.here hx rfl (hb hby d6_0) rfl rfl k) ?_
  show own_Out p e below _ s₁ (mkF m 1 #[.val (.ref o0)] [(.ref o0)]) _ _ _
  refine own_getF X0 hx hZ hown (hw _ (List.mem_of_getElem? (i := 35) rfl)) e0 F_o0_ackBytes rfl rfl (hb hby d6_1) fun T1 X1 e1 => ?_
  show own_Out p e below _ T1 (mkF m 4 #[.val (.ref o0)] [(.long f1)]) _ _ _
  refine own_retJ X1 hx hlk hret (hb hby d6_4) (by decide) (by decide) ?_
  rw [e1]
  exact ⟨rfl, N0, rfl⟩
theorem own_k4 (x : Int32) : (x &&& (3 : Int32)) = (0 : Int32) ∨ (x &&& (3 : Int32)) = (1 : Int32) ∨ (x &&& (3 : Int32)) = (2 : Int32) ∨ (x &&& (3 : Int32)) = (3 : Int32) := by
  have h := c_mask x 3 2 (by decide) (by decide)
  have k0 : (0 : Int32).toInt = 0 := by decide
  have k1 : (1 : Int32).toInt = 1 := by decide
  have k2 : (2 : Int32).toInt = 2 := by decide
  have k3 : (3 : Int32).toInt = 3 := by decide
  simp only [← Int32.toInt_inj, k0, k1, k2, k3]
  omega
theorem pn_1 : plainName "com/example/mingle/mingle/FrameCountsCountMessageFramePinLaw" = true := by first | (simp [plainName, overriddenIn]; done) | decide +kernel
theorem ef_0 (m : MethodId) (x0 : Int32) (x1 : Int32) (x2 : Int32) (x3 : Int32) (x4 : Int32) : entryFrame m #[(.int x0), (.int x1), (.int x2), (.int x3), (.int x4)] maxLocals = mkF m 0 #[.val (.int x0), .val (.int x1), .val (.int x2), .val (.int x3), .val (.int x4), .unset, .unset, .unset, .unset, .unset, .unset, .unset, .unset, .unset, .unset, .unset] [] := by first | (simp [entryFrame, mkF, argsToLocals, Value.category, maxLocals]; done) | rfl
def Q0 (Z : State) (x0 : Int32) (x1 : Int32) (x2 : Int32) (x3 : Int32) (x4 : Int32) (h0 : Heap) (n0 : Nat) (v : Option Value) (h : Heap) (L : List Loc) : Prop := v = some (.int (1 : Int32)) ∧ Fr n0 L
theorem pd_0 : parseMethodDescriptor "()V" = some ⟨[], none⟩ := by decide +kernel
theorem pd_1 : parseMethodDescriptor "()J" = some ⟨[], some .long⟩ := by decide +kernel
theorem pd_2 : parseMethodDescriptor "(I)V" = some ⟨[.int], none⟩ := by decide +kernel
set_option maxRecDepth 65536 in
set_option maxHeartbeats 40000000 in
theorem rm0 (l : Launch) (Z : State) (a0 : Array Value) (hw : ∀ d ∈ tables_1, d.before a0 Z = true) (x0 : Int32) (x1 : Int32) (x2 : Int32) (x3 : Int32) (x4 : Int32) (h0 : Heap) (n0 : Nat) (Z0 : n0 ≤ h0.size) :
    own_C l Z x code maxLocals ret room_1 #[(.int x0), (.int x1), (.int x2), (.int x3), (.int x4)] h0 (Q0 Z x0 x1 x2 x3 x4 h0 n0) := by
  refine own_met (plainFor_of_name pn_1) ?_
  intro p e s m below meth c s₁ hx hby hml hret hlk hown hnm hZ X0 e0
  refine own_cast (ef_0 m x0 x1 x2 x3 x4) ?_
  have N0 := Fr.nil n0
  show own_Out p e below _ s₁ (mkF m 0 #[.val (.int x0), .val (.int x1), .val (.int x2), .val (.int x3), .val (.int x4), .unset, .unset, .unset, .unset, .unset, .unset, .unset, .unset, .unset, .unset, .unset] []) _ _ _
  refine own_to (fun t k => XS.iload X0.here hx rfl (hb hby at_0) rfl k) ?_
  show own_Out p e below _ s₁ (mkF m 2 #[.val (.int x0), .val (.int x1), .val (.int x2), .val (.int x3), .val (.int x4), .unset, .unset, .unset, .unset, .unset, .unset, .unset, .unset, .unset, .unset, .unset] [(.int x4)]) _ _ _
  refine own_to (fun t k => XS.iconst X0.here hx rfl (hb hby at_2) k) ?_
  show own_Out p e below _ s₁ (mkF m 3 #[.val (.int x0), .val (.int x1), .val (.int x2), .val (.int x3), .val (.int x4), .unset, .unset, .unset, .unset, .unset, .unset, .unset, .unset, .unset, .unset, .unset] [(.int (3 : Int32)), (.int x4)]) _ _ _
  refine own_to (fun t k => XS.iand X0.here hx rfl (hb hby at_3) rfl k) ?_
  show own_Out p e below _ s₁ (mkF m 4 #[.val (.int x0), .val (.int x1), .val (.int x2), .val (.int x3), .val (.int x4), .unset, .unset, .unset, .unset, .unset, .unset, .unset, .unset, .unset, .unset, .unset] [(.int (x4 &&& (3 : Int32)))]) _ _ _
  refine own_to (fun t k => XS.istore X0.here hx rfl (hb hby at_4) rfl (l' := #[.val (.int x0), .val (.int x1), .val (.int x2), .val (.int x3), .val (.int x4), .val (.int (x4 &&& (3 : Int32))), .unset, .unset, .unset, .unset, .unset, .unset, .unset, .unset, .unset, .unset]) rfl k) ?_
  show own_Out p e below _ s₁ (mkF m 6 #[.val (.int x0), .val (.int x1), .val (.int x2), .val (.int x3), .val (.int x4), .val (.int (x4 &&& (3 : Int32))), .unset, .unset, .unset, .unset, .unset, .unset, .unset, .unset, .unset, .unset] []) _ _ _
  generalize hv_kk : (x4 &&& (3 : Int32)) = kk
  show own_Out p e below _ s₁ (mkF m 6 #[.val (.int x0), .val (.int x1), .val (.int x2), .val (.int x3), .val (.int x4), .val (.int kk), .unset, .unset, .unset, .unset, .unset, .unset, .unset, .unset, .unset, .unset] []) _ _ _
  have hk4 := own_k4 x4
  rw [hv_kk] at hk4
  rcases hk4 with hk_kk | hk_kk | hk_kk | hk_kk
  · subst hk_kk
    show own_Out p e below _ s₁ (mkF m 6 #[.val (.int x0), .val (.int x1), .val (.int x2), .val (.int x3), .val (.int x4), .val (.int (0 : Int32)), .unset, .unset, .unset, .unset, .unset, .unset, .unset, .unset, .unset, .unset] []) _ _ _
    refine own_to (fun t k => XS.iload X0.here hx rfl (hb hby at_6) rfl k) ?_
    show own_Out p e below _ s₁ (mkF m 8 #[.val (.int x0), .val (.int x1), .val (.int x2), .val (.int x3), .val (.int x4), .val (.int (0 : Int32)), .unset, .unset, .unset, .unset, .unset, .unset, .unset, .unset, .unset, .unset] [(.int x4)]) _ _ _
    refine own_to (fun t k => XS.iconst X0.here hx rfl (hb hby at_8) k) ?_
    show own_Out p e below _ s₁ (mkF m 9 #[.val (.int x0), .val (.int x1), .val (.int x2), .val (.int x3), .val (.int x4), .val (.int (0 : Int32)), .unset, .unset, .unset, .unset, .unset, .unset, .unset, .unset, .unset, .unset] [(.int (4 : Int32)), (.int x4)]) _ _ _
    refine own_to (fun t k => XS.iand X0.here hx rfl (hb hby at_9) rfl k) ?_
    show own_Out p e below _ s₁ (mkF m 10 #[.val (.int x0), .val (.int x1), .val (.int x2), .val (.int x3), .val (.int x4), .val (.int (0 : Int32)), .unset, .unset, .unset, .unset, .unset, .unset, .unset, .unset, .unset, .unset] [(.int (x4 &&& (4 : Int32)))]) _ _ _
    by_cases hc10 : (x4 &&& (4 : Int32)) = (0 : Int32)
    · refine own_to (fun t k => XS.ifYes X0.here hx rfl (pc0 := 10) (pc' := 17) rfl (hb hby at_10) rfl ((if0 _ _).trans (teq hc10).1) (by decide) (by decide) k) ?_
      show own_Out p e below _ s₁ (mkF m 17 #[.val (.int x0), .val (.int x1), .val (.int x2), .val (.int x3), .val (.int x4), .val (.int (0 : Int32)), .unset, .unset, .unset, .unset, .unset, .unset, .unset, .unset, .unset, .unset] []) _ _ _
      refine own_to (fun t k => XS.iconst X0.here hx rfl (hb hby at_17) k) ?_
      show own_Out p e below _ s₁ (mkF m 18 #[.val (.int x0), .val (.int x1), .val (.int x2), .val (.int x3), .val (.int x4), .val (.int (0 : Int32)), .unset, .unset, .unset, .unset, .unset, .unset, .unset, .unset, .unset, .unset] [(.int (0 : Int32))]) _ _ _
      refine own_to (fun t k => XS.istore X0.here hx rfl (hb hby at_18) rfl (l' := #[.val (.int x0), .val (.int x1), .val (.int x2), .val (.int x3), .val (.int x4), .val (.int (0 : Int32)), .val (.int (0 : Int32)), .unset, .unset, .unset, .unset, .unset, .unset, .unset, .unset, .unset]) rfl k) ?_
      show own_Out p e below _ s₁ (mkF m 20 #[.val (.int x0), .val (.int x1), .val (.int x2), .val (.int x3), .val (.int x4), .val (.int (0 : Int32)), .val (.int (0 : Int32)), .unset, .unset, .unset, .unset, .unset, .unset, .unset, .unset, .unset] []) _ _ _
      refine own_new X0 hx hZ hown (hw _ (List.mem_of_getElem? (i := 0) rfl)) (hw _ (List.mem_of_getElem? (i := 1) rfl)) (hw _ (List.mem_of_getElem? (i := 2) rfl)) e0 rfl (hb hby at_20) (by decide) (by decide) fun T1 hh1 ob1 gb1 X1 e1 E1 A1 D1 => ?_
      have g_ob1 : n0 ≤ ob1 := Nat.le_trans Z0 (Nat.le_of_eq gb1.symm)
      have Z0 := Nat.le_trans Z0 E1.1
      have E_ob1 := A1
      have F_ob1_messageFrames : Fld Z hh1 ob1 "com/example/mingle/mingle/FrameCounts" "messageFrames" "J" (.long (0 : Int64)) := D1 (Or.inl (hw _ (List.mem_of_getElem? (i := 15) rfl))) (ty := .long) (by decide)
      have F_ob1_messageBytes : Fld Z hh1 ob1 "com/example/mingle/mingle/FrameCounts" "messageBytes" "J" (.long (0 : Int64)) := D1 (Or.inl (hw _ (List.mem_of_getElem? (i := 22) rfl))) (ty := .long) (by decide)
      have F_ob1_ackFrames : Fld Z hh1 ob1 "com/example/mingle/mingle/FrameCounts" "ackFrames" "J" (.long (0 : Int64)) := D1 (Or.inl (hw _ (List.mem_of_getElem? (i := 29) rfl))) (ty := .long) (by decide)
      have F_ob1_ackBytes : Fld Z hh1 ob1 "com/example/mingle/mingle/FrameCounts" "ackBytes" "J" (.long (0 : Int64)) := D1 (Or.inl (hw _ (List.mem_of_getElem? (i := 36) rfl))) (ty := .long) (by decide)
      show own_Out p e below _ T1 (mkF m 23 #[.val (.int x0), .val (.int x1), .val (.int x2), .val (.int x3), .val (.int x4), .val (.int (0 : Int32)), .val (.int (0 : Int32)), .unset, .unset, .unset, .unset, .unset, .unset, .unset, .unset, .unset] [(.ref ob1)]) _ _ _
      refine own_to (fun t k => XS.dup X1.here hx rfl (hb hby at_23) rfl rfl k) ?_
      show own_Out p e below _ T1 (mkF m 24 #[.val (.int x0), .val (.int x1), .val (.int x2), .val (.int x3), .val (.int x4), .val (.int (0 : Int32)), .val (.int (0 : Int32)), .unset, .unset, .unset, .unset, .unset, .unset, .unset, .unset, .unset] [(.ref ob1), (.ref ob1)]) _ _ _
      refine own_callC X1 hx hZ hown (a := ob1) (argsL := []) (rest := [(.ref ob1)]) rfl (hw _ (List.mem_of_getElem? (i := 3) rfl)) (hw _ (List.mem_of_getElem? (i := 4) rfl)) (hw _ (List.mem_of_getElem? (i := 2) rfl)) (hw _ (List.mem_of_getElem? (i := 5) rfl)) (by decide) (rm1 l Z a0 hw ob1 hh1 n0 Z0 ) (by decide) (by decide) e1 rfl (by rw [hml]; rfl) (lenOf pd_0 rfl) rfl (W := 1) (by show 2 * 0 + _ ≤ _; exact Nat.le_of_eq rfl) (hb hby at_24) (by decide) (by decide) fun v2 T2 hh2 L2 X2 e2 hQ2 => ?_
      obtain ⟨rfl, NL2, he2⟩ := hQ2
      replace e2 := e2.trans he2
      have N2 := Fr.app N0 NL2
      show own_Out p e below _ T2 (mkF m 27 #[.val (.int x0), .val (.int x1), .val (.int x2), .val (.int x3), .val (.int x4), .val (.int (0 : Int32)), .val (.int (0 : Int32)), .unset, .unset, .unset, .unset, .unset, .unset, .unset, .unset, .unset] [(.ref ob1)]) _ _ _
      refine own_to (fun t k => XS.astore X2.here hx rfl (hb hby at_27) rfl rfl (l' := #[.val (.int x0), .val (.int x1), .val (.int x2), .val (.int x3), .val (.int x4), .val (.int (0 : Int32)), .val (.int (0 : Int32)), .val (.ref ob1), .unset, .unset, .unset, .unset, .unset, .unset, .unset, .unset]) rfl k) ?_
      show own_Out p e below _ T2 (mkF m 29 #[.val (.int x0), .val (.int x1), .val (.int x2), .val (.int x3), .val (.int x4), .val (.int (0 : Int32)), .val (.int (0 : Int32)), .val (.ref ob1), .unset, .unset, .unset, .unset, .unset, .unset, .unset, .unset] []) _ _ _
      refine own_to (fun t k => XS.iload X2.here hx rfl (hb hby at_29) rfl k) ?_
      show own_Out p e below _ T2 (mkF m 31 #[.val (.int x0), .val (.int x1), .val (.int x2), .val (.int x3), .val (.int x4), .val (.int (0 : Int32)), .val (.int (0 : Int32)), .val (.ref ob1), .unset, .unset, .unset, .unset, .unset, .unset, .unset, .unset] [(.int (0 : Int32))]) _ _ _
      refine own_to (fun t k => XS.iconst X2.here hx rfl (hb hby at_31) k) ?_
      show own_Out p e below _ T2 (mkF m 32 #[.val (.int x0), .val (.int x1), .val (.int x2), .val (.int x3), .val (.int x4), .val (.int (0 : Int32)), .val (.int (0 : Int32)), .val (.ref ob1), .unset, .unset, .unset, .unset, .unset, .unset, .unset, .unset] [(.int (1 : Int32)), (.int (0 : Int32))]) _ _ _
      have hc32 : (0 : Int32) < (1 : Int32) := by decide
      refine own_to (fun t k => XS.icmpYes X2.here hx rfl (pc0 := 32) (pc' := 41) rfl (hb hby at_32) rfl (tlt hc32).1 (by decide) (by decide) k) ?_
      show own_Out p e below _ T2 (mkF m 41 #[.val (.int x0), .val (.int x1), .val (.int x2), .val (.int x3), .val (.int x4), .val (.int (0 : Int32)), .val (.int (0 : Int32)), .val (.ref ob1), .unset, .unset, .unset, .unset, .unset, .unset, .unset, .unset] []) _ _ _
      refine own_to (fun t k => XS.iload X2.here hx rfl (hb hby at_41) rfl k) ?_
      show own_Out p e below _ T2 (mkF m 43 #[.val (.int x0), .val (.int x1), .val (.int x2), .val (.int x3), .val (.int x4), .val (.int (0 : Int32)), .val (.int (0 : Int32)), .val (.ref ob1), .unset, .unset, .unset, .unset, .unset, .unset, .unset, .unset] [(.int (0 : Int32))]) _ _ _
      have hc43 : (0 : Int32) = (0 : Int32) := by decide
      refine own_to (fun t k => XS.ifYes X2.here hx rfl (pc0 := 43) (pc' := 52) rfl (hb hby at_43) rfl ((if0 _ _).trans (teq hc43).1) (by decide) (by decide) k) ?_
      show own_Out p e below _ T2 (mkF m 52 #[.val (.int x0), .val (.int x1), .val (.int x2), .val (.int x3), .val (.int x4), .val (.int (0 : Int32)), .val (.int (0 : Int32)), .val (.ref ob1), .unset, .unset, .unset, .unset, .unset, .unset, .unset, .unset] []) _ _ _
      refine own_to (fun t k => XS.iload X2.here hx rfl (hb hby at_52) rfl k) ?_
      show own_Out p e below _ T2 (mkF m 54 #[.val (.int x0), .val (.int x1), .val (.int x2), .val (.int x3), .val (.int x4), .val (.int (0 : Int32)), .val (.int (0 : Int32)), .val (.ref ob1), .unset, .unset, .unset, .unset, .unset, .unset, .unset, .unset] [(.int (0 : Int32))]) _ _ _
      refine own_to (fun t k => XS.iconst X2.here hx rfl (hb hby at_54) k) ?_
      show own_Out p e below _ T2 (mkF m 55 #[.val (.int x0), .val (.int x1), .val (.int x2), .val (.int x3), .val (.int x4), .val (.int (0 : Int32)), .val (.int (0 : Int32)), .val (.ref ob1), .unset, .unset, .unset, .unset, .unset, .unset, .unset, .unset] [(.int (2 : Int32)), (.int (0 : Int32))]) _ _ _
      have hc55 : (0 : Int32) < (2 : Int32) := by decide
      refine own_to (fun t k => XS.icmpYes X2.here hx rfl (pc0 := 55) (pc' := 64) rfl (hb hby at_55) rfl (tlt hc55).1 (by decide) (by decide) k) ?_
      show own_Out p e below _ T2 (mkF m 64 #[.val (.int x0), .val (.int x1), .val (.int x2), .val (.int x3), .val (.int x4), .val (.int (0 : Int32)), .val (.int (0 : Int32)), .val (.ref ob1), .unset, .unset, .unset, .unset, .unset, .unset, .unset, .unset] []) _ _ _
      refine own_to (fun t k => XS.iload X2.here hx rfl (hb hby at_64) rfl k) ?_
      show own_Out p e below _ T2 (mkF m 66 #[.val (.int x0), .val (.int x1), .val (.int x2), .val (.int x3), .val (.int x4), .val (.int (0 : Int32)), .val (.int (0 : Int32)), .val (.ref ob1), .unset, .unset, .unset, .unset, .unset, .unset, .unset, .unset] [(.int (0 : Int32))]) _ _ _
      refine own_to (fun t k => XS.iconst X2.here hx rfl (hb hby at_66) k) ?_
      show own_Out p e below _ T2 (mkF m 67 #[.val (.int x0), .val (.int x1), .val (.int x2), .val (.int x3), .val (.int x4), .val (.int (0 : Int32)), .val (.int (0 : Int32)), .val (.ref ob1), .unset, .unset, .unset, .unset, .unset, .unset, .unset, .unset] [(.int (3 : Int32)), (.int (0 : Int32))]) _ _ _
      have hc67 : (0 : Int32) < (3 : Int32) := by decide
      refine own_to (fun t k => XS.icmpYes X2.here hx rfl (pc0 := 67) (pc' := 76) rfl (hb hby at_67) rfl (tlt hc67).1 (by decide) (by decide) k) ?_
      show own_Out p e below _ T2 (mkF m 76 #[.val (.int x0), .val (.int x1), .val (.int x2), .val (.int x3), .val (.int x4), .val (.int (0 : Int32)), .val (.int (0 : Int32)), .val (.ref ob1), .unset, .unset, .unset, .unset, .unset, .unset, .unset, .unset] []) _ _ _
      refine own_to (fun t k => XS.iload X2.here hx rfl (hb hby at_76) rfl k) ?_
      show own_Out p e below _ T2 (mkF m 78 #[.val (.int x0), .val (.int x1), .val (.int x2), .val (.int x3), .val (.int x4), .val (.int (0 : Int32)), .val (.int (0 : Int32)), .val (.ref ob1), .unset, .unset, .unset, .unset, .unset, .unset, .unset, .unset] [(.int (0 : Int32))]) _ _ _
      refine own_to (fun t k => XS.i2l X2.here hx rfl (hb hby at_78) rfl k) ?_
      show own_Out p e below _ T2 (mkF m 79 #[.val (.int x0), .val (.int x1), .val (.int x2), .val (.int x3), .val (.int x4), .val (.int (0 : Int32)), .val (.int (0 : Int32)), .val (.ref ob1), .unset, .unset, .unset, .unset, .unset, .unset, .unset, .unset] [(.long ((0 : Int32).toInt64))]) _ _ _
      refine own_to (fun t k => XS.lstore X2.here hx rfl (hb hby at_79) rfl (l' := #[.val (.int x0), .val (.int x1), .val (.int x2), .val (.int x3), .val (.int x4), .val (.int (0 : Int32)), .val (.int (0 : Int32)), .val (.ref ob1), .val (.long ((0 : Int32).toInt64)), .second, .unset, .unset, .unset, .unset, .unset, .unset]) rfl k) ?_
      show own_Out p e below _ T2 (mkF m 81 #[.val (.int x0), .val (.int x1), .val (.int x2), .val (.int x3), .val (.int x4), .val (.int (0 : Int32)), .val (.int (0 : Int32)), .val (.ref ob1), .val (.long ((0 : Int32).toInt64)), .second, .unset, .unset, .unset, .unset, .unset, .unset] []) _ _ _
      refine own_to (fun t k => XS.lconst X2.here hx rfl (hb hby at_81) k) ?_
      show own_Out p e below _ T2 (mkF m 82 #[.val (.int x0), .val (.int x1), .val (.int x2), .val (.int x3), .val (.int x4), .val (.int (0 : Int32)), .val (.int (0 : Int32)), .val (.ref ob1), .val (.long ((0 : Int32).toInt64)), .second, .unset, .unset, .unset, .unset, .unset, .unset] [(.long (0 : Int64))]) _ _ _
      refine own_to (fun t k => XS.lstore X2.here hx rfl (hb hby at_82) rfl (l' := #[.val (.int x0), .val (.int x1), .val (.int x2), .val (.int x3), .val (.int x4), .val (.int (0 : Int32)), .val (.int (0 : Int32)), .val (.ref ob1), .val (.long ((0 : Int32).toInt64)), .second, .val (.long (0 : Int64)), .second, .unset, .unset, .unset, .unset]) rfl k) ?_
      show own_Out p e below _ T2 (mkF m 84 #[.val (.int x0), .val (.int x1), .val (.int x2), .val (.int x3), .val (.int x4), .val (.int (0 : Int32)), .val (.int (0 : Int32)), .val (.ref ob1), .val (.long ((0 : Int32).toInt64)), .second, .val (.long (0 : Int64)), .second, .unset, .unset, .unset, .unset] []) _ _ _
      refine own_to (fun t k => XS.iload X2.here hx rfl (hb hby at_84) rfl k) ?_
      show own_Out p e below _ T2 (mkF m 86 #[.val (.int x0), .val (.int x1), .val (.int x2), .val (.int x3), .val (.int x4), .val (.int (0 : Int32)), .val (.int (0 : Int32)), .val (.ref ob1), .val (.long ((0 : Int32).toInt64)), .second, .val (.long (0 : Int64)), .second, .unset, .unset, .unset, .unset] [(.int (0 : Int32))]) _ _ _
      refine own_to (fun t k => XS.iconst X2.here hx rfl (hb hby at_86) k) ?_
      show own_Out p e below _ T2 (mkF m 87 #[.val (.int x0), .val (.int x1), .val (.int x2), .val (.int x3), .val (.int x4), .val (.int (0 : Int32)), .val (.int (0 : Int32)), .val (.ref ob1), .val (.long ((0 : Int32).toInt64)), .second, .val (.long (0 : Int64)), .second, .unset, .unset, .unset, .unset] [(.int (1 : Int32)), (.int (0 : Int32))]) _ _ _
      have hc87 : (0 : Int32) < (1 : Int32) := by decide
      refine own_to (fun t k => XS.icmpYes X2.here hx rfl (pc0 := 87) (pc' := 97) rfl (hb hby at_87) rfl (tlt hc87).1 (by decide) (by decide) k) ?_
      show own_Out p e below _ T2 (mkF m 97 #[.val (.int x0), .val (.int x1), .val (.int x2), .val (.int x3), .val (.int x4), .val (.int (0 : Int32)), .val (.int (0 : Int32)), .val (.ref ob1), .val (.long ((0 : Int32).toInt64)), .second, .val (.long (0 : Int64)), .second, .unset, .unset, .unset, .unset] []) _ _ _
      refine own_to (fun t k => XS.iload X2.here hx rfl (hb hby at_97) rfl k) ?_
      show own_Out p e below _ T2 (mkF m 99 #[.val (.int x0), .val (.int x1), .val (.int x2), .val (.int x3), .val (.int x4), .val (.int (0 : Int32)), .val (.int (0 : Int32)), .val (.ref ob1), .val (.long ((0 : Int32).toInt64)), .second, .val (.long (0 : Int64)), .second, .unset, .unset, .unset, .unset] [(.int (0 : Int32))]) _ _ _
      refine own_to (fun t k => XS.iconst X2.here hx rfl (hb hby at_99) k) ?_
      show own_Out p e below _ T2 (mkF m 100 #[.val (.int x0), .val (.int x1), .val (.int x2), .val (.int x3), .val (.int x4), .val (.int (0 : Int32)), .val (.int (0 : Int32)), .val (.ref ob1), .val (.long ((0 : Int32).toInt64)), .second, .val (.long (0 : Int64)), .second, .unset, .unset, .unset, .unset] [(.int (2 : Int32)), (.int (0 : Int32))]) _ _ _
      have hc100 : (0 : Int32) < (2 : Int32) := by decide
      refine own_to (fun t k => XS.icmpYes X2.here hx rfl (pc0 := 100) (pc' := 110) rfl (hb hby at_100) rfl (tlt hc100).1 (by decide) (by decide) k) ?_
      show own_Out p e below _ T2 (mkF m 110 #[.val (.int x0), .val (.int x1), .val (.int x2), .val (.int x3), .val (.int x4), .val (.int (0 : Int32)), .val (.int (0 : Int32)), .val (.ref ob1), .val (.long ((0 : Int32).toInt64)), .second, .val (.long (0 : Int64)), .second, .unset, .unset, .unset, .unset] []) _ _ _
      refine own_to (fun t k => XS.iload X2.here hx rfl (hb hby at_110) rfl k) ?_
      show own_Out p e below _ T2 (mkF m 112 #[.val (.int x0), .val (.int x1), .val (.int x2), .val (.int x3), .val (.int x4), .val (.int (0 : Int32)), .val (.int (0 : Int32)), .val (.ref ob1), .val (.long ((0 : Int32).toInt64)), .second, .val (.long (0 : Int64)), .second, .unset, .unset, .unset, .unset] [(.int (0 : Int32))]) _ _ _
      refine own_to (fun t k => XS.iconst X2.here hx rfl (hb hby at_112) k) ?_
      show own_Out p e below _ T2 (mkF m 113 #[.val (.int x0), .val (.int x1), .val (.int x2), .val (.int x3), .val (.int x4), .val (.int (0 : Int32)), .val (.int (0 : Int32)), .val (.ref ob1), .val (.long ((0 : Int32).toInt64)), .second, .val (.long (0 : Int64)), .second, .unset, .unset, .unset, .unset] [(.int (3 : Int32)), (.int (0 : Int32))]) _ _ _
      have hc113 : (0 : Int32) < (3 : Int32) := by decide
      refine own_to (fun t k => XS.icmpYes X2.here hx rfl (pc0 := 113) (pc' := 123) rfl (hb hby at_113) rfl (tlt hc113).1 (by decide) (by decide) k) ?_
      show own_Out p e below _ T2 (mkF m 123 #[.val (.int x0), .val (.int x1), .val (.int x2), .val (.int x3), .val (.int x4), .val (.int (0 : Int32)), .val (.int (0 : Int32)), .val (.ref ob1), .val (.long ((0 : Int32).toInt64)), .second, .val (.long (0 : Int64)), .second, .unset, .unset, .unset, .unset] []) _ _ _
      refine own_to (fun t k => XS.iload X2.here hx rfl (hb hby at_123) rfl k) ?_
      show own_Out p e below _ T2 (mkF m 125 #[.val (.int x0), .val (.int x1), .val (.int x2), .val (.int x3), .val (.int x4), .val (.int (0 : Int32)), .val (.int (0 : Int32)), .val (.ref ob1), .val (.long ((0 : Int32).toInt64)), .second, .val (.long (0 : Int64)), .second, .unset, .unset, .unset, .unset] [(.int (0 : Int32))]) _ _ _
      have hc125 : (0 : Int32) = (0 : Int32) := by decide
      refine own_to (fun t k => XS.ifYes X2.here hx rfl (pc0 := 125) (pc' := 132) rfl (hb hby at_125) rfl ((if0 _ _).trans (teq hc125).1) (by decide) (by decide) k) ?_
      show own_Out p e below _ T2 (mkF m 132 #[.val (.int x0), .val (.int x1), .val (.int x2), .val (.int x3), .val (.int x4), .val (.int (0 : Int32)), .val (.int (0 : Int32)), .val (.ref ob1), .val (.long ((0 : Int32).toInt64)), .second, .val (.long (0 : Int64)), .second, .unset, .unset, .unset, .unset] []) _ _ _
      refine own_to (fun t k => XS.lconst X2.here hx rfl (hb hby at_132) k) ?_
      show own_Out p e below _ T2 (mkF m 133 #[.val (.int x0), .val (.int x1), .val (.int x2), .val (.int x3), .val (.int x4), .val (.int (0 : Int32)), .val (.int (0 : Int32)), .val (.ref ob1), .val (.long ((0 : Int32).toInt64)), .second, .val (.long (0 : Int64)), .second, .unset, .unset, .unset, .unset] [(.long (0 : Int64))]) _ _ _
      refine own_to (fun t k => XS.lstore X2.here hx rfl (hb hby at_133) rfl (l' := #[.val (.int x0), .val (.int x1), .val (.int x2), .val (.int x3), .val (.int x4), .val (.int (0 : Int32)), .val (.int (0 : Int32)), .val (.ref ob1), .val (.long ((0 : Int32).toInt64)), .second, .val (.long (0 : Int64)), .second, .val (.long (0 : Int64)), .second, .unset, .unset]) rfl k) ?_
      show own_Out p e below _ T2 (mkF m 135 #[.val (.int x0), .val (.int x1), .val (.int x2), .val (.int x3), .val (.int x4), .val (.int (0 : Int32)), .val (.int (0 : Int32)), .val (.ref ob1), .val (.long ((0 : Int32).toInt64)), .second, .val (.long (0 : Int64)), .second, .val (.long (0 : Int64)), .second, .unset, .unset] []) _ _ _
      refine own_to (fun t k => XS.iload X2.here hx rfl (hb hby at_135) rfl k) ?_
      show own_Out p e below _ T2 (mkF m 137 #[.val (.int x0), .val (.int x1), .val (.int x2), .val (.int x3), .val (.int x4), .val (.int (0 : Int32)), .val (.int (0 : Int32)), .val (.ref ob1), .val (.long ((0 : Int32).toInt64)), .second, .val (.long (0 : Int64)), .second, .val (.long (0 : Int64)), .second, .unset, .unset] [(.int (0 : Int32))]) _ _ _
      have hc137 : (0 : Int32) = (0 : Int32) := by decide
      refine own_to (fun t k => XS.ifYes X2.here hx rfl (pc0 := 137) (pc' := 145) rfl (hb hby at_137) rfl ((if0 _ _).trans (teq hc137).1) (by decide) (by decide) k) ?_
      show own_Out p e below _ T2 (mkF m 145 #[.val (.int x0), .val (.int x1), .val (.int x2), .val (.int x3), .val (.int x4), .val (.int (0 : Int32)), .val (.int (0 : Int32)), .val (.ref ob1), .val (.long ((0 : Int32).toInt64)), .second, .val (.long (0 : Int64)), .second, .val (.long (0 : Int64)), .second, .unset, .unset] []) _ _ _
      refine own_to (fun t k => XS.lconst X2.here hx rfl (hb hby at_145) k) ?_
      show own_Out p e below _ T2 (mkF m 146 #[.val (.int x0), .val (.int x1), .val (.int x2), .val (.int x3), .val (.int x4), .val (.int (0 : Int32)), .val (.int (0 : Int32)), .val (.ref ob1), .val (.long ((0 : Int32).toInt64)), .second, .val (.long (0 : Int64)), .second, .val (.long (0 : Int64)), .second, .unset, .unset] [(.long (0 : Int64))]) _ _ _
      refine own_to (fun t k => XS.lstore X2.here hx rfl (hb hby at_146) rfl (l' := #[.val (.int x0), .val (.int x1), .val (.int x2), .val (.int x3), .val (.int x4), .val (.int (0 : Int32)), .val (.int (0 : Int32)), .val (.ref ob1), .val (.long ((0 : Int32).toInt64)), .second, .val (.long (0 : Int64)), .second, .val (.long (0 : Int64)), .second, .val (.long (0 : Int64)), .second]) rfl k) ?_
      show own_Out p e below _ T2 (mkF m 148 #[.val (.int x0), .val (.int x1), .val (.int x2), .val (.int x3), .val (.int x4), .val (.int (0 : Int32)), .val (.int (0 : Int32)), .val (.ref ob1), .val (.long ((0 : Int32).toInt64)), .second, .val (.long (0 : Int64)), .second, .val (.long (0 : Int64)), .second, .val (.long (0 : Int64)), .second] []) _ _ _
      refine own_to (fun t k => XS.aload X2.here hx rfl (hb hby at_148) rfl rfl k) ?_
      show own_Out p e below _ T2 (mkF m 150 #[.val (.int x0), .val (.int x1), .val (.int x2), .val (.int x3), .val (.int x4), .val (.int (0 : Int32)), .val (.int (0 : Int32)), .val (.ref ob1), .val (.long ((0 : Int32).toInt64)), .second, .val (.long (0 : Int64)), .second, .val (.long (0 : Int64)), .second, .val (.long (0 : Int64)), .second] [(.ref ob1)]) _ _ _
      refine own_callV X2 hx hZ hown (a := ob1) (argsL := []) (rest := []) (hw _ (List.mem_of_getElem? (i := 9) rfl)) (hw _ (List.mem_of_getElem? (i := 10) rfl)) (hw _ (List.mem_of_getElem? (i := 12) rfl)) (hw _ (List.mem_of_getElem? (i := 11) rfl)) (hw _ (List.mem_of_getElem? (i := 2) rfl)) (hw _ (List.mem_of_getElem? (i := 13) rfl)) (by decide) (rm3 l Z a0 hw ob1 (0 : Int64) hh1 n0 Z0 F_ob1_messageFrames) (by decide) (by decide) e2 E_ob1 rfl (by rw [hml]; rfl) (lenOf pd_1 rfl) rfl (W := 0) (by show 2 * 0 + _ ≤ _; exact Nat.le_of_eq rfl) (hb hby at_150) (by decide) (by decide) fun v3 T3 hh3 L3 X3 e3 hQ3 => ?_
      obtain ⟨rfl, NL3, he3⟩ := hQ3
      replace e3 := e3.trans he3
      have N3 := Fr.app N2 NL3
      show own_Out p e below _ T3 (mkF m 153 #[.val (.int x0), .val (.int x1), .val (.int x2), .val (.int x3), .val (.int x4), .val (.int (0 : Int32)), .val (.int (0 : Int32)), .val (.ref ob1), .val (.long ((0 : Int32).toInt64)), .second, .val (.long (0 : Int64)), .second, .val (.long (0 : Int64)), .second, .val (.long (0 : Int64)), .second] [(.long (0 : Int64))]) _ _ _
      refine own_to (fun t k => XS.lload X3.here hx rfl (hb hby at_153) rfl k) ?_
      show own_Out p e below _ T3 (mkF m 155 #[.val (.int x0), .val (.int x1), .val (.int x2), .val (.int x3), .val (.int x4), .val (.int (0 : Int32)), .val (.int (0 : Int32)), .val (.ref ob1), .val (.long ((0 : Int32).toInt64)), .second, .val (.long (0 : Int64)), .second, .val (.long (0 : Int64)), .second, .val (.long (0 : Int64)), .second] [(.long ((0 : Int32).toInt64)), (.long (0 : Int64))]) _ _ _
      refine own_to (fun t k => XS.lcmp X3.here hx rfl (hb hby at_155) rfl k) ?_
      show own_Out p e below _ T3 (mkF m 156 #[.val (.int x0), .val (.int x1), .val (.int x2), .val (.int x3), .val (.int x4), .val (.int (0 : Int32)), .val (.int (0 : Int32)), .val (.ref ob1), .val (.long ((0 : Int32).toInt64)), .second, .val (.long (0 : Int64)), .second, .val (.long (0 : Int64)), .second, .val (.long (0 : Int64)), .second] [(.int (lcmpW (0 : Int64) ((0 : Int32).toInt64)))]) _ _ _
      have hc156 : (0 : Int64) = ((0 : Int32).toInt64) := by first | rfl | decide | (simp only [Int64.zero_add]; done) | simp
      refine own_to (fun t k => XS.ifNo X3.here hx rfl (hb hby at_156) rfl ((if0 _ _).trans (teq ((lw_eq _ _).mpr hc156)).2) k) ?_
      show own_Out p e below _ T3 (mkF m 159 #[.val (.int x0), .val (.int x1), .val (.int x2), .val (.int x3), .val (.int x4), .val (.int (0 : Int32)), .val (.int (0 : Int32)), .val (.ref ob1), .val (.long ((0 : Int32).toInt64)), .second, .val (.long (0 : Int64)), .second, .val (.long (0 : Int64)), .second, .val (.long (0 : Int64)), .second] []) _ _ _
      refine own_to (fun t k => XS.aload X3.here hx rfl (hb hby at_159) rfl rfl k) ?_
      show own_Out p e below _ T3 (mkF m 161 #[.val (.int x0), .val (.int x1), .val (.int x2), .val (.int x3), .val (.int x4), .val (.int (0 : Int32)), .val (.int (0 : Int32)), .val (.ref ob1), .val (.long ((0 : Int32).toInt64)), .second, .val (.long (0 : Int64)), .second, .val (.long (0 : Int64)), .second, .val (.long (0 : Int64)), .second] [(.ref ob1)]) _ _ _
      refine own_callV X3 hx hZ hown (a := ob1) (argsL := []) (rest := []) (hw _ (List.mem_of_getElem? (i := 16) rfl)) (hw _ (List.mem_of_getElem? (i := 17) rfl)) (hw _ (List.mem_of_getElem? (i := 19) rfl)) (hw _ (List.mem_of_getElem? (i := 18) rfl)) (hw _ (List.mem_of_getElem? (i := 2) rfl)) (hw _ (List.mem_of_getElem? (i := 20) rfl)) (by decide) (rm4 l Z a0 hw ob1 (0 : Int64) hh1 n0 Z0 F_ob1_messageBytes) (by decide) (by decide) e3 E_ob1 rfl (by rw [hml]; rfl) (lenOf pd_1 rfl) rfl (W := 0) (by show 2 * 0 + _ ≤ _; exact Nat.le_of_eq rfl) (hb hby at_161) (by decide) (by decide) fun v4 T4 hh4 L4 X4 e4 hQ4 => ?_
      obtain ⟨rfl, NL4, he4⟩ := hQ4
      replace e4 := e4.trans he4
      have N4 := Fr.app N3 NL4
      show own_Out p e below _ T4 (mkF m 164 #[.val (.int x0), .val (.int x1), .val (.int x2), .val (.int x3), .val (.int x4), .val (.int (0 : Int32)), .val (.int (0 : Int32)), .val (.ref ob1), .val (.long ((0 : Int32).toInt64)), .second, .val (.long (0 : Int64)), .second, .val (.long (0 : Int64)), .second, .val (.long (0 : Int64)), .second] [(.long (0 : Int64))]) _ _ _
      refine own_to (fun t k => XS.lload X4.here hx rfl (hb hby at_164) rfl k) ?_
      show own_Out p e below _ T4 (mkF m 166 #[.val (.int x0), .val (.int x1), .val (.int x2), .val (.int x3), .val (.int x4), .val (.int (0 : Int32)), .val (.int (0 : Int32)), .val (.ref ob1), .val (.long ((0 : Int32).toInt64)), .second, .val (.long (0 : Int64)), .second, .val (.long (0 : Int64)), .second, .val (.long (0 : Int64)), .second] [(.long (0 : Int64)), (.long (0 : Int64))]) _ _ _
      refine own_to (fun t k => XS.lcmp X4.here hx rfl (hb hby at_166) rfl k) ?_
      show own_Out p e below _ T4 (mkF m 167 #[.val (.int x0), .val (.int x1), .val (.int x2), .val (.int x3), .val (.int x4), .val (.int (0 : Int32)), .val (.int (0 : Int32)), .val (.ref ob1), .val (.long ((0 : Int32).toInt64)), .second, .val (.long (0 : Int64)), .second, .val (.long (0 : Int64)), .second, .val (.long (0 : Int64)), .second] [(.int (lcmpW (0 : Int64) (0 : Int64)))]) _ _ _
      have hc167 : (0 : Int64) = (0 : Int64) := by first | rfl | decide | (simp only [Int64.zero_add]; done) | simp
      refine own_to (fun t k => XS.ifNo X4.here hx rfl (hb hby at_167) rfl ((if0 _ _).trans (teq ((lw_eq _ _).mpr hc167)).2) k) ?_
      show own_Out p e below _ T4 (mkF m 170 #[.val (.int x0), .val (.int x1), .val (.int x2), .val (.int x3), .val (.int x4), .val (.int (0 : Int32)), .val (.int (0 : Int32)), .val (.ref ob1), .val (.long ((0 : Int32).toInt64)), .second, .val (.long (0 : Int64)), .second, .val (.long (0 : Int64)), .second, .val (.long (0 : Int64)), .second] []) _ _ _
      refine own_to (fun t k => XS.aload X4.here hx rfl (hb hby at_170) rfl rfl k) ?_
      show own_Out p e below _ T4 (mkF m 172 #[.val (.int x0), .val (.int x1), .val (.int x2), .val (.int x3), .val (.int x4), .val (.int (0 : Int32)), .val (.int (0 : Int32)), .val (.ref ob1), .val (.long ((0 : Int32).toInt64)), .second, .val (.long (0 : Int64)), .second, .val (.long (0 : Int64)), .second, .val (.long (0 : Int64)), .second] [(.ref ob1)]) _ _ _
      refine own_callV X4 hx hZ hown (a := ob1) (argsL := []) (rest := []) (hw _ (List.mem_of_getElem? (i := 23) rfl)) (hw _ (List.mem_of_getElem? (i := 24) rfl)) (hw _ (List.mem_of_getElem? (i := 26) rfl)) (hw _ (List.mem_of_getElem? (i := 25) rfl)) (hw _ (List.mem_of_getElem? (i := 2) rfl)) (hw _ (List.mem_of_getElem? (i := 27) rfl)) (by decide) (rm5 l Z a0 hw ob1 (0 : Int64) hh1 n0 Z0 F_ob1_ackFrames) (by decide) (by decide) e4 E_ob1 rfl (by rw [hml]; rfl) (lenOf pd_1 rfl) rfl (W := 0) (by show 2 * 0 + _ ≤ _; exact Nat.le_of_eq rfl) (hb hby at_172) (by decide) (by decide) fun v5 T5 hh5 L5 X5 e5 hQ5 => ?_
      obtain ⟨rfl, NL5, he5⟩ := hQ5
      replace e5 := e5.trans he5
      have N5 := Fr.app N4 NL5
      show own_Out p e below _ T5 (mkF m 175 #[.val (.int x0), .val (.int x1), .val (.int x2), .val (.int x3), .val (.int x4), .val (.int (0 : Int32)), .val (.int (0 : Int32)), .val (.ref ob1), .val (.long ((0 : Int32).toInt64)), .second, .val (.long (0 : Int64)), .second, .val (.long (0 : Int64)), .second, .val (.long (0 : Int64)), .second] [(.long (0 : Int64))]) _ _ _
      refine own_to (fun t k => XS.lload X5.here hx rfl (hb hby at_175) rfl k) ?_
      show own_Out p e below _ T5 (mkF m 177 #[.val (.int x0), .val (.int x1), .val (.int x2), .val (.int x3), .val (.int x4), .val (.int (0 : Int32)), .val (.int (0 : Int32)), .val (.ref ob1), .val (.long ((0 : Int32).toInt64)), .second, .val (.long (0 : Int64)), .second, .val (.long (0 : Int64)), .second, .val (.long (0 : Int64)), .second] [(.long (0 : Int64)), (.long (0 : Int64))]) _ _ _
      refine own_to (fun t k => XS.lcmp X5.here hx rfl (hb hby at_177) rfl k) ?_
      show own_Out p e below _ T5 (mkF m 178 #[.val (.int x0), .val (.int x1), .val (.int x2), .val (.int x3), .val (.int x4), .val (.int (0 : Int32)), .val (.int (0 : Int32)), .val (.ref ob1), .val (.long ((0 : Int32).toInt64)), .second, .val (.long (0 : Int64)), .second, .val (.long (0 : Int64)), .second, .val (.long (0 : Int64)), .second] [(.int (lcmpW (0 : Int64) (0 : Int64)))]) _ _ _
      have hc178 : (0 : Int64) = (0 : Int64) := by first | rfl | decide | (simp only [Int64.zero_add]; done) | simp
      refine own_to (fun t k => XS.ifNo X5.here hx rfl (hb hby at_178) rfl ((if0 _ _).trans (teq ((lw_eq _ _).mpr hc178)).2) k) ?_
      show own_Out p e below _ T5 (mkF m 181 #[.val (.int x0), .val (.int x1), .val (.int x2), .val (.int x3), .val (.int x4), .val (.int (0 : Int32)), .val (.int (0 : Int32)), .val (.ref ob1), .val (.long ((0 : Int32).toInt64)), .second, .val (.long (0 : Int64)), .second, .val (.long (0 : Int64)), .second, .val (.long (0 : Int64)), .second] []) _ _ _
      refine own_to (fun t k => XS.aload X5.here hx rfl (hb hby at_181) rfl rfl k) ?_
      show own_Out p e below _ T5 (mkF m 183 #[.val (.int x0), .val (.int x1), .val (.int x2), .val (.int x3), .val (.int x4), .val (.int (0 : Int32)), .val (.int (0 : Int32)), .val (.ref ob1), .val (.long ((0 : Int32).toInt64)), .second, .val (.long (0 : Int64)), .second, .val (.long (0 : Int64)), .second, .val (.long (0 : Int64)), .second] [(.ref ob1)]) _ _ _
      refine own_callV X5 hx hZ hown (a := ob1) (argsL := []) (rest := []) (hw _ (List.mem_of_getElem? (i := 30) rfl)) (hw _ (List.mem_of_getElem? (i := 31) rfl)) (hw _ (List.mem_of_getElem? (i := 33) rfl)) (hw _ (List.mem_of_getElem? (i := 32) rfl)) (hw _ (List.mem_of_getElem? (i := 2) rfl)) (hw _ (List.mem_of_getElem? (i := 34) rfl)) (by decide) (rm6 l Z a0 hw ob1 (0 : Int64) hh1 n0 Z0 F_ob1_ackBytes) (by decide) (by decide) e5 E_ob1 rfl (by rw [hml]; rfl) (lenOf pd_1 rfl) rfl (W := 0) (by show 2 * 0 + _ ≤ _; exact Nat.le_of_eq rfl) (hb hby at_183) (by decide) (by decide) fun v6 T6 hh6 L6 X6 e6 hQ6 => ?_
      obtain ⟨rfl, NL6, he6⟩ := hQ6
      replace e6 := e6.trans he6
      have N6 := Fr.app N5 NL6
      show own_Out p e below _ T6 (mkF m 186 #[.val (.int x0), .val (.int x1), .val (.int x2), .val (.int x3), .val (.int x4), .val (.int (0 : Int32)), .val (.int (0 : Int32)), .val (.ref ob1), .val (.long ((0 : Int32).toInt64)), .second, .val (.long (0 : Int64)), .second, .val (.long (0 : Int64)), .second, .val (.long (0 : Int64)), .second] [(.long (0 : Int64))]) _ _ _
      refine own_to (fun t k => XS.lload X6.here hx rfl (hb hby at_186) rfl k) ?_
      show own_Out p e below _ T6 (mkF m 188 #[.val (.int x0), .val (.int x1), .val (.int x2), .val (.int x3), .val (.int x4), .val (.int (0 : Int32)), .val (.int (0 : Int32)), .val (.ref ob1), .val (.long ((0 : Int32).toInt64)), .second, .val (.long (0 : Int64)), .second, .val (.long (0 : Int64)), .second, .val (.long (0 : Int64)), .second] [(.long (0 : Int64)), (.long (0 : Int64))]) _ _ _
      refine own_to (fun t k => XS.lcmp X6.here hx rfl (hb hby at_188) rfl k) ?_
      show own_Out p e below _ T6 (mkF m 189 #[.val (.int x0), .val (.int x1), .val (.int x2), .val (.int x3), .val (.int x4), .val (.int (0 : Int32)), .val (.int (0 : Int32)), .val (.ref ob1), .val (.long ((0 : Int32).toInt64)), .second, .val (.long (0 : Int64)), .second, .val (.long (0 : Int64)), .second, .val (.long (0 : Int64)), .second] [(.int (lcmpW (0 : Int64) (0 : Int64)))]) _ _ _
      have hc189 : (0 : Int64) = (0 : Int64) := by first | rfl | decide | (simp only [Int64.zero_add]; done) | simp
      refine own_to (fun t k => XS.ifNo X6.here hx rfl (hb hby at_189) rfl ((if0 _ _).trans (teq ((lw_eq _ _).mpr hc189)).2) k) ?_
      show own_Out p e below _ T6 (mkF m 192 #[.val (.int x0), .val (.int x1), .val (.int x2), .val (.int x3), .val (.int x4), .val (.int (0 : Int32)), .val (.int (0 : Int32)), .val (.ref ob1), .val (.long ((0 : Int32).toInt64)), .second, .val (.long (0 : Int64)), .second, .val (.long (0 : Int64)), .second, .val (.long (0 : Int64)), .second] []) _ _ _
      refine own_to (fun t k => XS.iconst X6.here hx rfl (hb hby at_192) k) ?_
      show own_Out p e below _ T6 (mkF m 193 #[.val (.int x0), .val (.int x1), .val (.int x2), .val (.int x3), .val (.int x4), .val (.int (0 : Int32)), .val (.int (0 : Int32)), .val (.ref ob1), .val (.long ((0 : Int32).toInt64)), .second, .val (.long (0 : Int64)), .second, .val (.long (0 : Int64)), .second, .val (.long (0 : Int64)), .second] [(.int (1 : Int32))]) _ _ _
      refine own_to (fun t k => XS.goto X6.here hx rfl (pc0 := 193) (pc' := 197) rfl (hb hby at_193) (by decide) (by decide) k) ?_
      show own_Out p e below _ T6 (mkF m 197 #[.val (.int x0), .val (.int x1), .val (.int x2), .val (.int x3), .val (.int x4), .val (.int (0 : Int32)), .val (.int (0 : Int32)), .val (.ref ob1), .val (.long ((0 : Int32).toInt64)), .second, .val (.long (0 : Int64)), .second, .val (.long (0 : Int64)), .second, .val (.long (0 : Int64)), .second] [(.int (1 : Int32))]) _ _ _
      refine own_retV X6 hx hlk (w := .int (1 : Int32)) hret rfl (Or.inl ⟨rfl, by simp, _, rfl⟩) (hb hby at_197) (by decide) (by decide) ?_
      rw [e6]
      exact ⟨rfl, N6⟩
    · refine own_to (fun t k => XS.ifNo X0.here hx rfl (hb hby at_10) rfl ((if0 _ _).trans (feq hc10).1) k) ?_
      show own_Out p e below _ s₁ (mkF m 13 #[.val (.int x0), .val (.int x1), .val (.int x2), .val (.int x3), .val (.int x4), .val (.int (0 : Int32)), .unset, .unset, .unset, .unset, .unset, .unset, .unset, .unset, .unset, .unset] []) _ _ _
      refine own_to (fun t k => XS.iconst X0.here hx rfl (hb hby at_13) k) ?_
      show own_Out p e below _ s₁ (mkF m 14 #[.val (.int x0), .val (.int x1), .val (.int x2), .val (.int x3), .val (.int x4), .val (.int (0 : Int32)), .unset, .unset, .unset, .unset, .unset, .unset, .unset, .unset, .unset, .unset] [(.int (1 : Int32))]) _ _ _
      refine own_to (fun t k => XS.goto X0.here hx rfl (pc0 := 14) (pc' := 18) rfl (hb hby at_14) (by decide) (by decide) k) ?_
      show own_Out p e below _ s₁ (mkF m 18 #[.val (.int x0), .val (.int x1), .val (.int x2), .val (.int x3), .val (.int x4), .val (.int (0 : Int32)), .unset, .unset, .unset, .unset, .unset, .unset, .unset, .unset, .unset, .unset] [(.int (1 : Int32))]) _ _ _
      refine own_to (fun t k => XS.istore X0.here hx rfl (hb hby at_18) rfl (l' := #[.val (.int x0), .val (.int x1), .val (.int x2), .val (.int x3), .val (.int x4), .val (.int (0 : Int32)), .val (.int (1 : Int32)), .unset, .unset, .unset, .unset, .unset, .unset, .unset, .unset, .unset]) rfl k) ?_
      show own_Out p e below _ s₁ (mkF m 20 #[.val (.int x0), .val (.int x1), .val (.int x2), .val (.int x3), .val (.int x4), .val (.int (0 : Int32)), .val (.int (1 : Int32)), .unset, .unset, .unset, .unset, .unset, .unset, .unset, .unset, .unset] []) _ _ _
      refine own_new X0 hx hZ hown (hw _ (List.mem_of_getElem? (i := 0) rfl)) (hw _ (List.mem_of_getElem? (i := 1) rfl)) (hw _ (List.mem_of_getElem? (i := 2) rfl)) e0 rfl (hb hby at_20) (by decide) (by decide) fun T7 hh7 ob7 gb7 X7 e7 E7 A7 D7 => ?_
      have g_ob7 : n0 ≤ ob7 := Nat.le_trans Z0 (Nat.le_of_eq gb7.symm)
      have Z0 := Nat.le_trans Z0 E7.1
      have E_ob7 := A7
      have F_ob7_messageFrames : Fld Z hh7 ob7 "com/example/mingle/mingle/FrameCounts" "messageFrames" "J" (.long (0 : Int64)) := D7 (Or.inl (hw _ (List.mem_of_getElem? (i := 15) rfl))) (ty := .long) (by decide)
      have F_ob7_messageBytes : Fld Z hh7 ob7 "com/example/mingle/mingle/FrameCounts" "messageBytes" "J" (.long (0 : Int64)) := D7 (Or.inl (hw _ (List.mem_of_getElem? (i := 22) rfl))) (ty := .long) (by decide)
      have F_ob7_ackFrames : Fld Z hh7 ob7 "com/example/mingle/mingle/FrameCounts" "ackFrames" "J" (.long (0 : Int64)) := D7 (Or.inl (hw _ (List.mem_of_getElem? (i := 29) rfl))) (ty := .long) (by decide)
      have F_ob7_ackBytes : Fld Z hh7 ob7 "com/example/mingle/mingle/FrameCounts" "ackBytes" "J" (.long (0 : Int64)) := D7 (Or.inl (hw _ (List.mem_of_getElem? (i := 36) rfl))) (ty := .long) (by decide)
      show own_Out p e below _ T7 (mkF m 23 #[.val (.int x0), .val (.int x1), .val (.int x2), .val (.int x3), .val (.int x4), .val (.int (0 : Int32)), .val (.int (1 : Int32)), .unset, .unset, .unset, .unset, .unset, .unset, .unset, .unset, .unset] [(.ref ob7)]) _ _ _
      refine own_to (fun t k => XS.dup X7.here hx rfl (hb hby at_23) rfl rfl k) ?_
      show own_Out p e below _ T7 (mkF m 24 #[.val (.int x0), .val (.int x1), .val (.int x2), .val (.int x3), .val (.int x4), .val (.int (0 : Int32)), .val (.int (1 : Int32)), .unset, .unset, .unset, .unset, .unset, .unset, .unset, .unset, .unset] [(.ref ob7), (.ref ob7)]) _ _ _
      refine own_callC X7 hx hZ hown (a := ob7) (argsL := []) (rest := [(.ref ob7)]) rfl (hw _ (List.mem_of_getElem? (i := 3) rfl)) (hw _ (List.mem_of_getElem? (i := 4) rfl)) (hw _ (List.mem_of_getElem? (i := 2) rfl)) (hw _ (List.mem_of_getElem? (i := 5) rfl)) (by decide) (rm1 l Z a0 hw ob7 hh7 n0 Z0 ) (by decide) (by decide) e7 rfl (by rw [hml]; rfl) (lenOf pd_0 rfl) rfl (W := 1) (by show 2 * 0 + _ ≤ _; exact Nat.le_of_eq rfl) (hb hby at_24) (by decide) (by decide) fun v8 T8 hh8 L8 X8 e8 hQ8 => ?_
      obtain ⟨rfl, NL8, he8⟩ := hQ8
      replace e8 := e8.trans he8
      have N8 := Fr.app N0 NL8
      show own_Out p e below _ T8 (mkF m 27 #[.val (.int x0), .val (.int x1), .val (.int x2), .val (.int x3), .val (.int x4), .val (.int (0 : Int32)), .val (.int (1 : Int32)), .unset, .unset, .unset, .unset, .unset, .unset, .unset, .unset, .unset] [(.ref ob7)]) _ _ _
      refine own_to (fun t k => XS.astore X8.here hx rfl (hb hby at_27) rfl rfl (l' := #[.val (.int x0), .val (.int x1), .val (.int x2), .val (.int x3), .val (.int x4), .val (.int (0 : Int32)), .val (.int (1 : Int32)), .val (.ref ob7), .unset, .unset, .unset, .unset, .unset, .unset, .unset, .unset]) rfl k) ?_
      show own_Out p e below _ T8 (mkF m 29 #[.val (.int x0), .val (.int x1), .val (.int x2), .val (.int x3), .val (.int x4), .val (.int (0 : Int32)), .val (.int (1 : Int32)), .val (.ref ob7), .unset, .unset, .unset, .unset, .unset, .unset, .unset, .unset] []) _ _ _
      refine own_to (fun t k => XS.iload X8.here hx rfl (hb hby at_29) rfl k) ?_
      show own_Out p e below _ T8 (mkF m 31 #[.val (.int x0), .val (.int x1), .val (.int x2), .val (.int x3), .val (.int x4), .val (.int (0 : Int32)), .val (.int (1 : Int32)), .val (.ref ob7), .unset, .unset, .unset, .unset, .unset, .unset, .unset, .unset] [(.int (0 : Int32))]) _ _ _
      refine own_to (fun t k => XS.iconst X8.here hx rfl (hb hby at_31) k) ?_
      show own_Out p e below _ T8 (mkF m 32 #[.val (.int x0), .val (.int x1), .val (.int x2), .val (.int x3), .val (.int x4), .val (.int (0 : Int32)), .val (.int (1 : Int32)), .val (.ref ob7), .unset, .unset, .unset, .unset, .unset, .unset, .unset, .unset] [(.int (1 : Int32)), (.int (0 : Int32))]) _ _ _
      have hc32 : (0 : Int32) < (1 : Int32) := by decide
      refine own_to (fun t k => XS.icmpYes X8.here hx rfl (pc0 := 32) (pc' := 41) rfl (hb hby at_32) rfl (tlt hc32).1 (by decide) (by decide) k) ?_
      show own_Out p e below _ T8 (mkF m 41 #[.val (.int x0), .val (.int x1), .val (.int x2), .val (.int x3), .val (.int x4), .val (.int (0 : Int32)), .val (.int (1 : Int32)), .val (.ref ob7), .unset, .unset, .unset, .unset, .unset, .unset, .unset, .unset] []) _ _ _
      refine own_to (fun t k => XS.iload X8.here hx rfl (hb hby at_41) rfl k) ?_
      show own_Out p e below _ T8 (mkF m 43 #[.val (.int x0), .val (.int x1), .val (.int x2), .val (.int x3), .val (.int x4), .val (.int (0 : Int32)), .val (.int (1 : Int32)), .val (.ref ob7), .unset, .unset, .unset, .unset, .unset, .unset, .unset, .unset] [(.int (1 : Int32))]) _ _ _
      have hc43 : ¬ ((1 : Int32) = (0 : Int32)) := by decide
      refine own_to (fun t k => XS.ifNo X8.here hx rfl (hb hby at_43) rfl ((if0 _ _).trans (feq hc43).1) k) ?_
      show own_Out p e below _ T8 (mkF m 46 #[.val (.int x0), .val (.int x1), .val (.int x2), .val (.int x3), .val (.int x4), .val (.int (0 : Int32)), .val (.int (1 : Int32)), .val (.ref ob7), .unset, .unset, .unset, .unset, .unset, .unset, .unset, .unset] []) _ _ _
      refine own_to (fun t k => XS.aload X8.here hx rfl (hb hby at_46) rfl rfl k) ?_
      show own_Out p e below _ T8 (mkF m 48 #[.val (.int x0), .val (.int x1), .val (.int x2), .val (.int x3), .val (.int x4), .val (.int (0 : Int32)), .val (.int (1 : Int32)), .val (.ref ob7), .unset, .unset, .unset, .unset, .unset, .unset, .unset, .unset] [(.ref ob7)]) _ _ _
      refine own_to (fun t k => XS.iloadN X8.here hx rfl (hb hby at_48) rfl k) ?_
      show own_Out p e below _ T8 (mkF m 49 #[.val (.int x0), .val (.int x1), .val (.int x2), .val (.int x3), .val (.int x4), .val (.int (0 : Int32)), .val (.int (1 : Int32)), .val (.ref ob7), .unset, .unset, .unset, .unset, .unset, .unset, .unset, .unset] [(.int x3), (.ref ob7)]) _ _ _
      refine own_callV X8 hx hZ hown (a := ob7) (argsL := [(.int x3)]) (rest := []) (hw _ (List.mem_of_getElem? (i := 42) rfl)) (hw _ (List.mem_of_getElem? (i := 43) rfl)) (hw _ (List.mem_of_getElem? (i := 45) rfl)) (hw _ (List.mem_of_getElem? (i := 44) rfl)) (hw _ (List.mem_of_getElem? (i := 2) rfl)) (hw _ (List.mem_of_getElem? (i := 46) rfl)) (by decide) (rm8 l Z a0 hw ob7 x3 (0 : Int64) (0 : Int64) (0 : Int64) (0 : Int64) hh7 n0 Z0 E_ob7 F_ob7_ackFrames F_ob7_ackBytes g_ob7 F_ob7_messageFrames F_ob7_messageBytes) (by decide) (by decide) e8 E_ob7 rfl (by rw [hml]; rfl) (lenOf pd_2 rfl) rfl (W := 0) (by show 2 * 0 + _ ≤ _; exact Nat.le_of_eq rfl) (hb hby at_49) (by decide) (by decide) fun v9 T9 hh9 L9 X9 e9 hQ9 => ?_
      obtain ⟨rfl, NL9, KK9, P9_0, P9_1, P9_2, P9_3⟩ := hQ9
      have E_ob7 := E_ob7.keep KK9
      have F_ob7_ackFrames := P9_0
      have F_ob7_ackBytes := P9_1
      have F_ob7_messageFrames := P9_2
      have F_ob7_messageBytes := P9_3
      have Z0 := Nat.le_trans Z0 KK9.1
      have N9 := Fr.app N8 NL9
      show own_Out p e below _ T9 (mkF m 52 #[.val (.int x0), .val (.int x1), .val (.int x2), .val (.int x3), .val (.int x4), .val (.int (0 : Int32)), .val (.int (1 : Int32)), .val (.ref ob7), .unset, .unset, .unset, .unset, .unset, .unset, .unset, .unset] []) _ _ _
      refine own_to (fun t k => XS.iload X9.here hx rfl (hb hby at_52) rfl k) ?_
      show own_Out p e below _ T9 (mkF m 54 #[.val (.int x0), .val (.int x1), .val (.int x2), .val (.int x3), .val (.int x4), .val (.int (0 : Int32)), .val (.int (1 : Int32)), .val (.ref ob7), .unset, .unset, .unset, .unset, .unset, .unset, .unset, .unset] [(.int (0 : Int32))]) _ _ _
      refine own_to (fun t k => XS.iconst X9.here hx rfl (hb hby at_54) k) ?_
      show own_Out p e below _ T9 (mkF m 55 #[.val (.int x0), .val (.int x1), .val (.int x2), .val (.int x3), .val (.int x4), .val (.int (0 : Int32)), .val (.int (1 : Int32)), .val (.ref ob7), .unset, .unset, .unset, .unset, .unset, .unset, .unset, .unset] [(.int (2 : Int32)), (.int (0 : Int32))]) _ _ _
      have hc55 : (0 : Int32) < (2 : Int32) := by decide
      refine own_to (fun t k => XS.icmpYes X9.here hx rfl (pc0 := 55) (pc' := 64) rfl (hb hby at_55) rfl (tlt hc55).1 (by decide) (by decide) k) ?_
      show own_Out p e below _ T9 (mkF m 64 #[.val (.int x0), .val (.int x1), .val (.int x2), .val (.int x3), .val (.int x4), .val (.int (0 : Int32)), .val (.int (1 : Int32)), .val (.ref ob7), .unset, .unset, .unset, .unset, .unset, .unset, .unset, .unset] []) _ _ _
      refine own_to (fun t k => XS.iload X9.here hx rfl (hb hby at_64) rfl k) ?_
      show own_Out p e below _ T9 (mkF m 66 #[.val (.int x0), .val (.int x1), .val (.int x2), .val (.int x3), .val (.int x4), .val (.int (0 : Int32)), .val (.int (1 : Int32)), .val (.ref ob7), .unset, .unset, .unset, .unset, .unset, .unset, .unset, .unset] [(.int (0 : Int32))]) _ _ _
      refine own_to (fun t k => XS.iconst X9.here hx rfl (hb hby at_66) k) ?_
      show own_Out p e below _ T9 (mkF m 67 #[.val (.int x0), .val (.int x1), .val (.int x2), .val (.int x3), .val (.int x4), .val (.int (0 : Int32)), .val (.int (1 : Int32)), .val (.ref ob7), .unset, .unset, .unset, .unset, .unset, .unset, .unset, .unset] [(.int (3 : Int32)), (.int (0 : Int32))]) _ _ _
      have hc67 : (0 : Int32) < (3 : Int32) := by decide
      refine own_to (fun t k => XS.icmpYes X9.here hx rfl (pc0 := 67) (pc' := 76) rfl (hb hby at_67) rfl (tlt hc67).1 (by decide) (by decide) k) ?_
      show own_Out p e below _ T9 (mkF m 76 #[.val (.int x0), .val (.int x1), .val (.int x2), .val (.int x3), .val (.int x4), .val (.int (0 : Int32)), .val (.int (1 : Int32)), .val (.ref ob7), .unset, .unset, .unset, .unset, .unset, .unset, .unset, .unset] []) _ _ _
      refine own_to (fun t k => XS.iload X9.here hx rfl (hb hby at_76) rfl k) ?_
      show own_Out p e below _ T9 (mkF m 78 #[.val (.int x0), .val (.int x1), .val (.int x2), .val (.int x3), .val (.int x4), .val (.int (0 : Int32)), .val (.int (1 : Int32)), .val (.ref ob7), .unset, .unset, .unset, .unset, .unset, .unset, .unset, .unset] [(.int (0 : Int32))]) _ _ _
      refine own_to (fun t k => XS.i2l X9.here hx rfl (hb hby at_78) rfl k) ?_
      show own_Out p e below _ T9 (mkF m 79 #[.val (.int x0), .val (.int x1), .val (.int x2), .val (.int x3), .val (.int x4), .val (.int (0 : Int32)), .val (.int (1 : Int32)), .val (.ref ob7), .unset, .unset, .unset, .unset, .unset, .unset, .unset, .unset] [(.long ((0 : Int32).toInt64))]) _ _ _
      refine own_to (fun t k => XS.lstore X9.here hx rfl (hb hby at_79) rfl (l' := #[.val (.int x0), .val (.int x1), .val (.int x2), .val (.int x3), .val (.int x4), .val (.int (0 : Int32)), .val (.int (1 : Int32)), .val (.ref ob7), .val (.long ((0 : Int32).toInt64)), .second, .unset, .unset, .unset, .unset, .unset, .unset]) rfl k) ?_
      show own_Out p e below _ T9 (mkF m 81 #[.val (.int x0), .val (.int x1), .val (.int x2), .val (.int x3), .val (.int x4), .val (.int (0 : Int32)), .val (.int (1 : Int32)), .val (.ref ob7), .val (.long ((0 : Int32).toInt64)), .second, .unset, .unset, .unset, .unset, .unset, .unset] []) _ _ _
      refine own_to (fun t k => XS.lconst X9.here hx rfl (hb hby at_81) k) ?_
      show own_Out p e below _ T9 (mkF m 82 #[.val (.int x0), .val (.int x1), .val (.int x2), .val (.int x3), .val (.int x4), .val (.int (0 : Int32)), .val (.int (1 : Int32)), .val (.ref ob7), .val (.long ((0 : Int32).toInt64)), .second, .unset, .unset, .unset, .unset, .unset, .unset] [(.long (0 : Int64))]) _ _ _
      refine own_to (fun t k => XS.lstore X9.here hx rfl (hb hby at_82) rfl (l' := #[.val (.int x0), .val (.int x1), .val (.int x2), .val (.int x3), .val (.int x4), .val (.int (0 : Int32)), .val (.int (1 : Int32)), .val (.ref ob7), .val (.long ((0 : Int32).toInt64)), .second, .val (.long (0 : Int64)), .second, .unset, .unset, .unset, .unset]) rfl k) ?_
      show own_Out p e below _ T9 (mkF m 84 #[.val (.int x0), .val (.int x1), .val (.int x2), .val (.int x3), .val (.int x4), .val (.int (0 : Int32)), .val (.int (1 : Int32)), .val (.ref ob7), .val (.long ((0 : Int32).toInt64)), .second, .val (.long (0 : Int64)), .second, .unset, .unset, .unset, .unset] []) _ _ _
      refine own_to (fun t k => XS.iload X9.here hx rfl (hb hby at_84) rfl k) ?_
      show own_Out p e below _ T9 (mkF m 86 #[.val (.int x0), .val (.int x1), .val (.int x2), .val (.int x3), .val (.int x4), .val (.int (0 : Int32)), .val (.int (1 : Int32)), .val (.ref ob7), .val (.long ((0 : Int32).toInt64)), .second, .val (.long (0 : Int64)), .second, .unset, .unset, .unset, .unset] [(.int (0 : Int32))]) _ _ _
      refine own_to (fun t k => XS.iconst X9.here hx rfl (hb hby at_86) k) ?_
      show own_Out p e below _ T9 (mkF m 87 #[.val (.int x0), .val (.int x1), .val (.int x2), .val (.int x3), .val (.int x4), .val (.int (0 : Int32)), .val (.int (1 : Int32)), .val (.ref ob7), .val (.long ((0 : Int32).toInt64)), .second, .val (.long (0 : Int64)), .second, .unset, .unset, .unset, .unset] [(.int (1 : Int32)), (.int (0 : Int32))]) _ _ _
      have hc87 : (0 : Int32) < (1 : Int32) := by decide
      refine own_to (fun t k => XS.icmpYes X9.here hx rfl (pc0 := 87) (pc' := 97) rfl (hb hby at_87) rfl (tlt hc87).1 (by decide) (by decide) k) ?_
      show own_Out p e below _ T9 (mkF m 97 #[.val (.int x0), .val (.int x1), .val (.int x2), .val (.int x3), .val (.int x4), .val (.int (0 : Int32)), .val (.int (1 : Int32)), .val (.ref ob7), .val (.long ((0 : Int32).toInt64)), .second, .val (.long (0 : Int64)), .second, .unset, .unset, .unset, .unset] []) _ _ _
      refine own_to (fun t k => XS.iload X9.here hx rfl (hb hby at_97) rfl k) ?_
      show own_Out p e below _ T9 (mkF m 99 #[.val (.int x0), .val (.int x1), .val (.int x2), .val (.int x3), .val (.int x4), .val (.int (0 : Int32)), .val (.int (1 : Int32)), .val (.ref ob7), .val (.long ((0 : Int32).toInt64)), .second, .val (.long (0 : Int64)), .second, .unset, .unset, .unset, .unset] [(.int (0 : Int32))]) _ _ _
      refine own_to (fun t k => XS.iconst X9.here hx rfl (hb hby at_99) k) ?_
      show own_Out p e below _ T9 (mkF m 100 #[.val (.int x0), .val (.int x1), .val (.int x2), .val (.int x3), .val (.int x4), .val (.int (0 : Int32)), .val (.int (1 : Int32)), .val (.ref ob7), .val (.long ((0 : Int32).toInt64)), .second, .val (.long (0 : Int64)), .second, .unset, .unset, .unset, .unset] [(.int (2 : Int32)), (.int (0 : Int32))]) _ _ _
      have hc100 : (0 : Int32) < (2 : Int32) := by decide
      refine own_to (fun t k => XS.icmpYes X9.here hx rfl (pc0 := 100) (pc' := 110) rfl (hb hby at_100) rfl (tlt hc100).1 (by decide) (by decide) k) ?_
      show own_Out p e below _ T9 (mkF m 110 #[.val (.int x0), .val (.int x1), .val (.int x2), .val (.int x3), .val (.int x4), .val (.int (0 : Int32)), .val (.int (1 : Int32)), .val (.ref ob7), .val (.long ((0 : Int32).toInt64)), .second, .val (.long (0 : Int64)), .second, .unset, .unset, .unset, .unset] []) _ _ _
      refine own_to (fun t k => XS.iload X9.here hx rfl (hb hby at_110) rfl k) ?_
      show own_Out p e below _ T9 (mkF m 112 #[.val (.int x0), .val (.int x1), .val (.int x2), .val (.int x3), .val (.int x4), .val (.int (0 : Int32)), .val (.int (1 : Int32)), .val (.ref ob7), .val (.long ((0 : Int32).toInt64)), .second, .val (.long (0 : Int64)), .second, .unset, .unset, .unset, .unset] [(.int (0 : Int32))]) _ _ _
      refine own_to (fun t k => XS.iconst X9.here hx rfl (hb hby at_112) k) ?_
      show own_Out p e below _ T9 (mkF m 113 #[.val (.int x0), .val (.int x1), .val (.int x2), .val (.int x3), .val (.int x4), .val (.int (0 : Int32)), .val (.int (1 : Int32)), .val (.ref ob7), .val (.long ((0 : Int32).toInt64)), .second, .val (.long (0 : Int64)), .second, .unset, .unset, .unset, .unset] [(.int (3 : Int32)), (.int (0 : Int32))]) _ _ _
      have hc113 : (0 : Int32) < (3 : Int32) := by decide
      refine own_to (fun t k => XS.icmpYes X9.here hx rfl (pc0 := 113) (pc' := 123) rfl (hb hby at_113) rfl (tlt hc113).1 (by decide) (by decide) k) ?_
      show own_Out p e below _ T9 (mkF m 123 #[.val (.int x0), .val (.int x1), .val (.int x2), .val (.int x3), .val (.int x4), .val (.int (0 : Int32)), .val (.int (1 : Int32)), .val (.ref ob7), .val (.long ((0 : Int32).toInt64)), .second, .val (.long (0 : Int64)), .second, .unset, .unset, .unset, .unset] []) _ _ _
      refine own_to (fun t k => XS.iload X9.here hx rfl (hb hby at_123) rfl k) ?_
      show own_Out p e below _ T9 (mkF m 125 #[.val (.int x0), .val (.int x1), .val (.int x2), .val (.int x3), .val (.int x4), .val (.int (0 : Int32)), .val (.int (1 : Int32)), .val (.ref ob7), .val (.long ((0 : Int32).toInt64)), .second, .val (.long (0 : Int64)), .second, .unset, .unset, .unset, .unset] [(.int (1 : Int32))]) _ _ _
      have hc125 : ¬ ((1 : Int32) = (0 : Int32)) := by decide
      refine own_to (fun t k => XS.ifNo X9.here hx rfl (hb hby at_125) rfl ((if0 _ _).trans (feq hc125).1) k) ?_
      show own_Out p e below _ T9 (mkF m 128 #[.val (.int x0), .val (.int x1), .val (.int x2), .val (.int x3), .val (.int x4), .val (.int (0 : Int32)), .val (.int (1 : Int32)), .val (.ref ob7), .val (.long ((0 : Int32).toInt64)), .second, .val (.long (0 : Int64)), .second, .unset, .unset, .unset, .unset] []) _ _ _
      refine own_to (fun t k => XS.lconst X9.here hx rfl (hb hby at_128) k) ?_
      show own_Out p e below _ T9 (mkF m 129 #[.val (.int x0), .val (.int x1), .val (.int x2), .val (.int x3), .val (.int x4), .val (.int (0 : Int32)), .val (.int (1 : Int32)), .val (.ref ob7), .val (.long ((0 : Int32).toInt64)), .second, .val (.long (0 : Int64)), .second, .unset, .unset, .unset, .unset] [(.long (1 : Int64))]) _ _ _
      refine own_to (fun t k => XS.goto X9.here hx rfl (pc0 := 129) (pc' := 133) rfl (hb hby at_129) (by decide) (by decide) k) ?_
      show own_Out p e below _ T9 (mkF m 133 #[.val (.int x0), .val (.int x1), .val (.int x2), .val (.int x3), .val (.int x4), .val (.int (0 : Int32)), .val (.int (1 : Int32)), .val (.ref ob7), .val (.long ((0 : Int32).toInt64)), .second, .val (.long (0 : Int64)), .second, .unset, .unset, .unset, .unset] [(.long (1 : Int64))]) _ _ _
      refine own_to (fun t k => XS.lstore X9.here hx rfl (hb hby at_133) rfl (l' := #[.val (.int x0), .val (.int x1), .val (.int x2), .val (.int x3), .val (.int x4), .val (.int (0 : Int32)), .val (.int (1 : Int32)), .val (.ref ob7), .val (.long ((0 : Int32).toInt64)), .second, .val (.long (0 : Int64)), .second, .val (.long (1 : Int64)), .second, .unset, .unset]) rfl k) ?_
      show own_Out p e below _ T9 (mkF m 135 #[.val (.int x0), .val (.int x1), .val (.int x2), .val (.int x3), .val (.int x4), .val (.int (0 : Int32)), .val (.int (1 : Int32)), .val (.ref ob7), .val (.long ((0 : Int32).toInt64)), .second, .val (.long (0 : Int64)), .second, .val (.long (1 : Int64)), .second, .unset, .unset] []) _ _ _
      refine own_to (fun t k => XS.iload X9.here hx rfl (hb hby at_135) rfl k) ?_
      show own_Out p e below _ T9 (mkF m 137 #[.val (.int x0), .val (.int x1), .val (.int x2), .val (.int x3), .val (.int x4), .val (.int (0 : Int32)), .val (.int (1 : Int32)), .val (.ref ob7), .val (.long ((0 : Int32).toInt64)), .second, .val (.long (0 : Int64)), .second, .val (.long (1 : Int64)), .second, .unset, .unset] [(.int (1 : Int32))]) _ _ _
      have hc137 : ¬ ((1 : Int32) = (0 : Int32)) := by decide
      refine own_to (fun t k => XS.ifNo X9.here hx rfl (hb hby at_137) rfl ((if0 _ _).trans (feq hc137).1) k) ?_
      show own_Out p e below _ T9 (mkF m 140 #[.val (.int x0), .val (.int x1), .val (.int x2), .val (.int x3), .val (.int x4), .val (.int (0 : Int32)), .val (.int (1 : Int32)), .val (.ref ob7), .val (.long ((0 : Int32).toInt64)), .second, .val (.long (0 : Int64)), .second, .val (.long (1 : Int64)), .second, .unset, .unset] []) _ _ _
      refine own_to (fun t k => XS.iloadN X9.here hx rfl (hb hby at_140) rfl k) ?_
      show own_Out p e below _ T9 (mkF m 141 #[.val (.int x0), .val (.int x1), .val (.int x2), .val (.int x3), .val (.int x4), .val (.int (0 : Int32)), .val (.int (1 : Int32)), .val (.ref ob7), .val (.long ((0 : Int32).toInt64)), .second, .val (.long (0 : Int64)), .second, .val (.long (1 : Int64)), .second, .unset, .unset] [(.int x3)]) _ _ _
      refine own_to (fun t k => XS.i2l X9.here hx rfl (hb hby at_141) rfl k) ?_
      show own_Out p e below _ T9 (mkF m 142 #[.val (.int x0), .val (.int x1), .val (.int x2), .val (.int x3), .val (.int x4), .val (.int (0 : Int32)), .val (.int (1 : Int32)), .val (.ref ob7), .val (.long ((0 : Int32).toInt64)), .second, .val (.long (0 : Int64)), .second, .val (.long (1 : Int64)), .second, .unset, .unset] [(.long (x3.toInt64))]) _ _ _
      refine own_to (fun t k => XS.goto X9.here hx rfl (pc0 := 142) (pc' := 146) rfl (hb hby at_142) (by decide) (by decide) k) ?_
      show own_Out p e below _ T9 (mkF m 146 #[.val (.int x0), .val (.int x1), .val (.int x2), .val (.int x3), .val (.int x4), .val (.int (0 : Int32)), .val (.int (1 : Int32)), .val (.ref ob7), .val (.long ((0 : Int32).toInt64)), .second, .val (.long (0 : Int64)), .second, .val (.long (1 : Int64)), .second, .unset, .unset] [(.long (x3.toInt64))]) _ _ _
      refine own_to (fun t k => XS.lstore X9.here hx rfl (hb hby at_146) rfl (l' := #[.val (.int x0), .val (.int x1), .val (.int x2), .val (.int x3), .val (.int x4), .val (.int (0 : Int32)), .val (.int (1 : Int32)), .val (.ref ob7), .val (.long ((0 : Int32).toInt64)), .second, .val (.long (0 : Int64)), .second, .val (.long (1 : Int64)), .second, .val (.long (x3.toInt64)), .second]) rfl k) ?_
      show own_Out p e below _ T9 (mkF m 148 #[.val (.int x0), .val (.int x1), .val (.int x2), .val (.int x3), .val (.int x4), .val (.int (0 : Int32)), .val (.int (1 : Int32)), .val (.ref ob7), .val (.long ((0 : Int32).toInt64)), .second, .val (.long (0 : Int64)), .second, .val (.long (1 : Int64)), .second, .val (.long (x3.toInt64)), .second] []) _ _ _
      refine own_to (fun t k => XS.aload X9.here hx rfl (hb hby at_148) rfl rfl k) ?_
      show own_Out p e below _ T9 (mkF m 150 #[.val (.int x0), .val (.int x1), .val (.int x2), .val (.int x3), .val (.int x4), .val (.int (0 : Int32)), .val (.int (1 : Int32)), .val (.ref ob7), .val (.long ((0 : Int32).toInt64)), .second, .val (.long (0 : Int64)), .second, .val (.long (1 : Int64)), .second, .val (.long (x3.toInt64)), .second] [(.ref ob7)]) _ _ _
      refine own_callV X9 hx hZ hown (a := ob7) (argsL := []) (rest := []) (hw _ (List.mem_of_getElem? (i := 9) rfl)) (hw _ (List.mem_of_getElem? (i := 10) rfl)) (hw _ (List.mem_of_getElem? (i := 12) rfl)) (hw _ (List.mem_of_getElem? (i := 11) rfl)) (hw _ (List.mem_of_getElem? (i := 2) rfl)) (hw _ (List.mem_of_getElem? (i := 13) rfl)) (by decide) (rm3 l Z a0 hw ob7 (0 : Int64) hh9 n0 Z0 F_ob7_messageFrames) (by decide) (by decide) e9 E_ob7 rfl (by rw [hml]; rfl) (lenOf pd_1 rfl) rfl (W := 0) (by show 2 * 0 + _ ≤ _; exact Nat.le_of_eq rfl) (hb hby at_150) (by decide) (by decide) fun v10 T10 hh10 L10 X10 e10 hQ10 => ?_
      obtain ⟨rfl, NL10, he10⟩ := hQ10
      replace e10 := e10.trans he10
      have N10 := Fr.app N9 NL10
      show own_Out p e below _ T10 (mkF m 153 #[.val (.int x0), .val (.int x1), .val (.int x2), .val (.int x3), .val (.int x4), .val (.int (0 : Int32)), .val (.int (1 : Int32)), .val (.ref ob7), .val (.long ((0 : Int32).toInt64)), .second, .val (.long (0 : Int64)), .second, .val (.long (1 : Int64)), .second, .val (.long (x3.toInt64)), .second] [(.long (0 : Int64))]) _ _ _
      refine own_to (fun t k => XS.lload X10.here hx rfl (hb hby at_153) rfl k) ?_
      show own_Out p e below _ T10 (mkF m 155 #[.val (.int x0), .val (.int x1), .val (.int x2), .val (.int x3), .val (.int x4), .val (.int (0 : Int32)), .val (.int (1 : Int32)), .val (.ref ob7), .val (.long ((0 : Int32).toInt64)), .second, .val (.long (0 : Int64)), .second, .val (.long (1 : Int64)), .second, .val (.long (x3.toInt64)), .second] [(.long ((0 : Int32).toInt64)), (.long (0 : Int64))]) _ _ _
      refine own_to (fun t k => XS.lcmp X10.here hx rfl (hb hby at_155) rfl k) ?_
      show own_Out p e below _ T10 (mkF m 156 #[.val (.int x0), .val (.int x1), .val (.int x2), .val (.int x3), .val (.int x4), .val (.int (0 : Int32)), .val (.int (1 : Int32)), .val (.ref ob7), .val (.long ((0 : Int32).toInt64)), .second, .val (.long (0 : Int64)), .second, .val (.long (1 : Int64)), .second, .val (.long (x3.toInt64)), .second] [(.int (lcmpW (0 : Int64) ((0 : Int32).toInt64)))]) _ _ _
      have hc156 : (0 : Int64) = ((0 : Int32).toInt64) := by first | rfl | decide | (simp only [Int64.zero_add]; done) | simp
      refine own_to (fun t k => XS.ifNo X10.here hx rfl (hb hby at_156) rfl ((if0 _ _).trans (teq ((lw_eq _ _).mpr hc156)).2) k) ?_
      show own_Out p e below _ T10 (mkF m 159 #[.val (.int x0), .val (.int x1), .val (.int x2), .val (.int x3), .val (.int x4), .val (.int (0 : Int32)), .val (.int (1 : Int32)), .val (.ref ob7), .val (.long ((0 : Int32).toInt64)), .second, .val (.long (0 : Int64)), .second, .val (.long (1 : Int64)), .second, .val (.long (x3.toInt64)), .second] []) _ _ _
      refine own_to (fun t k => XS.aload X10.here hx rfl (hb hby at_159) rfl rfl k) ?_
      show own_Out p e below _ T10 (mkF m 161 #[.val (.int x0), .val (.int x1), .val (.int x2), .val (.int x3), .val (.int x4), .val (.int (0 : Int32)), .val (.int (1 : Int32)), .val (.ref ob7), .val (.long ((0 : Int32).toInt64)), .second, .val (.long (0 : Int64)), .second, .val (.long (1 : Int64)), .second, .val (.long (x3.toInt64)), .second] [(.ref ob7)]) _ _ _
      refine own_callV X10 hx hZ hown (a := ob7) (argsL := []) (rest := []) (hw _ (List.mem_of_getElem? (i := 16) rfl)) (hw _ (List.mem_of_getElem? (i := 17) rfl)) (hw _ (List.mem_of_getElem? (i := 19) rfl)) (hw _ (List.mem_of_getElem? (i := 18) rfl)) (hw _ (List.mem_of_getElem? (i := 2) rfl)) (hw _ (List.mem_of_getElem? (i := 20) rfl)) (by decide) (rm4 l Z a0 hw ob7 (0 : Int64) hh9 n0 Z0 F_ob7_messageBytes) (by decide) (by decide) e10 E_ob7 rfl (by rw [hml]; rfl) (lenOf pd_1 rfl) rfl (W := 0) (by show 2 * 0 + _ ≤ _; exact Nat.le_of_eq rfl) (hb hby at_161) (by decide) (by decide) fun v11 T11 hh11 L11 X11 e11 hQ11 => ?_
      obtain ⟨rfl, NL11, he11⟩ := hQ11
      replace e11 := e11.trans he11
      have N11 := Fr.app N10 NL11
      show own_Out p e below _ T11 (mkF m 164 #[.val (.int x0), .val (.int x1), .val (.int x2), .val (.int x3), .val (.int x4), .val (.int (0 : Int32)), .val (.int (1 : Int32)), .val (.ref ob7), .val (.long ((0 : Int32).toInt64)), .second, .val (.long (0 : Int64)), .second, .val (.long (1 : Int64)), .second, .val (.long (x3.toInt64)), .second] [(.long (0 : Int64))]) _ _ _
      refine own_to (fun t k => XS.lload X11.here hx rfl (hb hby at_164) rfl k) ?_
      show own_Out p e below _ T11 (mkF m 166 #[.val (.int x0), .val (.int x1), .val (.int x2), .val (.int x3), .val (.int x4), .val (.int (0 : Int32)), .val (.int (1 : Int32)), .val (.ref ob7), .val (.long ((0 : Int32).toInt64)), .second, .val (.long (0 : Int64)), .second, .val (.long (1 : Int64)), .second, .val (.long (x3.toInt64)), .second] [(.long (0 : Int64)), (.long (0 : Int64))]) _ _ _
      refine own_to (fun t k => XS.lcmp X11.here hx rfl (hb hby at_166) rfl k) ?_
      show own_Out p e below _ T11 (mkF m 167 #[.val (.int x0), .val (.int x1), .val (.int x2), .val (.int x3), .val (.int x4), .val (.int (0 : Int32)), .val (.int (1 : Int32)), .val (.ref ob7), .val (.long ((0 : Int32).toInt64)), .second, .val (.long (0 : Int64)), .second, .val (.long (1 : Int64)), .second, .val (.long (x3.toInt64)), .second] [(.int (lcmpW (0 : Int64) (0 : Int64)))]) _ _ _
      have hc167 : (0 : Int64) = (0 : Int64) := by first | rfl | decide | (simp only [Int64.zero_add]; done) | simp
      refine own_to (fun t k => XS.ifNo X11.here hx rfl (hb hby at_167) rfl ((if0 _ _).trans (teq ((lw_eq _ _).mpr hc167)).2) k) ?_
      show own_Out p e below _ T11 (mkF m 170 #[.val (.int x0), .val (.int x1), .val (.int x2), .val (.int x3), .val (.int x4), .val (.int (0 : Int32)), .val (.int (1 : Int32)), .val (.ref ob7), .val (.long ((0 : Int32).toInt64)), .second, .val (.long (0 : Int64)), .second, .val (.long (1 : Int64)), .second, .val (.long (x3.toInt64)), .second] []) _ _ _
      refine own_to (fun t k => XS.aload X11.here hx rfl (hb hby at_170) rfl rfl k) ?_
      show own_Out p e below _ T11 (mkF m 172 #[.val (.int x0), .val (.int x1), .val (.int x2), .val (.int x3), .val (.int x4), .val (.int (0 : Int32)), .val (.int (1 : Int32)), .val (.ref ob7), .val (.long ((0 : Int32).toInt64)), .second, .val (.long (0 : Int64)), .second, .val (.long (1 : Int64)), .second, .val (.long (x3.toInt64)), .second] [(.ref ob7)]) _ _ _
      refine own_callV X11 hx hZ hown (a := ob7) (argsL := []) (rest := []) (hw _ (List.mem_of_getElem? (i := 23) rfl)) (hw _ (List.mem_of_getElem? (i := 24) rfl)) (hw _ (List.mem_of_getElem? (i := 26) rfl)) (hw _ (List.mem_of_getElem? (i := 25) rfl)) (hw _ (List.mem_of_getElem? (i := 2) rfl)) (hw _ (List.mem_of_getElem? (i := 27) rfl)) (by decide) (rm5 l Z a0 hw ob7 ((0 : Int64) + (1 : Int64)) hh9 n0 Z0 F_ob7_ackFrames) (by decide) (by decide) e11 E_ob7 rfl (by rw [hml]; rfl) (lenOf pd_1 rfl) rfl (W := 0) (by show 2 * 0 + _ ≤ _; exact Nat.le_of_eq rfl) (hb hby at_172) (by decide) (by decide) fun v12 T12 hh12 L12 X12 e12 hQ12 => ?_
      obtain ⟨rfl, NL12, he12⟩ := hQ12
      replace e12 := e12.trans he12
      have N12 := Fr.app N11 NL12
      show own_Out p e below _ T12 (mkF m 175 #[.val (.int x0), .val (.int x1), .val (.int x2), .val (.int x3), .val (.int x4), .val (.int (0 : Int32)), .val (.int (1 : Int32)), .val (.ref ob7), .val (.long ((0 : Int32).toInt64)), .second, .val (.long (0 : Int64)), .second, .val (.long (1 : Int64)), .second, .val (.long (x3.toInt64)), .second] [(.long ((0 : Int64) + (1 : Int64)))]) _ _ _
      refine own_to (fun t k => XS.lload X12.here hx rfl (hb hby at_175) rfl k) ?_
      show own_Out p e below _ T12 (mkF m 177 #[.val (.int x0), .val (.int x1), .val (.int x2), .val (.int x3), .val (.int x4), .val (.int (0 : Int32)), .val (.int (1 : Int32)), .val (.ref ob7), .val (.long ((0 : Int32).toInt64)), .second, .val (.long (0 : Int64)), .second, .val (.long (1 : Int64)), .second, .val (.long (x3.toInt64)), .second] [(.long (1 : Int64)), (.long ((0 : Int64) + (1 : Int64)))]) _ _ _
      refine own_to (fun t k => XS.lcmp X12.here hx rfl (hb hby at_177) rfl k) ?_
      show own_Out p e below _ T12 (mkF m 178 #[.val (.int x0), .val (.int x1), .val (.int x2), .val (.int x3), .val (.int x4), .val (.int (0 : Int32)), .val (.int (1 : Int32)), .val (.ref ob7), .val (.long ((0 : Int32).toInt64)), .second, .val (.long (0 : Int64)), .second, .val (.long (1 : Int64)), .second, .val (.long (x3.toInt64)), .second] [(.int (lcmpW ((0 : Int64) + (1 : Int64)) (1 : Int64)))]) _ _ _
      have hc178 : ((0 : Int64) + (1 : Int64)) = (1 : Int64) := by first | rfl | decide | (simp only [Int64.zero_add]; done) | simp
      refine own_to (fun t k => XS.ifNo X12.here hx rfl (hb hby at_178) rfl ((if0 _ _).trans (teq ((lw_eq _ _).mpr hc178)).2) k) ?_
      show own_Out p e below _ T12 (mkF m 181 #[.val (.int x0), .val (.int x1), .val (.int x2), .val (.int x3), .val (.int x4), .val (.int (0 : Int32)), .val (.int (1 : Int32)), .val (.ref ob7), .val (.long ((0 : Int32).toInt64)), .second, .val (.long (0 : Int64)), .second, .val (.long (1 : Int64)), .second, .val (.long (x3.toInt64)), .second] []) _ _ _
      refine own_to (fun t k => XS.aload X12.here hx rfl (hb hby at_181) rfl rfl k) ?_
      show own_Out p e below _ T12 (mkF m 183 #[.val (.int x0), .val (.int x1), .val (.int x2), .val (.int x3), .val (.int x4), .val (.int (0 : Int32)), .val (.int (1 : Int32)), .val (.ref ob7), .val (.long ((0 : Int32).toInt64)), .second, .val (.long (0 : Int64)), .second, .val (.long (1 : Int64)), .second, .val (.long (x3.toInt64)), .second] [(.ref ob7)]) _ _ _
      refine own_callV X12 hx hZ hown (a := ob7) (argsL := []) (rest := []) (hw _ (List.mem_of_getElem? (i := 30) rfl)) (hw _ (List.mem_of_getElem? (i := 31) rfl)) (hw _ (List.mem_of_getElem? (i := 33) rfl)) (hw _ (List.mem_of_getElem? (i := 32) rfl)) (hw _ (List.mem_of_getElem? (i := 2) rfl)) (hw _ (List.mem_of_getElem? (i := 34) rfl)) (by decide) (rm6 l Z a0 hw ob7 ((0 : Int64) + (x3.toInt64)) hh9 n0 Z0 F_ob7_ackBytes) (by decide) (by decide) e12 E_ob7 rfl (by rw [hml]; rfl) (lenOf pd_1 rfl) rfl (W := 0) (by show 2 * 0 + _ ≤ _; exact Nat.le_of_eq rfl) (hb hby at_183) (by decide) (by decide) fun v13 T13 hh13 L13 X13 e13 hQ13 => ?_
      obtain ⟨rfl, NL13, he13⟩ := hQ13
      replace e13 := e13.trans he13
      have N13 := Fr.app N12 NL13
      show own_Out p e below _ T13 (mkF m 186 #[.val (.int x0), .val (.int x1), .val (.int x2), .val (.int x3), .val (.int x4), .val (.int (0 : Int32)), .val (.int (1 : Int32)), .val (.ref ob7), .val (.long ((0 : Int32).toInt64)), .second, .val (.long (0 : Int64)), .second, .val (.long (1 : Int64)), .second, .val (.long (x3.toInt64)), .second] [(.long ((0 : Int64) + (x3.toInt64)))]) _ _ _
      refine own_to (fun t k => XS.lload X13.here hx rfl (hb hby at_186) rfl k) ?_
      show own_Out p e below _ T13 (mkF m 188 #[.val (.int x0), .val (.int x1), .val (.int x2), .val (.int x3), .val (.int x4), .val (.int (0 : Int32)), .val (.int (1 : Int32)), .val (.ref ob7), .val (.long ((0 : Int32).toInt64)), .second, .val (.long (0 : Int64)), .second, .val (.long (1 : Int64)), .second, .val (.long (x3.toInt64)), .second] [(.long (x3.toInt64)), (.long ((0 : Int64) + (x3.toInt64)))]) _ _ _
      refine own_to (fun t k => XS.lcmp X13.here hx rfl (hb hby at_188) rfl k) ?_
      show own_Out p e below _ T13 (mkF m 189 #[.val (.int x0), .val (.int x1), .val (.int x2), .val (.int x3), .val (.int x4), .val (.int (0 : Int32)), .val (.int (1 : Int32)), .val (.ref ob7), .val (.long ((0 : Int32).toInt64)), .second, .val (.long (0 : Int64)), .second, .val (.long (1 : Int64)), .second, .val (.long (x3.toInt64)), .second] [(.int (lcmpW ((0 : Int64) + (x3.toInt64)) (x3.toInt64)))]) _ _ _
      have hc189 : ((0 : Int64) + (x3.toInt64)) = (x3.toInt64) := by first | rfl | decide | (simp only [Int64.zero_add]; done) | simp
      refine own_to (fun t k => XS.ifNo X13.here hx rfl (hb hby at_189) rfl ((if0 _ _).trans (teq ((lw_eq _ _).mpr hc189)).2) k) ?_
      show own_Out p e below _ T13 (mkF m 192 #[.val (.int x0), .val (.int x1), .val (.int x2), .val (.int x3), .val (.int x4), .val (.int (0 : Int32)), .val (.int (1 : Int32)), .val (.ref ob7), .val (.long ((0 : Int32).toInt64)), .second, .val (.long (0 : Int64)), .second, .val (.long (1 : Int64)), .second, .val (.long (x3.toInt64)), .second] []) _ _ _
      refine own_to (fun t k => XS.iconst X13.here hx rfl (hb hby at_192) k) ?_
      show own_Out p e below _ T13 (mkF m 193 #[.val (.int x0), .val (.int x1), .val (.int x2), .val (.int x3), .val (.int x4), .val (.int (0 : Int32)), .val (.int (1 : Int32)), .val (.ref ob7), .val (.long ((0 : Int32).toInt64)), .second, .val (.long (0 : Int64)), .second, .val (.long (1 : Int64)), .second, .val (.long (x3.toInt64)), .second] [(.int (1 : Int32))]) _ _ _
      refine own_to (fun t k => XS.goto X13.here hx rfl (pc0 := 193) (pc' := 197) rfl (hb hby at_193) (by decide) (by decide) k) ?_
      show own_Out p e below _ T13 (mkF m 197 #[.val (.int x0), .val (.int x1), .val (.int x2), .val (.int x3), .val (.int x4), .val (.int (0 : Int32)), .val (.int (1 : Int32)), .val (.ref ob7), .val (.long ((0 : Int32).toInt64)), .second, .val (.long (0 : Int64)), .second, .val (.long (1 : Int64)), .second, .val (.long (x3.toInt64)), .second] [(.int (1 : Int32))]) _ _ _
      refine own_retV X13 hx hlk (w := .int (1 : Int32)) hret rfl (Or.inl ⟨rfl, by simp, _, rfl⟩) (hb hby at_197) (by decide) (by decide) ?_
      rw [e13]
      exact ⟨rfl, N13⟩
  · subst hk_kk
    show own_Out p e below _ s₁ (mkF m 6 #[.val (.int x0), .val (.int x1), .val (.int x2), .val (.int x3), .val (.int x4), .val (.int (1 : Int32)), .unset, .unset, .unset, .unset, .unset, .unset, .unset, .unset, .unset, .unset] []) _ _ _
    refine own_to (fun t k => XS.iload X0.here hx rfl (hb hby at_6) rfl k) ?_
    show own_Out p e below _ s₁ (mkF m 8 #[.val (.int x0), .val (.int x1), .val (.int x2), .val (.int x3), .val (.int x4), .val (.int (1 : Int32)), .unset, .unset, .unset, .unset, .unset, .unset, .unset, .unset, .unset, .unset] [(.int x4)]) _ _ _
    refine own_to (fun t k => XS.iconst X0.here hx rfl (hb hby at_8) k) ?_
    show own_Out p e below _ s₁ (mkF m 9 #[.val (.int x0), .val (.int x1), .val (.int x2), .val (.int x3), .val (.int x4), .val (.int (1 : Int32)), .unset, .unset, .unset, .unset, .unset, .unset, .unset, .unset, .unset, .unset] [(.int (4 : Int32)), (.int x4)]) _ _ _
    refine own_to (fun t k => XS.iand X0.here hx rfl (hb hby at_9) rfl k) ?_
    show own_Out p e below _ s₁ (mkF m 10 #[.val (.int x0), .val (.int x1), .val (.int x2), .val (.int x3), .val (.int x4), .val (.int (1 : Int32)), .unset, .unset, .unset, .unset, .unset, .unset, .unset, .unset, .unset, .unset] [(.int (x4 &&& (4 : Int32)))]) _ _ _
    by_cases hc10 : (x4 &&& (4 : Int32)) = (0 : Int32)
    · refine own_to (fun t k => XS.ifYes X0.here hx rfl (pc0 := 10) (pc' := 17) rfl (hb hby at_10) rfl ((if0 _ _).trans (teq hc10).1) (by decide) (by decide) k) ?_
      show own_Out p e below _ s₁ (mkF m 17 #[.val (.int x0), .val (.int x1), .val (.int x2), .val (.int x3), .val (.int x4), .val (.int (1 : Int32)), .unset, .unset, .unset, .unset, .unset, .unset, .unset, .unset, .unset, .unset] []) _ _ _
      refine own_to (fun t k => XS.iconst X0.here hx rfl (hb hby at_17) k) ?_
      show own_Out p e below _ s₁ (mkF m 18 #[.val (.int x0), .val (.int x1), .val (.int x2), .val (.int x3), .val (.int x4), .val (.int (1 : Int32)), .unset, .unset, .unset, .unset, .unset, .unset, .unset, .unset, .unset, .unset] [(.int (0 : Int32))]) _ _ _
      refine own_to (fun t k => XS.istore X0.here hx rfl (hb hby at_18) rfl (l' := #[.val (.int x0), .val (.int x1), .val (.int x2), .val (.int x3), .val (.int x4), .val (.int (1 : Int32)), .val (.int (0 : Int32)), .unset, .unset, .unset, .unset, .unset, .unset, .unset, .unset, .unset]) rfl k) ?_
      show own_Out p e below _ s₁ (mkF m 20 #[.val (.int x0), .val (.int x1), .val (.int x2), .val (.int x3), .val (.int x4), .val (.int (1 : Int32)), .val (.int (0 : Int32)), .unset, .unset, .unset, .unset, .unset, .unset, .unset, .unset, .unset] []) _ _ _
      refine own_new X0 hx hZ hown (hw _ (List.mem_of_getElem? (i := 0) rfl)) (hw _ (List.mem_of_getElem? (i := 1) rfl)) (hw _ (List.mem_of_getElem? (i := 2) rfl)) e0 rfl (hb hby at_20) (by decide) (by decide) fun T14 hh14 ob14 gb14 X14 e14 E14 A14 D14 => ?_
      have g_ob14 : n0 ≤ ob14 := Nat.le_trans Z0 (Nat.le_of_eq gb14.symm)
      have Z0 := Nat.le_trans Z0 E14.1
      have E_ob14 := A14
      have F_ob14_messageFrames : Fld Z hh14 ob14 "com/example/mingle/mingle/FrameCounts" "messageFrames" "J" (.long (0 : Int64)) := D14 (Or.inl (hw _ (List.mem_of_getElem? (i := 15) rfl))) (ty := .long) (by decide)
      have F_ob14_messageBytes : Fld Z hh14 ob14 "com/example/mingle/mingle/FrameCounts" "messageBytes" "J" (.long (0 : Int64)) := D14 (Or.inl (hw _ (List.mem_of_getElem? (i := 22) rfl))) (ty := .long) (by decide)
      have F_ob14_ackFrames : Fld Z hh14 ob14 "com/example/mingle/mingle/FrameCounts" "ackFrames" "J" (.long (0 : Int64)) := D14 (Or.inl (hw _ (List.mem_of_getElem? (i := 29) rfl))) (ty := .long) (by decide)
      have F_ob14_ackBytes : Fld Z hh14 ob14 "com/example/mingle/mingle/FrameCounts" "ackBytes" "J" (.long (0 : Int64)) := D14 (Or.inl (hw _ (List.mem_of_getElem? (i := 36) rfl))) (ty := .long) (by decide)
      show own_Out p e below _ T14 (mkF m 23 #[.val (.int x0), .val (.int x1), .val (.int x2), .val (.int x3), .val (.int x4), .val (.int (1 : Int32)), .val (.int (0 : Int32)), .unset, .unset, .unset, .unset, .unset, .unset, .unset, .unset, .unset] [(.ref ob14)]) _ _ _
      refine own_to (fun t k => XS.dup X14.here hx rfl (hb hby at_23) rfl rfl k) ?_
      show own_Out p e below _ T14 (mkF m 24 #[.val (.int x0), .val (.int x1), .val (.int x2), .val (.int x3), .val (.int x4), .val (.int (1 : Int32)), .val (.int (0 : Int32)), .unset, .unset, .unset, .unset, .unset, .unset, .unset, .unset, .unset] [(.ref ob14), (.ref ob14)]) _ _ _
      refine own_callC X14 hx hZ hown (a := ob14) (argsL := []) (rest := [(.ref ob14)]) rfl (hw _ (List.mem_of_getElem? (i := 3) rfl)) (hw _ (List.mem_of_getElem? (i := 4) rfl)) (hw _ (List.mem_of_getElem? (i := 2) rfl)) (hw _ (List.mem_of_getElem? (i := 5) rfl)) (by decide) (rm1 l Z a0 hw ob14 hh14 n0 Z0 ) (by decide) (by decide) e14 rfl (by rw [hml]; rfl) (lenOf pd_0 rfl) rfl (W := 1) (by show 2 * 0 + _ ≤ _; exact Nat.le_of_eq rfl) (hb hby at_24) (by decide) (by decide) fun v15 T15 hh15 L15 X15 e15 hQ15 => ?_
      obtain ⟨rfl, NL15, he15⟩ := hQ15
      replace e15 := e15.trans he15
      have N15 := Fr.app N0 NL15
      show own_Out p e below _ T15 (mkF m 27 #[.val (.int x0), .val (.int x1), .val (.int x2), .val (.int x3), .val (.int x4), .val (.int (1 : Int32)), .val (.int (0 : Int32)), .unset, .unset, .unset, .unset, .unset, .unset, .unset, .unset, .unset] [(.ref ob14)]) _ _ _
      refine own_to (fun t k => XS.astore X15.here hx rfl (hb hby at_27) rfl rfl (l' := #[.val (.int x0), .val (.int x1), .val (.int x2), .val (.int x3), .val (.int x4), .val (.int (1 : Int32)), .val (.int (0 : Int32)), .val (.ref ob14), .unset, .unset, .unset, .unset, .unset, .unset, .unset, .unset]) rfl k) ?_
      show own_Out p e below _ T15 (mkF m 29 #[.val (.int x0), .val (.int x1), .val (.int x2), .val (.int x3), .val (.int x4), .val (.int (1 : Int32)), .val (.int (0 : Int32)), .val (.ref ob14), .unset, .unset, .unset, .unset, .unset, .unset, .unset, .unset] []) _ _ _
      refine own_to (fun t k => XS.iload X15.here hx rfl (hb hby at_29) rfl k) ?_
      show own_Out p e below _ T15 (mkF m 31 #[.val (.int x0), .val (.int x1), .val (.int x2), .val (.int x3), .val (.int x4), .val (.int (1 : Int32)), .val (.int (0 : Int32)), .val (.ref ob14), .unset, .unset, .unset, .unset, .unset, .unset, .unset, .unset] [(.int (1 : Int32))]) _ _ _
      refine own_to (fun t k => XS.iconst X15.here hx rfl (hb hby at_31) k) ?_
      show own_Out p e below _ T15 (mkF m 32 #[.val (.int x0), .val (.int x1), .val (.int x2), .val (.int x3), .val (.int x4), .val (.int (1 : Int32)), .val (.int (0 : Int32)), .val (.ref ob14), .unset, .unset, .unset, .unset, .unset, .unset, .unset, .unset] [(.int (1 : Int32)), (.int (1 : Int32))]) _ _ _
      have hc32 : ¬ ((1 : Int32) < (1 : Int32)) := by decide
      refine own_to (fun t k => XS.icmpNo X15.here hx rfl (hb hby at_32) rfl (flt hc32).1 k) ?_
      show own_Out p e below _ T15 (mkF m 35 #[.val (.int x0), .val (.int x1), .val (.int x2), .val (.int x3), .val (.int x4), .val (.int (1 : Int32)), .val (.int (0 : Int32)), .val (.ref ob14), .unset, .unset, .unset, .unset, .unset, .unset, .unset, .unset] []) _ _ _
      refine own_to (fun t k => XS.aload X15.here hx rfl (hb hby at_35) rfl rfl k) ?_
      show own_Out p e below _ T15 (mkF m 37 #[.val (.int x0), .val (.int x1), .val (.int x2), .val (.int x3), .val (.int x4), .val (.int (1 : Int32)), .val (.int (0 : Int32)), .val (.ref ob14), .unset, .unset, .unset, .unset, .unset, .unset, .unset, .unset] [(.ref ob14)]) _ _ _
      refine own_to (fun t k => XS.iloadN X15.here hx rfl (hb hby at_37) rfl k) ?_
      show own_Out p e below _ T15 (mkF m 38 #[.val (.int x0), .val (.int x1), .val (.int x2), .val (.int x3), .val (.int x4), .val (.int (1 : Int32)), .val (.int (0 : Int32)), .val (.ref ob14), .unset, .unset, .unset, .unset, .unset, .unset, .unset, .unset] [(.int x0), (.ref ob14)]) _ _ _
      refine own_callV X15 hx hZ hown (a := ob14) (argsL := [(.int x0)]) (rest := []) (hw _ (List.mem_of_getElem? (i := 37) rfl)) (hw _ (List.mem_of_getElem? (i := 38) rfl)) (hw _ (List.mem_of_getElem? (i := 40) rfl)) (hw _ (List.mem_of_getElem? (i := 39) rfl)) (hw _ (List.mem_of_getElem? (i := 2) rfl)) (hw _ (List.mem_of_getElem? (i := 41) rfl)) (by decide) (rm7 l Z a0 hw ob14 x0 (0 : Int64) (0 : Int64) (0 : Int64) (0 : Int64) hh14 n0 Z0 E_ob14 F_ob14_messageFrames F_ob14_messageBytes g_ob14 F_ob14_ackFrames F_ob14_ackBytes) (by decide) (by decide) e15 E_ob14 rfl (by rw [hml]; rfl) (lenOf pd_2 rfl) rfl (W := 0) (by show 2 * 0 + _ ≤ _; exact Nat.le_of_eq rfl) (hb hby at_38) (by decide) (by decide) fun v16 T16 hh16 L16 X16 e16 hQ16 => ?_
      obtain ⟨rfl, NL16, KK16, P16_0, P16_1, P16_2, P16_3⟩ := hQ16
      have E_ob14 := E_ob14.keep KK16
      have F_ob14_messageFrames := P16_0
      have F_ob14_messageBytes := P16_1
      have F_ob14_ackFrames := P16_2
      have F_ob14_ackBytes := P16_3
      have Z0 := Nat.le_trans Z0 KK16.1
      have N16 := Fr.app N15 NL16
      show own_Out p e below _ T16 (mkF m 41 #[.val (.int x0), .val (.int x1), .val (.int x2), .val (.int x3), .val (.int x4), .val (.int (1 : Int32)), .val (.int (0 : Int32)), .val (.ref ob14), .unset, .unset, .unset, .unset, .unset, .unset, .unset, .unset] []) _ _ _
      refine own_to (fun t k => XS.iload X16.here hx rfl (hb hby at_41) rfl k) ?_
      show own_Out p e below _ T16 (mkF m 43 #[.val (.int x0), .val (.int x1), .val (.int x2), .val (.int x3), .val (.int x4), .val (.int (1 : Int32)), .val (.int (0 : Int32)), .val (.ref ob14), .unset, .unset, .unset, .unset, .unset, .unset, .unset, .unset] [(.int (0 : Int32))]) _ _ _
      have hc43 : (0 : Int32) = (0 : Int32) := by decide
      refine own_to (fun t k => XS.ifYes X16.here hx rfl (pc0 := 43) (pc' := 52) rfl (hb hby at_43) rfl ((if0 _ _).trans (teq hc43).1) (by decide) (by decide) k) ?_
      show own_Out p e below _ T16 (mkF m 52 #[.val (.int x0), .val (.int x1), .val (.int x2), .val (.int x3), .val (.int x4), .val (.int (1 : Int32)), .val (.int (0 : Int32)), .val (.ref ob14), .unset, .unset, .unset, .unset, .unset, .unset, .unset, .unset] []) _ _ _
      refine own_to (fun t k => XS.iload X16.here hx rfl (hb hby at_52) rfl k) ?_
      show own_Out p e below _ T16 (mkF m 54 #[.val (.int x0), .val (.int x1), .val (.int x2), .val (.int x3), .val (.int x4), .val (.int (1 : Int32)), .val (.int (0 : Int32)), .val (.ref ob14), .unset, .unset, .unset, .unset, .unset, .unset, .unset, .unset] [(.int (1 : Int32))]) _ _ _
      refine own_to (fun t k => XS.iconst X16.here hx rfl (hb hby at_54) k) ?_
      show own_Out p e below _ T16 (mkF m 55 #[.val (.int x0), .val (.int x1), .val (.int x2), .val (.int x3), .val (.int x4), .val (.int (1 : Int32)), .val (.int (0 : Int32)), .val (.ref ob14), .unset, .unset, .unset, .unset, .unset, .unset, .unset, .unset] [(.int (2 : Int32)), (.int (1 : Int32))]) _ _ _
      have hc55 : (1 : Int32) < (2 : Int32) := by decide
      refine own_to (fun t k => XS.icmpYes X16.here hx rfl (pc0 := 55) (pc' := 64) rfl (hb hby at_55) rfl (tlt hc55).1 (by decide) (by decide) k) ?_
      show own_Out p e below _ T16 (mkF m 64 #[.val (.int x0), .val (.int x1), .val (.int x2), .val (.int x3), .val (.int x4), .val (.int (1 : Int32)), .val (.int (0 : Int32)), .val (.ref ob14), .unset, .unset, .unset, .unset, .unset, .unset, .unset, .unset] []) _ _ _
      refine own_to (fun t k => XS.iload X16.here hx rfl (hb hby at_64) rfl k) ?_
      show own_Out p e below _ T16 (mkF m 66 #[.val (.int x0), .val (.int x1), .val (.int x2), .val (.int x3), .val (.int x4), .val (.int (1 : Int32)), .val (.int (0 : Int32)), .val (.ref ob14), .unset, .unset, .unset, .unset, .unset, .unset, .unset, .unset] [(.int (1 : Int32))]) _ _ _
      refine own_to (fun t k => XS.iconst X16.here hx rfl (hb hby at_66) k) ?_
      show own_Out p e below _ T16 (mkF m 67 #[.val (.int x0), .val (.int x1), .val (.int x2), .val (.int x3), .val (.int x4), .val (.int (1 : Int32)), .val (.int (0 : Int32)), .val (.ref ob14), .unset, .unset, .unset, .unset, .unset, .unset, .unset, .unset] [(.int (3 : Int32)), (.int (1 : Int32))]) _ _ _
      have hc67 : (1 : Int32) < (3 : Int32) := by decide
      refine own_to (fun t k => XS.icmpYes X16.here hx rfl (pc0 := 67) (pc' := 76) rfl (hb hby at_67) rfl (tlt hc67).1 (by decide) (by decide) k) ?_
      show own_Out p e below _ T16 (mkF m 76 #[.val (.int x0), .val (.int x1), .val (.int x2), .val (.int x3), .val (.int x4), .val (.int (1 : Int32)), .val (.int (0 : Int32)), .val (.ref ob14), .unset, .unset, .unset, .unset, .unset, .unset, .unset, .unset] []) _ _ _
      refine own_to (fun t k => XS.iload X16.here hx rfl (hb hby at_76) rfl k) ?_
      show own_Out p e below _ T16 (mkF m 78 #[.val (.int x0), .val (.int x1), .val (.int x2), .val (.int x3), .val (.int x4), .val (.int (1 : Int32)), .val (.int (0 : Int32)), .val (.ref ob14), .unset, .unset, .unset, .unset, .unset, .unset, .unset, .unset] [(.int (1 : Int32))]) _ _ _
      refine own_to (fun t k => XS.i2l X16.here hx rfl (hb hby at_78) rfl k) ?_
      show own_Out p e below _ T16 (mkF m 79 #[.val (.int x0), .val (.int x1), .val (.int x2), .val (.int x3), .val (.int x4), .val (.int (1 : Int32)), .val (.int (0 : Int32)), .val (.ref ob14), .unset, .unset, .unset, .unset, .unset, .unset, .unset, .unset] [(.long ((1 : Int32).toInt64))]) _ _ _
      refine own_to (fun t k => XS.lstore X16.here hx rfl (hb hby at_79) rfl (l' := #[.val (.int x0), .val (.int x1), .val (.int x2), .val (.int x3), .val (.int x4), .val (.int (1 : Int32)), .val (.int (0 : Int32)), .val (.ref ob14), .val (.long ((1 : Int32).toInt64)), .second, .unset, .unset, .unset, .unset, .unset, .unset]) rfl k) ?_
      show own_Out p e below _ T16 (mkF m 81 #[.val (.int x0), .val (.int x1), .val (.int x2), .val (.int x3), .val (.int x4), .val (.int (1 : Int32)), .val (.int (0 : Int32)), .val (.ref ob14), .val (.long ((1 : Int32).toInt64)), .second, .unset, .unset, .unset, .unset, .unset, .unset] []) _ _ _
      refine own_to (fun t k => XS.lconst X16.here hx rfl (hb hby at_81) k) ?_
      show own_Out p e below _ T16 (mkF m 82 #[.val (.int x0), .val (.int x1), .val (.int x2), .val (.int x3), .val (.int x4), .val (.int (1 : Int32)), .val (.int (0 : Int32)), .val (.ref ob14), .val (.long ((1 : Int32).toInt64)), .second, .unset, .unset, .unset, .unset, .unset, .unset] [(.long (0 : Int64))]) _ _ _
      refine own_to (fun t k => XS.lstore X16.here hx rfl (hb hby at_82) rfl (l' := #[.val (.int x0), .val (.int x1), .val (.int x2), .val (.int x3), .val (.int x4), .val (.int (1 : Int32)), .val (.int (0 : Int32)), .val (.ref ob14), .val (.long ((1 : Int32).toInt64)), .second, .val (.long (0 : Int64)), .second, .unset, .unset, .unset, .unset]) rfl k) ?_
      show own_Out p e below _ T16 (mkF m 84 #[.val (.int x0), .val (.int x1), .val (.int x2), .val (.int x3), .val (.int x4), .val (.int (1 : Int32)), .val (.int (0 : Int32)), .val (.ref ob14), .val (.long ((1 : Int32).toInt64)), .second, .val (.long (0 : Int64)), .second, .unset, .unset, .unset, .unset] []) _ _ _
      refine own_to (fun t k => XS.iload X16.here hx rfl (hb hby at_84) rfl k) ?_
      show own_Out p e below _ T16 (mkF m 86 #[.val (.int x0), .val (.int x1), .val (.int x2), .val (.int x3), .val (.int x4), .val (.int (1 : Int32)), .val (.int (0 : Int32)), .val (.ref ob14), .val (.long ((1 : Int32).toInt64)), .second, .val (.long (0 : Int64)), .second, .unset, .unset, .unset, .unset] [(.int (1 : Int32))]) _ _ _
      refine own_to (fun t k => XS.iconst X16.here hx rfl (hb hby at_86) k) ?_
      show own_Out p e below _ T16 (mkF m 87 #[.val (.int x0), .val (.int x1), .val (.int x2), .val (.int x3), .val (.int x4), .val (.int (1 : Int32)), .val (.int (0 : Int32)), .val (.ref ob14), .val (.long ((1 : Int32).toInt64)), .second, .val (.long (0 : Int64)), .second, .unset, .unset, .unset, .unset] [(.int (1 : Int32)), (.int (1 : Int32))]) _ _ _
      have hc87 : ¬ ((1 : Int32) < (1 : Int32)) := by decide
      refine own_to (fun t k => XS.icmpNo X16.here hx rfl (hb hby at_87) rfl (flt hc87).1 k) ?_
      show own_Out p e below _ T16 (mkF m 90 #[.val (.int x0), .val (.int x1), .val (.int x2), .val (.int x3), .val (.int x4), .val (.int (1 : Int32)), .val (.int (0 : Int32)), .val (.ref ob14), .val (.long ((1 : Int32).toInt64)), .second, .val (.long (0 : Int64)), .second, .unset, .unset, .unset, .unset] []) _ _ _
      refine own_to (fun t k => XS.lload X16.here hx rfl (hb hby at_90) rfl k) ?_
      show own_Out p e below _ T16 (mkF m 92 #[.val (.int x0), .val (.int x1), .val (.int x2), .val (.int x3), .val (.int x4), .val (.int (1 : Int32)), .val (.int (0 : Int32)), .val (.ref ob14), .val (.long ((1 : Int32).toInt64)), .second, .val (.long (0 : Int64)), .second, .unset, .unset, .unset, .unset] [(.long (0 : Int64))]) _ _ _
      refine own_to (fun t k => XS.iloadN X16.here hx rfl (hb hby at_92) rfl k) ?_
      show own_Out p e below _ T16 (mkF m 93 #[.val (.int x0), .val (.int x1), .val (.int x2), .val (.int x3), .val (.int x4), .val (.int (1 : Int32)), .val (.int (0 : Int32)), .val (.ref ob14), .val (.long ((1 : Int32).toInt64)), .second, .val (.long (0 : Int64)), .second, .unset, .unset, .unset, .unset] [(.int x0), (.long (0 : Int64))]) _ _ _
      refine own_to (fun t k => XS.i2l X16.here hx rfl (hb hby at_93) rfl k) ?_
      show own_Out p e below _ T16 (mkF m 94 #[.val (.int x0), .val (.int x1), .val (.int x2), .val (.int x3), .val (.int x4), .val (.int (1 : Int32)), .val (.int (0 : Int32)), .val (.ref ob14), .val (.long ((1 : Int32).toInt64)), .second, .val (.long (0 : Int64)), .second, .unset, .unset, .unset, .unset] [(.long (x0.toInt64)), (.long (0 : Int64))]) _ _ _
      refine own_to (fun t k => XS.ladd X16.here hx rfl (hb hby at_94) rfl k) ?_
      show own_Out p e below _ T16 (mkF m 95 #[.val (.int x0), .val (.int x1), .val (.int x2), .val (.int x3), .val (.int x4), .val (.int (1 : Int32)), .val (.int (0 : Int32)), .val (.ref ob14), .val (.long ((1 : Int32).toInt64)), .second, .val (.long (0 : Int64)), .second, .unset, .unset, .unset, .unset] [(.long ((0 : Int64) + (x0.toInt64)))]) _ _ _
      refine own_to (fun t k => XS.lstore X16.here hx rfl (hb hby at_95) rfl (l' := #[.val (.int x0), .val (.int x1), .val (.int x2), .val (.int x3), .val (.int x4), .val (.int (1 : Int32)), .val (.int (0 : Int32)), .val (.ref ob14), .val (.long ((1 : Int32).toInt64)), .second, .val (.long ((0 : Int64) + (x0.toInt64))), .second, .unset, .unset, .unset, .unset]) rfl k) ?_
      show own_Out p e below _ T16 (mkF m 97 #[.val (.int x0), .val (.int x1), .val (.int x2), .val (.int x3), .val (.int x4), .val (.int (1 : Int32)), .val (.int (0 : Int32)), .val (.ref ob14), .val (.long ((1 : Int32).toInt64)), .second, .val (.long ((0 : Int64) + (x0.toInt64))), .second, .unset, .unset, .unset, .unset] []) _ _ _
      refine own_to (fun t k => XS.iload X16.here hx rfl (hb hby at_97) rfl k) ?_
      show own_Out p e below _ T16 (mkF m 99 #[.val (.int x0), .val (.int x1), .val (.int x2), .val (.int x3), .val (.int x4), .val (.int (1 : Int32)), .val (.int (0 : Int32)), .val (.ref ob14), .val (.long ((1 : Int32).toInt64)), .second, .val (.long ((0 : Int64) + (x0.toInt64))), .second, .unset, .unset, .unset, .unset] [(.int (1 : Int32))]) _ _ _
      refine own_to (fun t k => XS.iconst X16.here hx rfl (hb hby at_99) k) ?_
      show own_Out p e below _ T16 (mkF m 100 #[.val (.int x0), .val (.int x1), .val (.int x2), .val (.int x3), .val (.int x4), .val (.int (1 : Int32)), .val (.int (0 : Int32)), .val (.ref ob14), .val (.long ((1 : Int32).toInt64)), .second, .val (.long ((0 : Int64) + (x0.toInt64))), .second, .unset, .unset, .unset, .unset] [(.int (2 : Int32)), (.int (1 : Int32))]) _ _ _
      have hc100 : (1 : Int32) < (2 : Int32) := by decide
      refine own_to (fun t k => XS.icmpYes X16.here hx rfl (pc0 := 100) (pc' := 110) rfl (hb hby at_100) rfl (tlt hc100).1 (by decide) (by decide) k) ?_
      show own_Out p e below _ T16 (mkF m 110 #[.val (.int x0), .val (.int x1), .val (.int x2), .val (.int x3), .val (.int x4), .val (.int (1 : Int32)), .val (.int (0 : Int32)), .val (.ref ob14), .val (.long ((1 : Int32).toInt64)), .second, .val (.long ((0 : Int64) + (x0.toInt64))), .second, .unset, .unset, .unset, .unset] []) _ _ _
      refine own_to (fun t k => XS.iload X16.here hx rfl (hb hby at_110) rfl k) ?_
      show own_Out p e below _ T16 (mkF m 112 #[.val (.int x0), .val (.int x1), .val (.int x2), .val (.int x3), .val (.int x4), .val (.int (1 : Int32)), .val (.int (0 : Int32)), .val (.ref ob14), .val (.long ((1 : Int32).toInt64)), .second, .val (.long ((0 : Int64) + (x0.toInt64))), .second, .unset, .unset, .unset, .unset] [(.int (1 : Int32))]) _ _ _
      refine own_to (fun t k => XS.iconst X16.here hx rfl (hb hby at_112) k) ?_
      show own_Out p e below _ T16 (mkF m 113 #[.val (.int x0), .val (.int x1), .val (.int x2), .val (.int x3), .val (.int x4), .val (.int (1 : Int32)), .val (.int (0 : Int32)), .val (.ref ob14), .val (.long ((1 : Int32).toInt64)), .second, .val (.long ((0 : Int64) + (x0.toInt64))), .second, .unset, .unset, .unset, .unset] [(.int (3 : Int32)), (.int (1 : Int32))]) _ _ _
      have hc113 : (1 : Int32) < (3 : Int32) := by decide
      refine own_to (fun t k => XS.icmpYes X16.here hx rfl (pc0 := 113) (pc' := 123) rfl (hb hby at_113) rfl (tlt hc113).1 (by decide) (by decide) k) ?_
      show own_Out p e below _ T16 (mkF m 123 #[.val (.int x0), .val (.int x1), .val (.int x2), .val (.int x3), .val (.int x4), .val (.int (1 : Int32)), .val (.int (0 : Int32)), .val (.ref ob14), .val (.long ((1 : Int32).toInt64)), .second, .val (.long ((0 : Int64) + (x0.toInt64))), .second, .unset, .unset, .unset, .unset] []) _ _ _
      refine own_to (fun t k => XS.iload X16.here hx rfl (hb hby at_123) rfl k) ?_
      show own_Out p e below _ T16 (mkF m 125 #[.val (.int x0), .val (.int x1), .val (.int x2), .val (.int x3), .val (.int x4), .val (.int (1 : Int32)), .val (.int (0 : Int32)), .val (.ref ob14), .val (.long ((1 : Int32).toInt64)), .second, .val (.long ((0 : Int64) + (x0.toInt64))), .second, .unset, .unset, .unset, .unset] [(.int (0 : Int32))]) _ _ _
      have hc125 : (0 : Int32) = (0 : Int32) := by decide
      refine own_to (fun t k => XS.ifYes X16.here hx rfl (pc0 := 125) (pc' := 132) rfl (hb hby at_125) rfl ((if0 _ _).trans (teq hc125).1) (by decide) (by decide) k) ?_
      show own_Out p e below _ T16 (mkF m 132 #[.val (.int x0), .val (.int x1), .val (.int x2), .val (.int x3), .val (.int x4), .val (.int (1 : Int32)), .val (.int (0 : Int32)), .val (.ref ob14), .val (.long ((1 : Int32).toInt64)), .second, .val (.long ((0 : Int64) + (x0.toInt64))), .second, .unset, .unset, .unset, .unset] []) _ _ _
      refine own_to (fun t k => XS.lconst X16.here hx rfl (hb hby at_132) k) ?_
      show own_Out p e below _ T16 (mkF m 133 #[.val (.int x0), .val (.int x1), .val (.int x2), .val (.int x3), .val (.int x4), .val (.int (1 : Int32)), .val (.int (0 : Int32)), .val (.ref ob14), .val (.long ((1 : Int32).toInt64)), .second, .val (.long ((0 : Int64) + (x0.toInt64))), .second, .unset, .unset, .unset, .unset] [(.long (0 : Int64))]) _ _ _
      refine own_to (fun t k => XS.lstore X16.here hx rfl (hb hby at_133) rfl (l' := #[.val (.int x0), .val (.int x1), .val (.int x2), .val (.int x3), .val (.int x4), .val (.int (1 : Int32)), .val (.int (0 : Int32)), .val (.ref ob14), .val (.long ((1 : Int32).toInt64)), .second, .val (.long ((0 : Int64) + (x0.toInt64))), .second, .val (.long (0 : Int64)), .second, .unset, .unset]) rfl k) ?_
      show own_Out p e below _ T16 (mkF m 135 #[.val (.int x0), .val (.int x1), .val (.int x2), .val (.int x3), .val (.int x4), .val (.int (1 : Int32)), .val (.int (0 : Int32)), .val (.ref ob14), .val (.long ((1 : Int32).toInt64)), .second, .val (.long ((0 : Int64) + (x0.toInt64))), .second, .val (.long (0 : Int64)), .second, .unset, .unset] []) _ _ _
      refine own_to (fun t k => XS.iload X16.here hx rfl (hb hby at_135) rfl k) ?_
      show own_Out p e below _ T16 (mkF m 137 #[.val (.int x0), .val (.int x1), .val (.int x2), .val (.int x3), .val (.int x4), .val (.int (1 : Int32)), .val (.int (0 : Int32)), .val (.ref ob14), .val (.long ((1 : Int32).toInt64)), .second, .val (.long ((0 : Int64) + (x0.toInt64))), .second, .val (.long (0 : Int64)), .second, .unset, .unset] [(.int (0 : Int32))]) _ _ _
      have hc137 : (0 : Int32) = (0 : Int32) := by decide
      refine own_to (fun t k => XS.ifYes X16.here hx rfl (pc0 := 137) (pc' := 145) rfl (hb hby at_137) rfl ((if0 _ _).trans (teq hc137).1) (by decide) (by decide) k) ?_
      show own_Out p e below _ T16 (mkF m 145 #[.val (.int x0), .val (.int x1), .val (.int x2), .val (.int x3), .val (.int x4), .val (.int (1 : Int32)), .val (.int (0 : Int32)), .val (.ref ob14), .val (.long ((1 : Int32).toInt64)), .second, .val (.long ((0 : Int64) + (x0.toInt64))), .second, .val (.long (0 : Int64)), .second, .unset, .unset] []) _ _ _
      refine own_to (fun t k => XS.lconst X16.here hx rfl (hb hby at_145) k) ?_
      show own_Out p e below _ T16 (mkF m 146 #[.val (.int x0), .val (.int x1), .val (.int x2), .val (.int x3), .val (.int x4), .val (.int (1 : Int32)), .val (.int (0 : Int32)), .val (.ref ob14), .val (.long ((1 : Int32).toInt64)), .second, .val (.long ((0 : Int64) + (x0.toInt64))), .second, .val (.long (0 : Int64)), .second, .unset, .unset] [(.long (0 : Int64))]) _ _ _
      refine own_to (fun t k => XS.lstore X16.here hx rfl (hb hby at_146) rfl (l' := #[.val (.int x0), .val (.int x1), .val (.int x2), .val (.int x3), .val (.int x4), .val (.int (1 : Int32)), .val (.int (0 : Int32)), .val (.ref ob14), .val (.long ((1 : Int32).toInt64)), .second, .val (.long ((0 : Int64) + (x0.toInt64))), .second, .val (.long (0 : Int64)), .second, .val (.long (0 : Int64)), .second]) rfl k) ?_
      show own_Out p e below _ T16 (mkF m 148 #[.val (.int x0), .val (.int x1), .val (.int x2), .val (.int x3), .val (.int x4), .val (.int (1 : Int32)), .val (.int (0 : Int32)), .val (.ref ob14), .val (.long ((1 : Int32).toInt64)), .second, .val (.long ((0 : Int64) + (x0.toInt64))), .second, .val (.long (0 : Int64)), .second, .val (.long (0 : Int64)), .second] []) _ _ _
      refine own_to (fun t k => XS.aload X16.here hx rfl (hb hby at_148) rfl rfl k) ?_
      show own_Out p e below _ T16 (mkF m 150 #[.val (.int x0), .val (.int x1), .val (.int x2), .val (.int x3), .val (.int x4), .val (.int (1 : Int32)), .val (.int (0 : Int32)), .val (.ref ob14), .val (.long ((1 : Int32).toInt64)), .second, .val (.long ((0 : Int64) + (x0.toInt64))), .second, .val (.long (0 : Int64)), .second, .val (.long (0 : Int64)), .second] [(.ref ob14)]) _ _ _
      refine own_callV X16 hx hZ hown (a := ob14) (argsL := []) (rest := []) (hw _ (List.mem_of_getElem? (i := 9) rfl)) (hw _ (List.mem_of_getElem? (i := 10) rfl)) (hw _ (List.mem_of_getElem? (i := 12) rfl)) (hw _ (List.mem_of_getElem? (i := 11) rfl)) (hw _ (List.mem_of_getElem? (i := 2) rfl)) (hw _ (List.mem_of_getElem? (i := 13) rfl)) (by decide) (rm3 l Z a0 hw ob14 ((0 : Int64) + (1 : Int64)) hh16 n0 Z0 F_ob14_messageFrames) (by decide) (by decide) e16 E_ob14 rfl (by rw [hml]; rfl) (lenOf pd_1 rfl) rfl (W := 0) (by show 2 * 0 + _ ≤ _; exact Nat.le_of_eq rfl) (hb hby at_150) (by decide) (by decide) fun v17 T17 hh17 L17 X17 e17 hQ17 => ?_
      obtain ⟨rfl, NL17, he17⟩ := hQ17
      replace e17 := e17.trans he17
      have N17 := Fr.app N16 NL17
      show own_Out p e below _ T17 (mkF m 153 #[.val (.int x0), .val (.int x1), .val (.int x2), .val (.int x3), .val (.int x4), .val (.int (1 : Int32)), .val (.int (0 : Int32)), .val (.ref ob14), .val (.long ((1 : Int32).toInt64)), .second, .val (.long ((0 : Int64) + (x0.toInt64))), .second, .val (.long (0 : Int64)), .second, .val (.long (0 : Int64)), .second] [(.long ((0 : Int64) + (1 : Int64)))]) _ _ _
      refine own_to (fun t k => XS.lload X17.here hx rfl (hb hby at_153) rfl k) ?_
      show own_Out p e below _ T17 (mkF m 155 #[.val (.int x0), .val (.int x1), .val (.int x2), .val (.int x3), .val (.int x4), .val (.int (1 : Int32)), .val (.int (0 : Int32)), .val (.ref ob14), .val (.long ((1 : Int32).toInt64)), .second, .val (.long ((0 : Int64) + (x0.toInt64))), .second, .val (.long (0 : Int64)), .second, .val (.long (0 : Int64)), .second] [(.long ((1 : Int32).toInt64)), (.long ((0 : Int64) + (1 : Int64)))]) _ _ _
      refine own_to (fun t k => XS.lcmp X17.here hx rfl (hb hby at_155) rfl k) ?_
      show own_Out p e below _ T17 (mkF m 156 #[.val (.int x0), .val (.int x1), .val (.int x2), .val (.int x3), .val (.int x4), .val (.int (1 : Int32)), .val (.int (0 : Int32)), .val (.ref ob14), .val (.long ((1 : Int32).toInt64)), .second, .val (.long ((0 : Int64) + (x0.toInt64))), .second, .val (.long (0 : Int64)), .second, .val (.long (0 : Int64)), .second] [(.int (lcmpW ((0 : Int64) + (1 : Int64)) ((1 : Int32).toInt64)))]) _ _ _
      have hc156 : ((0 : Int64) + (1 : Int64)) = ((1 : Int32).toInt64) := by first | rfl | decide | (simp only [Int64.zero_add]; done) | simp
      refine own_to (fun t k => XS.ifNo X17.here hx rfl (hb hby at_156) rfl ((if0 _ _).trans (teq ((lw_eq _ _).mpr hc156)).2) k) ?_
      show own_Out p e below _ T17 (mkF m 159 #[.val (.int x0), .val (.int x1), .val (.int x2), .val (.int x3), .val (.int x4), .val (.int (1 : Int32)), .val (.int (0 : Int32)), .val (.ref ob14), .val (.long ((1 : Int32).toInt64)), .second, .val (.long ((0 : Int64) + (x0.toInt64))), .second, .val (.long (0 : Int64)), .second, .val (.long (0 : Int64)), .second] []) _ _ _
      refine own_to (fun t k => XS.aload X17.here hx rfl (hb hby at_159) rfl rfl k) ?_
      show own_Out p e below _ T17 (mkF m 161 #[.val (.int x0), .val (.int x1), .val (.int x2), .val (.int x3), .val (.int x4), .val (.int (1 : Int32)), .val (.int (0 : Int32)), .val (.ref ob14), .val (.long ((1 : Int32).toInt64)), .second, .val (.long ((0 : Int64) + (x0.toInt64))), .second, .val (.long (0 : Int64)), .second, .val (.long (0 : Int64)), .second] [(.ref ob14)]) _ _ _
      refine own_callV X17 hx hZ hown (a := ob14) (argsL := []) (rest := []) (hw _ (List.mem_of_getElem? (i := 16) rfl)) (hw _ (List.mem_of_getElem? (i := 17) rfl)) (hw _ (List.mem_of_getElem? (i := 19) rfl)) (hw _ (List.mem_of_getElem? (i := 18) rfl)) (hw _ (List.mem_of_getElem? (i := 2) rfl)) (hw _ (List.mem_of_getElem? (i := 20) rfl)) (by decide) (rm4 l Z a0 hw ob14 ((0 : Int64) + (x0.toInt64)) hh16 n0 Z0 F_ob14_messageBytes) (by decide) (by decide) e17 E_ob14 rfl (by rw [hml]; rfl) (lenOf pd_1 rfl) rfl (W := 0) (by show 2 * 0 + _ ≤ _; exact Nat.le_of_eq rfl) (hb hby at_161) (by decide) (by decide) fun v18 T18 hh18 L18 X18 e18 hQ18 => ?_
      obtain ⟨rfl, NL18, he18⟩ := hQ18
      replace e18 := e18.trans he18
      have N18 := Fr.app N17 NL18
      show own_Out p e below _ T18 (mkF m 164 #[.val (.int x0), .val (.int x1), .val (.int x2), .val (.int x3), .val (.int x4), .val (.int (1 : Int32)), .val (.int (0 : Int32)), .val (.ref ob14), .val (.long ((1 : Int32).toInt64)), .second, .val (.long ((0 : Int64) + (x0.toInt64))), .second, .val (.long (0 : Int64)), .second, .val (.long (0 : Int64)), .second] [(.long ((0 : Int64) + (x0.toInt64)))]) _ _ _
      refine own_to (fun t k => XS.lload X18.here hx rfl (hb hby at_164) rfl k) ?_
      show own_Out p e below _ T18 (mkF m 166 #[.val (.int x0), .val (.int x1), .val (.int x2), .val (.int x3), .val (.int x4), .val (.int (1 : Int32)), .val (.int (0 : Int32)), .val (.ref ob14), .val (.long ((1 : Int32).toInt64)), .second, .val (.long ((0 : Int64) + (x0.toInt64))), .second, .val (.long (0 : Int64)), .second, .val (.long (0 : Int64)), .second] [(.long ((0 : Int64) + (x0.toInt64))), (.long ((0 : Int64) + (x0.toInt64)))]) _ _ _
      refine own_to (fun t k => XS.lcmp X18.here hx rfl (hb hby at_166) rfl k) ?_
      show own_Out p e below _ T18 (mkF m 167 #[.val (.int x0), .val (.int x1), .val (.int x2), .val (.int x3), .val (.int x4), .val (.int (1 : Int32)), .val (.int (0 : Int32)), .val (.ref ob14), .val (.long ((1 : Int32).toInt64)), .second, .val (.long ((0 : Int64) + (x0.toInt64))), .second, .val (.long (0 : Int64)), .second, .val (.long (0 : Int64)), .second] [(.int (lcmpW ((0 : Int64) + (x0.toInt64)) ((0 : Int64) + (x0.toInt64))))]) _ _ _
      have hc167 : ((0 : Int64) + (x0.toInt64)) = ((0 : Int64) + (x0.toInt64)) := by first | rfl | decide | (simp only [Int64.zero_add]; done) | simp
      refine own_to (fun t k => XS.ifNo X18.here hx rfl (hb hby at_167) rfl ((if0 _ _).trans (teq ((lw_eq _ _).mpr hc167)).2) k) ?_
      show own_Out p e below _ T18 (mkF m 170 #[.val (.int x0), .val (.int x1), .val (.int x2), .val (.int x3), .val (.int x4), .val (.int (1 : Int32)), .val (.int (0 : Int32)), .val (.ref ob14), .val (.long ((1 : Int32).toInt64)), .second, .val (.long ((0 : Int64) + (x0.toInt64))), .second, .val (.long (0 : Int64)), .second, .val (.long (0 : Int64)), .second] []) _ _ _
      refine own_to (fun t k => XS.aload X18.here hx rfl (hb hby at_170) rfl rfl k) ?_
      show own_Out p e below _ T18 (mkF m 172 #[.val (.int x0), .val (.int x1), .val (.int x2), .val (.int x3), .val (.int x4), .val (.int (1 : Int32)), .val (.int (0 : Int32)), .val (.ref ob14), .val (.long ((1 : Int32).toInt64)), .second, .val (.long ((0 : Int64) + (x0.toInt64))), .second, .val (.long (0 : Int64)), .second, .val (.long (0 : Int64)), .second] [(.ref ob14)]) _ _ _
      refine own_callV X18 hx hZ hown (a := ob14) (argsL := []) (rest := []) (hw _ (List.mem_of_getElem? (i := 23) rfl)) (hw _ (List.mem_of_getElem? (i := 24) rfl)) (hw _ (List.mem_of_getElem? (i := 26) rfl)) (hw _ (List.mem_of_getElem? (i := 25) rfl)) (hw _ (List.mem_of_getElem? (i := 2) rfl)) (hw _ (List.mem_of_getElem? (i := 27) rfl)) (by decide) (rm5 l Z a0 hw ob14 (0 : Int64) hh16 n0 Z0 F_ob14_ackFrames) (by decide) (by decide) e18 E_ob14 rfl (by rw [hml]; rfl) (lenOf pd_1 rfl) rfl (W := 0) (by show 2 * 0 + _ ≤ _; exact Nat.le_of_eq rfl) (hb hby at_172) (by decide) (by decide) fun v19 T19 hh19 L19 X19 e19 hQ19 => ?_
      obtain ⟨rfl, NL19, he19⟩ := hQ19
      replace e19 := e19.trans he19
      have N19 := Fr.app N18 NL19
      show own_Out p e below _ T19 (mkF m 175 #[.val (.int x0), .val (.int x1), .val (.int x2), .val (.int x3), .val (.int x4), .val (.int (1 : Int32)), .val (.int (0 : Int32)), .val (.ref ob14), .val (.long ((1 : Int32).toInt64)), .second, .val (.long ((0 : Int64) + (x0.toInt64))), .second, .val (.long (0 : Int64)), .second, .val (.long (0 : Int64)), .second] [(.long (0 : Int64))]) _ _ _
      refine own_to (fun t k => XS.lload X19.here hx rfl (hb hby at_175) rfl k) ?_
      show own_Out p e below _ T19 (mkF m 177 #[.val (.int x0), .val (.int x1), .val (.int x2), .val (.int x3), .val (.int x4), .val (.int (1 : Int32)), .val (.int (0 : Int32)), .val (.ref ob14), .val (.long ((1 : Int32).toInt64)), .second, .val (.long ((0 : Int64) + (x0.toInt64))), .second, .val (.long (0 : Int64)), .second, .val (.long (0 : Int64)), .second] [(.long (0 : Int64)), (.long (0 : Int64))]) _ _ _
      refine own_to (fun t k => XS.lcmp X19.here hx rfl (hb hby at_177) rfl k) ?_
      show own_Out p e below _ T19 (mkF m 178 #[.val (.int x0), .val (.int x1), .val (.int x2), .val (.int x3), .val (.int x4), .val (.int (1 : Int32)), .val (.int (0 : Int32)), .val (.ref ob14), .val (.long ((1 : Int32).toInt64)), .second, .val (.long ((0 : Int64) + (x0.toInt64))), .second, .val (.long (0 : Int64)), .second, .val (.long (0 : Int64)), .second] [(.int (lcmpW (0 : Int64) (0 : Int64)))]) _ _ _
      have hc178 : (0 : Int64) = (0 : Int64) := by first | rfl | decide | (simp only [Int64.zero_add]; done) | simp
      refine own_to (fun t k => XS.ifNo X19.here hx rfl (hb hby at_178) rfl ((if0 _ _).trans (teq ((lw_eq _ _).mpr hc178)).2) k) ?_
      show own_Out p e below _ T19 (mkF m 181 #[.val (.int x0), .val (.int x1), .val (.int x2), .val (.int x3), .val (.int x4), .val (.int (1 : Int32)), .val (.int (0 : Int32)), .val (.ref ob14), .val (.long ((1 : Int32).toInt64)), .second, .val (.long ((0 : Int64) + (x0.toInt64))), .second, .val (.long (0 : Int64)), .second, .val (.long (0 : Int64)), .second] []) _ _ _
      refine own_to (fun t k => XS.aload X19.here hx rfl (hb hby at_181) rfl rfl k) ?_
      show own_Out p e below _ T19 (mkF m 183 #[.val (.int x0), .val (.int x1), .val (.int x2), .val (.int x3), .val (.int x4), .val (.int (1 : Int32)), .val (.int (0 : Int32)), .val (.ref ob14), .val (.long ((1 : Int32).toInt64)), .second, .val (.long ((0 : Int64) + (x0.toInt64))), .second, .val (.long (0 : Int64)), .second, .val (.long (0 : Int64)), .second] [(.ref ob14)]) _ _ _
      refine own_callV X19 hx hZ hown (a := ob14) (argsL := []) (rest := []) (hw _ (List.mem_of_getElem? (i := 30) rfl)) (hw _ (List.mem_of_getElem? (i := 31) rfl)) (hw _ (List.mem_of_getElem? (i := 33) rfl)) (hw _ (List.mem_of_getElem? (i := 32) rfl)) (hw _ (List.mem_of_getElem? (i := 2) rfl)) (hw _ (List.mem_of_getElem? (i := 34) rfl)) (by decide) (rm6 l Z a0 hw ob14 (0 : Int64) hh16 n0 Z0 F_ob14_ackBytes) (by decide) (by decide) e19 E_ob14 rfl (by rw [hml]; rfl) (lenOf pd_1 rfl) rfl (W := 0) (by show 2 * 0 + _ ≤ _; exact Nat.le_of_eq rfl) (hb hby at_183) (by decide) (by decide) fun v20 T20 hh20 L20 X20 e20 hQ20 => ?_
      obtain ⟨rfl, NL20, he20⟩ := hQ20
      replace e20 := e20.trans he20
      have N20 := Fr.app N19 NL20
      show own_Out p e below _ T20 (mkF m 186 #[.val (.int x0), .val (.int x1), .val (.int x2), .val (.int x3), .val (.int x4), .val (.int (1 : Int32)), .val (.int (0 : Int32)), .val (.ref ob14), .val (.long ((1 : Int32).toInt64)), .second, .val (.long ((0 : Int64) + (x0.toInt64))), .second, .val (.long (0 : Int64)), .second, .val (.long (0 : Int64)), .second] [(.long (0 : Int64))]) _ _ _
      refine own_to (fun t k => XS.lload X20.here hx rfl (hb hby at_186) rfl k) ?_
      show own_Out p e below _ T20 (mkF m 188 #[.val (.int x0), .val (.int x1), .val (.int x2), .val (.int x3), .val (.int x4), .val (.int (1 : Int32)), .val (.int (0 : Int32)), .val (.ref ob14), .val (.long ((1 : Int32).toInt64)), .second, .val (.long ((0 : Int64) + (x0.toInt64))), .second, .val (.long (0 : Int64)), .second, .val (.long (0 : Int64)), .second] [(.long (0 : Int64)), (.long (0 : Int64))]) _ _ _
      refine own_to (fun t k => XS.lcmp X20.here hx rfl (hb hby at_188) rfl k) ?_
      show own_Out p e below _ T20 (mkF m 189 #[.val (.int x0), .val (.int x1), .val (.int x2), .val (.int x3), .val (.int x4), .val (.int (1 : Int32)), .val (.int (0 : Int32)), .val (.ref ob14), .val (.long ((1 : Int32).toInt64)), .second, .val (.long ((0 : Int64) + (x0.toInt64))), .second, .val (.long (0 : Int64)), .second, .val (.long (0 : Int64)), .second] [(.int (lcmpW (0 : Int64) (0 : Int64)))]) _ _ _
      have hc189 : (0 : Int64) = (0 : Int64) := by first | rfl | decide | (simp only [Int64.zero_add]; done) | simp
      refine own_to (fun t k => XS.ifNo X20.here hx rfl (hb hby at_189) rfl ((if0 _ _).trans (teq ((lw_eq _ _).mpr hc189)).2) k) ?_
      show own_Out p e below _ T20 (mkF m 192 #[.val (.int x0), .val (.int x1), .val (.int x2), .val (.int x3), .val (.int x4), .val (.int (1 : Int32)), .val (.int (0 : Int32)), .val (.ref ob14), .val (.long ((1 : Int32).toInt64)), .second, .val (.long ((0 : Int64) + (x0.toInt64))), .second, .val (.long (0 : Int64)), .second, .val (.long (0 : Int64)), .second] []) _ _ _
      refine own_to (fun t k => XS.iconst X20.here hx rfl (hb hby at_192) k) ?_
      show own_Out p e below _ T20 (mkF m 193 #[.val (.int x0), .val (.int x1), .val (.int x2), .val (.int x3), .val (.int x4), .val (.int (1 : Int32)), .val (.int (0 : Int32)), .val (.ref ob14), .val (.long ((1 : Int32).toInt64)), .second, .val (.long ((0 : Int64) + (x0.toInt64))), .second, .val (.long (0 : Int64)), .second, .val (.long (0 : Int64)), .second] [(.int (1 : Int32))]) _ _ _
      refine own_to (fun t k => XS.goto X20.here hx rfl (pc0 := 193) (pc' := 197) rfl (hb hby at_193) (by decide) (by decide) k) ?_
      show own_Out p e below _ T20 (mkF m 197 #[.val (.int x0), .val (.int x1), .val (.int x2), .val (.int x3), .val (.int x4), .val (.int (1 : Int32)), .val (.int (0 : Int32)), .val (.ref ob14), .val (.long ((1 : Int32).toInt64)), .second, .val (.long ((0 : Int64) + (x0.toInt64))), .second, .val (.long (0 : Int64)), .second, .val (.long (0 : Int64)), .second] [(.int (1 : Int32))]) _ _ _
      refine own_retV X20 hx hlk (w := .int (1 : Int32)) hret rfl (Or.inl ⟨rfl, by simp, _, rfl⟩) (hb hby at_197) (by decide) (by decide) ?_
      rw [e20]
      exact ⟨rfl, N20⟩
    · refine own_to (fun t k => XS.ifNo X0.here hx rfl (hb hby at_10) rfl ((if0 _ _).trans (feq hc10).1) k) ?_
      show own_Out p e below _ s₁ (mkF m 13 #[.val (.int x0), .val (.int x1), .val (.int x2), .val (.int x3), .val (.int x4), .val (.int (1 : Int32)), .unset, .unset, .unset, .unset, .unset, .unset, .unset, .unset, .unset, .unset] []) _ _ _
      refine own_to (fun t k => XS.iconst X0.here hx rfl (hb hby at_13) k) ?_
      show own_Out p e below _ s₁ (mkF m 14 #[.val (.int x0), .val (.int x1), .val (.int x2), .val (.int x3), .val (.int x4), .val (.int (1 : Int32)), .unset, .unset, .unset, .unset, .unset, .unset, .unset, .unset, .unset, .unset] [(.int (1 : Int32))]) _ _ _
      refine own_to (fun t k => XS.goto X0.here hx rfl (pc0 := 14) (pc' := 18) rfl (hb hby at_14) (by decide) (by decide) k) ?_
      show own_Out p e below _ s₁ (mkF m 18 #[.val (.int x0), .val (.int x1), .val (.int x2), .val (.int x3), .val (.int x4), .val (.int (1 : Int32)), .unset, .unset, .unset, .unset, .unset, .unset, .unset, .unset, .unset, .unset] [(.int (1 : Int32))]) _ _ _
      refine own_to (fun t k => XS.istore X0.here hx rfl (hb hby at_18) rfl (l' := #[.val (.int x0), .val (.int x1), .val (.int x2), .val (.int x3), .val (.int x4), .val (.int (1 : Int32)), .val (.int (1 : Int32)), .unset, .unset, .unset, .unset, .unset, .unset, .unset, .unset, .unset]) rfl k) ?_
      show own_Out p e below _ s₁ (mkF m 20 #[.val (.int x0), .val (.int x1), .val (.int x2), .val (.int x3), .val (.int x4), .val (.int (1 : Int32)), .val (.int (1 : Int32)), .unset, .unset, .unset, .unset, .unset, .unset, .unset, .unset, .unset] []) _ _ _
      refine own_new X0 hx hZ hown (hw _ (List.mem_of_getElem? (i := 0) rfl)) (hw _ (List.mem_of_getElem? (i := 1) rfl)) (hw _ (List.mem_of_getElem? (i := 2) rfl)) e0 rfl (hb hby at_20) (by decide) (by decide) fun T21 hh21 ob21 gb21 X21 e21 E21 A21 D21 => ?_
      have g_ob21 : n0 ≤ ob21 := Nat.le_trans Z0 (Nat.le_of_eq gb21.symm)
      have Z0 := Nat.le_trans Z0 E21.1
      have E_ob21 := A21
      have F_ob21_messageFrames : Fld Z hh21 ob21 "com/example/mingle/mingle/FrameCounts" "messageFrames" "J" (.long (0 : Int64)) := D21 (Or.inl (hw _ (List.mem_of_getElem? (i := 15) rfl))) (ty := .long) (by decide)
      have F_ob21_messageBytes : Fld Z hh21 ob21 "com/example/mingle/mingle/FrameCounts" "messageBytes" "J" (.long (0 : Int64)) := D21 (Or.inl (hw _ (List.mem_of_getElem? (i := 22) rfl))) (ty := .long) (by decide)
      have F_ob21_ackFrames : Fld Z hh21 ob21 "com/example/mingle/mingle/FrameCounts" "ackFrames" "J" (.long (0 : Int64)) := D21 (Or.inl (hw _ (List.mem_of_getElem? (i := 29) rfl))) (ty := .long) (by decide)
      have F_ob21_ackBytes : Fld Z hh21 ob21 "com/example/mingle/mingle/FrameCounts" "ackBytes" "J" (.long (0 : Int64)) := D21 (Or.inl (hw _ (List.mem_of_getElem? (i := 36) rfl))) (ty := .long) (by decide)
      show own_Out p e below _ T21 (mkF m 23 #[.val (.int x0), .val (.int x1), .val (.int x2), .val (.int x3), .val (.int x4), .val (.int (1 : Int32)), .val (.int (1 : Int32)), .unset, .unset, .unset, .unset, .unset, .unset, .unset, .unset, .unset] [(.ref ob21)]) _ _ _
      refine own_to (fun t k => XS.dup X21.here hx rfl (hb hby at_23) rfl rfl k) ?_
      show own_Out p e below _ T21 (mkF m 24 #[.val (.int x0), .val (.int x1), .val (.int x2), .val (.int x3), .val (.int x4), .val (.int (1 : Int32)), .val (.int (1 : Int32)), .unset, .unset, .unset, .unset, .unset, .unset, .unset, .unset, .unset] [(.ref ob21), (.ref ob21)]) _ _ _
      refine own_callC X21 hx hZ hown (a := ob21) (argsL := []) (rest := [(.ref ob21)]) rfl (hw _ (List.mem_of_getElem? (i := 3) rfl)) (hw _ (List.mem_of_getElem? (i := 4) rfl)) (hw _ (List.mem_of_getElem? (i := 2) rfl)) (hw _ (List.mem_of_getElem? (i := 5) rfl)) (by decide) (rm1 l Z a0 hw ob21 hh21 n0 Z0 ) (by decide) (by decide) e21 rfl (by rw [hml]; rfl) (lenOf pd_0 rfl) rfl (W := 1) (by show 2 * 0 + _ ≤ _; exact Nat.le_of_eq rfl) (hb hby at_24) (by decide) (by decide) fun v22 T22 hh22 L22 X22 e22 hQ22 => ?_
      obtain ⟨rfl, NL22, he22⟩ := hQ22
      replace e22 := e22.trans he22
      have N22 := Fr.app N0 NL22
      show own_Out p e below _ T22 (mkF m 27 #[.val (.int x0), .val (.int x1), .val (.int x2), .val (.int x3), .val (.int x4), .val (.int (1 : Int32)), .val (.int (1 : Int32)), .unset, .unset, .unset, .unset, .unset, .unset, .unset, .unset, .unset] [(.ref ob21)]) _ _ _
      refine own_to (fun t k => XS.astore X22.here hx rfl (hb hby at_27) rfl rfl (l' := #[.val (.int x0), .val (.int x1), .val (.int x2), .val (.int x3), .val (.int x4), .val (.int (1 : Int32)), .val (.int (1 : Int32)), .val (.ref ob21), .unset, .unset, .unset, .unset, .unset, .unset, .unset, .unset]) rfl k) ?_
      show own_Out p e below _ T22 (mkF m 29 #[.val (.int x0), .val (.int x1), .val (.int x2), .val (.int x3), .val (.int x4), .val (.int (1 : Int32)), .val (.int (1 : Int32)), .val (.ref ob21), .unset, .unset, .unset, .unset, .unset, .unset, .unset, .unset] []) _ _ _
      refine own_to (fun t k => XS.iload X22.here hx rfl (hb hby at_29) rfl k) ?_
      show own_Out p e below _ T22 (mkF m 31 #[.val (.int x0), .val (.int x1), .val (.int x2), .val (.int x3), .val (.int x4), .val (.int (1 : Int32)), .val (.int (1 : Int32)), .val (.ref ob21), .unset, .unset, .unset, .unset, .unset, .unset, .unset, .unset] [(.int (1 : Int32))]) _ _ _
      refine own_to (fun t k => XS.iconst X22.here hx rfl (hb hby at_31) k) ?_
      show own_Out p e below _ T22 (mkF m 32 #[.val (.int x0), .val (.int x1), .val (.int x2), .val (.int x3), .val (.int x4), .val (.int (1 : Int32)), .val (.int (1 : Int32)), .val (.ref ob21), .unset, .unset, .unset, .unset, .unset, .unset, .unset, .unset] [(.int (1 : Int32)), (.int (1 : Int32))]) _ _ _
      have hc32 : ¬ ((1 : Int32) < (1 : Int32)) := by decide
      refine own_to (fun t k => XS.icmpNo X22.here hx rfl (hb hby at_32) rfl (flt hc32).1 k) ?_
      show own_Out p e below _ T22 (mkF m 35 #[.val (.int x0), .val (.int x1), .val (.int x2), .val (.int x3), .val (.int x4), .val (.int (1 : Int32)), .val (.int (1 : Int32)), .val (.ref ob21), .unset, .unset, .unset, .unset, .unset, .unset, .unset, .unset] []) _ _ _
      refine own_to (fun t k => XS.aload X22.here hx rfl (hb hby at_35) rfl rfl k) ?_
      show own_Out p e below _ T22 (mkF m 37 #[.val (.int x0), .val (.int x1), .val (.int x2), .val (.int x3), .val (.int x4), .val (.int (1 : Int32)), .val (.int (1 : Int32)), .val (.ref ob21), .unset, .unset, .unset, .unset, .unset, .unset, .unset, .unset] [(.ref ob21)]) _ _ _
      refine own_to (fun t k => XS.iloadN X22.here hx rfl (hb hby at_37) rfl k) ?_
      show own_Out p e below _ T22 (mkF m 38 #[.val (.int x0), .val (.int x1), .val (.int x2), .val (.int x3), .val (.int x4), .val (.int (1 : Int32)), .val (.int (1 : Int32)), .val (.ref ob21), .unset, .unset, .unset, .unset, .unset, .unset, .unset, .unset] [(.int x0), (.ref ob21)]) _ _ _
      refine own_callV X22 hx hZ hown (a := ob21) (argsL := [(.int x0)]) (rest := []) (hw _ (List.mem_of_getElem? (i := 37) rfl)) (hw _ (List.mem_of_getElem? (i := 38) rfl)) (hw _ (List.mem_of_getElem? (i := 40) rfl)) (hw _ (List.mem_of_getElem? (i := 39) rfl)) (hw _ (List.mem_of_getElem? (i := 2) rfl)) (hw _ (List.mem_of_getElem? (i := 41) rfl)) (by decide) (rm7 l Z a0 hw ob21 x0 (0 : Int64) (0 : Int64) (0 : Int64) (0 : Int64) hh21 n0 Z0 E_ob21 F_ob21_messageFrames F_ob21_messageBytes g_ob21 F_ob21_ackFrames F_ob21_ackBytes) (by decide) (by decide) e22 E_ob21 rfl (by rw [hml]; rfl) (lenOf pd_2 rfl) rfl (W := 0) (by show 2 * 0 + _ ≤ _; exact Nat.le_of_eq rfl) (hb hby at_38) (by decide) (by decide) fun v23 T23 hh23 L23 X23 e23 hQ23 => ?_
      obtain ⟨rfl, NL23, KK23, P23_0, P23_1, P23_2, P23_3⟩ := hQ23
      have E_ob21 := E_ob21.keep KK23
      have F_ob21_messageFrames := P23_0
      have F_ob21_messageBytes := P23_1
      have F_ob21_ackFrames := P23_2
      have F_ob21_ackBytes := P23_3
      have Z0 := Nat.le_trans Z0 KK23.1
      have N23 := Fr.app N22 NL23
      show own_Out p e below _ T23 (mkF m 41 #[.val (.int x0), .val (.int x1), .val (.int x2), .val (.int x3), .val (.int x4), .val (.int (1 : Int32)), .val (.int (1 : Int32)), .val (.ref ob21), .unset, .unset, .unset, .unset, .unset, .unset, .unset, .unset] []) _ _ _
      refine own_to (fun t k => XS.iload X23.here hx rfl (hb hby at_41) rfl k) ?_
      show own_Out p e below _ T23 (mkF m 43 #[.val (.int x0), .val (.int x1), .val (.int x2), .val (.int x3), .val (.int x4), .val (.int (1 : Int32)), .val (.int (1 : Int32)), .val (.ref ob21), .unset, .unset, .unset, .unset, .unset, .unset, .unset, .unset] [(.int (1 : Int32))]) _ _ _
      have hc43 : ¬ ((1 : Int32) = (0 : Int32)) := by decide
      refine own_to (fun t k => XS.ifNo X23.here hx rfl (hb hby at_43) rfl ((if0 _ _).trans (feq hc43).1) k) ?_
      show own_Out p e below _ T23 (mkF m 46 #[.val (.int x0), .val (.int x1), .val (.int x2), .val (.int x3), .val (.int x4), .val (.int (1 : Int32)), .val (.int (1 : Int32)), .val (.ref ob21), .unset, .unset, .unset, .unset, .unset, .unset, .unset, .unset] []) _ _ _
      refine own_to (fun t k => XS.aload X23.here hx rfl (hb hby at_46) rfl rfl k) ?_
      show own_Out p e below _ T23 (mkF m 48 #[.val (.int x0), .val (.int x1), .val (.int x2), .val (.int x3), .val (.int x4), .val (.int (1 : Int32)), .val (.int (1 : Int32)), .val (.ref ob21), .unset, .unset, .unset, .unset, .unset, .unset, .unset, .unset] [(.ref ob21)]) _ _ _
      refine own_to (fun t k => XS.iloadN X23.here hx rfl (hb hby at_48) rfl k) ?_
      show own_Out p e below _ T23 (mkF m 49 #[.val (.int x0), .val (.int x1), .val (.int x2), .val (.int x3), .val (.int x4), .val (.int (1 : Int32)), .val (.int (1 : Int32)), .val (.ref ob21), .unset, .unset, .unset, .unset, .unset, .unset, .unset, .unset] [(.int x3), (.ref ob21)]) _ _ _
      refine own_callV X23 hx hZ hown (a := ob21) (argsL := [(.int x3)]) (rest := []) (hw _ (List.mem_of_getElem? (i := 42) rfl)) (hw _ (List.mem_of_getElem? (i := 43) rfl)) (hw _ (List.mem_of_getElem? (i := 45) rfl)) (hw _ (List.mem_of_getElem? (i := 44) rfl)) (hw _ (List.mem_of_getElem? (i := 2) rfl)) (hw _ (List.mem_of_getElem? (i := 46) rfl)) (by decide) (rm8 l Z a0 hw ob21 x3 (0 : Int64) (0 : Int64) ((0 : Int64) + (1 : Int64)) ((0 : Int64) + (x0.toInt64)) hh23 n0 Z0 E_ob21 F_ob21_ackFrames F_ob21_ackBytes g_ob21 F_ob21_messageFrames F_ob21_messageBytes) (by decide) (by decide) e23 E_ob21 rfl (by rw [hml]; rfl) (lenOf pd_2 rfl) rfl (W := 0) (by show 2 * 0 + _ ≤ _; exact Nat.le_of_eq rfl) (hb hby at_49) (by decide) (by decide) fun v24 T24 hh24 L24 X24 e24 hQ24 => ?_
      obtain ⟨rfl, NL24, KK24, P24_0, P24_1, P24_2, P24_3⟩ := hQ24
      have E_ob21 := E_ob21.keep KK24
      have F_ob21_ackFrames := P24_0
      have F_ob21_ackBytes := P24_1
      have F_ob21_messageFrames := P24_2
      have F_ob21_messageBytes := P24_3
      have Z0 := Nat.le_trans Z0 KK24.1
      have N24 := Fr.app N23 NL24
      show own_Out p e below _ T24 (mkF m 52 #[.val (.int x0), .val (.int x1), .val (.int x2), .val (.int x3), .val (.int x4), .val (.int (1 : Int32)), .val (.int (1 : Int32)), .val (.ref ob21), .unset, .unset, .unset, .unset, .unset, .unset, .unset, .unset] []) _ _ _
      refine own_to (fun t k => XS.iload X24.here hx rfl (hb hby at_52) rfl k) ?_
      show own_Out p e below _ T24 (mkF m 54 #[.val (.int x0), .val (.int x1), .val (.int x2), .val (.int x3), .val (.int x4), .val (.int (1 : Int32)), .val (.int (1 : Int32)), .val (.ref ob21), .unset, .unset, .unset, .unset, .unset, .unset, .unset, .unset] [(.int (1 : Int32))]) _ _ _
      refine own_to (fun t k => XS.iconst X24.here hx rfl (hb hby at_54) k) ?_
      show own_Out p e below _ T24 (mkF m 55 #[.val (.int x0), .val (.int x1), .val (.int x2), .val (.int x3), .val (.int x4), .val (.int (1 : Int32)), .val (.int (1 : Int32)), .val (.ref ob21), .unset, .unset, .unset, .unset, .unset, .unset, .unset, .unset] [(.int (2 : Int32)), (.int (1 : Int32))]) _ _ _
      have hc55 : (1 : Int32) < (2 : Int32) := by decide
      refine own_to (fun t k => XS.icmpYes X24.here hx rfl (pc0 := 55) (pc' := 64) rfl (hb hby at_55) rfl (tlt hc55).1 (by decide) (by decide) k) ?_
      show own_Out p e below _ T24 (mkF m 64 #[.val (.int x0), .val (.int x1), .val (.int x2), .val (.int x3), .val (.int x4), .val (.int (1 : Int32)), .val (.int (1 : Int32)), .val (.ref ob21), .unset, .unset, .unset, .unset, .unset, .unset, .unset, .unset] []) _ _ _
      refine own_to (fun t k => XS.iload X24.here hx rfl (hb hby at_64) rfl k) ?_
      show own_Out p e below _ T24 (mkF m 66 #[.val (.int x0), .val (.int x1), .val (.int x2), .val (.int x3), .val (.int x4), .val (.int (1 : Int32)), .val (.int (1 : Int32)), .val (.ref ob21), .unset, .unset, .unset, .unset, .unset, .unset, .unset, .unset] [(.int (1 : Int32))]) _ _ _
      refine own_to (fun t k => XS.iconst X24.here hx rfl (hb hby at_66) k) ?_
      show own_Out p e below _ T24 (mkF m 67 #[.val (.int x0), .val (.int x1), .val (.int x2), .val (.int x3), .val (.int x4), .val (.int (1 : Int32)), .val (.int (1 : Int32)), .val (.ref ob21), .unset, .unset, .unset, .unset, .unset, .unset, .unset, .unset] [(.int (3 : Int32)), (.int (1 : Int32))]) _ _ _
      have hc67 : (1 : Int32) < (3 : Int32) := by decide
      refine own_to (fun t k => XS.icmpYes X24.here hx rfl (pc0 := 67) (pc' := 76) rfl (hb hby at_67) rfl (tlt hc67).1 (by decide) (by decide) k) ?_
      show own_Out p e below _ T24 (mkF m 76 #[.val (.int x0), .val (.int x1), .val (.int x2), .val (.int x3), .val (.int x4), .val (.int (1 : Int32)), .val (.int (1 : Int32)), .val (.ref ob21), .unset, .unset, .unset, .unset, .unset, .unset, .unset, .unset] []) _ _ _
      refine own_to (fun t k => XS.iload X24.here hx rfl (hb hby at_76) rfl k) ?_
      show own_Out p e below _ T24 (mkF m 78 #[.val (.int x0), .val (.int x1), .val (.int x2), .val (.int x3), .val (.int x4), .val (.int (1 : Int32)), .val (.int (1 : Int32)), .val (.ref ob21), .unset, .unset, .unset, .unset, .unset, .unset, .unset, .unset] [(.int (1 : Int32))]) _ _ _
      refine own_to (fun t k => XS.i2l X24.here hx rfl (hb hby at_78) rfl k) ?_
      show own_Out p e below _ T24 (mkF m 79 #[.val (.int x0), .val (.int x1), .val (.int x2), .val (.int x3), .val (.int x4), .val (.int (1 : Int32)), .val (.int (1 : Int32)), .val (.ref ob21), .unset, .unset, .unset, .unset, .unset, .unset, .unset, .unset] [(.long ((1 : Int32).toInt64))]) _ _ _
      refine own_to (fun t k => XS.lstore X24.here hx rfl (hb hby at_79) rfl (l' := #[.val (.int x0), .val (.int x1), .val (.int x2), .val (.int x3), .val (.int x4), .val (.int (1 : Int32)), .val (.int (1 : Int32)), .val (.ref ob21), .val (.long ((1 : Int32).toInt64)), .second, .unset, .unset, .unset, .unset, .unset, .unset]) rfl k) ?_
      show own_Out p e below _ T24 (mkF m 81 #[.val (.int x0), .val (.int x1), .val (.int x2), .val (.int x3), .val (.int x4), .val (.int (1 : Int32)), .val (.int (1 : Int32)), .val (.ref ob21), .val (.long ((1 : Int32).toInt64)), .second, .unset, .unset, .unset, .unset, .unset, .unset] []) _ _ _
      refine own_to (fun t k => XS.lconst X24.here hx rfl (hb hby at_81) k) ?_
      show own_Out p e below _ T24 (mkF m 82 #[.val (.int x0), .val (.int x1), .val (.int x2), .val (.int x3), .val (.int x4), .val (.int (1 : Int32)), .val (.int (1 : Int32)), .val (.ref ob21), .val (.long ((1 : Int32).toInt64)), .second, .unset, .unset, .unset, .unset, .unset, .unset] [(.long (0 : Int64))]) _ _ _
      refine own_to (fun t k => XS.lstore X24.here hx rfl (hb hby at_82) rfl (l' := #[.val (.int x0), .val (.int x1), .val (.int x2), .val (.int x3), .val (.int x4), .val (.int (1 : Int32)), .val (.int (1 : Int32)), .val (.ref ob21), .val (.long ((1 : Int32).toInt64)), .second, .val (.long (0 : Int64)), .second, .unset, .unset, .unset, .unset]) rfl k) ?_
      show own_Out p e below _ T24 (mkF m 84 #[.val (.int x0), .val (.int x1), .val (.int x2), .val (.int x3), .val (.int x4), .val (.int (1 : Int32)), .val (.int (1 : Int32)), .val (.ref ob21), .val (.long ((1 : Int32).toInt64)), .second, .val (.long (0 : Int64)), .second, .unset, .unset, .unset, .unset] []) _ _ _
      refine own_to (fun t k => XS.iload X24.here hx rfl (hb hby at_84) rfl k) ?_
      show own_Out p e below _ T24 (mkF m 86 #[.val (.int x0), .val (.int x1), .val (.int x2), .val (.int x3), .val (.int x4), .val (.int (1 : Int32)), .val (.int (1 : Int32)), .val (.ref ob21), .val (.long ((1 : Int32).toInt64)), .second, .val (.long (0 : Int64)), .second, .unset, .unset, .unset, .unset] [(.int (1 : Int32))]) _ _ _
      refine own_to (fun t k => XS.iconst X24.here hx rfl (hb hby at_86) k) ?_
      show own_Out p e below _ T24 (mkF m 87 #[.val (.int x0), .val (.int x1), .val (.int x2), .val (.int x3), .val (.int x4), .val (.int (1 : Int32)), .val (.int (1 : Int32)), .val (.ref ob21), .val (.long ((1 : Int32).toInt64)), .second, .val (.long (0 : Int64)), .second, .unset, .unset, .unset, .unset] [(.int (1 : Int32)), (.int (1 : Int32))]) _ _ _
      have hc87 : ¬ ((1 : Int32) < (1 : Int32)) := by decide
      refine own_to (fun t k => XS.icmpNo X24.here hx rfl (hb hby at_87) rfl (flt hc87).1 k) ?_
      show own_Out p e below _ T24 (mkF m 90 #[.val (.int x0), .val (.int x1), .val (.int x2), .val (.int x3), .val (.int x4), .val (.int (1 : Int32)), .val (.int (1 : Int32)), .val (.ref ob21), .val (.long ((1 : Int32).toInt64)), .second, .val (.long (0 : Int64)), .second, .unset, .unset, .unset, .unset] []) _ _ _
      refine own_to (fun t k => XS.lload X24.here hx rfl (hb hby at_90) rfl k) ?_
      show own_Out p e below _ T24 (mkF m 92 #[.val (.int x0), .val (.int x1), .val (.int x2), .val (.int x3), .val (.int x4), .val (.int (1 : Int32)), .val (.int (1 : Int32)), .val (.ref ob21), .val (.long ((1 : Int32).toInt64)), .second, .val (.long (0 : Int64)), .second, .unset, .unset, .unset, .unset] [(.long (0 : Int64))]) _ _ _
      refine own_to (fun t k => XS.iloadN X24.here hx rfl (hb hby at_92) rfl k) ?_
      show own_Out p e below _ T24 (mkF m 93 #[.val (.int x0), .val (.int x1), .val (.int x2), .val (.int x3), .val (.int x4), .val (.int (1 : Int32)), .val (.int (1 : Int32)), .val (.ref ob21), .val (.long ((1 : Int32).toInt64)), .second, .val (.long (0 : Int64)), .second, .unset, .unset, .unset, .unset] [(.int x0), (.long (0 : Int64))]) _ _ _
      refine own_to (fun t k => XS.i2l X24.here hx rfl (hb hby at_93) rfl k) ?_
      show own_Out p e below _ T24 (mkF m 94 #[.val (.int x0), .val (.int x1), .val (.int x2), .val (.int x3), .val (.int x4), .val (.int (1 : Int32)), .val (.int (1 : Int32)), .val (.ref ob21), .val (.long ((1 : Int32).toInt64)), .second, .val (.long (0 : Int64)), .second, .unset, .unset, .unset, .unset] [(.long (x0.toInt64)), (.long (0 : Int64))]) _ _ _
      refine own_to (fun t k => XS.ladd X24.here hx rfl (hb hby at_94) rfl k) ?_
      show own_Out p e below _ T24 (mkF m 95 #[.val (.int x0), .val (.int x1), .val (.int x2), .val (.int x3), .val (.int x4), .val (.int (1 : Int32)), .val (.int (1 : Int32)), .val (.ref ob21), .val (.long ((1 : Int32).toInt64)), .second, .val (.long (0 : Int64)), .second, .unset, .unset, .unset, .unset] [(.long ((0 : Int64) + (x0.toInt64)))]) _ _ _
      refine own_to (fun t k => XS.lstore X24.here hx rfl (hb hby at_95) rfl (l' := #[.val (.int x0), .val (.int x1), .val (.int x2), .val (.int x3), .val (.int x4), .val (.int (1 : Int32)), .val (.int (1 : Int32)), .val (.ref ob21), .val (.long ((1 : Int32).toInt64)), .second, .val (.long ((0 : Int64) + (x0.toInt64))), .second, .unset, .unset, .unset, .unset]) rfl k) ?_
      show own_Out p e below _ T24 (mkF m 97 #[.val (.int x0), .val (.int x1), .val (.int x2), .val (.int x3), .val (.int x4), .val (.int (1 : Int32)), .val (.int (1 : Int32)), .val (.ref ob21), .val (.long ((1 : Int32).toInt64)), .second, .val (.long ((0 : Int64) + (x0.toInt64))), .second, .unset, .unset, .unset, .unset] []) _ _ _
      refine own_to (fun t k => XS.iload X24.here hx rfl (hb hby at_97) rfl k) ?_
      show own_Out p e below _ T24 (mkF m 99 #[.val (.int x0), .val (.int x1), .val (.int x2), .val (.int x3), .val (.int x4), .val (.int (1 : Int32)), .val (.int (1 : Int32)), .val (.ref ob21), .val (.long ((1 : Int32).toInt64)), .second, .val (.long ((0 : Int64) + (x0.toInt64))), .second, .unset, .unset, .unset, .unset] [(.int (1 : Int32))]) _ _ _
      refine own_to (fun t k => XS.iconst X24.here hx rfl (hb hby at_99) k) ?_
      show own_Out p e below _ T24 (mkF m 100 #[.val (.int x0), .val (.int x1), .val (.int x2), .val (.int x3), .val (.int x4), .val (.int (1 : Int32)), .val (.int (1 : Int32)), .val (.ref ob21), .val (.long ((1 : Int32).toInt64)), .second, .val (.long ((0 : Int64) + (x0.toInt64))), .second, .unset, .unset, .unset, .unset] [(.int (2 : Int32)), (.int (1 : Int32))]) _ _ _
      have hc100 : (1 : Int32) < (2 : Int32) := by decide
      refine own_to (fun t k => XS.icmpYes X24.here hx rfl (pc0 := 100) (pc' := 110) rfl (hb hby at_100) rfl (tlt hc100).1 (by decide) (by decide) k) ?_
      show own_Out p e below _ T24 (mkF m 110 #[.val (.int x0), .val (.int x1), .val (.int x2), .val (.int x3), .val (.int x4), .val (.int (1 : Int32)), .val (.int (1 : Int32)), .val (.ref ob21), .val (.long ((1 : Int32).toInt64)), .second, .val (.long ((0 : Int64) + (x0.toInt64))), .second, .unset, .unset, .unset, .unset] []) _ _ _
      refine own_to (fun t k => XS.iload X24.here hx rfl (hb hby at_110) rfl k) ?_
      show own_Out p e below _ T24 (mkF m 112 #[.val (.int x0), .val (.int x1), .val (.int x2), .val (.int x3), .val (.int x4), .val (.int (1 : Int32)), .val (.int (1 : Int32)), .val (.ref ob21), .val (.long ((1 : Int32).toInt64)), .second, .val (.long ((0 : Int64) + (x0.toInt64))), .second, .unset, .unset, .unset, .unset] [(.int (1 : Int32))]) _ _ _
      refine own_to (fun t k => XS.iconst X24.here hx rfl (hb hby at_112) k) ?_
      show own_Out p e below _ T24 (mkF m 113 #[.val (.int x0), .val (.int x1), .val (.int x2), .val (.int x3), .val (.int x4), .val (.int (1 : Int32)), .val (.int (1 : Int32)), .val (.ref ob21), .val (.long ((1 : Int32).toInt64)), .second, .val (.long ((0 : Int64) + (x0.toInt64))), .second, .unset, .unset, .unset, .unset] [(.int (3 : Int32)), (.int (1 : Int32))]) _ _ _
      have hc113 : (1 : Int32) < (3 : Int32) := by decide
      refine own_to (fun t k => XS.icmpYes X24.here hx rfl (pc0 := 113) (pc' := 123) rfl (hb hby at_113) rfl (tlt hc113).1 (by decide) (by decide) k) ?_
      show own_Out p e below _ T24 (mkF m 123 #[.val (.int x0), .val (.int x1), .val (.int x2), .val (.int x3), .val (.int x4), .val (.int (1 : Int32)), .val (.int (1 : Int32)), .val (.ref ob21), .val (.long ((1 : Int32).toInt64)), .second, .val (.long ((0 : Int64) + (x0.toInt64))), .second, .unset, .unset, .unset, .unset] []) _ _ _
      refine own_to (fun t k => XS.iload X24.here hx rfl (hb hby at_123) rfl k) ?_
      show own_Out p e below _ T24 (mkF m 125 #[.val (.int x0), .val (.int x1), .val (.int x2), .val (.int x3), .val (.int x4), .val (.int (1 : Int32)), .val (.int (1 : Int32)), .val (.ref ob21), .val (.long ((1 : Int32).toInt64)), .second, .val (.long ((0 : Int64) + (x0.toInt64))), .second, .unset, .unset, .unset, .unset] [(.int (1 : Int32))]) _ _ _
      have hc125 : ¬ ((1 : Int32) = (0 : Int32)) := by decide
      refine own_to (fun t k => XS.ifNo X24.here hx rfl (hb hby at_125) rfl ((if0 _ _).trans (feq hc125).1) k) ?_
      show own_Out p e below _ T24 (mkF m 128 #[.val (.int x0), .val (.int x1), .val (.int x2), .val (.int x3), .val (.int x4), .val (.int (1 : Int32)), .val (.int (1 : Int32)), .val (.ref ob21), .val (.long ((1 : Int32).toInt64)), .second, .val (.long ((0 : Int64) + (x0.toInt64))), .second, .unset, .unset, .unset, .unset] []) _ _ _
      refine own_to (fun t k => XS.lconst X24.here hx rfl (hb hby at_128) k) ?_
      show own_Out p e below _ T24 (mkF m 129 #[.val (.int x0), .val (.int x1), .val (.int x2), .val (.int x3), .val (.int x4), .val (.int (1 : Int32)), .val (.int (1 : Int32)), .val (.ref ob21), .val (.long ((1 : Int32).toInt64)), .second, .val (.long ((0 : Int64) + (x0.toInt64))), .second, .unset, .unset, .unset, .unset] [(.long (1 : Int64))]) _ _ _
      refine own_to (fun t k => XS.goto X24.here hx rfl (pc0 := 129) (pc' := 133) rfl (hb hby at_129) (by decide) (by decide) k) ?_
      show own_Out p e below _ T24 (mkF m 133 #[.val (.int x0), .val (.int x1), .val (.int x2), .val (.int x3), .val (.int x4), .val (.int (1 : Int32)), .val (.int (1 : Int32)), .val (.ref ob21), .val (.long ((1 : Int32).toInt64)), .second, .val (.long ((0 : Int64) + (x0.toInt64))), .second, .unset, .unset, .unset, .unset] [(.long (1 : Int64))]) _ _ _
      refine own_to (fun t k => XS.lstore X24.here hx rfl (hb hby at_133) rfl (l' := #[.val (.int x0), .val (.int x1), .val (.int x2), .val (.int x3), .val (.int x4), .val (.int (1 : Int32)), .val (.int (1 : Int32)), .val (.ref ob21), .val (.long ((1 : Int32).toInt64)), .second, .val (.long ((0 : Int64) + (x0.toInt64))), .second, .val (.long (1 : Int64)), .second, .unset, .unset]) rfl k) ?_
      show own_Out p e below _ T24 (mkF m 135 #[.val (.int x0), .val (.int x1), .val (.int x2), .val (.int x3), .val (.int x4), .val (.int (1 : Int32)), .val (.int (1 : Int32)), .val (.ref ob21), .val (.long ((1 : Int32).toInt64)), .second, .val (.long ((0 : Int64) + (x0.toInt64))), .second, .val (.long (1 : Int64)), .second, .unset, .unset] []) _ _ _
      refine own_to (fun t k => XS.iload X24.here hx rfl (hb hby at_135) rfl k) ?_
      show own_Out p e below _ T24 (mkF m 137 #[.val (.int x0), .val (.int x1), .val (.int x2), .val (.int x3), .val (.int x4), .val (.int (1 : Int32)), .val (.int (1 : Int32)), .val (.ref ob21), .val (.long ((1 : Int32).toInt64)), .second, .val (.long ((0 : Int64) + (x0.toInt64))), .second, .val (.long (1 : Int64)), .second, .unset, .unset] [(.int (1 : Int32))]) _ _ _
      have hc137 : ¬ ((1 : Int32) = (0 : Int32)) := by decide
      refine own_to (fun t k => XS.ifNo X24.here hx rfl (hb hby at_137) rfl ((if0 _ _).trans (feq hc137).1) k) ?_
      show own_Out p e below _ T24 (mkF m 140 #[.val (.int x0), .val (.int x1), .val (.int x2), .val (.int x3), .val (.int x4), .val (.int (1 : Int32)), .val (.int (1 : Int32)), .val (.ref ob21), .val (.long ((1 : Int32).toInt64)), .second, .val (.long ((0 : Int64) + (x0.toInt64))), .second, .val (.long (1 : Int64)), .second, .unset, .unset] []) _ _ _
      refine own_to (fun t k => XS.iloadN X24.here hx rfl (hb hby at_140) rfl k) ?_
      show own_Out p e below _ T24 (mkF m 141 #[.val (.int x0), .val (.int x1), .val (.int x2), .val (.int x3), .val (.int x4), .val (.int (1 : Int32)), .val (.int (1 : Int32)), .val (.ref ob21), .val (.long ((1 : Int32).toInt64)), .second, .val (.long ((0 : Int64) + (x0.toInt64))), .second, .val (.long (1 : Int64)), .second, .unset, .unset] [(.int x3)]) _ _ _
      refine own_to (fun t k => XS.i2l X24.here hx rfl (hb hby at_141) rfl k) ?_
      show own_Out p e below _ T24 (mkF m 142 #[.val (.int x0), .val (.int x1), .val (.int x2), .val (.int x3), .val (.int x4), .val (.int (1 : Int32)), .val (.int (1 : Int32)), .val (.ref ob21), .val (.long ((1 : Int32).toInt64)), .second, .val (.long ((0 : Int64) + (x0.toInt64))), .second, .val (.long (1 : Int64)), .second, .unset, .unset] [(.long (x3.toInt64))]) _ _ _
      refine own_to (fun t k => XS.goto X24.here hx rfl (pc0 := 142) (pc' := 146) rfl (hb hby at_142) (by decide) (by decide) k) ?_
      show own_Out p e below _ T24 (mkF m 146 #[.val (.int x0), .val (.int x1), .val (.int x2), .val (.int x3), .val (.int x4), .val (.int (1 : Int32)), .val (.int (1 : Int32)), .val (.ref ob21), .val (.long ((1 : Int32).toInt64)), .second, .val (.long ((0 : Int64) + (x0.toInt64))), .second, .val (.long (1 : Int64)), .second, .unset, .unset] [(.long (x3.toInt64))]) _ _ _
      refine own_to (fun t k => XS.lstore X24.here hx rfl (hb hby at_146) rfl (l' := #[.val (.int x0), .val (.int x1), .val (.int x2), .val (.int x3), .val (.int x4), .val (.int (1 : Int32)), .val (.int (1 : Int32)), .val (.ref ob21), .val (.long ((1 : Int32).toInt64)), .second, .val (.long ((0 : Int64) + (x0.toInt64))), .second, .val (.long (1 : Int64)), .second, .val (.long (x3.toInt64)), .second]) rfl k) ?_
      show own_Out p e below _ T24 (mkF m 148 #[.val (.int x0), .val (.int x1), .val (.int x2), .val (.int x3), .val (.int x4), .val (.int (1 : Int32)), .val (.int (1 : Int32)), .val (.ref ob21), .val (.long ((1 : Int32).toInt64)), .second, .val (.long ((0 : Int64) + (x0.toInt64))), .second, .val (.long (1 : Int64)), .second, .val (.long (x3.toInt64)), .second] []) _ _ _
      refine own_to (fun t k => XS.aload X24.here hx rfl (hb hby at_148) rfl rfl k) ?_
      show own_Out p e below _ T24 (mkF m 150 #[.val (.int x0), .val (.int x1), .val (.int x2), .val (.int x3), .val (.int x4), .val (.int (1 : Int32)), .val (.int (1 : Int32)), .val (.ref ob21), .val (.long ((1 : Int32).toInt64)), .second, .val (.long ((0 : Int64) + (x0.toInt64))), .second, .val (.long (1 : Int64)), .second, .val (.long (x3.toInt64)), .second] [(.ref ob21)]) _ _ _
      refine own_callV X24 hx hZ hown (a := ob21) (argsL := []) (rest := []) (hw _ (List.mem_of_getElem? (i := 9) rfl)) (hw _ (List.mem_of_getElem? (i := 10) rfl)) (hw _ (List.mem_of_getElem? (i := 12) rfl)) (hw _ (List.mem_of_getElem? (i := 11) rfl)) (hw _ (List.mem_of_getElem? (i := 2) rfl)) (hw _ (List.mem_of_getElem? (i := 13) rfl)) (by decide) (rm3 l Z a0 hw ob21 ((0 : Int64) + (1 : Int64)) hh24 n0 Z0 F_ob21_messageFrames) (by decide) (by decide) e24 E_ob21 rfl (by rw [hml]; rfl) (lenOf pd_1 rfl) rfl (W := 0) (by show 2 * 0 + _ ≤ _; exact Nat.le_of_eq rfl) (hb hby at_150) (by decide) (by decide) fun v25 T25 hh25 L25 X25 e25 hQ25 => ?_
      obtain ⟨rfl, NL25, he25⟩ := hQ25
      replace e25 := e25.trans he25
      have N25 := Fr.app N24 NL25
      show own_Out p e below _ T25 (mkF m 153 #[.val (.int x0), .val (.int x1), .val (.int x2), .val (.int x3), .val (.int x4), .val (.int (1 : Int32)), .val (.int (1 : Int32)), .val (.ref ob21), .val (.long ((1 : Int32).toInt64)), .second, .val (.long ((0 : Int64) + (x0.toInt64))), .second, .val (.long (1 : Int64)), .second, .val (.long (x3.toInt64)), .second] [(.long ((0 : Int64) + (1 : Int64)))]) _ _ _
      refine own_to (fun t k => XS.lload X25.here hx rfl (hb hby at_153) rfl k) ?_
      show own_Out p e below _ T25 (mkF m 155 #[.val (.int x0), .val (.int x1), .val (.int x2), .val (.int x3), .val (.int x4), .val (.int (1 : Int32)), .val (.int (1 : Int32)), .val (.ref ob21), .val (.long ((1 : Int32).toInt64)), .second, .val (.long ((0 : Int64) + (x0.toInt64))), .second, .val (.long (1 : Int64)), .second, .val (.long (x3.toInt64)), .second] [(.long ((1 : Int32).toInt64)), (.long ((0 : Int64) + (1 : Int64)))]) _ _ _
      refine own_to (fun t k => XS.lcmp X25.here hx rfl (hb hby at_155) rfl k) ?_
      show own_Out p e below _ T25 (mkF m 156 #[.val (.int x0), .val (.int x1), .val (.int x2), .val (.int x3), .val (.int x4), .val (.int (1 : Int32)), .val (.int (1 : Int32)), .val (.ref ob21), .val (.long ((1 : Int32).toInt64)), .second, .val (.long ((0 : Int64) + (x0.toInt64))), .second, .val (.long (1 : Int64)), .second, .val (.long (x3.toInt64)), .second] [(.int (lcmpW ((0 : Int64) + (1 : Int64)) ((1 : Int32).toInt64)))]) _ _ _
      have hc156 : ((0 : Int64) + (1 : Int64)) = ((1 : Int32).toInt64) := by first | rfl | decide | (simp only [Int64.zero_add]; done) | simp
      refine own_to (fun t k => XS.ifNo X25.here hx rfl (hb hby at_156) rfl ((if0 _ _).trans (teq ((lw_eq _ _).mpr hc156)).2) k) ?_
      show own_Out p e below _ T25 (mkF m 159 #[.val (.int x0), .val (.int x1), .val (.int x2), .val (.int x3), .val (.int x4), .val (.int (1 : Int32)), .val (.int (1 : Int32)), .val (.ref ob21), .val (.long ((1 : Int32).toInt64)), .second, .val (.long ((0 : Int64) + (x0.toInt64))), .second, .val (.long (1 : Int64)), .second, .val (.long (x3.toInt64)), .second] []) _ _ _
      refine own_to (fun t k => XS.aload X25.here hx rfl (hb hby at_159) rfl rfl k) ?_
      show own_Out p e below _ T25 (mkF m 161 #[.val (.int x0), .val (.int x1), .val (.int x2), .val (.int x3), .val (.int x4), .val (.int (1 : Int32)), .val (.int (1 : Int32)), .val (.ref ob21), .val (.long ((1 : Int32).toInt64)), .second, .val (.long ((0 : Int64) + (x0.toInt64))), .second, .val (.long (1 : Int64)), .second, .val (.long (x3.toInt64)), .second] [(.ref ob21)]) _ _ _
      refine own_callV X25 hx hZ hown (a := ob21) (argsL := []) (rest := []) (hw _ (List.mem_of_getElem? (i := 16) rfl)) (hw _ (List.mem_of_getElem? (i := 17) rfl)) (hw _ (List.mem_of_getElem? (i := 19) rfl)) (hw _ (List.mem_of_getElem? (i := 18) rfl)) (hw _ (List.mem_of_getElem? (i := 2) rfl)) (hw _ (List.mem_of_getElem? (i := 20) rfl)) (by decide) (rm4 l Z a0 hw ob21 ((0 : Int64) + (x0.toInt64)) hh24 n0 Z0 F_ob21_messageBytes) (by decide) (by decide) e25 E_ob21 rfl (by rw [hml]; rfl) (lenOf pd_1 rfl) rfl (W := 0) (by show 2 * 0 + _ ≤ _; exact Nat.le_of_eq rfl) (hb hby at_161) (by decide) (by decide) fun v26 T26 hh26 L26 X26 e26 hQ26 => ?_
      obtain ⟨rfl, NL26, he26⟩ := hQ26
      replace e26 := e26.trans he26
      have N26 := Fr.app N25 NL26
      show own_Out p e below _ T26 (mkF m 164 #[.val (.int x0), .val (.int x1), .val (.int x2), .val (.int x3), .val (.int x4), .val (.int (1 : Int32)), .val (.int (1 : Int32)), .val (.ref ob21), .val (.long ((1 : Int32).toInt64)), .second, .val (.long ((0 : Int64) + (x0.toInt64))), .second, .val (.long (1 : Int64)), .second, .val (.long (x3.toInt64)), .second] [(.long ((0 : Int64) + (x0.toInt64)))]) _ _ _
      refine own_to (fun t k => XS.lload X26.here hx rfl (hb hby at_164) rfl k) ?_
      show own_Out p e below _ T26 (mkF m 166 #[.val (.int x0), .val (.int x1), .val (.int x2), .val (.int x3), .val (.int x4), .val (.int (1 : Int32)), .val (.int (1 : Int32)), .val (.ref ob21), .val (.long ((1 : Int32).toInt64)), .second, .val (.long ((0 : Int64) + (x0.toInt64))), .second, .val (.long (1 : Int64)), .second, .val (.long (x3.toInt64)), .second] [(.long ((0 : Int64) + (x0.toInt64))), (.long ((0 : Int64) + (x0.toInt64)))]) _ _ _
      refine own_to (fun t k => XS.lcmp X26.here hx rfl (hb hby at_166) rfl k) ?_
      show own_Out p e below _ T26 (mkF m 167 #[.val (.int x0), .val (.int x1), .val (.int x2), .val (.int x3), .val (.int x4), .val (.int (1 : Int32)), .val (.int (1 : Int32)), .val (.ref ob21), .val (.long ((1 : Int32).toInt64)), .second, .val (.long ((0 : Int64) + (x0.toInt64))), .second, .val (.long (1 : Int64)), .second, .val (.long (x3.toInt64)), .second] [(.int (lcmpW ((0 : Int64) + (x0.toInt64)) ((0 : Int64) + (x0.toInt64))))]) _ _ _
      have hc167 : ((0 : Int64) + (x0.toInt64)) = ((0 : Int64) + (x0.toInt64)) := by first | rfl | decide | (simp only [Int64.zero_add]; done) | simp
      refine own_to (fun t k => XS.ifNo X26.here hx rfl (hb hby at_167) rfl ((if0 _ _).trans (teq ((lw_eq _ _).mpr hc167)).2) k) ?_
      show own_Out p e below _ T26 (mkF m 170 #[.val (.int x0), .val (.int x1), .val (.int x2), .val (.int x3), .val (.int x4), .val (.int (1 : Int32)), .val (.int (1 : Int32)), .val (.ref ob21), .val (.long ((1 : Int32).toInt64)), .second, .val (.long ((0 : Int64) + (x0.toInt64))), .second, .val (.long (1 : Int64)), .second, .val (.long (x3.toInt64)), .second] []) _ _ _
      refine own_to (fun t k => XS.aload X26.here hx rfl (hb hby at_170) rfl rfl k) ?_
      show own_Out p e below _ T26 (mkF m 172 #[.val (.int x0), .val (.int x1), .val (.int x2), .val (.int x3), .val (.int x4), .val (.int (1 : Int32)), .val (.int (1 : Int32)), .val (.ref ob21), .val (.long ((1 : Int32).toInt64)), .second, .val (.long ((0 : Int64) + (x0.toInt64))), .second, .val (.long (1 : Int64)), .second, .val (.long (x3.toInt64)), .second] [(.ref ob21)]) _ _ _
      refine own_callV X26 hx hZ hown (a := ob21) (argsL := []) (rest := []) (hw _ (List.mem_of_getElem? (i := 23) rfl)) (hw _ (List.mem_of_getElem? (i := 24) rfl)) (hw _ (List.mem_of_getElem? (i := 26) rfl)) (hw _ (List.mem_of_getElem? (i := 25) rfl)) (hw _ (List.mem_of_getElem? (i := 2) rfl)) (hw _ (List.mem_of_getElem? (i := 27) rfl)) (by decide) (rm5 l Z a0 hw ob21 ((0 : Int64) + (1 : Int64)) hh24 n0 Z0 F_ob21_ackFrames) (by decide) (by decide) e26 E_ob21 rfl (by rw [hml]; rfl) (lenOf pd_1 rfl) rfl (W := 0) (by show 2 * 0 + _ ≤ _; exact Nat.le_of_eq rfl) (hb hby at_172) (by decide) (by decide) fun v27 T27 hh27 L27 X27 e27 hQ27 => ?_
      obtain ⟨rfl, NL27, he27⟩ := hQ27
      replace e27 := e27.trans he27
      have N27 := Fr.app N26 NL27
      show own_Out p e below _ T27 (mkF m 175 #[.val (.int x0), .val (.int x1), .val (.int x2), .val (.int x3), .val (.int x4), .val (.int (1 : Int32)), .val (.int (1 : Int32)), .val (.ref ob21), .val (.long ((1 : Int32).toInt64)), .second, .val (.long ((0 : Int64) + (x0.toInt64))), .second, .val (.long (1 : Int64)), .second, .val (.long (x3.toInt64)), .second] [(.long ((0 : Int64) + (1 : Int64)))]) _ _ _
      refine own_to (fun t k => XS.lload X27.here hx rfl (hb hby at_175) rfl k) ?_
      show own_Out p e below _ T27 (mkF m 177 #[.val (.int x0), .val (.int x1), .val (.int x2), .val (.int x3), .val (.int x4), .val (.int (1 : Int32)), .val (.int (1 : Int32)), .val (.ref ob21), .val (.long ((1 : Int32).toInt64)), .second, .val (.long ((0 : Int64) + (x0.toInt64))), .second, .val (.long (1 : Int64)), .second, .val (.long (x3.toInt64)), .second] [(.long (1 : Int64)), (.long ((0 : Int64) + (1 : Int64)))]) _ _ _
      refine own_to (fun t k => XS.lcmp X27.here hx rfl (hb hby at_177) rfl k) ?_
      show own_Out p e below _ T27 (mkF m 178 #[.val (.int x0), .val (.int x1), .val (.int x2), .val (.int x3), .val (.int x4), .val (.int (1 : Int32)), .val (.int (1 : Int32)), .val (.ref ob21), .val (.long ((1 : Int32).toInt64)), .second, .val (.long ((0 : Int64) + (x0.toInt64))), .second, .val (.long (1 : Int64)), .second, .val (.long (x3.toInt64)), .second] [(.int (lcmpW ((0 : Int64) + (1 : Int64)) (1 : Int64)))]) _ _ _
      have hc178 : ((0 : Int64) + (1 : Int64)) = (1 : Int64) := by first | rfl | decide | (simp only [Int64.zero_add]; done) | simp
      refine own_to (fun t k => XS.ifNo X27.here hx rfl (hb hby at_178) rfl ((if0 _ _).trans (teq ((lw_eq _ _).mpr hc178)).2) k) ?_
      show own_Out p e below _ T27 (mkF m 181 #[.val (.int x0), .val (.int x1), .val (.int x2), .val (.int x3), .val (.int x4), .val (.int (1 : Int32)), .val (.int (1 : Int32)), .val (.ref ob21), .val (.long ((1 : Int32).toInt64)), .second, .val (.long ((0 : Int64) + (x0.toInt64))), .second, .val (.long (1 : Int64)), .second, .val (.long (x3.toInt64)), .second] []) _ _ _
      refine own_to (fun t k => XS.aload X27.here hx rfl (hb hby at_181) rfl rfl k) ?_
      show own_Out p e below _ T27 (mkF m 183 #[.val (.int x0), .val (.int x1), .val (.int x2), .val (.int x3), .val (.int x4), .val (.int (1 : Int32)), .val (.int (1 : Int32)), .val (.ref ob21), .val (.long ((1 : Int32).toInt64)), .second, .val (.long ((0 : Int64) + (x0.toInt64))), .second, .val (.long (1 : Int64)), .second, .val (.long (x3.toInt64)), .second] [(.ref ob21)]) _ _ _
      refine own_callV X27 hx hZ hown (a := ob21) (argsL := []) (rest := []) (hw _ (List.mem_of_getElem? (i := 30) rfl)) (hw _ (List.mem_of_getElem? (i := 31) rfl)) (hw _ (List.mem_of_getElem? (i := 33) rfl)) (hw _ (List.mem_of_getElem? (i := 32) rfl)) (hw _ (List.mem_of_getElem? (i := 2) rfl)) (hw _ (List.mem_of_getElem? (i := 34) rfl)) (by decide) (rm6 l Z a0 hw ob21 ((0 : Int64) + (x3.toInt64)) hh24 n0 Z0 F_ob21_ackBytes) (by decide) (by decide) e27 E_ob21 rfl (by rw [hml]; rfl) (lenOf pd_1 rfl) rfl (W := 0) (by show 2 * 0 + _ ≤ _; exact Nat.le_of_eq rfl) (hb hby at_183) (by decide) (by decide) fun v28 T28 hh28 L28 X28 e28 hQ28 => ?_
      obtain ⟨rfl, NL28, he28⟩ := hQ28
      replace e28 := e28.trans he28
      have N28 := Fr.app N27 NL28
      show own_Out p e below _ T28 (mkF m 186 #[.val (.int x0), .val (.int x1), .val (.int x2), .val (.int x3), .val (.int x4), .val (.int (1 : Int32)), .val (.int (1 : Int32)), .val (.ref ob21), .val (.long ((1 : Int32).toInt64)), .second, .val (.long ((0 : Int64) + (x0.toInt64))), .second, .val (.long (1 : Int64)), .second, .val (.long (x3.toInt64)), .second] [(.long ((0 : Int64) + (x3.toInt64)))]) _ _ _
      refine own_to (fun t k => XS.lload X28.here hx rfl (hb hby at_186) rfl k) ?_
      show own_Out p e below _ T28 (mkF m 188 #[.val (.int x0), .val (.int x1), .val (.int x2), .val (.int x3), .val (.int x4), .val (.int (1 : Int32)), .val (.int (1 : Int32)), .val (.ref ob21), .val (.long ((1 : Int32).toInt64)), .second, .val (.long ((0 : Int64) + (x0.toInt64))), .second, .val (.long (1 : Int64)), .second, .val (.long (x3.toInt64)), .second] [(.long (x3.toInt64)), (.long ((0 : Int64) + (x3.toInt64)))]) _ _ _
      refine own_to (fun t k => XS.lcmp X28.here hx rfl (hb hby at_188) rfl k) ?_
      show own_Out p e below _ T28 (mkF m 189 #[.val (.int x0), .val (.int x1), .val (.int x2), .val (.int x3), .val (.int x4), .val (.int (1 : Int32)), .val (.int (1 : Int32)), .val (.ref ob21), .val (.long ((1 : Int32).toInt64)), .second, .val (.long ((0 : Int64) + (x0.toInt64))), .second, .val (.long (1 : Int64)), .second, .val (.long (x3.toInt64)), .second] [(.int (lcmpW ((0 : Int64) + (x3.toInt64)) (x3.toInt64)))]) _ _ _
      have hc189 : ((0 : Int64) + (x3.toInt64)) = (x3.toInt64) := by first | rfl | decide | (simp only [Int64.zero_add]; done) | simp
      refine own_to (fun t k => XS.ifNo X28.here hx rfl (hb hby at_189) rfl ((if0 _ _).trans (teq ((lw_eq _ _).mpr hc189)).2) k) ?_
      show own_Out p e below _ T28 (mkF m 192 #[.val (.int x0), .val (.int x1), .val (.int x2), .val (.int x3), .val (.int x4), .val (.int (1 : Int32)), .val (.int (1 : Int32)), .val (.ref ob21), .val (.long ((1 : Int32).toInt64)), .second, .val (.long ((0 : Int64) + (x0.toInt64))), .second, .val (.long (1 : Int64)), .second, .val (.long (x3.toInt64)), .second] []) _ _ _
      refine own_to (fun t k => XS.iconst X28.here hx rfl (hb hby at_192) k) ?_
      show own_Out p e below _ T28 (mkF m 193 #[.val (.int x0), .val (.int x1), .val (.int x2), .val (.int x3), .val (.int x4), .val (.int (1 : Int32)), .val (.int (1 : Int32)), .val (.ref ob21), .val (.long ((1 : Int32).toInt64)), .second, .val (.long ((0 : Int64) + (x0.toInt64))), .second, .val (.long (1 : Int64)), .second, .val (.long (x3.toInt64)), .second] [(.int (1 : Int32))]) _ _ _
      refine own_to (fun t k => XS.goto X28.here hx rfl (pc0 := 193) (pc' := 197) rfl (hb hby at_193) (by decide) (by decide) k) ?_
      show own_Out p e below _ T28 (mkF m 197 #[.val (.int x0), .val (.int x1), .val (.int x2), .val (.int x3), .val (.int x4), .val (.int (1 : Int32)), .val (.int (1 : Int32)), .val (.ref ob21), .val (.long ((1 : Int32).toInt64)), .second, .val (.long ((0 : Int64) + (x0.toInt64))), .second, .val (.long (1 : Int64)), .second, .val (.long (x3.toInt64)), .second] [(.int (1 : Int32))]) _ _ _
      refine own_retV X28 hx hlk (w := .int (1 : Int32)) hret rfl (Or.inl ⟨rfl, by simp, _, rfl⟩) (hb hby at_197) (by decide) (by decide) ?_
      rw [e28]
      exact ⟨rfl, N28⟩
  · subst hk_kk
    show own_Out p e below _ s₁ (mkF m 6 #[.val (.int x0), .val (.int x1), .val (.int x2), .val (.int x3), .val (.int x4), .val (.int (2 : Int32)), .unset, .unset, .unset, .unset, .unset, .unset, .unset, .unset, .unset, .unset] []) _ _ _
    refine own_to (fun t k => XS.iload X0.here hx rfl (hb hby at_6) rfl k) ?_
    show own_Out p e below _ s₁ (mkF m 8 #[.val (.int x0), .val (.int x1), .val (.int x2), .val (.int x3), .val (.int x4), .val (.int (2 : Int32)), .unset, .unset, .unset, .unset, .unset, .unset, .unset, .unset, .unset, .unset] [(.int x4)]) _ _ _
    refine own_to (fun t k => XS.iconst X0.here hx rfl (hb hby at_8) k) ?_
    show own_Out p e below _ s₁ (mkF m 9 #[.val (.int x0), .val (.int x1), .val (.int x2), .val (.int x3), .val (.int x4), .val (.int (2 : Int32)), .unset, .unset, .unset, .unset, .unset, .unset, .unset, .unset, .unset, .unset] [(.int (4 : Int32)), (.int x4)]) _ _ _
    refine own_to (fun t k => XS.iand X0.here hx rfl (hb hby at_9) rfl k) ?_
    show own_Out p e below _ s₁ (mkF m 10 #[.val (.int x0), .val (.int x1), .val (.int x2), .val (.int x3), .val (.int x4), .val (.int (2 : Int32)), .unset, .unset, .unset, .unset, .unset, .unset, .unset, .unset, .unset, .unset] [(.int (x4 &&& (4 : Int32)))]) _ _ _
    by_cases hc10 : (x4 &&& (4 : Int32)) = (0 : Int32)
    · refine own_to (fun t k => XS.ifYes X0.here hx rfl (pc0 := 10) (pc' := 17) rfl (hb hby at_10) rfl ((if0 _ _).trans (teq hc10).1) (by decide) (by decide) k) ?_
      show own_Out p e below _ s₁ (mkF m 17 #[.val (.int x0), .val (.int x1), .val (.int x2), .val (.int x3), .val (.int x4), .val (.int (2 : Int32)), .unset, .unset, .unset, .unset, .unset, .unset, .unset, .unset, .unset, .unset] []) _ _ _
      refine own_to (fun t k => XS.iconst X0.here hx rfl (hb hby at_17) k) ?_
      show own_Out p e below _ s₁ (mkF m 18 #[.val (.int x0), .val (.int x1), .val (.int x2), .val (.int x3), .val (.int x4), .val (.int (2 : Int32)), .unset, .unset, .unset, .unset, .unset, .unset, .unset, .unset, .unset, .unset] [(.int (0 : Int32))]) _ _ _
      refine own_to (fun t k => XS.istore X0.here hx rfl (hb hby at_18) rfl (l' := #[.val (.int x0), .val (.int x1), .val (.int x2), .val (.int x3), .val (.int x4), .val (.int (2 : Int32)), .val (.int (0 : Int32)), .unset, .unset, .unset, .unset, .unset, .unset, .unset, .unset, .unset]) rfl k) ?_
      show own_Out p e below _ s₁ (mkF m 20 #[.val (.int x0), .val (.int x1), .val (.int x2), .val (.int x3), .val (.int x4), .val (.int (2 : Int32)), .val (.int (0 : Int32)), .unset, .unset, .unset, .unset, .unset, .unset, .unset, .unset, .unset] []) _ _ _
      refine own_new X0 hx hZ hown (hw _ (List.mem_of_getElem? (i := 0) rfl)) (hw _ (List.mem_of_getElem? (i := 1) rfl)) (hw _ (List.mem_of_getElem? (i := 2) rfl)) e0 rfl (hb hby at_20) (by decide) (by decide) fun T29 hh29 ob29 gb29 X29 e29 E29 A29 D29 => ?_
      have g_ob29 : n0 ≤ ob29 := Nat.le_trans Z0 (Nat.le_of_eq gb29.symm)
      have Z0 := Nat.le_trans Z0 E29.1
      have E_ob29 := A29
      have F_ob29_messageFrames : Fld Z hh29 ob29 "com/example/mingle/mingle/FrameCounts" "messageFrames" "J" (.long (0 : Int64)) := D29 (Or.inl (hw _ (List.mem_of_getElem? (i := 15) rfl))) (ty := .long) (by decide)
      have F_ob29_messageBytes : Fld Z hh29 ob29 "com/example/mingle/mingle/FrameCounts" "messageBytes" "J" (.long (0 : Int64)) := D29 (Or.inl (hw _ (List.mem_of_getElem? (i := 22) rfl))) (ty := .long) (by decide)
      have F_ob29_ackFrames : Fld Z hh29 ob29 "com/example/mingle/mingle/FrameCounts" "ackFrames" "J" (.long (0 : Int64)) := D29 (Or.inl (hw _ (List.mem_of_getElem? (i := 29) rfl))) (ty := .long) (by decide)
      have F_ob29_ackBytes : Fld Z hh29 ob29 "com/example/mingle/mingle/FrameCounts" "ackBytes" "J" (.long (0 : Int64)) := D29 (Or.inl (hw _ (List.mem_of_getElem? (i := 36) rfl))) (ty := .long) (by decide)
      show own_Out p e below _ T29 (mkF m 23 #[.val (.int x0), .val (.int x1), .val (.int x2), .val (.int x3), .val (.int x4), .val (.int (2 : Int32)), .val (.int (0 : Int32)), .unset, .unset, .unset, .unset, .unset, .unset, .unset, .unset, .unset] [(.ref ob29)]) _ _ _
      refine own_to (fun t k => XS.dup X29.here hx rfl (hb hby at_23) rfl rfl k) ?_
      show own_Out p e below _ T29 (mkF m 24 #[.val (.int x0), .val (.int x1), .val (.int x2), .val (.int x3), .val (.int x4), .val (.int (2 : Int32)), .val (.int (0 : Int32)), .unset, .unset, .unset, .unset, .unset, .unset, .unset, .unset, .unset] [(.ref ob29), (.ref ob29)]) _ _ _
      refine own_callC X29 hx hZ hown (a := ob29) (argsL := []) (rest := [(.ref ob29)]) rfl (hw _ (List.mem_of_getElem? (i := 3) rfl)) (hw _ (List.mem_of_getElem? (i := 4) rfl)) (hw _ (List.mem_of_getElem? (i := 2) rfl)) (hw _ (List.mem_of_getElem? (i := 5) rfl)) (by decide) (rm1 l Z a0 hw ob29 hh29 n0 Z0 ) (by decide) (by decide) e29 rfl (by rw [hml]; rfl) (lenOf pd_0 rfl) rfl (W := 1) (by show 2 * 0 + _ ≤ _; exact Nat.le_of_eq rfl) (hb hby at_24) (by decide) (by decide) fun v30 T30 hh30 L30 X30 e30 hQ30 => ?_
      obtain ⟨rfl, NL30, he30⟩ := hQ30
      replace e30 := e30.trans he30
      have N30 := Fr.app N0 NL30
      show own_Out p e below _ T30 (mkF m 27 #[.val (.int x0), .val (.int x1), .val (.int x2), .val (.int x3), .val (.int x4), .val (.int (2 : Int32)), .val (.int (0 : Int32)), .unset, .unset, .unset, .unset, .unset, .unset, .unset, .unset, .unset] [(.ref ob29)]) _ _ _
      refine own_to (fun t k => XS.astore X30.here hx rfl (hb hby at_27) rfl rfl (l' := #[.val (.int x0), .val (.int x1), .val (.int x2), .val (.int x3), .val (.int x4), .val (.int (2 : Int32)), .val (.int (0 : Int32)), .val (.ref ob29), .unset, .unset, .unset, .unset, .unset, .unset, .unset, .unset]) rfl k) ?_
      show own_Out p e below _ T30 (mkF m 29 #[.val (.int x0), .val (.int x1), .val (.int x2), .val (.int x3), .val (.int x4), .val (.int (2 : Int32)), .val (.int (0 : Int32)), .val (.ref ob29), .unset, .unset, .unset, .unset, .unset, .unset, .unset, .unset] []) _ _ _
      refine own_to (fun t k => XS.iload X30.here hx rfl (hb hby at_29) rfl k) ?_
      show own_Out p e below _ T30 (mkF m 31 #[.val (.int x0), .val (.int x1), .val (.int x2), .val (.int x3), .val (.int x4), .val (.int (2 : Int32)), .val (.int (0 : Int32)), .val (.ref ob29), .unset, .unset, .unset, .unset, .unset, .unset, .unset, .unset] [(.int (2 : Int32))]) _ _ _
      refine own_to (fun t k => XS.iconst X30.here hx rfl (hb hby at_31) k) ?_
      show own_Out p e below _ T30 (mkF m 32 #[.val (.int x0), .val (.int x1), .val (.int x2), .val (.int x3), .val (.int x4), .val (.int (2 : Int32)), .val (.int (0 : Int32)), .val (.ref ob29), .unset, .unset, .unset, .unset, .unset, .unset, .unset, .unset] [(.int (1 : Int32)), (.int (2 : Int32))]) _ _ _
      have hc32 : ¬ ((2 : Int32) < (1 : Int32)) := by decide
      refine own_to (fun t k => XS.icmpNo X30.here hx rfl (hb hby at_32) rfl (flt hc32).1 k) ?_
      show own_Out p e below _ T30 (mkF m 35 #[.val (.int x0), .val (.int x1), .val (.int x2), .val (.int x3), .val (.int x4), .val (.int (2 : Int32)), .val (.int (0 : Int32)), .val (.ref ob29), .unset, .unset, .unset, .unset, .unset, .unset, .unset, .unset] []) _ _ _
      refine own_to (fun t k => XS.aload X30.here hx rfl (hb hby at_35) rfl rfl k) ?_
      show own_Out p e below _ T30 (mkF m 37 #[.val (.int x0), .val (.int x1), .val (.int x2), .val (.int x3), .val (.int x4), .val (.int (2 : Int32)), .val (.int (0 : Int32)), .val (.ref ob29), .unset, .unset, .unset, .unset, .unset, .unset, .unset, .unset] [(.ref ob29)]) _ _ _
      refine own_to (fun t k => XS.iloadN X30.here hx rfl (hb hby at_37) rfl k) ?_
      show own_Out p e below _ T30 (mkF m 38 #[.val (.int x0), .val (.int x1), .val (.int x2), .val (.int x3), .val (.int x4), .val (.int (2 : Int32)), .val (.int (0 : Int32)), .val (.ref ob29), .unset, .unset, .unset, .unset, .unset, .unset, .unset, .unset] [(.int x0), (.ref ob29)]) _ _ _
      refine own_callV X30 hx hZ hown (a := ob29) (argsL := [(.int x0)]) (rest := []) (hw _ (List.mem_of_getElem? (i := 37) rfl)) (hw _ (List.mem_of_getElem? (i := 38) rfl)) (hw _ (List.mem_of_getElem? (i := 40) rfl)) (hw _ (List.mem_of_getElem? (i := 39) rfl)) (hw _ (List.mem_of_getElem? (i := 2) rfl)) (hw _ (List.mem_of_getElem? (i := 41) rfl)) (by decide) (rm7 l Z a0 hw ob29 x0 (0 : Int64) (0 : Int64) (0 : Int64) (0 : Int64) hh29 n0 Z0 E_ob29 F_ob29_messageFrames F_ob29_messageBytes g_ob29 F_ob29_ackFrames F_ob29_ackBytes) (by decide) (by decide) e30 E_ob29 rfl (by rw [hml]; rfl) (lenOf pd_2 rfl) rfl (W := 0) (by show 2 * 0 + _ ≤ _; exact Nat.le_of_eq rfl) (hb hby at_38) (by decide) (by decide) fun v31 T31 hh31 L31 X31 e31 hQ31 => ?_
      obtain ⟨rfl, NL31, KK31, P31_0, P31_1, P31_2, P31_3⟩ := hQ31
      have E_ob29 := E_ob29.keep KK31
      have F_ob29_messageFrames := P31_0
      have F_ob29_messageBytes := P31_1
      have F_ob29_ackFrames := P31_2
      have F_ob29_ackBytes := P31_3
      have Z0 := Nat.le_trans Z0 KK31.1
      have N31 := Fr.app N30 NL31
      show own_Out p e below _ T31 (mkF m 41 #[.val (.int x0), .val (.int x1), .val (.int x2), .val (.int x3), .val (.int x4), .val (.int (2 : Int32)), .val (.int (0 : Int32)), .val (.ref ob29), .unset, .unset, .unset, .unset, .unset, .unset, .unset, .unset] []) _ _ _
      refine own_to (fun t k => XS.iload X31.here hx rfl (hb hby at_41) rfl k) ?_
      show own_Out p e below _ T31 (mkF m 43 #[.val (.int x0), .val (.int x1), .val (.int x2), .val (.int x3), .val (.int x4), .val (.int (2 : Int32)), .val (.int (0 : Int32)), .val (.ref ob29), .unset, .unset, .unset, .unset, .unset, .unset, .unset, .unset] [(.int (0 : Int32))]) _ _ _
      have hc43 : (0 : Int32) = (0 : Int32) := by decide
      refine own_to (fun t k => XS.ifYes X31.here hx rfl (pc0 := 43) (pc' := 52) rfl (hb hby at_43) rfl ((if0 _ _).trans (teq hc43).1) (by decide) (by decide) k) ?_
      show own_Out p e below _ T31 (mkF m 52 #[.val (.int x0), .val (.int x1), .val (.int x2), .val (.int x3), .val (.int x4), .val (.int (2 : Int32)), .val (.int (0 : Int32)), .val (.ref ob29), .unset, .unset, .unset, .unset, .unset, .unset, .unset, .unset] []) _ _ _
      refine own_to (fun t k => XS.iload X31.here hx rfl (hb hby at_52) rfl k) ?_
      show own_Out p e below _ T31 (mkF m 54 #[.val (.int x0), .val (.int x1), .val (.int x2), .val (.int x3), .val (.int x4), .val (.int (2 : Int32)), .val (.int (0 : Int32)), .val (.ref ob29), .unset, .unset, .unset, .unset, .unset, .unset, .unset, .unset] [(.int (2 : Int32))]) _ _ _
      refine own_to (fun t k => XS.iconst X31.here hx rfl (hb hby at_54) k) ?_
      show own_Out p e below _ T31 (mkF m 55 #[.val (.int x0), .val (.int x1), .val (.int x2), .val (.int x3), .val (.int x4), .val (.int (2 : Int32)), .val (.int (0 : Int32)), .val (.ref ob29), .unset, .unset, .unset, .unset, .unset, .unset, .unset, .unset] [(.int (2 : Int32)), (.int (2 : Int32))]) _ _ _
      have hc55 : ¬ ((2 : Int32) < (2 : Int32)) := by decide
      refine own_to (fun t k => XS.icmpNo X31.here hx rfl (hb hby at_55) rfl (flt hc55).1 k) ?_
      show own_Out p e below _ T31 (mkF m 58 #[.val (.int x0), .val (.int x1), .val (.int x2), .val (.int x3), .val (.int x4), .val (.int (2 : Int32)), .val (.int (0 : Int32)), .val (.ref ob29), .unset, .unset, .unset, .unset, .unset, .unset, .unset, .unset] []) _ _ _
      refine own_to (fun t k => XS.aload X31.here hx rfl (hb hby at_58) rfl rfl k) ?_
      show own_Out p e below _ T31 (mkF m 60 #[.val (.int x0), .val (.int x1), .val (.int x2), .val (.int x3), .val (.int x4), .val (.int (2 : Int32)), .val (.int (0 : Int32)), .val (.ref ob29), .unset, .unset, .unset, .unset, .unset, .unset, .unset, .unset] [(.ref ob29)]) _ _ _
      refine own_to (fun t k => XS.iloadN X31.here hx rfl (hb hby at_60) rfl k) ?_
      show own_Out p e below _ T31 (mkF m 61 #[.val (.int x0), .val (.int x1), .val (.int x2), .val (.int x3), .val (.int x4), .val (.int (2 : Int32)), .val (.int (0 : Int32)), .val (.ref ob29), .unset, .unset, .unset, .unset, .unset, .unset, .unset, .unset] [(.int x1), (.ref ob29)]) _ _ _
      refine own_callV X31 hx hZ hown (a := ob29) (argsL := [(.int x1)]) (rest := []) (hw _ (List.mem_of_getElem? (i := 37) rfl)) (hw _ (List.mem_of_getElem? (i := 38) rfl)) (hw _ (List.mem_of_getElem? (i := 40) rfl)) (hw _ (List.mem_of_getElem? (i := 39) rfl)) (hw _ (List.mem_of_getElem? (i := 2) rfl)) (hw _ (List.mem_of_getElem? (i := 41) rfl)) (by decide) (rm7 l Z a0 hw ob29 x1 ((0 : Int64) + (1 : Int64)) ((0 : Int64) + (x0.toInt64)) (0 : Int64) (0 : Int64) hh31 n0 Z0 E_ob29 F_ob29_messageFrames F_ob29_messageBytes g_ob29 F_ob29_ackFrames F_ob29_ackBytes) (by decide) (by decide) e31 E_ob29 rfl (by rw [hml]; rfl) (lenOf pd_2 rfl) rfl (W := 0) (by show 2 * 0 + _ ≤ _; exact Nat.le_of_eq rfl) (hb hby at_61) (by decide) (by decide) fun v32 T32 hh32 L32 X32 e32 hQ32 => ?_
      obtain ⟨rfl, NL32, KK32, P32_0, P32_1, P32_2, P32_3⟩ := hQ32
      have E_ob29 := E_ob29.keep KK32
      have F_ob29_messageFrames := P32_0
      have F_ob29_messageBytes := P32_1
      have F_ob29_ackFrames := P32_2
      have F_ob29_ackBytes := P32_3
      have Z0 := Nat.le_trans Z0 KK32.1
      have N32 := Fr.app N31 NL32
      show own_Out p e below _ T32 (mkF m 64 #[.val (.int x0), .val (.int x1), .val (.int x2), .val (.int x3), .val (.int x4), .val (.int (2 : Int32)), .val (.int (0 : Int32)), .val (.ref ob29), .unset, .unset, .unset, .unset, .unset, .unset, .unset, .unset] []) _ _ _
      refine own_to (fun t k => XS.iload X32.here hx rfl (hb hby at_64) rfl k) ?_
      show own_Out p e below _ T32 (mkF m 66 #[.val (.int x0), .val (.int x1), .val (.int x2), .val (.int x3), .val (.int x4), .val (.int (2 : Int32)), .val (.int (0 : Int32)), .val (.ref ob29), .unset, .unset, .unset, .unset, .unset, .unset, .unset, .unset] [(.int (2 : Int32))]) _ _ _
      refine own_to (fun t k => XS.iconst X32.here hx rfl (hb hby at_66) k) ?_
      show own_Out p e below _ T32 (mkF m 67 #[.val (.int x0), .val (.int x1), .val (.int x2), .val (.int x3), .val (.int x4), .val (.int (2 : Int32)), .val (.int (0 : Int32)), .val (.ref ob29), .unset, .unset, .unset, .unset, .unset, .unset, .unset, .unset] [(.int (3 : Int32)), (.int (2 : Int32))]) _ _ _
      have hc67 : (2 : Int32) < (3 : Int32) := by decide
      refine own_to (fun t k => XS.icmpYes X32.here hx rfl (pc0 := 67) (pc' := 76) rfl (hb hby at_67) rfl (tlt hc67).1 (by decide) (by decide) k) ?_
      show own_Out p e below _ T32 (mkF m 76 #[.val (.int x0), .val (.int x1), .val (.int x2), .val (.int x3), .val (.int x4), .val (.int (2 : Int32)), .val (.int (0 : Int32)), .val (.ref ob29), .unset, .unset, .unset, .unset, .unset, .unset, .unset, .unset] []) _ _ _
      refine own_to (fun t k => XS.iload X32.here hx rfl (hb hby at_76) rfl k) ?_
      show own_Out p e below _ T32 (mkF m 78 #[.val (.int x0), .val (.int x1), .val (.int x2), .val (.int x3), .val (.int x4), .val (.int (2 : Int32)), .val (.int (0 : Int32)), .val (.ref ob29), .unset, .unset, .unset, .unset, .unset, .unset, .unset, .unset] [(.int (2 : Int32))]) _ _ _
      refine own_to (fun t k => XS.i2l X32.here hx rfl (hb hby at_78) rfl k) ?_
      show own_Out p e below _ T32 (mkF m 79 #[.val (.int x0), .val (.int x1), .val (.int x2), .val (.int x3), .val (.int x4), .val (.int (2 : Int32)), .val (.int (0 : Int32)), .val (.ref ob29), .unset, .unset, .unset, .unset, .unset, .unset, .unset, .unset] [(.long ((2 : Int32).toInt64))]) _ _ _
      refine own_to (fun t k => XS.lstore X32.here hx rfl (hb hby at_79) rfl (l' := #[.val (.int x0), .val (.int x1), .val (.int x2), .val (.int x3), .val (.int x4), .val (.int (2 : Int32)), .val (.int (0 : Int32)), .val (.ref ob29), .val (.long ((2 : Int32).toInt64)), .second, .unset, .unset, .unset, .unset, .unset, .unset]) rfl k) ?_
      show own_Out p e below _ T32 (mkF m 81 #[.val (.int x0), .val (.int x1), .val (.int x2), .val (.int x3), .val (.int x4), .val (.int (2 : Int32)), .val (.int (0 : Int32)), .val (.ref ob29), .val (.long ((2 : Int32).toInt64)), .second, .unset, .unset, .unset, .unset, .unset, .unset] []) _ _ _
      refine own_to (fun t k => XS.lconst X32.here hx rfl (hb hby at_81) k) ?_
      show own_Out p e below _ T32 (mkF m 82 #[.val (.int x0), .val (.int x1), .val (.int x2), .val (.int x3), .val (.int x4), .val (.int (2 : Int32)), .val (.int (0 : Int32)), .val (.ref ob29), .val (.long ((2 : Int32).toInt64)), .second, .unset, .unset, .unset, .unset, .unset, .unset] [(.long (0 : Int64))]) _ _ _
      refine own_to (fun t k => XS.lstore X32.here hx rfl (hb hby at_82) rfl (l' := #[.val (.int x0), .val (.int x1), .val (.int x2), .val (.int x3), .val (.int x4), .val (.int (2 : Int32)), .val (.int (0 : Int32)), .val (.ref ob29), .val (.long ((2 : Int32).toInt64)), .second, .val (.long (0 : Int64)), .second, .unset, .unset, .unset, .unset]) rfl k) ?_
      show own_Out p e below _ T32 (mkF m 84 #[.val (.int x0), .val (.int x1), .val (.int x2), .val (.int x3), .val (.int x4), .val (.int (2 : Int32)), .val (.int (0 : Int32)), .val (.ref ob29), .val (.long ((2 : Int32).toInt64)), .second, .val (.long (0 : Int64)), .second, .unset, .unset, .unset, .unset] []) _ _ _
      refine own_to (fun t k => XS.iload X32.here hx rfl (hb hby at_84) rfl k) ?_
      show own_Out p e below _ T32 (mkF m 86 #[.val (.int x0), .val (.int x1), .val (.int x2), .val (.int x3), .val (.int x4), .val (.int (2 : Int32)), .val (.int (0 : Int32)), .val (.ref ob29), .val (.long ((2 : Int32).toInt64)), .second, .val (.long (0 : Int64)), .second, .unset, .unset, .unset, .unset] [(.int (2 : Int32))]) _ _ _
      refine own_to (fun t k => XS.iconst X32.here hx rfl (hb hby at_86) k) ?_
      show own_Out p e below _ T32 (mkF m 87 #[.val (.int x0), .val (.int x1), .val (.int x2), .val (.int x3), .val (.int x4), .val (.int (2 : Int32)), .val (.int (0 : Int32)), .val (.ref ob29), .val (.long ((2 : Int32).toInt64)), .second, .val (.long (0 : Int64)), .second, .unset, .unset, .unset, .unset] [(.int (1 : Int32)), (.int (2 : Int32))]) _ _ _
      have hc87 : ¬ ((2 : Int32) < (1 : Int32)) := by decide
      refine own_to (fun t k => XS.icmpNo X32.here hx rfl (hb hby at_87) rfl (flt hc87).1 k) ?_
      show own_Out p e below _ T32 (mkF m 90 #[.val (.int x0), .val (.int x1), .val (.int x2), .val (.int x3), .val (.int x4), .val (.int (2 : Int32)), .val (.int (0 : Int32)), .val (.ref ob29), .val (.long ((2 : Int32).toInt64)), .second, .val (.long (0 : Int64)), .second, .unset, .unset, .unset, .unset] []) _ _ _
      refine own_to (fun t k => XS.lload X32.here hx rfl (hb hby at_90) rfl k) ?_
      show own_Out p e below _ T32 (mkF m 92 #[.val (.int x0), .val (.int x1), .val (.int x2), .val (.int x3), .val (.int x4), .val (.int (2 : Int32)), .val (.int (0 : Int32)), .val (.ref ob29), .val (.long ((2 : Int32).toInt64)), .second, .val (.long (0 : Int64)), .second, .unset, .unset, .unset, .unset] [(.long (0 : Int64))]) _ _ _
      refine own_to (fun t k => XS.iloadN X32.here hx rfl (hb hby at_92) rfl k) ?_
      show own_Out p e below _ T32 (mkF m 93 #[.val (.int x0), .val (.int x1), .val (.int x2), .val (.int x3), .val (.int x4), .val (.int (2 : Int32)), .val (.int (0 : Int32)), .val (.ref ob29), .val (.long ((2 : Int32).toInt64)), .second, .val (.long (0 : Int64)), .second, .unset, .unset, .unset, .unset] [(.int x0), (.long (0 : Int64))]) _ _ _
      refine own_to (fun t k => XS.i2l X32.here hx rfl (hb hby at_93) rfl k) ?_
      show own_Out p e below _ T32 (mkF m 94 #[.val (.int x0), .val (.int x1), .val (.int x2), .val (.int x3), .val (.int x4), .val (.int (2 : Int32)), .val (.int (0 : Int32)), .val (.ref ob29), .val (.long ((2 : Int32).toInt64)), .second, .val (.long (0 : Int64)), .second, .unset, .unset, .unset, .unset] [(.long (x0.toInt64)), (.long (0 : Int64))]) _ _ _
      refine own_to (fun t k => XS.ladd X32.here hx rfl (hb hby at_94) rfl k) ?_
      show own_Out p e below _ T32 (mkF m 95 #[.val (.int x0), .val (.int x1), .val (.int x2), .val (.int x3), .val (.int x4), .val (.int (2 : Int32)), .val (.int (0 : Int32)), .val (.ref ob29), .val (.long ((2 : Int32).toInt64)), .second, .val (.long (0 : Int64)), .second, .unset, .unset, .unset, .unset] [(.long ((0 : Int64) + (x0.toInt64)))]) _ _ _
      refine own_to (fun t k => XS.lstore X32.here hx rfl (hb hby at_95) rfl (l' := #[.val (.int x0), .val (.int x1), .val (.int x2), .val (.int x3), .val (.int x4), .val (.int (2 : Int32)), .val (.int (0 : Int32)), .val (.ref ob29), .val (.long ((2 : Int32).toInt64)), .second, .val (.long ((0 : Int64) + (x0.toInt64))), .second, .unset, .unset, .unset, .unset]) rfl k) ?_
      show own_Out p e below _ T32 (mkF m 97 #[.val (.int x0), .val (.int x1), .val (.int x2), .val (.int x3), .val (.int x4), .val (.int (2 : Int32)), .val (.int (0 : Int32)), .val (.ref ob29), .val (.long ((2 : Int32).toInt64)), .second, .val (.long ((0 : Int64) + (x0.toInt64))), .second, .unset, .unset, .unset, .unset] []) _ _ _
      refine own_to (fun t k => XS.iload X32.here hx rfl (hb hby at_97) rfl k) ?_
      show own_Out p e below _ T32 (mkF m 99 #[.val (.int x0), .val (.int x1), .val (.int x2), .val (.int x3), .val (.int x4), .val (.int (2 : Int32)), .val (.int (0 : Int32)), .val (.ref ob29), .val (.long ((2 : Int32).toInt64)), .second, .val (.long ((0 : Int64) + (x0.toInt64))), .second, .unset, .unset, .unset, .unset] [(.int (2 : Int32))]) _ _ _
      refine own_to (fun t k => XS.iconst X32.here hx rfl (hb hby at_99) k) ?_
      show own_Out p e below _ T32 (mkF m 100 #[.val (.int x0), .val (.int x1), .val (.int x2), .val (.int x3), .val (.int x4), .val (.int (2 : Int32)), .val (.int (0 : Int32)), .val (.ref ob29), .val (.long ((2 : Int32).toInt64)), .second, .val (.long ((0 : Int64) + (x0.toInt64))), .second, .unset, .unset, .unset, .unset] [(.int (2 : Int32)), (.int (2 : Int32))]) _ _ _
      have hc100 : ¬ ((2 : Int32) < (2 : Int32)) := by decide
      refine own_to (fun t k => XS.icmpNo X32.here hx rfl (hb hby at_100) rfl (flt hc100).1 k) ?_
      show own_Out p e below _ T32 (mkF m 103 #[.val (.int x0), .val (.int x1), .val (.int x2), .val (.int x3), .val (.int x4), .val (.int (2 : Int32)), .val (.int (0 : Int32)), .val (.ref ob29), .val (.long ((2 : Int32).toInt64)), .second, .val (.long ((0 : Int64) + (x0.toInt64))), .second, .unset, .unset, .unset, .unset] []) _ _ _
      refine own_to (fun t k => XS.lload X32.here hx rfl (hb hby at_103) rfl k) ?_
      show own_Out p e below _ T32 (mkF m 105 #[.val (.int x0), .val (.int x1), .val (.int x2), .val (.int x3), .val (.int x4), .val (.int (2 : Int32)), .val (.int (0 : Int32)), .val (.ref ob29), .val (.long ((2 : Int32).toInt64)), .second, .val (.long ((0 : Int64) + (x0.toInt64))), .second, .unset, .unset, .unset, .unset] [(.long ((0 : Int64) + (x0.toInt64)))]) _ _ _
      refine own_to (fun t k => XS.iloadN X32.here hx rfl (hb hby at_105) rfl k) ?_
      show own_Out p e below _ T32 (mkF m 106 #[.val (.int x0), .val (.int x1), .val (.int x2), .val (.int x3), .val (.int x4), .val (.int (2 : Int32)), .val (.int (0 : Int32)), .val (.ref ob29), .val (.long ((2 : Int32).toInt64)), .second, .val (.long ((0 : Int64) + (x0.toInt64))), .second, .unset, .unset, .unset, .unset] [(.int x1), (.long ((0 : Int64) + (x0.toInt64)))]) _ _ _
      refine own_to (fun t k => XS.i2l X32.here hx rfl (hb hby at_106) rfl k) ?_
      show own_Out p e below _ T32 (mkF m 107 #[.val (.int x0), .val (.int x1), .val (.int x2), .val (.int x3), .val (.int x4), .val (.int (2 : Int32)), .val (.int (0 : Int32)), .val (.ref ob29), .val (.long ((2 : Int32).toInt64)), .second, .val (.long ((0 : Int64) + (x0.toInt64))), .second, .unset, .unset, .unset, .unset] [(.long (x1.toInt64)), (.long ((0 : Int64) + (x0.toInt64)))]) _ _ _
      refine own_to (fun t k => XS.ladd X32.here hx rfl (hb hby at_107) rfl k) ?_
      show own_Out p e below _ T32 (mkF m 108 #[.val (.int x0), .val (.int x1), .val (.int x2), .val (.int x3), .val (.int x4), .val (.int (2 : Int32)), .val (.int (0 : Int32)), .val (.ref ob29), .val (.long ((2 : Int32).toInt64)), .second, .val (.long ((0 : Int64) + (x0.toInt64))), .second, .unset, .unset, .unset, .unset] [(.long (((0 : Int64) + (x0.toInt64)) + (x1.toInt64)))]) _ _ _
      refine own_to (fun t k => XS.lstore X32.here hx rfl (hb hby at_108) rfl (l' := #[.val (.int x0), .val (.int x1), .val (.int x2), .val (.int x3), .val (.int x4), .val (.int (2 : Int32)), .val (.int (0 : Int32)), .val (.ref ob29), .val (.long ((2 : Int32).toInt64)), .second, .val (.long (((0 : Int64) + (x0.toInt64)) + (x1.toInt64))), .second, .unset, .unset, .unset, .unset]) rfl k) ?_
      show own_Out p e below _ T32 (mkF m 110 #[.val (.int x0), .val (.int x1), .val (.int x2), .val (.int x3), .val (.int x4), .val (.int (2 : Int32)), .val (.int (0 : Int32)), .val (.ref ob29), .val (.long ((2 : Int32).toInt64)), .second, .val (.long (((0 : Int64) + (x0.toInt64)) + (x1.toInt64))), .second, .unset, .unset, .unset, .unset] []) _ _ _
      refine own_to (fun t k => XS.iload X32.here hx rfl (hb hby at_110) rfl k) ?_
      show own_Out p e below _ T32 (mkF m 112 #[.val (.int x0), .val (.int x1), .val (.int x2), .val (.int x3), .val (.int x4), .val (.int (2 : Int32)), .val (.int (0 : Int32)), .val (.ref ob29), .val (.long ((2 : Int32).toInt64)), .second, .val (.long (((0 : Int64) + (x0.toInt64)) + (x1.toInt64))), .second, .unset, .unset, .unset, .unset] [(.int (2 : Int32))]) _ _ _
      refine own_to (fun t k => XS.iconst X32.here hx rfl (hb hby at_112) k) ?_
      show own_Out p e below _ T32 (mkF m 113 #[.val (.int x0), .val (.int x1), .val (.int x2), .val (.int x3), .val (.int x4), .val (.int (2 : Int32)), .val (.int (0 : Int32)), .val (.ref ob29), .val (.long ((2 : Int32).toInt64)), .second, .val (.long (((0 : Int64) + (x0.toInt64)) + (x1.toInt64))), .second, .unset, .unset, .unset, .unset] [(.int (3 : Int32)), (.int (2 : Int32))]) _ _ _
      have hc113 : (2 : Int32) < (3 : Int32) := by decide
      refine own_to (fun t k => XS.icmpYes X32.here hx rfl (pc0 := 113) (pc' := 123) rfl (hb hby at_113) rfl (tlt hc113).1 (by decide) (by decide) k) ?_
      show own_Out p e below _ T32 (mkF m 123 #[.val (.int x0), .val (.int x1), .val (.int x2), .val (.int x3), .val (.int x4), .val (.int (2 : Int32)), .val (.int (0 : Int32)), .val (.ref ob29), .val (.long ((2 : Int32).toInt64)), .second, .val (.long (((0 : Int64) + (x0.toInt64)) + (x1.toInt64))), .second, .unset, .unset, .unset, .unset] []) _ _ _
      refine own_to (fun t k => XS.iload X32.here hx rfl (hb hby at_123) rfl k) ?_
      show own_Out p e below _ T32 (mkF m 125 #[.val (.int x0), .val (.int x1), .val (.int x2), .val (.int x3), .val (.int x4), .val (.int (2 : Int32)), .val (.int (0 : Int32)), .val (.ref ob29), .val (.long ((2 : Int32).toInt64)), .second, .val (.long (((0 : Int64) + (x0.toInt64)) + (x1.toInt64))), .second, .unset, .unset, .unset, .unset] [(.int (0 : Int32))]) _ _ _
      have hc125 : (0 : Int32) = (0 : Int32) := by decide
      refine own_to (fun t k => XS.ifYes X32.here hx rfl (pc0 := 125) (pc' := 132) rfl (hb hby at_125) rfl ((if0 _ _).trans (teq hc125).1) (by decide) (by decide) k) ?_
      show own_Out p e below _ T32 (mkF m 132 #[.val (.int x0), .val (.int x1), .val (.int x2), .val (.int x3), .val (.int x4), .val (.int (2 : Int32)), .val (.int (0 : Int32)), .val (.ref ob29), .val (.long ((2 : Int32).toInt64)), .second, .val (.long (((0 : Int64) + (x0.toInt64)) + (x1.toInt64))), .second, .unset, .unset, .unset, .unset] []) _ _ _
      refine own_to (fun t k => XS.lconst X32.here hx rfl (hb hby at_132) k) ?_
      show own_Out p e below _ T32 (mkF m 133 #[.val (.int x0), .val (.int x1), .val (.int x2), .val (.int x3), .val (.int x4), .val (.int (2 : Int32)), .val (.int (0 : Int32)), .val (.ref ob29), .val (.long ((2 : Int32).toInt64)), .second, .val (.long (((0 : Int64) + (x0.toInt64)) + (x1.toInt64))), .second, .unset, .unset, .unset, .unset] [(.long (0 : Int64))]) _ _ _
      refine own_to (fun t k => XS.lstore X32.here hx rfl (hb hby at_133) rfl (l' := #[.val (.int x0), .val (.int x1), .val (.int x2), .val (.int x3), .val (.int x4), .val (.int (2 : Int32)), .val (.int (0 : Int32)), .val (.ref ob29), .val (.long ((2 : Int32).toInt64)), .second, .val (.long (((0 : Int64) + (x0.toInt64)) + (x1.toInt64))), .second, .val (.long (0 : Int64)), .second, .unset, .unset]) rfl k) ?_
      show own_Out p e below _ T32 (mkF m 135 #[.val (.int x0), .val (.int x1), .val (.int x2), .val (.int x3), .val (.int x4), .val (.int (2 : Int32)), .val (.int (0 : Int32)), .val (.ref ob29), .val (.long ((2 : Int32).toInt64)), .second, .val (.long (((0 : Int64) + (x0.toInt64)) + (x1.toInt64))), .second, .val (.long (0 : Int64)), .second, .unset, .unset] []) _ _ _
      refine own_to (fun t k => XS.iload X32.here hx rfl (hb hby at_135) rfl k) ?_
      show own_Out p e below _ T32 (mkF m 137 #[.val (.int x0), .val (.int x1), .val (.int x2), .val (.int x3), .val (.int x4), .val (.int (2 : Int32)), .val (.int (0 : Int32)), .val (.ref ob29), .val (.long ((2 : Int32).toInt64)), .second, .val (.long (((0 : Int64) + (x0.toInt64)) + (x1.toInt64))), .second, .val (.long (0 : Int64)), .second, .unset, .unset] [(.int (0 : Int32))]) _ _ _
      have hc137 : (0 : Int32) = (0 : Int32) := by decide
      refine own_to (fun t k => XS.ifYes X32.here hx rfl (pc0 := 137) (pc' := 145) rfl (hb hby at_137) rfl ((if0 _ _).trans (teq hc137).1) (by decide) (by decide) k) ?_
      show own_Out p e below _ T32 (mkF m 145 #[.val (.int x0), .val (.int x1), .val (.int x2), .val (.int x3), .val (.int x4), .val (.int (2 : Int32)), .val (.int (0 : Int32)), .val (.ref ob29), .val (.long ((2 : Int32).toInt64)), .second, .val (.long (((0 : Int64) + (x0.toInt64)) + (x1.toInt64))), .second, .val (.long (0 : Int64)), .second, .unset, .unset] []) _ _ _
      refine own_to (fun t k => XS.lconst X32.here hx rfl (hb hby at_145) k) ?_
      show own_Out p e below _ T32 (mkF m 146 #[.val (.int x0), .val (.int x1), .val (.int x2), .val (.int x3), .val (.int x4), .val (.int (2 : Int32)), .val (.int (0 : Int32)), .val (.ref ob29), .val (.long ((2 : Int32).toInt64)), .second, .val (.long (((0 : Int64) + (x0.toInt64)) + (x1.toInt64))), .second, .val (.long (0 : Int64)), .second, .unset, .unset] [(.long (0 : Int64))]) _ _ _
      refine own_to (fun t k => XS.lstore X32.here hx rfl (hb hby at_146) rfl (l' := #[.val (.int x0), .val (.int x1), .val (.int x2), .val (.int x3), .val (.int x4), .val (.int (2 : Int32)), .val (.int (0 : Int32)), .val (.ref ob29), .val (.long ((2 : Int32).toInt64)), .second, .val (.long (((0 : Int64) + (x0.toInt64)) + (x1.toInt64))), .second, .val (.long (0 : Int64)), .second, .val (.long (0 : Int64)), .second]) rfl k) ?_
      show own_Out p e below _ T32 (mkF m 148 #[.val (.int x0), .val (.int x1), .val (.int x2), .val (.int x3), .val (.int x4), .val (.int (2 : Int32)), .val (.int (0 : Int32)), .val (.ref ob29), .val (.long ((2 : Int32).toInt64)), .second, .val (.long (((0 : Int64) + (x0.toInt64)) + (x1.toInt64))), .second, .val (.long (0 : Int64)), .second, .val (.long (0 : Int64)), .second] []) _ _ _
      refine own_to (fun t k => XS.aload X32.here hx rfl (hb hby at_148) rfl rfl k) ?_
      show own_Out p e below _ T32 (mkF m 150 #[.val (.int x0), .val (.int x1), .val (.int x2), .val (.int x3), .val (.int x4), .val (.int (2 : Int32)), .val (.int (0 : Int32)), .val (.ref ob29), .val (.long ((2 : Int32).toInt64)), .second, .val (.long (((0 : Int64) + (x0.toInt64)) + (x1.toInt64))), .second, .val (.long (0 : Int64)), .second, .val (.long (0 : Int64)), .second] [(.ref ob29)]) _ _ _
      refine own_callV X32 hx hZ hown (a := ob29) (argsL := []) (rest := []) (hw _ (List.mem_of_getElem? (i := 9) rfl)) (hw _ (List.mem_of_getElem? (i := 10) rfl)) (hw _ (List.mem_of_getElem? (i := 12) rfl)) (hw _ (List.mem_of_getElem? (i := 11) rfl)) (hw _ (List.mem_of_getElem? (i := 2) rfl)) (hw _ (List.mem_of_getElem? (i := 13) rfl)) (by decide) (rm3 l Z a0 hw ob29 (((0 : Int64) + (1 : Int64)) + (1 : Int64)) hh32 n0 Z0 F_ob29_messageFrames) (by decide) (by decide) e32 E_ob29 rfl (by rw [hml]; rfl) (lenOf pd_1 rfl) rfl (W := 0) (by show 2 * 0 + _ ≤ _; exact Nat.le_of_eq rfl) (hb hby at_150) (by decide) (by decide) fun v33 T33 hh33 L33 X33 e33 hQ33 => ?_
      obtain ⟨rfl, NL33, he33⟩ := hQ33
      replace e33 := e33.trans he33
      have N33 := Fr.app N32 NL33
      show own_Out p e below _ T33 (mkF m 153 #[.val (.int x0), .val (.int x1), .val (.int x2), .val (.int x3), .val (.int x4), .val (.int (2 : Int32)), .val (.int (0 : Int32)), .val (.ref ob29), .val (.long ((2 : Int32).toInt64)), .second, .val (.long (((0 : Int64) + (x0.toInt64)) + (x1.toInt64))), .second, .val (.long (0 : Int64)), .second, .val (.long (0 : Int64)), .second] [(.long (((0 : Int64) + (1 : Int64)) + (1 : Int64)))]) _ _ _
      refine own_to (fun t k => XS.lload X33.here hx rfl (hb hby at_153) rfl k) ?_
      show own_Out p e below _ T33 (mkF m 155 #[.val (.int x0), .val (.int x1), .val (.int x2), .val (.int x3), .val (.int x4), .val (.int (2 : Int32)), .val (.int (0 : Int32)), .val (.ref ob29), .val (.long ((2 : Int32).toInt64)), .second, .val (.long (((0 : Int64) + (x0.toInt64)) + (x1.toInt64))), .second, .val (.long (0 : Int64)), .second, .val (.long (0 : Int64)), .second] [(.long ((2 : Int32).toInt64)), (.long (((0 : Int64) + (1 : Int64)) + (1 : Int64)))]) _ _ _
      refine own_to (fun t k => XS.lcmp X33.here hx rfl (hb hby at_155) rfl k) ?_
      show own_Out p e below _ T33 (mkF m 156 #[.val (.int x0), .val (.int x1), .val (.int x2), .val (.int x3), .val (.int x4), .val (.int (2 : Int32)), .val (.int (0 : Int32)), .val (.ref ob29), .val (.long ((2 : Int32).toInt64)), .second, .val (.long (((0 : Int64) + (x0.toInt64)) + (x1.toInt64))), .second, .val (.long (0 : Int64)), .second, .val (.long (0 : Int64)), .second] [(.int (lcmpW (((0 : Int64) + (1 : Int64)) + (1 : Int64)) ((2 : Int32).toInt64)))]) _ _ _
      have hc156 : (((0 : Int64) + (1 : Int64)) + (1 : Int64)) = ((2 : Int32).toInt64) := by first | rfl | decide | (simp only [Int64.zero_add]; done) | simp
      refine own_to (fun t k => XS.ifNo X33.here hx rfl (hb hby at_156) rfl ((if0 _ _).trans (teq ((lw_eq _ _).mpr hc156)).2) k) ?_
      show own_Out p e below _ T33 (mkF m 159 #[.val (.int x0), .val (.int x1), .val (.int x2), .val (.int x3), .val (.int x4), .val (.int (2 : Int32)), .val (.int (0 : Int32)), .val (.ref ob29), .val (.long ((2 : Int32).toInt64)), .second, .val (.long (((0 : Int64) + (x0.toInt64)) + (x1.toInt64))), .second, .val (.long (0 : Int64)), .second, .val (.long (0 : Int64)), .second] []) _ _ _
      refine own_to (fun t k => XS.aload X33.here hx rfl (hb hby at_159) rfl rfl k) ?_
      show own_Out p e below _ T33 (mkF m 161 #[.val (.int x0), .val (.int x1), .val (.int x2), .val (.int x3), .val (.int x4), .val (.int (2 : Int32)), .val (.int (0 : Int32)), .val (.ref ob29), .val (.long ((2 : Int32).toInt64)), .second, .val (.long (((0 : Int64) + (x0.toInt64)) + (x1.toInt64))), .second, .val (.long (0 : Int64)), .second, .val (.long (0 : Int64)), .second] [(.ref ob29)]) _ _ _
      refine own_callV X33 hx hZ hown (a := ob29) (argsL := []) (rest := []) (hw _ (List.mem_of_getElem? (i := 16) rfl)) (hw _ (List.mem_of_getElem? (i := 17) rfl)) (hw _ (List.mem_of_getElem? (i := 19) rfl)) (hw _ (List.mem_of_getElem? (i := 18) rfl)) (hw _ (List.mem_of_getElem? (i := 2) rfl)) (hw _ (List.mem_of_getElem? (i := 20) rfl)) (by decide) (rm4 l Z a0 hw ob29 (((0 : Int64) + (x0.toInt64)) + (x1.toInt64)) hh32 n0 Z0 F_ob29_messageBytes) (by decide) (by decide) e33 E_ob29 rfl (by rw [hml]; rfl) (lenOf pd_1 rfl) rfl (W := 0) (by show 2 * 0 + _ ≤ _; exact Nat.le_of_eq rfl) (hb hby at_161) (by decide) (by decide) fun v34 T34 hh34 L34 X34 e34 hQ34 => ?_
      obtain ⟨rfl, NL34, he34⟩ := hQ34
      replace e34 := e34.trans he34
      have N34 := Fr.app N33 NL34
      show own_Out p e below _ T34 (mkF m 164 #[.val (.int x0), .val (.int x1), .val (.int x2), .val (.int x3), .val (.int x4), .val (.int (2 : Int32)), .val (.int (0 : Int32)), .val (.ref ob29), .val (.long ((2 : Int32).toInt64)), .second, .val (.long (((0 : Int64) + (x0.toInt64)) + (x1.toInt64))), .second, .val (.long (0 : Int64)), .second, .val (.long (0 : Int64)), .second] [(.long (((0 : Int64) + (x0.toInt64)) + (x1.toInt64)))]) _ _ _
      refine own_to (fun t k => XS.lload X34.here hx rfl (hb hby at_164) rfl k) ?_
      show own_Out p e below _ T34 (mkF m 166 #[.val (.int x0), .val (.int x1), .val (.int x2), .val (.int x3), .val (.int x4), .val (.int (2 : Int32)), .val (.int (0 : Int32)), .val (.ref ob29), .val (.long ((2 : Int32).toInt64)), .second, .val (.long (((0 : Int64) + (x0.toInt64)) + (x1.toInt64))), .second, .val (.long (0 : Int64)), .second, .val (.long (0 : Int64)), .second] [(.long (((0 : Int64) + (x0.toInt64)) + (x1.toInt64))), (.long (((0 : Int64) + (x0.toInt64)) + (x1.toInt64)))]) _ _ _
      refine own_to (fun t k => XS.lcmp X34.here hx rfl (hb hby at_166) rfl k) ?_
      show own_Out p e below _ T34 (mkF m 167 #[.val (.int x0), .val (.int x1), .val (.int x2), .val (.int x3), .val (.int x4), .val (.int (2 : Int32)), .val (.int (0 : Int32)), .val (.ref ob29), .val (.long ((2 : Int32).toInt64)), .second, .val (.long (((0 : Int64) + (x0.toInt64)) + (x1.toInt64))), .second, .val (.long (0 : Int64)), .second, .val (.long (0 : Int64)), .second] [(.int (lcmpW (((0 : Int64) + (x0.toInt64)) + (x1.toInt64)) (((0 : Int64) + (x0.toInt64)) + (x1.toInt64))))]) _ _ _
      have hc167 : (((0 : Int64) + (x0.toInt64)) + (x1.toInt64)) = (((0 : Int64) + (x0.toInt64)) + (x1.toInt64)) := by first | rfl | decide | (simp only [Int64.zero_add]; done) | simp
      refine own_to (fun t k => XS.ifNo X34.here hx rfl (hb hby at_167) rfl ((if0 _ _).trans (teq ((lw_eq _ _).mpr hc167)).2) k) ?_
      show own_Out p e below _ T34 (mkF m 170 #[.val (.int x0), .val (.int x1), .val (.int x2), .val (.int x3), .val (.int x4), .val (.int (2 : Int32)), .val (.int (0 : Int32)), .val (.ref ob29), .val (.long ((2 : Int32).toInt64)), .second, .val (.long (((0 : Int64) + (x0.toInt64)) + (x1.toInt64))), .second, .val (.long (0 : Int64)), .second, .val (.long (0 : Int64)), .second] []) _ _ _
      refine own_to (fun t k => XS.aload X34.here hx rfl (hb hby at_170) rfl rfl k) ?_
      show own_Out p e below _ T34 (mkF m 172 #[.val (.int x0), .val (.int x1), .val (.int x2), .val (.int x3), .val (.int x4), .val (.int (2 : Int32)), .val (.int (0 : Int32)), .val (.ref ob29), .val (.long ((2 : Int32).toInt64)), .second, .val (.long (((0 : Int64) + (x0.toInt64)) + (x1.toInt64))), .second, .val (.long (0 : Int64)), .second, .val (.long (0 : Int64)), .second] [(.ref ob29)]) _ _ _
      refine own_callV X34 hx hZ hown (a := ob29) (argsL := []) (rest := []) (hw _ (List.mem_of_getElem? (i := 23) rfl)) (hw _ (List.mem_of_getElem? (i := 24) rfl)) (hw _ (List.mem_of_getElem? (i := 26) rfl)) (hw _ (List.mem_of_getElem? (i := 25) rfl)) (hw _ (List.mem_of_getElem? (i := 2) rfl)) (hw _ (List.mem_of_getElem? (i := 27) rfl)) (by decide) (rm5 l Z a0 hw ob29 (0 : Int64) hh32 n0 Z0 F_ob29_ackFrames) (by decide) (by decide) e34 E_ob29 rfl (by rw [hml]; rfl) (lenOf pd_1 rfl) rfl (W := 0) (by show 2 * 0 + _ ≤ _; exact Nat.le_of_eq rfl) (hb hby at_172) (by decide) (by decide) fun v35 T35 hh35 L35 X35 e35 hQ35 => ?_
      obtain ⟨rfl, NL35, he35⟩ := hQ35
      replace e35 := e35.trans he35
      have N35 := Fr.app N34 NL35
      show own_Out p e below _ T35 (mkF m 175 #[.val (.int x0), .val (.int x1), .val (.int x2), .val (.int x3), .val (.int x4), .val (.int (2 : Int32)), .val (.int (0 : Int32)), .val (.ref ob29), .val (.long ((2 : Int32).toInt64)), .second, .val (.long (((0 : Int64) + (x0.toInt64)) + (x1.toInt64))), .second, .val (.long (0 : Int64)), .second, .val (.long (0 : Int64)), .second] [(.long (0 : Int64))]) _ _ _
      refine own_to (fun t k => XS.lload X35.here hx rfl (hb hby at_175) rfl k) ?_
      show own_Out p e below _ T35 (mkF m 177 #[.val (.int x0), .val (.int x1), .val (.int x2), .val (.int x3), .val (.int x4), .val (.int (2 : Int32)), .val (.int (0 : Int32)), .val (.ref ob29), .val (.long ((2 : Int32).toInt64)), .second, .val (.long (((0 : Int64) + (x0.toInt64)) + (x1.toInt64))), .second, .val (.long (0 : Int64)), .second, .val (.long (0 : Int64)), .second] [(.long (0 : Int64)), (.long (0 : Int64))]) _ _ _
      refine own_to (fun t k => XS.lcmp X35.here hx rfl (hb hby at_177) rfl k) ?_
      show own_Out p e below _ T35 (mkF m 178 #[.val (.int x0), .val (.int x1), .val (.int x2), .val (.int x3), .val (.int x4), .val (.int (2 : Int32)), .val (.int (0 : Int32)), .val (.ref ob29), .val (.long ((2 : Int32).toInt64)), .second, .val (.long (((0 : Int64) + (x0.toInt64)) + (x1.toInt64))), .second, .val (.long (0 : Int64)), .second, .val (.long (0 : Int64)), .second] [(.int (lcmpW (0 : Int64) (0 : Int64)))]) _ _ _
      have hc178 : (0 : Int64) = (0 : Int64) := by first | rfl | decide | (simp only [Int64.zero_add]; done) | simp
      refine own_to (fun t k => XS.ifNo X35.here hx rfl (hb hby at_178) rfl ((if0 _ _).trans (teq ((lw_eq _ _).mpr hc178)).2) k) ?_
      show own_Out p e below _ T35 (mkF m 181 #[.val (.int x0), .val (.int x1), .val (.int x2), .val (.int x3), .val (.int x4), .val (.int (2 : Int32)), .val (.int (0 : Int32)), .val (.ref ob29), .val (.long ((2 : Int32).toInt64)), .second, .val (.long (((0 : Int64) + (x0.toInt64)) + (x1.toInt64))), .second, .val (.long (0 : Int64)), .second, .val (.long (0 : Int64)), .second] []) _ _ _
      refine own_to (fun t k => XS.aload X35.here hx rfl (hb hby at_181) rfl rfl k) ?_
      show own_Out p e below _ T35 (mkF m 183 #[.val (.int x0), .val (.int x1), .val (.int x2), .val (.int x3), .val (.int x4), .val (.int (2 : Int32)), .val (.int (0 : Int32)), .val (.ref ob29), .val (.long ((2 : Int32).toInt64)), .second, .val (.long (((0 : Int64) + (x0.toInt64)) + (x1.toInt64))), .second, .val (.long (0 : Int64)), .second, .val (.long (0 : Int64)), .second] [(.ref ob29)]) _ _ _
      refine own_callV X35 hx hZ hown (a := ob29) (argsL := []) (rest := []) (hw _ (List.mem_of_getElem? (i := 30) rfl)) (hw _ (List.mem_of_getElem? (i := 31) rfl)) (hw _ (List.mem_of_getElem? (i := 33) rfl)) (hw _ (List.mem_of_getElem? (i := 32) rfl)) (hw _ (List.mem_of_getElem? (i := 2) rfl)) (hw _ (List.mem_of_getElem? (i := 34) rfl)) (by decide) (rm6 l Z a0 hw ob29 (0 : Int64) hh32 n0 Z0 F_ob29_ackBytes) (by decide) (by decide) e35 E_ob29 rfl (by rw [hml]; rfl) (lenOf pd_1 rfl) rfl (W := 0) (by show 2 * 0 + _ ≤ _; exact Nat.le_of_eq rfl) (hb hby at_183) (by decide) (by decide) fun v36 T36 hh36 L36 X36 e36 hQ36 => ?_
      obtain ⟨rfl, NL36, he36⟩ := hQ36
      replace e36 := e36.trans he36
      have N36 := Fr.app N35 NL36
      show own_Out p e below _ T36 (mkF m 186 #[.val (.int x0), .val (.int x1), .val (.int x2), .val (.int x3), .val (.int x4), .val (.int (2 : Int32)), .val (.int (0 : Int32)), .val (.ref ob29), .val (.long ((2 : Int32).toInt64)), .second, .val (.long (((0 : Int64) + (x0.toInt64)) + (x1.toInt64))), .second, .val (.long (0 : Int64)), .second, .val (.long (0 : Int64)), .second] [(.long (0 : Int64))]) _ _ _
      refine own_to (fun t k => XS.lload X36.here hx rfl (hb hby at_186) rfl k) ?_
      show own_Out p e below _ T36 (mkF m 188 #[.val (.int x0), .val (.int x1), .val (.int x2), .val (.int x3), .val (.int x4), .val (.int (2 : Int32)), .val (.int (0 : Int32)), .val (.ref ob29), .val (.long ((2 : Int32).toInt64)), .second, .val (.long (((0 : Int64) + (x0.toInt64)) + (x1.toInt64))), .second, .val (.long (0 : Int64)), .second, .val (.long (0 : Int64)), .second] [(.long (0 : Int64)), (.long (0 : Int64))]) _ _ _
      refine own_to (fun t k => XS.lcmp X36.here hx rfl (hb hby at_188) rfl k) ?_
      show own_Out p e below _ T36 (mkF m 189 #[.val (.int x0), .val (.int x1), .val (.int x2), .val (.int x3), .val (.int x4), .val (.int (2 : Int32)), .val (.int (0 : Int32)), .val (.ref ob29), .val (.long ((2 : Int32).toInt64)), .second, .val (.long (((0 : Int64) + (x0.toInt64)) + (x1.toInt64))), .second, .val (.long (0 : Int64)), .second, .val (.long (0 : Int64)), .second] [(.int (lcmpW (0 : Int64) (0 : Int64)))]) _ _ _
      have hc189 : (0 : Int64) = (0 : Int64) := by first | rfl | decide | (simp only [Int64.zero_add]; done) | simp
      refine own_to (fun t k => XS.ifNo X36.here hx rfl (hb hby at_189) rfl ((if0 _ _).trans (teq ((lw_eq _ _).mpr hc189)).2) k) ?_
      show own_Out p e below _ T36 (mkF m 192 #[.val (.int x0), .val (.int x1), .val (.int x2), .val (.int x3), .val (.int x4), .val (.int (2 : Int32)), .val (.int (0 : Int32)), .val (.ref ob29), .val (.long ((2 : Int32).toInt64)), .second, .val (.long (((0 : Int64) + (x0.toInt64)) + (x1.toInt64))), .second, .val (.long (0 : Int64)), .second, .val (.long (0 : Int64)), .second] []) _ _ _
      refine own_to (fun t k => XS.iconst X36.here hx rfl (hb hby at_192) k) ?_
      show own_Out p e below _ T36 (mkF m 193 #[.val (.int x0), .val (.int x1), .val (.int x2), .val (.int x3), .val (.int x4), .val (.int (2 : Int32)), .val (.int (0 : Int32)), .val (.ref ob29), .val (.long ((2 : Int32).toInt64)), .second, .val (.long (((0 : Int64) + (x0.toInt64)) + (x1.toInt64))), .second, .val (.long (0 : Int64)), .second, .val (.long (0 : Int64)), .second] [(.int (1 : Int32))]) _ _ _
      refine own_to (fun t k => XS.goto X36.here hx rfl (pc0 := 193) (pc' := 197) rfl (hb hby at_193) (by decide) (by decide) k) ?_
      show own_Out p e below _ T36 (mkF m 197 #[.val (.int x0), .val (.int x1), .val (.int x2), .val (.int x3), .val (.int x4), .val (.int (2 : Int32)), .val (.int (0 : Int32)), .val (.ref ob29), .val (.long ((2 : Int32).toInt64)), .second, .val (.long (((0 : Int64) + (x0.toInt64)) + (x1.toInt64))), .second, .val (.long (0 : Int64)), .second, .val (.long (0 : Int64)), .second] [(.int (1 : Int32))]) _ _ _
      refine own_retV X36 hx hlk (w := .int (1 : Int32)) hret rfl (Or.inl ⟨rfl, by simp, _, rfl⟩) (hb hby at_197) (by decide) (by decide) ?_
      rw [e36]
      exact ⟨rfl, N36⟩
    · refine own_to (fun t k => XS.ifNo X0.here hx rfl (hb hby at_10) rfl ((if0 _ _).trans (feq hc10).1) k) ?_
      show own_Out p e below _ s₁ (mkF m 13 #[.val (.int x0), .val (.int x1), .val (.int x2), .val (.int x3), .val (.int x4), .val (.int (2 : Int32)), .unset, .unset, .unset, .unset, .unset, .unset, .unset, .unset, .unset, .unset] []) _ _ _
      refine own_to (fun t k => XS.iconst X0.here hx rfl (hb hby at_13) k) ?_
      show own_Out p e below _ s₁ (mkF m 14 #[.val (.int x0), .val (.int x1), .val (.int x2), .val (.int x3), .val (.int x4), .val (.int (2 : Int32)), .unset, .unset, .unset, .unset, .unset, .unset, .unset, .unset, .unset, .unset] [(.int (1 : Int32))]) _ _ _
      refine own_to (fun t k => XS.goto X0.here hx rfl (pc0 := 14) (pc' := 18) rfl (hb hby at_14) (by decide) (by decide) k) ?_
      show own_Out p e below _ s₁ (mkF m 18 #[.val (.int x0), .val (.int x1), .val (.int x2), .val (.int x3), .val (.int x4), .val (.int (2 : Int32)), .unset, .unset, .unset, .unset, .unset, .unset, .unset, .unset, .unset, .unset] [(.int (1 : Int32))]) _ _ _
      refine own_to (fun t k => XS.istore X0.here hx rfl (hb hby at_18) rfl (l' := #[.val (.int x0), .val (.int x1), .val (.int x2), .val (.int x3), .val (.int x4), .val (.int (2 : Int32)), .val (.int (1 : Int32)), .unset, .unset, .unset, .unset, .unset, .unset, .unset, .unset, .unset]) rfl k) ?_
      show own_Out p e below _ s₁ (mkF m 20 #[.val (.int x0), .val (.int x1), .val (.int x2), .val (.int x3), .val (.int x4), .val (.int (2 : Int32)), .val (.int (1 : Int32)), .unset, .unset, .unset, .unset, .unset, .unset, .unset, .unset, .unset] []) _ _ _
      refine own_new X0 hx hZ hown (hw _ (List.mem_of_getElem? (i := 0) rfl)) (hw _ (List.mem_of_getElem? (i := 1) rfl)) (hw _ (List.mem_of_getElem? (i := 2) rfl)) e0 rfl (hb hby at_20) (by decide) (by decide) fun T37 hh37 ob37 gb37 X37 e37 E37 A37 D37 => ?_
      have g_ob37 : n0 ≤ ob37 := Nat.le_trans Z0 (Nat.le_of_eq gb37.symm)
      have Z0 := Nat.le_trans Z0 E37.1
      have E_ob37 := A37
      have F_ob37_messageFrames : Fld Z hh37 ob37 "com/example/mingle/mingle/FrameCounts" "messageFrames" "J" (.long (0 : Int64)) := D37 (Or.inl (hw _ (List.mem_of_getElem? (i := 15) rfl))) (ty := .long) (by decide)
      have F_ob37_messageBytes : Fld Z hh37 ob37 "com/example/mingle/mingle/FrameCounts" "messageBytes" "J" (.long (0 : Int64)) := D37 (Or.inl (hw _ (List.mem_of_getElem? (i := 22) rfl))) (ty := .long) (by decide)
      have F_ob37_ackFrames : Fld Z hh37 ob37 "com/example/mingle/mingle/FrameCounts" "ackFrames" "J" (.long (0 : Int64)) := D37 (Or.inl (hw _ (List.mem_of_getElem? (i := 29) rfl))) (ty := .long) (by decide)
      have F_ob37_ackBytes : Fld Z hh37 ob37 "com/example/mingle/mingle/FrameCounts" "ackBytes" "J" (.long (0 : Int64)) := D37 (Or.inl (hw _ (List.mem_of_getElem? (i := 36) rfl))) (ty := .long) (by decide)
      show own_Out p e below _ T37 (mkF m 23 #[.val (.int x0), .val (.int x1), .val (.int x2), .val (.int x3), .val (.int x4), .val (.int (2 : Int32)), .val (.int (1 : Int32)), .unset, .unset, .unset, .unset, .unset, .unset, .unset, .unset, .unset] [(.ref ob37)]) _ _ _
      refine own_to (fun t k => XS.dup X37.here hx rfl (hb hby at_23) rfl rfl k) ?_
      show own_Out p e below _ T37 (mkF m 24 #[.val (.int x0), .val (.int x1), .val (.int x2), .val (.int x3), .val (.int x4), .val (.int (2 : Int32)), .val (.int (1 : Int32)), .unset, .unset, .unset, .unset, .unset, .unset, .unset, .unset, .unset] [(.ref ob37), (.ref ob37)]) _ _ _
      refine own_callC X37 hx hZ hown (a := ob37) (argsL := []) (rest := [(.ref ob37)]) rfl (hw _ (List.mem_of_getElem? (i := 3) rfl)) (hw _ (List.mem_of_getElem? (i := 4) rfl)) (hw _ (List.mem_of_getElem? (i := 2) rfl)) (hw _ (List.mem_of_getElem? (i := 5) rfl)) (by decide) (rm1 l Z a0 hw ob37 hh37 n0 Z0 ) (by decide) (by decide) e37 rfl (by rw [hml]; rfl) (lenOf pd_0 rfl) rfl (W := 1) (by show 2 * 0 + _ ≤ _; exact Nat.le_of_eq rfl) (hb hby at_24) (by decide) (by decide) fun v38 T38 hh38 L38 X38 e38 hQ38 => ?_
      obtain ⟨rfl, NL38, he38⟩ := hQ38
      replace e38 := e38.trans he38
      have N38 := Fr.app N0 NL38
      show own_Out p e below _ T38 (mkF m 27 #[.val (.int x0), .val (.int x1), .val (.int x2), .val (.int x3), .val (.int x4), .val (.int (2 : Int32)), .val (.int (1 : Int32)), .unset, .unset, .unset, .unset, .unset, .unset, .unset, .unset, .unset] [(.ref ob37)]) _ _ _
      refine own_to (fun t k => XS.astore X38.here hx rfl (hb hby at_27) rfl rfl (l' := #[.val (.int x0), .val (.int x1), .val (.int x2), .val (.int x3), .val (.int x4), .val (.int (2 : Int32)), .val (.int (1 : Int32)), .val (.ref ob37), .unset, .unset, .unset, .unset, .unset, .unset, .unset, .unset]) rfl k) ?_
      show own_Out p e below _ T38 (mkF m 29 #[.val (.int x0), .val (.int x1), .val (.int x2), .val (.int x3), .val (.int x4), .val (.int (2 : Int32)), .val (.int (1 : Int32)), .val (.ref ob37), .unset, .unset, .unset, .unset, .unset, .unset, .unset, .unset] []) _ _ _
      refine own_to (fun t k => XS.iload X38.here hx rfl (hb hby at_29) rfl k) ?_
      show own_Out p e below _ T38 (mkF m 31 #[.val (.int x0), .val (.int x1), .val (.int x2), .val (.int x3), .val (.int x4), .val (.int (2 : Int32)), .val (.int (1 : Int32)), .val (.ref ob37), .unset, .unset, .unset, .unset, .unset, .unset, .unset, .unset] [(.int (2 : Int32))]) _ _ _
      refine own_to (fun t k => XS.iconst X38.here hx rfl (hb hby at_31) k) ?_
      show own_Out p e below _ T38 (mkF m 32 #[.val (.int x0), .val (.int x1), .val (.int x2), .val (.int x3), .val (.int x4), .val (.int (2 : Int32)), .val (.int (1 : Int32)), .val (.ref ob37), .unset, .unset, .unset, .unset, .unset, .unset, .unset, .unset] [(.int (1 : Int32)), (.int (2 : Int32))]) _ _ _
      have hc32 : ¬ ((2 : Int32) < (1 : Int32)) := by decide
      refine own_to (fun t k => XS.icmpNo X38.here hx rfl (hb hby at_32) rfl (flt hc32).1 k) ?_
      show own_Out p e below _ T38 (mkF m 35 #[.val (.int x0), .val (.int x1), .val (.int x2), .val (.int x3), .val (.int x4), .val (.int (2 : Int32)), .val (.int (1 : Int32)), .val (.ref ob37), .unset, .unset, .unset, .unset, .unset, .unset, .unset, .unset] []) _ _ _
      refine own_to (fun t k => XS.aload X38.here hx rfl (hb hby at_35) rfl rfl k) ?_
      show own_Out p e below _ T38 (mkF m 37 #[.val (.int x0), .val (.int x1), .val (.int x2), .val (.int x3), .val (.int x4), .val (.int (2 : Int32)), .val (.int (1 : Int32)), .val (.ref ob37), .unset, .unset, .unset, .unset, .unset, .unset, .unset, .unset] [(.ref ob37)]) _ _ _
      refine own_to (fun t k => XS.iloadN X38.here hx rfl (hb hby at_37) rfl k) ?_
      show own_Out p e below _ T38 (mkF m 38 #[.val (.int x0), .val (.int x1), .val (.int x2), .val (.int x3), .val (.int x4), .val (.int (2 : Int32)), .val (.int (1 : Int32)), .val (.ref ob37), .unset, .unset, .unset, .unset, .unset, .unset, .unset, .unset] [(.int x0), (.ref ob37)]) _ _ _
      refine own_callV X38 hx hZ hown (a := ob37) (argsL := [(.int x0)]) (rest := []) (hw _ (List.mem_of_getElem? (i := 37) rfl)) (hw _ (List.mem_of_getElem? (i := 38) rfl)) (hw _ (List.mem_of_getElem? (i := 40) rfl)) (hw _ (List.mem_of_getElem? (i := 39) rfl)) (hw _ (List.mem_of_getElem? (i := 2) rfl)) (hw _ (List.mem_of_getElem? (i := 41) rfl)) (by decide) (rm7 l Z a0 hw ob37 x0 (0 : Int64) (0 : Int64) (0 : Int64) (0 : Int64) hh37 n0 Z0 E_ob37 F_ob37_messageFrames F_ob37_messageBytes g_ob37 F_ob37_ackFrames F_ob37_ackBytes) (by decide) (by decide) e38 E_ob37 rfl (by rw [hml]; rfl) (lenOf pd_2 rfl) rfl (W := 0) (by show 2 * 0 + _ ≤ _; exact Nat.le_of_eq rfl) (hb hby at_38) (by decide) (by decide) fun v39 T39 hh39 L39 X39 e39 hQ39 => ?_
      obtain ⟨rfl, NL39, KK39, P39_0, P39_1, P39_2, P39_3⟩ := hQ39
      have E_ob37 := E_ob37.keep KK39
      have F_ob37_messageFrames := P39_0
      have F_ob37_messageBytes := P39_1
      have F_ob37_ackFrames := P39_2
      have F_ob37_ackBytes := P39_3
      have Z0 := Nat.le_trans Z0 KK39.1
      have N39 := Fr.app N38 NL39
      show own_Out p e below _ T39 (mkF m 41 #[.val (.int x0), .val (.int x1), .val (.int x2), .val (.int x3), .val (.int x4), .val (.int (2 : Int32)), .val (.int (1 : Int32)), .val (.ref ob37), .unset, .unset, .unset, .unset, .unset, .unset, .unset, .unset] []) _ _ _
      refine own_to (fun t k => XS.iload X39.here hx rfl (hb hby at_41) rfl k) ?_
      show own_Out p e below _ T39 (mkF m 43 #[.val (.int x0), .val (.int x1), .val (.int x2), .val (.int x3), .val (.int x4), .val (.int (2 : Int32)), .val (.int (1 : Int32)), .val (.ref ob37), .unset, .unset, .unset, .unset, .unset, .unset, .unset, .unset] [(.int (1 : Int32))]) _ _ _
      have hc43 : ¬ ((1 : Int32) = (0 : Int32)) := by decide
      refine own_to (fun t k => XS.ifNo X39.here hx rfl (hb hby at_43) rfl ((if0 _ _).trans (feq hc43).1) k) ?_
      show own_Out p e below _ T39 (mkF m 46 #[.val (.int x0), .val (.int x1), .val (.int x2), .val (.int x3), .val (.int x4), .val (.int (2 : Int32)), .val (.int (1 : Int32)), .val (.ref ob37), .unset, .unset, .unset, .unset, .unset, .unset, .unset, .unset] []) _ _ _
      refine own_to (fun t k => XS.aload X39.here hx rfl (hb hby at_46) rfl rfl k) ?_
      show own_Out p e below _ T39 (mkF m 48 #[.val (.int x0), .val (.int x1), .val (.int x2), .val (.int x3), .val (.int x4), .val (.int (2 : Int32)), .val (.int (1 : Int32)), .val (.ref ob37), .unset, .unset, .unset, .unset, .unset, .unset, .unset, .unset] [(.ref ob37)]) _ _ _
      refine own_to (fun t k => XS.iloadN X39.here hx rfl (hb hby at_48) rfl k) ?_
      show own_Out p e below _ T39 (mkF m 49 #[.val (.int x0), .val (.int x1), .val (.int x2), .val (.int x3), .val (.int x4), .val (.int (2 : Int32)), .val (.int (1 : Int32)), .val (.ref ob37), .unset, .unset, .unset, .unset, .unset, .unset, .unset, .unset] [(.int x3), (.ref ob37)]) _ _ _
      refine own_callV X39 hx hZ hown (a := ob37) (argsL := [(.int x3)]) (rest := []) (hw _ (List.mem_of_getElem? (i := 42) rfl)) (hw _ (List.mem_of_getElem? (i := 43) rfl)) (hw _ (List.mem_of_getElem? (i := 45) rfl)) (hw _ (List.mem_of_getElem? (i := 44) rfl)) (hw _ (List.mem_of_getElem? (i := 2) rfl)) (hw _ (List.mem_of_getElem? (i := 46) rfl)) (by decide) (rm8 l Z a0 hw ob37 x3 (0 : Int64) (0 : Int64) ((0 : Int64) + (1 : Int64)) ((0 : Int64) + (x0.toInt64)) hh39 n0 Z0 E_ob37 F_ob37_ackFrames F_ob37_ackBytes g_ob37 F_ob37_messageFrames F_ob37_messageBytes) (by decide) (by decide) e39 E_ob37 rfl (by rw [hml]; rfl) (lenOf pd_2 rfl) rfl (W := 0) (by show 2 * 0 + _ ≤ _; exact Nat.le_of_eq rfl) (hb hby at_49) (by decide) (by decide) fun v40 T40 hh40 L40 X40 e40 hQ40 => ?_
      obtain ⟨rfl, NL40, KK40, P40_0, P40_1, P40_2, P40_3⟩ := hQ40
      have E_ob37 := E_ob37.keep KK40
      have F_ob37_ackFrames := P40_0
      have F_ob37_ackBytes := P40_1
      have F_ob37_messageFrames := P40_2
      have F_ob37_messageBytes := P40_3
      have Z0 := Nat.le_trans Z0 KK40.1
      have N40 := Fr.app N39 NL40
      show own_Out p e below _ T40 (mkF m 52 #[.val (.int x0), .val (.int x1), .val (.int x2), .val (.int x3), .val (.int x4), .val (.int (2 : Int32)), .val (.int (1 : Int32)), .val (.ref ob37), .unset, .unset, .unset, .unset, .unset, .unset, .unset, .unset] []) _ _ _
      refine own_to (fun t k => XS.iload X40.here hx rfl (hb hby at_52) rfl k) ?_
      show own_Out p e below _ T40 (mkF m 54 #[.val (.int x0), .val (.int x1), .val (.int x2), .val (.int x3), .val (.int x4), .val (.int (2 : Int32)), .val (.int (1 : Int32)), .val (.ref ob37), .unset, .unset, .unset, .unset, .unset, .unset, .unset, .unset] [(.int (2 : Int32))]) _ _ _
      refine own_to (fun t k => XS.iconst X40.here hx rfl (hb hby at_54) k) ?_
      show own_Out p e below _ T40 (mkF m 55 #[.val (.int x0), .val (.int x1), .val (.int x2), .val (.int x3), .val (.int x4), .val (.int (2 : Int32)), .val (.int (1 : Int32)), .val (.ref ob37), .unset, .unset, .unset, .unset, .unset, .unset, .unset, .unset] [(.int (2 : Int32)), (.int (2 : Int32))]) _ _ _
      have hc55 : ¬ ((2 : Int32) < (2 : Int32)) := by decide
      refine own_to (fun t k => XS.icmpNo X40.here hx rfl (hb hby at_55) rfl (flt hc55).1 k) ?_
      show own_Out p e below _ T40 (mkF m 58 #[.val (.int x0), .val (.int x1), .val (.int x2), .val (.int x3), .val (.int x4), .val (.int (2 : Int32)), .val (.int (1 : Int32)), .val (.ref ob37), .unset, .unset, .unset, .unset, .unset, .unset, .unset, .unset] []) _ _ _
      refine own_to (fun t k => XS.aload X40.here hx rfl (hb hby at_58) rfl rfl k) ?_
      show own_Out p e below _ T40 (mkF m 60 #[.val (.int x0), .val (.int x1), .val (.int x2), .val (.int x3), .val (.int x4), .val (.int (2 : Int32)), .val (.int (1 : Int32)), .val (.ref ob37), .unset, .unset, .unset, .unset, .unset, .unset, .unset, .unset] [(.ref ob37)]) _ _ _
      refine own_to (fun t k => XS.iloadN X40.here hx rfl (hb hby at_60) rfl k) ?_
      show own_Out p e below _ T40 (mkF m 61 #[.val (.int x0), .val (.int x1), .val (.int x2), .val (.int x3), .val (.int x4), .val (.int (2 : Int32)), .val (.int (1 : Int32)), .val (.ref ob37), .unset, .unset, .unset, .unset, .unset, .unset, .unset, .unset] [(.int x1), (.ref ob37)]) _ _ _
      refine own_callV X40 hx hZ hown (a := ob37) (argsL := [(.int x1)]) (rest := []) (hw _ (List.mem_of_getElem? (i := 37) rfl)) (hw _ (List.mem_of_getElem? (i := 38) rfl)) (hw _ (List.mem_of_getElem? (i := 40) rfl)) (hw _ (List.mem_of_getElem? (i := 39) rfl)) (hw _ (List.mem_of_getElem? (i := 2) rfl)) (hw _ (List.mem_of_getElem? (i := 41) rfl)) (by decide) (rm7 l Z a0 hw ob37 x1 ((0 : Int64) + (1 : Int64)) ((0 : Int64) + (x0.toInt64)) ((0 : Int64) + (1 : Int64)) ((0 : Int64) + (x3.toInt64)) hh40 n0 Z0 E_ob37 F_ob37_messageFrames F_ob37_messageBytes g_ob37 F_ob37_ackFrames F_ob37_ackBytes) (by decide) (by decide) e40 E_ob37 rfl (by rw [hml]; rfl) (lenOf pd_2 rfl) rfl (W := 0) (by show 2 * 0 + _ ≤ _; exact Nat.le_of_eq rfl) (hb hby at_61) (by decide) (by decide) fun v41 T41 hh41 L41 X41 e41 hQ41 => ?_
      obtain ⟨rfl, NL41, KK41, P41_0, P41_1, P41_2, P41_3⟩ := hQ41
      have E_ob37 := E_ob37.keep KK41
      have F_ob37_messageFrames := P41_0
      have F_ob37_messageBytes := P41_1
      have F_ob37_ackFrames := P41_2
      have F_ob37_ackBytes := P41_3
      have Z0 := Nat.le_trans Z0 KK41.1
      have N41 := Fr.app N40 NL41
      show own_Out p e below _ T41 (mkF m 64 #[.val (.int x0), .val (.int x1), .val (.int x2), .val (.int x3), .val (.int x4), .val (.int (2 : Int32)), .val (.int (1 : Int32)), .val (.ref ob37), .unset, .unset, .unset, .unset, .unset, .unset, .unset, .unset] []) _ _ _
      refine own_to (fun t k => XS.iload X41.here hx rfl (hb hby at_64) rfl k) ?_
      show own_Out p e below _ T41 (mkF m 66 #[.val (.int x0), .val (.int x1), .val (.int x2), .val (.int x3), .val (.int x4), .val (.int (2 : Int32)), .val (.int (1 : Int32)), .val (.ref ob37), .unset, .unset, .unset, .unset, .unset, .unset, .unset, .unset] [(.int (2 : Int32))]) _ _ _
      refine own_to (fun t k => XS.iconst X41.here hx rfl (hb hby at_66) k) ?_
      show own_Out p e below _ T41 (mkF m 67 #[.val (.int x0), .val (.int x1), .val (.int x2), .val (.int x3), .val (.int x4), .val (.int (2 : Int32)), .val (.int (1 : Int32)), .val (.ref ob37), .unset, .unset, .unset, .unset, .unset, .unset, .unset, .unset] [(.int (3 : Int32)), (.int (2 : Int32))]) _ _ _
      have hc67 : (2 : Int32) < (3 : Int32) := by decide
      refine own_to (fun t k => XS.icmpYes X41.here hx rfl (pc0 := 67) (pc' := 76) rfl (hb hby at_67) rfl (tlt hc67).1 (by decide) (by decide) k) ?_
      show own_Out p e below _ T41 (mkF m 76 #[.val (.int x0), .val (.int x1), .val (.int x2), .val (.int x3), .val (.int x4), .val (.int (2 : Int32)), .val (.int (1 : Int32)), .val (.ref ob37), .unset, .unset, .unset, .unset, .unset, .unset, .unset, .unset] []) _ _ _
      refine own_to (fun t k => XS.iload X41.here hx rfl (hb hby at_76) rfl k) ?_
      show own_Out p e below _ T41 (mkF m 78 #[.val (.int x0), .val (.int x1), .val (.int x2), .val (.int x3), .val (.int x4), .val (.int (2 : Int32)), .val (.int (1 : Int32)), .val (.ref ob37), .unset, .unset, .unset, .unset, .unset, .unset, .unset, .unset] [(.int (2 : Int32))]) _ _ _
      refine own_to (fun t k => XS.i2l X41.here hx rfl (hb hby at_78) rfl k) ?_
      show own_Out p e below _ T41 (mkF m 79 #[.val (.int x0), .val (.int x1), .val (.int x2), .val (.int x3), .val (.int x4), .val (.int (2 : Int32)), .val (.int (1 : Int32)), .val (.ref ob37), .unset, .unset, .unset, .unset, .unset, .unset, .unset, .unset] [(.long ((2 : Int32).toInt64))]) _ _ _
      refine own_to (fun t k => XS.lstore X41.here hx rfl (hb hby at_79) rfl (l' := #[.val (.int x0), .val (.int x1), .val (.int x2), .val (.int x3), .val (.int x4), .val (.int (2 : Int32)), .val (.int (1 : Int32)), .val (.ref ob37), .val (.long ((2 : Int32).toInt64)), .second, .unset, .unset, .unset, .unset, .unset, .unset]) rfl k) ?_
      show own_Out p e below _ T41 (mkF m 81 #[.val (.int x0), .val (.int x1), .val (.int x2), .val (.int x3), .val (.int x4), .val (.int (2 : Int32)), .val (.int (1 : Int32)), .val (.ref ob37), .val (.long ((2 : Int32).toInt64)), .second, .unset, .unset, .unset, .unset, .unset, .unset] []) _ _ _
      refine own_to (fun t k => XS.lconst X41.here hx rfl (hb hby at_81) k) ?_
      show own_Out p e below _ T41 (mkF m 82 #[.val (.int x0), .val (.int x1), .val (.int x2), .val (.int x3), .val (.int x4), .val (.int (2 : Int32)), .val (.int (1 : Int32)), .val (.ref ob37), .val (.long ((2 : Int32).toInt64)), .second, .unset, .unset, .unset, .unset, .unset, .unset] [(.long (0 : Int64))]) _ _ _
      refine own_to (fun t k => XS.lstore X41.here hx rfl (hb hby at_82) rfl (l' := #[.val (.int x0), .val (.int x1), .val (.int x2), .val (.int x3), .val (.int x4), .val (.int (2 : Int32)), .val (.int (1 : Int32)), .val (.ref ob37), .val (.long ((2 : Int32).toInt64)), .second, .val (.long (0 : Int64)), .second, .unset, .unset, .unset, .unset]) rfl k) ?_
      show own_Out p e below _ T41 (mkF m 84 #[.val (.int x0), .val (.int x1), .val (.int x2), .val (.int x3), .val (.int x4), .val (.int (2 : Int32)), .val (.int (1 : Int32)), .val (.ref ob37), .val (.long ((2 : Int32).toInt64)), .second, .val (.long (0 : Int64)), .second, .unset, .unset, .unset, .unset] []) _ _ _
      refine own_to (fun t k => XS.iload X41.here hx rfl (hb hby at_84) rfl k) ?_
      show own_Out p e below _ T41 (mkF m 86 #[.val (.int x0), .val (.int x1), .val (.int x2), .val (.int x3), .val (.int x4), .val (.int (2 : Int32)), .val (.int (1 : Int32)), .val (.ref ob37), .val (.long ((2 : Int32).toInt64)), .second, .val (.long (0 : Int64)), .second, .unset, .unset, .unset, .unset] [(.int (2 : Int32))]) _ _ _
      refine own_to (fun t k => XS.iconst X41.here hx rfl (hb hby at_86) k) ?_
      show own_Out p e below _ T41 (mkF m 87 #[.val (.int x0), .val (.int x1), .val (.int x2), .val (.int x3), .val (.int x4), .val (.int (2 : Int32)), .val (.int (1 : Int32)), .val (.ref ob37), .val (.long ((2 : Int32).toInt64)), .second, .val (.long (0 : Int64)), .second, .unset, .unset, .unset, .unset] [(.int (1 : Int32)), (.int (2 : Int32))]) _ _ _
      have hc87 : ¬ ((2 : Int32) < (1 : Int32)) := by decide
      refine own_to (fun t k => XS.icmpNo X41.here hx rfl (hb hby at_87) rfl (flt hc87).1 k) ?_
      show own_Out p e below _ T41 (mkF m 90 #[.val (.int x0), .val (.int x1), .val (.int x2), .val (.int x3), .val (.int x4), .val (.int (2 : Int32)), .val (.int (1 : Int32)), .val (.ref ob37), .val (.long ((2 : Int32).toInt64)), .second, .val (.long (0 : Int64)), .second, .unset, .unset, .unset, .unset] []) _ _ _
      refine own_to (fun t k => XS.lload X41.here hx rfl (hb hby at_90) rfl k) ?_
      show own_Out p e below _ T41 (mkF m 92 #[.val (.int x0), .val (.int x1), .val (.int x2), .val (.int x3), .val (.int x4), .val (.int (2 : Int32)), .val (.int (1 : Int32)), .val (.ref ob37), .val (.long ((2 : Int32).toInt64)), .second, .val (.long (0 : Int64)), .second, .unset, .unset, .unset, .unset] [(.long (0 : Int64))]) _ _ _
      refine own_to (fun t k => XS.iloadN X41.here hx rfl (hb hby at_92) rfl k) ?_
      show own_Out p e below _ T41 (mkF m 93 #[.val (.int x0), .val (.int x1), .val (.int x2), .val (.int x3), .val (.int x4), .val (.int (2 : Int32)), .val (.int (1 : Int32)), .val (.ref ob37), .val (.long ((2 : Int32).toInt64)), .second, .val (.long (0 : Int64)), .second, .unset, .unset, .unset, .unset] [(.int x0), (.long (0 : Int64))]) _ _ _
      refine own_to (fun t k => XS.i2l X41.here hx rfl (hb hby at_93) rfl k) ?_
      show own_Out p e below _ T41 (mkF m 94 #[.val (.int x0), .val (.int x1), .val (.int x2), .val (.int x3), .val (.int x4), .val (.int (2 : Int32)), .val (.int (1 : Int32)), .val (.ref ob37), .val (.long ((2 : Int32).toInt64)), .second, .val (.long (0 : Int64)), .second, .unset, .unset, .unset, .unset] [(.long (x0.toInt64)), (.long (0 : Int64))]) _ _ _
      refine own_to (fun t k => XS.ladd X41.here hx rfl (hb hby at_94) rfl k) ?_
      show own_Out p e below _ T41 (mkF m 95 #[.val (.int x0), .val (.int x1), .val (.int x2), .val (.int x3), .val (.int x4), .val (.int (2 : Int32)), .val (.int (1 : Int32)), .val (.ref ob37), .val (.long ((2 : Int32).toInt64)), .second, .val (.long (0 : Int64)), .second, .unset, .unset, .unset, .unset] [(.long ((0 : Int64) + (x0.toInt64)))]) _ _ _
      refine own_to (fun t k => XS.lstore X41.here hx rfl (hb hby at_95) rfl (l' := #[.val (.int x0), .val (.int x1), .val (.int x2), .val (.int x3), .val (.int x4), .val (.int (2 : Int32)), .val (.int (1 : Int32)), .val (.ref ob37), .val (.long ((2 : Int32).toInt64)), .second, .val (.long ((0 : Int64) + (x0.toInt64))), .second, .unset, .unset, .unset, .unset]) rfl k) ?_
      show own_Out p e below _ T41 (mkF m 97 #[.val (.int x0), .val (.int x1), .val (.int x2), .val (.int x3), .val (.int x4), .val (.int (2 : Int32)), .val (.int (1 : Int32)), .val (.ref ob37), .val (.long ((2 : Int32).toInt64)), .second, .val (.long ((0 : Int64) + (x0.toInt64))), .second, .unset, .unset, .unset, .unset] []) _ _ _
      refine own_to (fun t k => XS.iload X41.here hx rfl (hb hby at_97) rfl k) ?_
      show own_Out p e below _ T41 (mkF m 99 #[.val (.int x0), .val (.int x1), .val (.int x2), .val (.int x3), .val (.int x4), .val (.int (2 : Int32)), .val (.int (1 : Int32)), .val (.ref ob37), .val (.long ((2 : Int32).toInt64)), .second, .val (.long ((0 : Int64) + (x0.toInt64))), .second, .unset, .unset, .unset, .unset] [(.int (2 : Int32))]) _ _ _
      refine own_to (fun t k => XS.iconst X41.here hx rfl (hb hby at_99) k) ?_
      show own_Out p e below _ T41 (mkF m 100 #[.val (.int x0), .val (.int x1), .val (.int x2), .val (.int x3), .val (.int x4), .val (.int (2 : Int32)), .val (.int (1 : Int32)), .val (.ref ob37), .val (.long ((2 : Int32).toInt64)), .second, .val (.long ((0 : Int64) + (x0.toInt64))), .second, .unset, .unset, .unset, .unset] [(.int (2 : Int32)), (.int (2 : Int32))]) _ _ _
      have hc100 : ¬ ((2 : Int32) < (2 : Int32)) := by decide
      refine own_to (fun t k => XS.icmpNo X41.here hx rfl (hb hby at_100) rfl (flt hc100).1 k) ?_
      show own_Out p e below _ T41 (mkF m 103 #[.val (.int x0), .val (.int x1), .val (.int x2), .val (.int x3), .val (.int x4), .val (.int (2 : Int32)), .val (.int (1 : Int32)), .val (.ref ob37), .val (.long ((2 : Int32).toInt64)), .second, .val (.long ((0 : Int64) + (x0.toInt64))), .second, .unset, .unset, .unset, .unset] []) _ _ _
      refine own_to (fun t k => XS.lload X41.here hx rfl (hb hby at_103) rfl k) ?_
      show own_Out p e below _ T41 (mkF m 105 #[.val (.int x0), .val (.int x1), .val (.int x2), .val (.int x3), .val (.int x4), .val (.int (2 : Int32)), .val (.int (1 : Int32)), .val (.ref ob37), .val (.long ((2 : Int32).toInt64)), .second, .val (.long ((0 : Int64) + (x0.toInt64))), .second, .unset, .unset, .unset, .unset] [(.long ((0 : Int64) + (x0.toInt64)))]) _ _ _
      refine own_to (fun t k => XS.iloadN X41.here hx rfl (hb hby at_105) rfl k) ?_
      show own_Out p e below _ T41 (mkF m 106 #[.val (.int x0), .val (.int x1), .val (.int x2), .val (.int x3), .val (.int x4), .val (.int (2 : Int32)), .val (.int (1 : Int32)), .val (.ref ob37), .val (.long ((2 : Int32).toInt64)), .second, .val (.long ((0 : Int64) + (x0.toInt64))), .second, .unset, .unset, .unset, .unset] [(.int x1), (.long ((0 : Int64) + (x0.toInt64)))]) _ _ _
      refine own_to (fun t k => XS.i2l X41.here hx rfl (hb hby at_106) rfl k) ?_
      show own_Out p e below _ T41 (mkF m 107 #[.val (.int x0), .val (.int x1), .val (.int x2), .val (.int x3), .val (.int x4), .val (.int (2 : Int32)), .val (.int (1 : Int32)), .val (.ref ob37), .val (.long ((2 : Int32).toInt64)), .second, .val (.long ((0 : Int64) + (x0.toInt64))), .second, .unset, .unset, .unset, .unset] [(.long (x1.toInt64)), (.long ((0 : Int64) + (x0.toInt64)))]) _ _ _
      refine own_to (fun t k => XS.ladd X41.here hx rfl (hb hby at_107) rfl k) ?_
      show own_Out p e below _ T41 (mkF m 108 #[.val (.int x0), .val (.int x1), .val (.int x2), .val (.int x3), .val (.int x4), .val (.int (2 : Int32)), .val (.int (1 : Int32)), .val (.ref ob37), .val (.long ((2 : Int32).toInt64)), .second, .val (.long ((0 : Int64) + (x0.toInt64))), .second, .unset, .unset, .unset, .unset] [(.long (((0 : Int64) + (x0.toInt64)) + (x1.toInt64)))]) _ _ _
      refine own_to (fun t k => XS.lstore X41.here hx rfl (hb hby at_108) rfl (l' := #[.val (.int x0), .val (.int x1), .val (.int x2), .val (.int x3), .val (.int x4), .val (.int (2 : Int32)), .val (.int (1 : Int32)), .val (.ref ob37), .val (.long ((2 : Int32).toInt64)), .second, .val (.long (((0 : Int64) + (x0.toInt64)) + (x1.toInt64))), .second, .unset, .unset, .unset, .unset]) rfl k) ?_
      show own_Out p e below _ T41 (mkF m 110 #[.val (.int x0), .val (.int x1), .val (.int x2), .val (.int x3), .val (.int x4), .val (.int (2 : Int32)), .val (.int (1 : Int32)), .val (.ref ob37), .val (.long ((2 : Int32).toInt64)), .second, .val (.long (((0 : Int64) + (x0.toInt64)) + (x1.toInt64))), .second, .unset, .unset, .unset, .unset] []) _ _ _
      refine own_to (fun t k => XS.iload X41.here hx rfl (hb hby at_110) rfl k) ?_
      show own_Out p e below _ T41 (mkF m 112 #[.val (.int x0), .val (.int x1), .val (.int x2), .val (.int x3), .val (.int x4), .val (.int (2 : Int32)), .val (.int (1 : Int32)), .val (.ref ob37), .val (.long ((2 : Int32).toInt64)), .second, .val (.long (((0 : Int64) + (x0.toInt64)) + (x1.toInt64))), .second, .unset, .unset, .unset, .unset] [(.int (2 : Int32))]) _ _ _
      refine own_to (fun t k => XS.iconst X41.here hx rfl (hb hby at_112) k) ?_
      show own_Out p e below _ T41 (mkF m 113 #[.val (.int x0), .val (.int x1), .val (.int x2), .val (.int x3), .val (.int x4), .val (.int (2 : Int32)), .val (.int (1 : Int32)), .val (.ref ob37), .val (.long ((2 : Int32).toInt64)), .second, .val (.long (((0 : Int64) + (x0.toInt64)) + (x1.toInt64))), .second, .unset, .unset, .unset, .unset] [(.int (3 : Int32)), (.int (2 : Int32))]) _ _ _
      have hc113 : (2 : Int32) < (3 : Int32) := by decide
      refine own_to (fun t k => XS.icmpYes X41.here hx rfl (pc0 := 113) (pc' := 123) rfl (hb hby at_113) rfl (tlt hc113).1 (by decide) (by decide) k) ?_
      show own_Out p e below _ T41 (mkF m 123 #[.val (.int x0), .val (.int x1), .val (.int x2), .val (.int x3), .val (.int x4), .val (.int (2 : Int32)), .val (.int (1 : Int32)), .val (.ref ob37), .val (.long ((2 : Int32).toInt64)), .second, .val (.long (((0 : Int64) + (x0.toInt64)) + (x1.toInt64))), .second, .unset, .unset, .unset, .unset] []) _ _ _
      refine own_to (fun t k => XS.iload X41.here hx rfl (hb hby at_123) rfl k) ?_
      show own_Out p e below _ T41 (mkF m 125 #[.val (.int x0), .val (.int x1), .val (.int x2), .val (.int x3), .val (.int x4), .val (.int (2 : Int32)), .val (.int (1 : Int32)), .val (.ref ob37), .val (.long ((2 : Int32).toInt64)), .second, .val (.long (((0 : Int64) + (x0.toInt64)) + (x1.toInt64))), .second, .unset, .unset, .unset, .unset] [(.int (1 : Int32))]) _ _ _
      have hc125 : ¬ ((1 : Int32) = (0 : Int32)) := by decide
      refine own_to (fun t k => XS.ifNo X41.here hx rfl (hb hby at_125) rfl ((if0 _ _).trans (feq hc125).1) k) ?_
      show own_Out p e below _ T41 (mkF m 128 #[.val (.int x0), .val (.int x1), .val (.int x2), .val (.int x3), .val (.int x4), .val (.int (2 : Int32)), .val (.int (1 : Int32)), .val (.ref ob37), .val (.long ((2 : Int32).toInt64)), .second, .val (.long (((0 : Int64) + (x0.toInt64)) + (x1.toInt64))), .second, .unset, .unset, .unset, .unset] []) _ _ _
      refine own_to (fun t k => XS.lconst X41.here hx rfl (hb hby at_128) k) ?_
      show own_Out p e below _ T41 (mkF m 129 #[.val (.int x0), .val (.int x1), .val (.int x2), .val (.int x3), .val (.int x4), .val (.int (2 : Int32)), .val (.int (1 : Int32)), .val (.ref ob37), .val (.long ((2 : Int32).toInt64)), .second, .val (.long (((0 : Int64) + (x0.toInt64)) + (x1.toInt64))), .second, .unset, .unset, .unset, .unset] [(.long (1 : Int64))]) _ _ _
      refine own_to (fun t k => XS.goto X41.here hx rfl (pc0 := 129) (pc' := 133) rfl (hb hby at_129) (by decide) (by decide) k) ?_
      show own_Out p e below _ T41 (mkF m 133 #[.val (.int x0), .val (.int x1), .val (.int x2), .val (.int x3), .val (.int x4), .val (.int (2 : Int32)), .val (.int (1 : Int32)), .val (.ref ob37), .val (.long ((2 : Int32).toInt64)), .second, .val (.long (((0 : Int64) + (x0.toInt64)) + (x1.toInt64))), .second, .unset, .unset, .unset, .unset] [(.long (1 : Int64))]) _ _ _
      refine own_to (fun t k => XS.lstore X41.here hx rfl (hb hby at_133) rfl (l' := #[.val (.int x0), .val (.int x1), .val (.int x2), .val (.int x3), .val (.int x4), .val (.int (2 : Int32)), .val (.int (1 : Int32)), .val (.ref ob37), .val (.long ((2 : Int32).toInt64)), .second, .val (.long (((0 : Int64) + (x0.toInt64)) + (x1.toInt64))), .second, .val (.long (1 : Int64)), .second, .unset, .unset]) rfl k) ?_
      show own_Out p e below _ T41 (mkF m 135 #[.val (.int x0), .val (.int x1), .val (.int x2), .val (.int x3), .val (.int x4), .val (.int (2 : Int32)), .val (.int (1 : Int32)), .val (.ref ob37), .val (.long ((2 : Int32).toInt64)), .second, .val (.long (((0 : Int64) + (x0.toInt64)) + (x1.toInt64))), .second, .val (.long (1 : Int64)), .second, .unset, .unset] []) _ _ _
      refine own_to (fun t k => XS.iload X41.here hx rfl (hb hby at_135) rfl k) ?_
      show own_Out p e below _ T41 (mkF m 137 #[.val (.int x0), .val (.int x1), .val (.int x2), .val (.int x3), .val (.int x4), .val (.int (2 : Int32)), .val (.int (1 : Int32)), .val (.ref ob37), .val (.long ((2 : Int32).toInt64)), .second, .val (.long (((0 : Int64) + (x0.toInt64)) + (x1.toInt64))), .second, .val (.long (1 : Int64)), .second, .unset, .unset] [(.int (1 : Int32))]) _ _ _
      have hc137 : ¬ ((1 : Int32) = (0 : Int32)) := by decide
      refine own_to (fun t k => XS.ifNo X41.here hx rfl (hb hby at_137) rfl ((if0 _ _).trans (feq hc137).1) k) ?_
      show own_Out p e below _ T41 (mkF m 140 #[.val (.int x0), .val (.int x1), .val (.int x2), .val (.int x3), .val (.int x4), .val (.int (2 : Int32)), .val (.int (1 : Int32)), .val (.ref ob37), .val (.long ((2 : Int32).toInt64)), .second, .val (.long (((0 : Int64) + (x0.toInt64)) + (x1.toInt64))), .second, .val (.long (1 : Int64)), .second, .unset, .unset] []) _ _ _
      refine own_to (fun t k => XS.iloadN X41.here hx rfl (hb hby at_140) rfl k) ?_
      show own_Out p e below _ T41 (mkF m 141 #[.val (.int x0), .val (.int x1), .val (.int x2), .val (.int x3), .val (.int x4), .val (.int (2 : Int32)), .val (.int (1 : Int32)), .val (.ref ob37), .val (.long ((2 : Int32).toInt64)), .second, .val (.long (((0 : Int64) + (x0.toInt64)) + (x1.toInt64))), .second, .val (.long (1 : Int64)), .second, .unset, .unset] [(.int x3)]) _ _ _
      refine own_to (fun t k => XS.i2l X41.here hx rfl (hb hby at_141) rfl k) ?_
      show own_Out p e below _ T41 (mkF m 142 #[.val (.int x0), .val (.int x1), .val (.int x2), .val (.int x3), .val (.int x4), .val (.int (2 : Int32)), .val (.int (1 : Int32)), .val (.ref ob37), .val (.long ((2 : Int32).toInt64)), .second, .val (.long (((0 : Int64) + (x0.toInt64)) + (x1.toInt64))), .second, .val (.long (1 : Int64)), .second, .unset, .unset] [(.long (x3.toInt64))]) _ _ _
      refine own_to (fun t k => XS.goto X41.here hx rfl (pc0 := 142) (pc' := 146) rfl (hb hby at_142) (by decide) (by decide) k) ?_
      show own_Out p e below _ T41 (mkF m 146 #[.val (.int x0), .val (.int x1), .val (.int x2), .val (.int x3), .val (.int x4), .val (.int (2 : Int32)), .val (.int (1 : Int32)), .val (.ref ob37), .val (.long ((2 : Int32).toInt64)), .second, .val (.long (((0 : Int64) + (x0.toInt64)) + (x1.toInt64))), .second, .val (.long (1 : Int64)), .second, .unset, .unset] [(.long (x3.toInt64))]) _ _ _
      refine own_to (fun t k => XS.lstore X41.here hx rfl (hb hby at_146) rfl (l' := #[.val (.int x0), .val (.int x1), .val (.int x2), .val (.int x3), .val (.int x4), .val (.int (2 : Int32)), .val (.int (1 : Int32)), .val (.ref ob37), .val (.long ((2 : Int32).toInt64)), .second, .val (.long (((0 : Int64) + (x0.toInt64)) + (x1.toInt64))), .second, .val (.long (1 : Int64)), .second, .val (.long (x3.toInt64)), .second]) rfl k) ?_
      show own_Out p e below _ T41 (mkF m 148 #[.val (.int x0), .val (.int x1), .val (.int x2), .val (.int x3), .val (.int x4), .val (.int (2 : Int32)), .val (.int (1 : Int32)), .val (.ref ob37), .val (.long ((2 : Int32).toInt64)), .second, .val (.long (((0 : Int64) + (x0.toInt64)) + (x1.toInt64))), .second, .val (.long (1 : Int64)), .second, .val (.long (x3.toInt64)), .second] []) _ _ _
      refine own_to (fun t k => XS.aload X41.here hx rfl (hb hby at_148) rfl rfl k) ?_
      show own_Out p e below _ T41 (mkF m 150 #[.val (.int x0), .val (.int x1), .val (.int x2), .val (.int x3), .val (.int x4), .val (.int (2 : Int32)), .val (.int (1 : Int32)), .val (.ref ob37), .val (.long ((2 : Int32).toInt64)), .second, .val (.long (((0 : Int64) + (x0.toInt64)) + (x1.toInt64))), .second, .val (.long (1 : Int64)), .second, .val (.long (x3.toInt64)), .second] [(.ref ob37)]) _ _ _
      refine own_callV X41 hx hZ hown (a := ob37) (argsL := []) (rest := []) (hw _ (List.mem_of_getElem? (i := 9) rfl)) (hw _ (List.mem_of_getElem? (i := 10) rfl)) (hw _ (List.mem_of_getElem? (i := 12) rfl)) (hw _ (List.mem_of_getElem? (i := 11) rfl)) (hw _ (List.mem_of_getElem? (i := 2) rfl)) (hw _ (List.mem_of_getElem? (i := 13) rfl)) (by decide) (rm3 l Z a0 hw ob37 (((0 : Int64) + (1 : Int64)) + (1 : Int64)) hh41 n0 Z0 F_ob37_messageFrames) (by decide) (by decide) e41 E_ob37 rfl (by rw [hml]; rfl) (lenOf pd_1 rfl) rfl (W := 0) (by show 2 * 0 + _ ≤ _; exact Nat.le_of_eq rfl) (hb hby at_150) (by decide) (by decide) fun v42 T42 hh42 L42 X42 e42 hQ42 => ?_
      obtain ⟨rfl, NL42, he42⟩ := hQ42
      replace e42 := e42.trans he42
      have N42 := Fr.app N41 NL42
      show own_Out p e below _ T42 (mkF m 153 #[.val (.int x0), .val (.int x1), .val (.int x2), .val (.int x3), .val (.int x4), .val (.int (2 : Int32)), .val (.int (1 : Int32)), .val (.ref ob37), .val (.long ((2 : Int32).toInt64)), .second, .val (.long (((0 : Int64) + (x0.toInt64)) + (x1.toInt64))), .second, .val (.long (1 : Int64)), .second, .val (.long (x3.toInt64)), .second] [(.long (((0 : Int64) + (1 : Int64)) + (1 : Int64)))]) _ _ _
      refine own_to (fun t k => XS.lload X42.here hx rfl (hb hby at_153) rfl k) ?_
      show own_Out p e below _ T42 (mkF m 155 #[.val (.int x0), .val (.int x1), .val (.int x2), .val (.int x3), .val (.int x4), .val (.int (2 : Int32)), .val (.int (1 : Int32)), .val (.ref ob37), .val (.long ((2 : Int32).toInt64)), .second, .val (.long (((0 : Int64) + (x0.toInt64)) + (x1.toInt64))), .second, .val (.long (1 : Int64)), .second, .val (.long (x3.toInt64)), .second] [(.long ((2 : Int32).toInt64)), (.long (((0 : Int64) + (1 : Int64)) + (1 : Int64)))]) _ _ _
      refine own_to (fun t k => XS.lcmp X42.here hx rfl (hb hby at_155) rfl k) ?_
      show own_Out p e below _ T42 (mkF m 156 #[.val (.int x0), .val (.int x1), .val (.int x2), .val (.int x3), .val (.int x4), .val (.int (2 : Int32)), .val (.int (1 : Int32)), .val (.ref ob37), .val (.long ((2 : Int32).toInt64)), .second, .val (.long (((0 : Int64) + (x0.toInt64)) + (x1.toInt64))), .second, .val (.long (1 : Int64)), .second, .val (.long (x3.toInt64)), .second] [(.int (lcmpW (((0 : Int64) + (1 : Int64)) + (1 : Int64)) ((2 : Int32).toInt64)))]) _ _ _
      have hc156 : (((0 : Int64) + (1 : Int64)) + (1 : Int64)) = ((2 : Int32).toInt64) := by first | rfl | decide | (simp only [Int64.zero_add]; done) | simp
      refine own_to (fun t k => XS.ifNo X42.here hx rfl (hb hby at_156) rfl ((if0 _ _).trans (teq ((lw_eq _ _).mpr hc156)).2) k) ?_
      show own_Out p e below _ T42 (mkF m 159 #[.val (.int x0), .val (.int x1), .val (.int x2), .val (.int x3), .val (.int x4), .val (.int (2 : Int32)), .val (.int (1 : Int32)), .val (.ref ob37), .val (.long ((2 : Int32).toInt64)), .second, .val (.long (((0 : Int64) + (x0.toInt64)) + (x1.toInt64))), .second, .val (.long (1 : Int64)), .second, .val (.long (x3.toInt64)), .second] []) _ _ _
      refine own_to (fun t k => XS.aload X42.here hx rfl (hb hby at_159) rfl rfl k) ?_
      show own_Out p e below _ T42 (mkF m 161 #[.val (.int x0), .val (.int x1), .val (.int x2), .val (.int x3), .val (.int x4), .val (.int (2 : Int32)), .val (.int (1 : Int32)), .val (.ref ob37), .val (.long ((2 : Int32).toInt64)), .second, .val (.long (((0 : Int64) + (x0.toInt64)) + (x1.toInt64))), .second, .val (.long (1 : Int64)), .second, .val (.long (x3.toInt64)), .second] [(.ref ob37)]) _ _ _
      refine own_callV X42 hx hZ hown (a := ob37) (argsL := []) (rest := []) (hw _ (List.mem_of_getElem? (i := 16) rfl)) (hw _ (List.mem_of_getElem? (i := 17) rfl)) (hw _ (List.mem_of_getElem? (i := 19) rfl)) (hw _ (List.mem_of_getElem? (i := 18) rfl)) (hw _ (List.mem_of_getElem? (i := 2) rfl)) (hw _ (List.mem_of_getElem? (i := 20) rfl)) (by decide) (rm4 l Z a0 hw ob37 (((0 : Int64) + (x0.toInt64)) + (x1.toInt64)) hh41 n0 Z0 F_ob37_messageBytes) (by decide) (by decide) e42 E_ob37 rfl (by rw [hml]; rfl) (lenOf pd_1 rfl) rfl (W := 0) (by show 2 * 0 + _ ≤ _; exact Nat.le_of_eq rfl) (hb hby at_161) (by decide) (by decide) fun v43 T43 hh43 L43 X43 e43 hQ43 => ?_
      obtain ⟨rfl, NL43, he43⟩ := hQ43
      replace e43 := e43.trans he43
      have N43 := Fr.app N42 NL43
      show own_Out p e below _ T43 (mkF m 164 #[.val (.int x0), .val (.int x1), .val (.int x2), .val (.int x3), .val (.int x4), .val (.int (2 : Int32)), .val (.int (1 : Int32)), .val (.ref ob37), .val (.long ((2 : Int32).toInt64)), .second, .val (.long (((0 : Int64) + (x0.toInt64)) + (x1.toInt64))), .second, .val (.long (1 : Int64)), .second, .val (.long (x3.toInt64)), .second] [(.long (((0 : Int64) + (x0.toInt64)) + (x1.toInt64)))]) _ _ _
      refine own_to (fun t k => XS.lload X43.here hx rfl (hb hby at_164) rfl k) ?_
      show own_Out p e below _ T43 (mkF m 166 #[.val (.int x0), .val (.int x1), .val (.int x2), .val (.int x3), .val (.int x4), .val (.int (2 : Int32)), .val (.int (1 : Int32)), .val (.ref ob37), .val (.long ((2 : Int32).toInt64)), .second, .val (.long (((0 : Int64) + (x0.toInt64)) + (x1.toInt64))), .second, .val (.long (1 : Int64)), .second, .val (.long (x3.toInt64)), .second] [(.long (((0 : Int64) + (x0.toInt64)) + (x1.toInt64))), (.long (((0 : Int64) + (x0.toInt64)) + (x1.toInt64)))]) _ _ _
      refine own_to (fun t k => XS.lcmp X43.here hx rfl (hb hby at_166) rfl k) ?_
      show own_Out p e below _ T43 (mkF m 167 #[.val (.int x0), .val (.int x1), .val (.int x2), .val (.int x3), .val (.int x4), .val (.int (2 : Int32)), .val (.int (1 : Int32)), .val (.ref ob37), .val (.long ((2 : Int32).toInt64)), .second, .val (.long (((0 : Int64) + (x0.toInt64)) + (x1.toInt64))), .second, .val (.long (1 : Int64)), .second, .val (.long (x3.toInt64)), .second] [(.int (lcmpW (((0 : Int64) + (x0.toInt64)) + (x1.toInt64)) (((0 : Int64) + (x0.toInt64)) + (x1.toInt64))))]) _ _ _
      have hc167 : (((0 : Int64) + (x0.toInt64)) + (x1.toInt64)) = (((0 : Int64) + (x0.toInt64)) + (x1.toInt64)) := by first | rfl | decide | (simp only [Int64.zero_add]; done) | simp
      refine own_to (fun t k => XS.ifNo X43.here hx rfl (hb hby at_167) rfl ((if0 _ _).trans (teq ((lw_eq _ _).mpr hc167)).2) k) ?_
      show own_Out p e below _ T43 (mkF m 170 #[.val (.int x0), .val (.int x1), .val (.int x2), .val (.int x3), .val (.int x4), .val (.int (2 : Int32)), .val (.int (1 : Int32)), .val (.ref ob37), .val (.long ((2 : Int32).toInt64)), .second, .val (.long (((0 : Int64) + (x0.toInt64)) + (x1.toInt64))), .second, .val (.long (1 : Int64)), .second, .val (.long (x3.toInt64)), .second] []) _ _ _
      refine own_to (fun t k => XS.aload X43.here hx rfl (hb hby at_170) rfl rfl k) ?_
      show own_Out p e below _ T43 (mkF m 172 #[.val (.int x0), .val (.int x1), .val (.int x2), .val (.int x3), .val (.int x4), .val (.int (2 : Int32)), .val (.int (1 : Int32)), .val (.ref ob37), .val (.long ((2 : Int32).toInt64)), .second, .val (.long (((0 : Int64) + (x0.toInt64)) + (x1.toInt64))), .second, .val (.long (1 : Int64)), .second, .val (.long (x3.toInt64)), .second] [(.ref ob37)]) _ _ _
      refine own_callV X43 hx hZ hown (a := ob37) (argsL := []) (rest := []) (hw _ (List.mem_of_getElem? (i := 23) rfl)) (hw _ (List.mem_of_getElem? (i := 24) rfl)) (hw _ (List.mem_of_getElem? (i := 26) rfl)) (hw _ (List.mem_of_getElem? (i := 25) rfl)) (hw _ (List.mem_of_getElem? (i := 2) rfl)) (hw _ (List.mem_of_getElem? (i := 27) rfl)) (by decide) (rm5 l Z a0 hw ob37 ((0 : Int64) + (1 : Int64)) hh41 n0 Z0 F_ob37_ackFrames) (by decide) (by decide) e43 E_ob37 rfl (by rw [hml]; rfl) (lenOf pd_1 rfl) rfl (W := 0) (by show 2 * 0 + _ ≤ _; exact Nat.le_of_eq rfl) (hb hby at_172) (by decide) (by decide) fun v44 T44 hh44 L44 X44 e44 hQ44 => ?_
      obtain ⟨rfl, NL44, he44⟩ := hQ44
      replace e44 := e44.trans he44
      have N44 := Fr.app N43 NL44
      show own_Out p e below _ T44 (mkF m 175 #[.val (.int x0), .val (.int x1), .val (.int x2), .val (.int x3), .val (.int x4), .val (.int (2 : Int32)), .val (.int (1 : Int32)), .val (.ref ob37), .val (.long ((2 : Int32).toInt64)), .second, .val (.long (((0 : Int64) + (x0.toInt64)) + (x1.toInt64))), .second, .val (.long (1 : Int64)), .second, .val (.long (x3.toInt64)), .second] [(.long ((0 : Int64) + (1 : Int64)))]) _ _ _
      refine own_to (fun t k => XS.lload X44.here hx rfl (hb hby at_175) rfl k) ?_
      show own_Out p e below _ T44 (mkF m 177 #[.val (.int x0), .val (.int x1), .val (.int x2), .val (.int x3), .val (.int x4), .val (.int (2 : Int32)), .val (.int (1 : Int32)), .val (.ref ob37), .val (.long ((2 : Int32).toInt64)), .second, .val (.long (((0 : Int64) + (x0.toInt64)) + (x1.toInt64))), .second, .val (.long (1 : Int64)), .second, .val (.long (x3.toInt64)), .second] [(.long (1 : Int64)), (.long ((0 : Int64) + (1 : Int64)))]) _ _ _
      refine own_to (fun t k => XS.lcmp X44.here hx rfl (hb hby at_177) rfl k) ?_
      show own_Out p e below _ T44 (mkF m 178 #[.val (.int x0), .val (.int x1), .val (.int x2), .val (.int x3), .val (.int x4), .val (.int (2 : Int32)), .val (.int (1 : Int32)), .val (.ref ob37), .val (.long ((2 : Int32).toInt64)), .second, .val (.long (((0 : Int64) + (x0.toInt64)) + (x1.toInt64))), .second, .val (.long (1 : Int64)), .second, .val (.long (x3.toInt64)), .second] [(.int (lcmpW ((0 : Int64) + (1 : Int64)) (1 : Int64)))]) _ _ _
      have hc178 : ((0 : Int64) + (1 : Int64)) = (1 : Int64) := by first | rfl | decide | (simp only [Int64.zero_add]; done) | simp
      refine own_to (fun t k => XS.ifNo X44.here hx rfl (hb hby at_178) rfl ((if0 _ _).trans (teq ((lw_eq _ _).mpr hc178)).2) k) ?_
      show own_Out p e below _ T44 (mkF m 181 #[.val (.int x0), .val (.int x1), .val (.int x2), .val (.int x3), .val (.int x4), .val (.int (2 : Int32)), .val (.int (1 : Int32)), .val (.ref ob37), .val (.long ((2 : Int32).toInt64)), .second, .val (.long (((0 : Int64) + (x0.toInt64)) + (x1.toInt64))), .second, .val (.long (1 : Int64)), .second, .val (.long (x3.toInt64)), .second] []) _ _ _
      refine own_to (fun t k => XS.aload X44.here hx rfl (hb hby at_181) rfl rfl k) ?_
      show own_Out p e below _ T44 (mkF m 183 #[.val (.int x0), .val (.int x1), .val (.int x2), .val (.int x3), .val (.int x4), .val (.int (2 : Int32)), .val (.int (1 : Int32)), .val (.ref ob37), .val (.long ((2 : Int32).toInt64)), .second, .val (.long (((0 : Int64) + (x0.toInt64)) + (x1.toInt64))), .second, .val (.long (1 : Int64)), .second, .val (.long (x3.toInt64)), .second] [(.ref ob37)]) _ _ _
      refine own_callV X44 hx hZ hown (a := ob37) (argsL := []) (rest := []) (hw _ (List.mem_of_getElem? (i := 30) rfl)) (hw _ (List.mem_of_getElem? (i := 31) rfl)) (hw _ (List.mem_of_getElem? (i := 33) rfl)) (hw _ (List.mem_of_getElem? (i := 32) rfl)) (hw _ (List.mem_of_getElem? (i := 2) rfl)) (hw _ (List.mem_of_getElem? (i := 34) rfl)) (by decide) (rm6 l Z a0 hw ob37 ((0 : Int64) + (x3.toInt64)) hh41 n0 Z0 F_ob37_ackBytes) (by decide) (by decide) e44 E_ob37 rfl (by rw [hml]; rfl) (lenOf pd_1 rfl) rfl (W := 0) (by show 2 * 0 + _ ≤ _; exact Nat.le_of_eq rfl) (hb hby at_183) (by decide) (by decide) fun v45 T45 hh45 L45 X45 e45 hQ45 => ?_
      obtain ⟨rfl, NL45, he45⟩ := hQ45
      replace e45 := e45.trans he45
      have N45 := Fr.app N44 NL45
      show own_Out p e below _ T45 (mkF m 186 #[.val (.int x0), .val (.int x1), .val (.int x2), .val (.int x3), .val (.int x4), .val (.int (2 : Int32)), .val (.int (1 : Int32)), .val (.ref ob37), .val (.long ((2 : Int32).toInt64)), .second, .val (.long (((0 : Int64) + (x0.toInt64)) + (x1.toInt64))), .second, .val (.long (1 : Int64)), .second, .val (.long (x3.toInt64)), .second] [(.long ((0 : Int64) + (x3.toInt64)))]) _ _ _
      refine own_to (fun t k => XS.lload X45.here hx rfl (hb hby at_186) rfl k) ?_
      show own_Out p e below _ T45 (mkF m 188 #[.val (.int x0), .val (.int x1), .val (.int x2), .val (.int x3), .val (.int x4), .val (.int (2 : Int32)), .val (.int (1 : Int32)), .val (.ref ob37), .val (.long ((2 : Int32).toInt64)), .second, .val (.long (((0 : Int64) + (x0.toInt64)) + (x1.toInt64))), .second, .val (.long (1 : Int64)), .second, .val (.long (x3.toInt64)), .second] [(.long (x3.toInt64)), (.long ((0 : Int64) + (x3.toInt64)))]) _ _ _
      refine own_to (fun t k => XS.lcmp X45.here hx rfl (hb hby at_188) rfl k) ?_
      show own_Out p e below _ T45 (mkF m 189 #[.val (.int x0), .val (.int x1), .val (.int x2), .val (.int x3), .val (.int x4), .val (.int (2 : Int32)), .val (.int (1 : Int32)), .val (.ref ob37), .val (.long ((2 : Int32).toInt64)), .second, .val (.long (((0 : Int64) + (x0.toInt64)) + (x1.toInt64))), .second, .val (.long (1 : Int64)), .second, .val (.long (x3.toInt64)), .second] [(.int (lcmpW ((0 : Int64) + (x3.toInt64)) (x3.toInt64)))]) _ _ _
      have hc189 : ((0 : Int64) + (x3.toInt64)) = (x3.toInt64) := by first | rfl | decide | (simp only [Int64.zero_add]; done) | simp
      refine own_to (fun t k => XS.ifNo X45.here hx rfl (hb hby at_189) rfl ((if0 _ _).trans (teq ((lw_eq _ _).mpr hc189)).2) k) ?_
      show own_Out p e below _ T45 (mkF m 192 #[.val (.int x0), .val (.int x1), .val (.int x2), .val (.int x3), .val (.int x4), .val (.int (2 : Int32)), .val (.int (1 : Int32)), .val (.ref ob37), .val (.long ((2 : Int32).toInt64)), .second, .val (.long (((0 : Int64) + (x0.toInt64)) + (x1.toInt64))), .second, .val (.long (1 : Int64)), .second, .val (.long (x3.toInt64)), .second] []) _ _ _
      refine own_to (fun t k => XS.iconst X45.here hx rfl (hb hby at_192) k) ?_
      show own_Out p e below _ T45 (mkF m 193 #[.val (.int x0), .val (.int x1), .val (.int x2), .val (.int x3), .val (.int x4), .val (.int (2 : Int32)), .val (.int (1 : Int32)), .val (.ref ob37), .val (.long ((2 : Int32).toInt64)), .second, .val (.long (((0 : Int64) + (x0.toInt64)) + (x1.toInt64))), .second, .val (.long (1 : Int64)), .second, .val (.long (x3.toInt64)), .second] [(.int (1 : Int32))]) _ _ _
      refine own_to (fun t k => XS.goto X45.here hx rfl (pc0 := 193) (pc' := 197) rfl (hb hby at_193) (by decide) (by decide) k) ?_
      show own_Out p e below _ T45 (mkF m 197 #[.val (.int x0), .val (.int x1), .val (.int x2), .val (.int x3), .val (.int x4), .val (.int (2 : Int32)), .val (.int (1 : Int32)), .val (.ref ob37), .val (.long ((2 : Int32).toInt64)), .second, .val (.long (((0 : Int64) + (x0.toInt64)) + (x1.toInt64))), .second, .val (.long (1 : Int64)), .second, .val (.long (x3.toInt64)), .second] [(.int (1 : Int32))]) _ _ _
      refine own_retV X45 hx hlk (w := .int (1 : Int32)) hret rfl (Or.inl ⟨rfl, by simp, _, rfl⟩) (hb hby at_197) (by decide) (by decide) ?_
      rw [e45]
      exact ⟨rfl, N45⟩
  · subst hk_kk
    show own_Out p e below _ s₁ (mkF m 6 #[.val (.int x0), .val (.int x1), .val (.int x2), .val (.int x3), .val (.int x4), .val (.int (3 : Int32)), .unset, .unset, .unset, .unset, .unset, .unset, .unset, .unset, .unset, .unset] []) _ _ _
    refine own_to (fun t k => XS.iload X0.here hx rfl (hb hby at_6) rfl k) ?_
    show own_Out p e below _ s₁ (mkF m 8 #[.val (.int x0), .val (.int x1), .val (.int x2), .val (.int x3), .val (.int x4), .val (.int (3 : Int32)), .unset, .unset, .unset, .unset, .unset, .unset, .unset, .unset, .unset, .unset] [(.int x4)]) _ _ _
    refine own_to (fun t k => XS.iconst X0.here hx rfl (hb hby at_8) k) ?_
    show own_Out p e below _ s₁ (mkF m 9 #[.val (.int x0), .val (.int x1), .val (.int x2), .val (.int x3), .val (.int x4), .val (.int (3 : Int32)), .unset, .unset, .unset, .unset, .unset, .unset, .unset, .unset, .unset, .unset] [(.int (4 : Int32)), (.int x4)]) _ _ _
    refine own_to (fun t k => XS.iand X0.here hx rfl (hb hby at_9) rfl k) ?_
    show own_Out p e below _ s₁ (mkF m 10 #[.val (.int x0), .val (.int x1), .val (.int x2), .val (.int x3), .val (.int x4), .val (.int (3 : Int32)), .unset, .unset, .unset, .unset, .unset, .unset, .unset, .unset, .unset, .unset] [(.int (x4 &&& (4 : Int32)))]) _ _ _
    by_cases hc10 : (x4 &&& (4 : Int32)) = (0 : Int32)
    · refine own_to (fun t k => XS.ifYes X0.here hx rfl (pc0 := 10) (pc' := 17) rfl (hb hby at_10) rfl ((if0 _ _).trans (teq hc10).1) (by decide) (by decide) k) ?_
      show own_Out p e below _ s₁ (mkF m 17 #[.val (.int x0), .val (.int x1), .val (.int x2), .val (.int x3), .val (.int x4), .val (.int (3 : Int32)), .unset, .unset, .unset, .unset, .unset, .unset, .unset, .unset, .unset, .unset] []) _ _ _
      refine own_to (fun t k => XS.iconst X0.here hx rfl (hb hby at_17) k) ?_
      show own_Out p e below _ s₁ (mkF m 18 #[.val (.int x0), .val (.int x1), .val (.int x2), .val (.int x3), .val (.int x4), .val (.int (3 : Int32)), .unset, .unset, .unset, .unset, .unset, .unset, .unset, .unset, .unset, .unset] [(.int (0 : Int32))]) _ _ _
      refine own_to (fun t k => XS.istore X0.here hx rfl (hb hby at_18) rfl (l' := #[.val (.int x0), .val (.int x1), .val (.int x2), .val (.int x3), .val (.int x4), .val (.int (3 : Int32)), .val (.int (0 : Int32)), .unset, .unset, .unset, .unset, .unset, .unset, .unset, .unset, .unset]) rfl k) ?_
      show own_Out p e below _ s₁ (mkF m 20 #[.val (.int x0), .val (.int x1), .val (.int x2), .val (.int x3), .val (.int x4), .val (.int (3 : Int32)), .val (.int (0 : Int32)), .unset, .unset, .unset, .unset, .unset, .unset, .unset, .unset, .unset] []) _ _ _
      refine own_new X0 hx hZ hown (hw _ (List.mem_of_getElem? (i := 0) rfl)) (hw _ (List.mem_of_getElem? (i := 1) rfl)) (hw _ (List.mem_of_getElem? (i := 2) rfl)) e0 rfl (hb hby at_20) (by decide) (by decide) fun T46 hh46 ob46 gb46 X46 e46 E46 A46 D46 => ?_
      have g_ob46 : n0 ≤ ob46 := Nat.le_trans Z0 (Nat.le_of_eq gb46.symm)
      have Z0 := Nat.le_trans Z0 E46.1
      have E_ob46 := A46
      have F_ob46_messageFrames : Fld Z hh46 ob46 "com/example/mingle/mingle/FrameCounts" "messageFrames" "J" (.long (0 : Int64)) := D46 (Or.inl (hw _ (List.mem_of_getElem? (i := 15) rfl))) (ty := .long) (by decide)
      have F_ob46_messageBytes : Fld Z hh46 ob46 "com/example/mingle/mingle/FrameCounts" "messageBytes" "J" (.long (0 : Int64)) := D46 (Or.inl (hw _ (List.mem_of_getElem? (i := 22) rfl))) (ty := .long) (by decide)
      have F_ob46_ackFrames : Fld Z hh46 ob46 "com/example/mingle/mingle/FrameCounts" "ackFrames" "J" (.long (0 : Int64)) := D46 (Or.inl (hw _ (List.mem_of_getElem? (i := 29) rfl))) (ty := .long) (by decide)
      have F_ob46_ackBytes : Fld Z hh46 ob46 "com/example/mingle/mingle/FrameCounts" "ackBytes" "J" (.long (0 : Int64)) := D46 (Or.inl (hw _ (List.mem_of_getElem? (i := 36) rfl))) (ty := .long) (by decide)
      show own_Out p e below _ T46 (mkF m 23 #[.val (.int x0), .val (.int x1), .val (.int x2), .val (.int x3), .val (.int x4), .val (.int (3 : Int32)), .val (.int (0 : Int32)), .unset, .unset, .unset, .unset, .unset, .unset, .unset, .unset, .unset] [(.ref ob46)]) _ _ _
      refine own_to (fun t k => XS.dup X46.here hx rfl (hb hby at_23) rfl rfl k) ?_
      show own_Out p e below _ T46 (mkF m 24 #[.val (.int x0), .val (.int x1), .val (.int x2), .val (.int x3), .val (.int x4), .val (.int (3 : Int32)), .val (.int (0 : Int32)), .unset, .unset, .unset, .unset, .unset, .unset, .unset, .unset, .unset] [(.ref ob46), (.ref ob46)]) _ _ _
      refine own_callC X46 hx hZ hown (a := ob46) (argsL := []) (rest := [(.ref ob46)]) rfl (hw _ (List.mem_of_getElem? (i := 3) rfl)) (hw _ (List.mem_of_getElem? (i := 4) rfl)) (hw _ (List.mem_of_getElem? (i := 2) rfl)) (hw _ (List.mem_of_getElem? (i := 5) rfl)) (by decide) (rm1 l Z a0 hw ob46 hh46 n0 Z0 ) (by decide) (by decide) e46 rfl (by rw [hml]; rfl) (lenOf pd_0 rfl) rfl (W := 1) (by show 2 * 0 + _ ≤ _; exact Nat.le_of_eq rfl) (hb hby at_24) (by decide) (by decide) fun v47 T47 hh47 L47 X47 e47 hQ47 => ?_
      obtain ⟨rfl, NL47, he47⟩ := hQ47
      replace e47 := e47.trans he47
      have N47 := Fr.app N0 NL47
      show own_Out p e below _ T47 (mkF m 27 #[.val (.int x0), .val (.int x1), .val (.int x2), .val (.int x3), .val (.int x4), .val (.int (3 : Int32)), .val (.int (0 : Int32)), .unset, .unset, .unset, .unset, .unset, .unset, .unset, .unset, .unset] [(.ref ob46)]) _ _ _
      refine own_to (fun t k => XS.astore X47.here hx rfl (hb hby at_27) rfl rfl (l' := #[.val (.int x0), .val (.int x1), .val (.int x2), .val (.int x3), .val (.int x4), .val (.int (3 : Int32)), .val (.int (0 : Int32)), .val (.ref ob46), .unset, .unset, .unset, .unset, .unset, .unset, .unset, .unset]) rfl k) ?_
      show own_Out p e below _ T47 (mkF m 29 #[.val (.int x0), .val (.int x1), .val (.int x2), .val (.int x3), .val (.int x4), .val (.int (3 : Int32)), .val (.int (0 : Int32)), .val (.ref ob46), .unset, .unset, .unset, .unset, .unset, .unset, .unset, .unset] []) _ _ _
      refine own_to (fun t k => XS.iload X47.here hx rfl (hb hby at_29) rfl k) ?_
      show own_Out p e below _ T47 (mkF m 31 #[.val (.int x0), .val (.int x1), .val (.int x2), .val (.int x3), .val (.int x4), .val (.int (3 : Int32)), .val (.int (0 : Int32)), .val (.ref ob46), .unset, .unset, .unset, .unset, .unset, .unset, .unset, .unset] [(.int (3 : Int32))]) _ _ _
      refine own_to (fun t k => XS.iconst X47.here hx rfl (hb hby at_31) k) ?_
      show own_Out p e below _ T47 (mkF m 32 #[.val (.int x0), .val (.int x1), .val (.int x2), .val (.int x3), .val (.int x4), .val (.int (3 : Int32)), .val (.int (0 : Int32)), .val (.ref ob46), .unset, .unset, .unset, .unset, .unset, .unset, .unset, .unset] [(.int (1 : Int32)), (.int (3 : Int32))]) _ _ _
      have hc32 : ¬ ((3 : Int32) < (1 : Int32)) := by decide
      refine own_to (fun t k => XS.icmpNo X47.here hx rfl (hb hby at_32) rfl (flt hc32).1 k) ?_
      show own_Out p e below _ T47 (mkF m 35 #[.val (.int x0), .val (.int x1), .val (.int x2), .val (.int x3), .val (.int x4), .val (.int (3 : Int32)), .val (.int (0 : Int32)), .val (.ref ob46), .unset, .unset, .unset, .unset, .unset, .unset, .unset, .unset] []) _ _ _
      refine own_to (fun t k => XS.aload X47.here hx rfl (hb hby at_35) rfl rfl k) ?_
      show own_Out p e below _ T47 (mkF m 37 #[.val (.int x0), .val (.int x1), .val (.int x2), .val (.int x3), .val (.int x4), .val (.int (3 : Int32)), .val (.int (0 : Int32)), .val (.ref ob46), .unset, .unset, .unset, .unset, .unset, .unset, .unset, .unset] [(.ref ob46)]) _ _ _
      refine own_to (fun t k => XS.iloadN X47.here hx rfl (hb hby at_37) rfl k) ?_
      show own_Out p e below _ T47 (mkF m 38 #[.val (.int x0), .val (.int x1), .val (.int x2), .val (.int x3), .val (.int x4), .val (.int (3 : Int32)), .val (.int (0 : Int32)), .val (.ref ob46), .unset, .unset, .unset, .unset, .unset, .unset, .unset, .unset] [(.int x0), (.ref ob46)]) _ _ _
      refine own_callV X47 hx hZ hown (a := ob46) (argsL := [(.int x0)]) (rest := []) (hw _ (List.mem_of_getElem? (i := 37) rfl)) (hw _ (List.mem_of_getElem? (i := 38) rfl)) (hw _ (List.mem_of_getElem? (i := 40) rfl)) (hw _ (List.mem_of_getElem? (i := 39) rfl)) (hw _ (List.mem_of_getElem? (i := 2) rfl)) (hw _ (List.mem_of_getElem? (i := 41) rfl)) (by decide) (rm7 l Z a0 hw ob46 x0 (0 : Int64) (0 : Int64) (0 : Int64) (0 : Int64) hh46 n0 Z0 E_ob46 F_ob46_messageFrames F_ob46_messageBytes g_ob46 F_ob46_ackFrames F_ob46_ackBytes) (by decide) (by decide) e47 E_ob46 rfl (by rw [hml]; rfl) (lenOf pd_2 rfl) rfl (W := 0) (by show 2 * 0 + _ ≤ _; exact Nat.le_of_eq rfl) (hb hby at_38) (by decide) (by decide) fun v48 T48 hh48 L48 X48 e48 hQ48 => ?_
      obtain ⟨rfl, NL48, KK48, P48_0, P48_1, P48_2, P48_3⟩ := hQ48
      have E_ob46 := E_ob46.keep KK48
      have F_ob46_messageFrames := P48_0
      have F_ob46_messageBytes := P48_1
      have F_ob46_ackFrames := P48_2
      have F_ob46_ackBytes := P48_3
      have Z0 := Nat.le_trans Z0 KK48.1
      have N48 := Fr.app N47 NL48
      show own_Out p e below _ T48 (mkF m 41 #[.val (.int x0), .val (.int x1), .val (.int x2), .val (.int x3), .val (.int x4), .val (.int (3 : Int32)), .val (.int (0 : Int32)), .val (.ref ob46), .unset, .unset, .unset, .unset, .unset, .unset, .unset, .unset] []) _ _ _
      refine own_to (fun t k => XS.iload X48.here hx rfl (hb hby at_41) rfl k) ?_
      show own_Out p e below _ T48 (mkF m 43 #[.val (.int x0), .val (.int x1), .val (.int x2), .val (.int x3), .val (.int x4), .val (.int (3 : Int32)), .val (.int (0 : Int32)), .val (.ref ob46), .unset, .unset, .unset, .unset, .unset, .unset, .unset, .unset] [(.int (0 : Int32))]) _ _ _
      have hc43 : (0 : Int32) = (0 : Int32) := by decide
      refine own_to (fun t k => XS.ifYes X48.here hx rfl (pc0 := 43) (pc' := 52) rfl (hb hby at_43) rfl ((if0 _ _).trans (teq hc43).1) (by decide) (by decide) k) ?_
      show own_Out p e below _ T48 (mkF m 52 #[.val (.int x0), .val (.int x1), .val (.int x2), .val (.int x3), .val (.int x4), .val (.int (3 : Int32)), .val (.int (0 : Int32)), .val (.ref ob46), .unset, .unset, .unset, .unset, .unset, .unset, .unset, .unset] []) _ _ _
      refine own_to (fun t k => XS.iload X48.here hx rfl (hb hby at_52) rfl k) ?_
      show own_Out p e below _ T48 (mkF m 54 #[.val (.int x0), .val (.int x1), .val (.int x2), .val (.int x3), .val (.int x4), .val (.int (3 : Int32)), .val (.int (0 : Int32)), .val (.ref ob46), .unset, .unset, .unset, .unset, .unset, .unset, .unset, .unset] [(.int (3 : Int32))]) _ _ _
      refine own_to (fun t k => XS.iconst X48.here hx rfl (hb hby at_54) k) ?_
      show own_Out p e below _ T48 (mkF m 55 #[.val (.int x0), .val (.int x1), .val (.int x2), .val (.int x3), .val (.int x4), .val (.int (3 : Int32)), .val (.int (0 : Int32)), .val (.ref ob46), .unset, .unset, .unset, .unset, .unset, .unset, .unset, .unset] [(.int (2 : Int32)), (.int (3 : Int32))]) _ _ _
      have hc55 : ¬ ((3 : Int32) < (2 : Int32)) := by decide
      refine own_to (fun t k => XS.icmpNo X48.here hx rfl (hb hby at_55) rfl (flt hc55).1 k) ?_
      show own_Out p e below _ T48 (mkF m 58 #[.val (.int x0), .val (.int x1), .val (.int x2), .val (.int x3), .val (.int x4), .val (.int (3 : Int32)), .val (.int (0 : Int32)), .val (.ref ob46), .unset, .unset, .unset, .unset, .unset, .unset, .unset, .unset] []) _ _ _
      refine own_to (fun t k => XS.aload X48.here hx rfl (hb hby at_58) rfl rfl k) ?_
      show own_Out p e below _ T48 (mkF m 60 #[.val (.int x0), .val (.int x1), .val (.int x2), .val (.int x3), .val (.int x4), .val (.int (3 : Int32)), .val (.int (0 : Int32)), .val (.ref ob46), .unset, .unset, .unset, .unset, .unset, .unset, .unset, .unset] [(.ref ob46)]) _ _ _
      refine own_to (fun t k => XS.iloadN X48.here hx rfl (hb hby at_60) rfl k) ?_
      show own_Out p e below _ T48 (mkF m 61 #[.val (.int x0), .val (.int x1), .val (.int x2), .val (.int x3), .val (.int x4), .val (.int (3 : Int32)), .val (.int (0 : Int32)), .val (.ref ob46), .unset, .unset, .unset, .unset, .unset, .unset, .unset, .unset] [(.int x1), (.ref ob46)]) _ _ _
      refine own_callV X48 hx hZ hown (a := ob46) (argsL := [(.int x1)]) (rest := []) (hw _ (List.mem_of_getElem? (i := 37) rfl)) (hw _ (List.mem_of_getElem? (i := 38) rfl)) (hw _ (List.mem_of_getElem? (i := 40) rfl)) (hw _ (List.mem_of_getElem? (i := 39) rfl)) (hw _ (List.mem_of_getElem? (i := 2) rfl)) (hw _ (List.mem_of_getElem? (i := 41) rfl)) (by decide) (rm7 l Z a0 hw ob46 x1 ((0 : Int64) + (1 : Int64)) ((0 : Int64) + (x0.toInt64)) (0 : Int64) (0 : Int64) hh48 n0 Z0 E_ob46 F_ob46_messageFrames F_ob46_messageBytes g_ob46 F_ob46_ackFrames F_ob46_ackBytes) (by decide) (by decide) e48 E_ob46 rfl (by rw [hml]; rfl) (lenOf pd_2 rfl) rfl (W := 0) (by show 2 * 0 + _ ≤ _; exact Nat.le_of_eq rfl) (hb hby at_61) (by decide) (by decide) fun v49 T49 hh49 L49 X49 e49 hQ49 => ?_
      obtain ⟨rfl, NL49, KK49, P49_0, P49_1, P49_2, P49_3⟩ := hQ49
      have E_ob46 := E_ob46.keep KK49
      have F_ob46_messageFrames := P49_0
      have F_ob46_messageBytes := P49_1
      have F_ob46_ackFrames := P49_2
      have F_ob46_ackBytes := P49_3
      have Z0 := Nat.le_trans Z0 KK49.1
      have N49 := Fr.app N48 NL49
      show own_Out p e below _ T49 (mkF m 64 #[.val (.int x0), .val (.int x1), .val (.int x2), .val (.int x3), .val (.int x4), .val (.int (3 : Int32)), .val (.int (0 : Int32)), .val (.ref ob46), .unset, .unset, .unset, .unset, .unset, .unset, .unset, .unset] []) _ _ _
      refine own_to (fun t k => XS.iload X49.here hx rfl (hb hby at_64) rfl k) ?_
      show own_Out p e below _ T49 (mkF m 66 #[.val (.int x0), .val (.int x1), .val (.int x2), .val (.int x3), .val (.int x4), .val (.int (3 : Int32)), .val (.int (0 : Int32)), .val (.ref ob46), .unset, .unset, .unset, .unset, .unset, .unset, .unset, .unset] [(.int (3 : Int32))]) _ _ _
      refine own_to (fun t k => XS.iconst X49.here hx rfl (hb hby at_66) k) ?_
      show own_Out p e below _ T49 (mkF m 67 #[.val (.int x0), .val (.int x1), .val (.int x2), .val (.int x3), .val (.int x4), .val (.int (3 : Int32)), .val (.int (0 : Int32)), .val (.ref ob46), .unset, .unset, .unset, .unset, .unset, .unset, .unset, .unset] [(.int (3 : Int32)), (.int (3 : Int32))]) _ _ _
      have hc67 : ¬ ((3 : Int32) < (3 : Int32)) := by decide
      refine own_to (fun t k => XS.icmpNo X49.here hx rfl (hb hby at_67) rfl (flt hc67).1 k) ?_
      show own_Out p e below _ T49 (mkF m 70 #[.val (.int x0), .val (.int x1), .val (.int x2), .val (.int x3), .val (.int x4), .val (.int (3 : Int32)), .val (.int (0 : Int32)), .val (.ref ob46), .unset, .unset, .unset, .unset, .unset, .unset, .unset, .unset] []) _ _ _
      refine own_to (fun t k => XS.aload X49.here hx rfl (hb hby at_70) rfl rfl k) ?_
      show own_Out p e below _ T49 (mkF m 72 #[.val (.int x0), .val (.int x1), .val (.int x2), .val (.int x3), .val (.int x4), .val (.int (3 : Int32)), .val (.int (0 : Int32)), .val (.ref ob46), .unset, .unset, .unset, .unset, .unset, .unset, .unset, .unset] [(.ref ob46)]) _ _ _
      refine own_to (fun t k => XS.iloadN X49.here hx rfl (hb hby at_72) rfl k) ?_
      show own_Out p e below _ T49 (mkF m 73 #[.val (.int x0), .val (.int x1), .val (.int x2), .val (.int x3), .val (.int x4), .val (.int (3 : Int32)), .val (.int (0 : Int32)), .val (.ref ob46), .unset, .unset, .unset, .unset, .unset, .unset, .unset, .unset] [(.int x2), (.ref ob46)]) _ _ _
      refine own_callV X49 hx hZ hown (a := ob46) (argsL := [(.int x2)]) (rest := []) (hw _ (List.mem_of_getElem? (i := 37) rfl)) (hw _ (List.mem_of_getElem? (i := 38) rfl)) (hw _ (List.mem_of_getElem? (i := 40) rfl)) (hw _ (List.mem_of_getElem? (i := 39) rfl)) (hw _ (List.mem_of_getElem? (i := 2) rfl)) (hw _ (List.mem_of_getElem? (i := 41) rfl)) (by decide) (rm7 l Z a0 hw ob46 x2 (((0 : Int64) + (1 : Int64)) + (1 : Int64)) (((0 : Int64) + (x0.toInt64)) + (x1.toInt64)) (0 : Int64) (0 : Int64) hh49 n0 Z0 E_ob46 F_ob46_messageFrames F_ob46_messageBytes g_ob46 F_ob46_ackFrames F_ob46_ackBytes) (by decide) (by decide) e49 E_ob46 rfl (by rw [hml]; rfl) (lenOf pd_2 rfl) rfl (W := 0) (by show 2 * 0 + _ ≤ _; exact Nat.le_of_eq rfl) (hb hby at_73) (by decide) (by decide) fun v50 T50 hh50 L50 X50 e50 hQ50 => ?_
      obtain ⟨rfl, NL50, KK50, P50_0, P50_1, P50_2, P50_3⟩ := hQ50
      have E_ob46 := E_ob46.keep KK50
      have F_ob46_messageFrames := P50_0
      have F_ob46_messageBytes := P50_1
      have F_ob46_ackFrames := P50_2
      have F_ob46_ackBytes := P50_3
      have Z0 := Nat.le_trans Z0 KK50.1
      have N50 := Fr.app N49 NL50
      show own_Out p e below _ T50 (mkF m 76 #[.val (.int x0), .val (.int x1), .val (.int x2), .val (.int x3), .val (.int x4), .val (.int (3 : Int32)), .val (.int (0 : Int32)), .val (.ref ob46), .unset, .unset, .unset, .unset, .unset, .unset, .unset, .unset] []) _ _ _
      refine own_to (fun t k => XS.iload X50.here hx rfl (hb hby at_76) rfl k) ?_
      show own_Out p e below _ T50 (mkF m 78 #[.val (.int x0), .val (.int x1), .val (.int x2), .val (.int x3), .val (.int x4), .val (.int (3 : Int32)), .val (.int (0 : Int32)), .val (.ref ob46), .unset, .unset, .unset, .unset, .unset, .unset, .unset, .unset] [(.int (3 : Int32))]) _ _ _
      refine own_to (fun t k => XS.i2l X50.here hx rfl (hb hby at_78) rfl k) ?_
      show own_Out p e below _ T50 (mkF m 79 #[.val (.int x0), .val (.int x1), .val (.int x2), .val (.int x3), .val (.int x4), .val (.int (3 : Int32)), .val (.int (0 : Int32)), .val (.ref ob46), .unset, .unset, .unset, .unset, .unset, .unset, .unset, .unset] [(.long ((3 : Int32).toInt64))]) _ _ _
      refine own_to (fun t k => XS.lstore X50.here hx rfl (hb hby at_79) rfl (l' := #[.val (.int x0), .val (.int x1), .val (.int x2), .val (.int x3), .val (.int x4), .val (.int (3 : Int32)), .val (.int (0 : Int32)), .val (.ref ob46), .val (.long ((3 : Int32).toInt64)), .second, .unset, .unset, .unset, .unset, .unset, .unset]) rfl k) ?_
      show own_Out p e below _ T50 (mkF m 81 #[.val (.int x0), .val (.int x1), .val (.int x2), .val (.int x3), .val (.int x4), .val (.int (3 : Int32)), .val (.int (0 : Int32)), .val (.ref ob46), .val (.long ((3 : Int32).toInt64)), .second, .unset, .unset, .unset, .unset, .unset, .unset] []) _ _ _
      refine own_to (fun t k => XS.lconst X50.here hx rfl (hb hby at_81) k) ?_
      show own_Out p e below _ T50 (mkF m 82 #[.val (.int x0), .val (.int x1), .val (.int x2), .val (.int x3), .val (.int x4), .val (.int (3 : Int32)), .val (.int (0 : Int32)), .val (.ref ob46), .val (.long ((3 : Int32).toInt64)), .second, .unset, .unset, .unset, .unset, .unset, .unset] [(.long (0 : Int64))]) _ _ _
      refine own_to (fun t k => XS.lstore X50.here hx rfl (hb hby at_82) rfl (l' := #[.val (.int x0), .val (.int x1), .val (.int x2), .val (.int x3), .val (.int x4), .val (.int (3 : Int32)), .val (.int (0 : Int32)), .val (.ref ob46), .val (.long ((3 : Int32).toInt64)), .second, .val (.long (0 : Int64)), .second, .unset, .unset, .unset, .unset]) rfl k) ?_
      show own_Out p e below _ T50 (mkF m 84 #[.val (.int x0), .val (.int x1), .val (.int x2), .val (.int x3), .val (.int x4), .val (.int (3 : Int32)), .val (.int (0 : Int32)), .val (.ref ob46), .val (.long ((3 : Int32).toInt64)), .second, .val (.long (0 : Int64)), .second, .unset, .unset, .unset, .unset] []) _ _ _
      refine own_to (fun t k => XS.iload X50.here hx rfl (hb hby at_84) rfl k) ?_
      show own_Out p e below _ T50 (mkF m 86 #[.val (.int x0), .val (.int x1), .val (.int x2), .val (.int x3), .val (.int x4), .val (.int (3 : Int32)), .val (.int (0 : Int32)), .val (.ref ob46), .val (.long ((3 : Int32).toInt64)), .second, .val (.long (0 : Int64)), .second, .unset, .unset, .unset, .unset] [(.int (3 : Int32))]) _ _ _
      refine own_to (fun t k => XS.iconst X50.here hx rfl (hb hby at_86) k) ?_
      show own_Out p e below _ T50 (mkF m 87 #[.val (.int x0), .val (.int x1), .val (.int x2), .val (.int x3), .val (.int x4), .val (.int (3 : Int32)), .val (.int (0 : Int32)), .val (.ref ob46), .val (.long ((3 : Int32).toInt64)), .second, .val (.long (0 : Int64)), .second, .unset, .unset, .unset, .unset] [(.int (1 : Int32)), (.int (3 : Int32))]) _ _ _
      have hc87 : ¬ ((3 : Int32) < (1 : Int32)) := by decide
      refine own_to (fun t k => XS.icmpNo X50.here hx rfl (hb hby at_87) rfl (flt hc87).1 k) ?_
      show own_Out p e below _ T50 (mkF m 90 #[.val (.int x0), .val (.int x1), .val (.int x2), .val (.int x3), .val (.int x4), .val (.int (3 : Int32)), .val (.int (0 : Int32)), .val (.ref ob46), .val (.long ((3 : Int32).toInt64)), .second, .val (.long (0 : Int64)), .second, .unset, .unset, .unset, .unset] []) _ _ _
      refine own_to (fun t k => XS.lload X50.here hx rfl (hb hby at_90) rfl k) ?_
      show own_Out p e below _ T50 (mkF m 92 #[.val (.int x0), .val (.int x1), .val (.int x2), .val (.int x3), .val (.int x4), .val (.int (3 : Int32)), .val (.int (0 : Int32)), .val (.ref ob46), .val (.long ((3 : Int32).toInt64)), .second, .val (.long (0 : Int64)), .second, .unset, .unset, .unset, .unset] [(.long (0 : Int64))]) _ _ _
      refine own_to (fun t k => XS.iloadN X50.here hx rfl (hb hby at_92) rfl k) ?_
      show own_Out p e below _ T50 (mkF m 93 #[.val (.int x0), .val (.int x1), .val (.int x2), .val (.int x3), .val (.int x4), .val (.int (3 : Int32)), .val (.int (0 : Int32)), .val (.ref ob46), .val (.long ((3 : Int32).toInt64)), .second, .val (.long (0 : Int64)), .second, .unset, .unset, .unset, .unset] [(.int x0), (.long (0 : Int64))]) _ _ _
      refine own_to (fun t k => XS.i2l X50.here hx rfl (hb hby at_93) rfl k) ?_
      show own_Out p e below _ T50 (mkF m 94 #[.val (.int x0), .val (.int x1), .val (.int x2), .val (.int x3), .val (.int x4), .val (.int (3 : Int32)), .val (.int (0 : Int32)), .val (.ref ob46), .val (.long ((3 : Int32).toInt64)), .second, .val (.long (0 : Int64)), .second, .unset, .unset, .unset, .unset] [(.long (x0.toInt64)), (.long (0 : Int64))]) _ _ _
      refine own_to (fun t k => XS.ladd X50.here hx rfl (hb hby at_94) rfl k) ?_
      show own_Out p e below _ T50 (mkF m 95 #[.val (.int x0), .val (.int x1), .val (.int x2), .val (.int x3), .val (.int x4), .val (.int (3 : Int32)), .val (.int (0 : Int32)), .val (.ref ob46), .val (.long ((3 : Int32).toInt64)), .second, .val (.long (0 : Int64)), .second, .unset, .unset, .unset, .unset] [(.long ((0 : Int64) + (x0.toInt64)))]) _ _ _
      refine own_to (fun t k => XS.lstore X50.here hx rfl (hb hby at_95) rfl (l' := #[.val (.int x0), .val (.int x1), .val (.int x2), .val (.int x3), .val (.int x4), .val (.int (3 : Int32)), .val (.int (0 : Int32)), .val (.ref ob46), .val (.long ((3 : Int32).toInt64)), .second, .val (.long ((0 : Int64) + (x0.toInt64))), .second, .unset, .unset, .unset, .unset]) rfl k) ?_
      show own_Out p e below _ T50 (mkF m 97 #[.val (.int x0), .val (.int x1), .val (.int x2), .val (.int x3), .val (.int x4), .val (.int (3 : Int32)), .val (.int (0 : Int32)), .val (.ref ob46), .val (.long ((3 : Int32).toInt64)), .second, .val (.long ((0 : Int64) + (x0.toInt64))), .second, .unset, .unset, .unset, .unset] []) _ _ _
      refine own_to (fun t k => XS.iload X50.here hx rfl (hb hby at_97) rfl k) ?_
      show own_Out p e below _ T50 (mkF m 99 #[.val (.int x0), .val (.int x1), .val (.int x2), .val (.int x3), .val (.int x4), .val (.int (3 : Int32)), .val (.int (0 : Int32)), .val (.ref ob46), .val (.long ((3 : Int32).toInt64)), .second, .val (.long ((0 : Int64) + (x0.toInt64))), .second, .unset, .unset, .unset, .unset] [(.int (3 : Int32))]) _ _ _
      refine own_to (fun t k => XS.iconst X50.here hx rfl (hb hby at_99) k) ?_
      show own_Out p e below _ T50 (mkF m 100 #[.val (.int x0), .val (.int x1), .val (.int x2), .val (.int x3), .val (.int x4), .val (.int (3 : Int32)), .val (.int (0 : Int32)), .val (.ref ob46), .val (.long ((3 : Int32).toInt64)), .second, .val (.long ((0 : Int64) + (x0.toInt64))), .second, .unset, .unset, .unset, .unset] [(.int (2 : Int32)), (.int (3 : Int32))]) _ _ _
      have hc100 : ¬ ((3 : Int32) < (2 : Int32)) := by decide
      refine own_to (fun t k => XS.icmpNo X50.here hx rfl (hb hby at_100) rfl (flt hc100).1 k) ?_
      show own_Out p e below _ T50 (mkF m 103 #[.val (.int x0), .val (.int x1), .val (.int x2), .val (.int x3), .val (.int x4), .val (.int (3 : Int32)), .val (.int (0 : Int32)), .val (.ref ob46), .val (.long ((3 : Int32).toInt64)), .second, .val (.long ((0 : Int64) + (x0.toInt64))), .second, .unset, .unset, .unset, .unset] []) _ _ _
      refine own_to (fun t k => XS.lload X50.here hx rfl (hb hby at_103) rfl k) ?_
      show own_Out p e below _ T50 (mkF m 105 #[.val (.int x0), .val (.int x1), .val (.int x2), .val (.int x3), .val (.int x4), .val (.int (3 : Int32)), .val (.int (0 : Int32)), .val (.ref ob46), .val (.long ((3 : Int32).toInt64)), .second, .val (.long ((0 : Int64) + (x0.toInt64))), .second, .unset, .unset, .unset, .unset] [(.long ((0 : Int64) + (x0.toInt64)))]) _ _ _
      refine own_to (fun t k => XS.iloadN X50.here hx rfl (hb hby at_105) rfl k) ?_
      show own_Out p e below _ T50 (mkF m 106 #[.val (.int x0), .val (.int x1), .val (.int x2), .val (.int x3), .val (.int x4), .val (.int (3 : Int32)), .val (.int (0 : Int32)), .val (.ref ob46), .val (.long ((3 : Int32).toInt64)), .second, .val (.long ((0 : Int64) + (x0.toInt64))), .second, .unset, .unset, .unset, .unset] [(.int x1), (.long ((0 : Int64) + (x0.toInt64)))]) _ _ _
      refine own_to (fun t k => XS.i2l X50.here hx rfl (hb hby at_106) rfl k) ?_
      show own_Out p e below _ T50 (mkF m 107 #[.val (.int x0), .val (.int x1), .val (.int x2), .val (.int x3), .val (.int x4), .val (.int (3 : Int32)), .val (.int (0 : Int32)), .val (.ref ob46), .val (.long ((3 : Int32).toInt64)), .second, .val (.long ((0 : Int64) + (x0.toInt64))), .second, .unset, .unset, .unset, .unset] [(.long (x1.toInt64)), (.long ((0 : Int64) + (x0.toInt64)))]) _ _ _
      refine own_to (fun t k => XS.ladd X50.here hx rfl (hb hby at_107) rfl k) ?_
      show own_Out p e below _ T50 (mkF m 108 #[.val (.int x0), .val (.int x1), .val (.int x2), .val (.int x3), .val (.int x4), .val (.int (3 : Int32)), .val (.int (0 : Int32)), .val (.ref ob46), .val (.long ((3 : Int32).toInt64)), .second, .val (.long ((0 : Int64) + (x0.toInt64))), .second, .unset, .unset, .unset, .unset] [(.long (((0 : Int64) + (x0.toInt64)) + (x1.toInt64)))]) _ _ _
      refine own_to (fun t k => XS.lstore X50.here hx rfl (hb hby at_108) rfl (l' := #[.val (.int x0), .val (.int x1), .val (.int x2), .val (.int x3), .val (.int x4), .val (.int (3 : Int32)), .val (.int (0 : Int32)), .val (.ref ob46), .val (.long ((3 : Int32).toInt64)), .second, .val (.long (((0 : Int64) + (x0.toInt64)) + (x1.toInt64))), .second, .unset, .unset, .unset, .unset]) rfl k) ?_
      show own_Out p e below _ T50 (mkF m 110 #[.val (.int x0), .val (.int x1), .val (.int x2), .val (.int x3), .val (.int x4), .val (.int (3 : Int32)), .val (.int (0 : Int32)), .val (.ref ob46), .val (.long ((3 : Int32).toInt64)), .second, .val (.long (((0 : Int64) + (x0.toInt64)) + (x1.toInt64))), .second, .unset, .unset, .unset, .unset] []) _ _ _
      refine own_to (fun t k => XS.iload X50.here hx rfl (hb hby at_110) rfl k) ?_
      show own_Out p e below _ T50 (mkF m 112 #[.val (.int x0), .val (.int x1), .val (.int x2), .val (.int x3), .val (.int x4), .val (.int (3 : Int32)), .val (.int (0 : Int32)), .val (.ref ob46), .val (.long ((3 : Int32).toInt64)), .second, .val (.long (((0 : Int64) + (x0.toInt64)) + (x1.toInt64))), .second, .unset, .unset, .unset, .unset] [(.int (3 : Int32))]) _ _ _
      refine own_to (fun t k => XS.iconst X50.here hx rfl (hb hby at_112) k) ?_
      show own_Out p e below _ T50 (mkF m 113 #[.val (.int x0), .val (.int x1), .val (.int x2), .val (.int x3), .val (.int x4), .val (.int (3 : Int32)), .val (.int (0 : Int32)), .val (.ref ob46), .val (.long ((3 : Int32).toInt64)), .second, .val (.long (((0 : Int64) + (x0.toInt64)) + (x1.toInt64))), .second, .unset, .unset, .unset, .unset] [(.int (3 : Int32)), (.int (3 : Int32))]) _ _ _
      have hc113 : ¬ ((3 : Int32) < (3 : Int32)) := by decide
      refine own_to (fun t k => XS.icmpNo X50.here hx rfl (hb hby at_113) rfl (flt hc113).1 k) ?_
      show own_Out p e below _ T50 (mkF m 116 #[.val (.int x0), .val (.int x1), .val (.int x2), .val (.int x3), .val (.int x4), .val (.int (3 : Int32)), .val (.int (0 : Int32)), .val (.ref ob46), .val (.long ((3 : Int32).toInt64)), .second, .val (.long (((0 : Int64) + (x0.toInt64)) + (x1.toInt64))), .second, .unset, .unset, .unset, .unset] []) _ _ _
      refine own_to (fun t k => XS.lload X50.here hx rfl (hb hby at_116) rfl k) ?_
      show own_Out p e below _ T50 (mkF m 118 #[.val (.int x0), .val (.int x1), .val (.int x2), .val (.int x3), .val (.int x4), .val (.int (3 : Int32)), .val (.int (0 : Int32)), .val (.ref ob46), .val (.long ((3 : Int32).toInt64)), .second, .val (.long (((0 : Int64) + (x0.toInt64)) + (x1.toInt64))), .second, .unset, .unset, .unset, .unset] [(.long (((0 : Int64) + (x0.toInt64)) + (x1.toInt64)))]) _ _ _
      refine own_to (fun t k => XS.iloadN X50.here hx rfl (hb hby at_118) rfl k) ?_
      show own_Out p e below _ T50 (mkF m 119 #[.val (.int x0), .val (.int x1), .val (.int x2), .val (.int x3), .val (.int x4), .val (.int (3 : Int32)), .val (.int (0 : Int32)), .val (.ref ob46), .val (.long ((3 : Int32).toInt64)), .second, .val (.long (((0 : Int64) + (x0.toInt64)) + (x1.toInt64))), .second, .unset, .unset, .unset, .unset] [(.int x2), (.long (((0 : Int64) + (x0.toInt64)) + (x1.toInt64)))]) _ _ _
      refine own_to (fun t k => XS.i2l X50.here hx rfl (hb hby at_119) rfl k) ?_
      show own_Out p e below _ T50 (mkF m 120 #[.val (.int x0), .val (.int x1), .val (.int x2), .val (.int x3), .val (.int x4), .val (.int (3 : Int32)), .val (.int (0 : Int32)), .val (.ref ob46), .val (.long ((3 : Int32).toInt64)), .second, .val (.long (((0 : Int64) + (x0.toInt64)) + (x1.toInt64))), .second, .unset, .unset, .unset, .unset] [(.long (x2.toInt64)), (.long (((0 : Int64) + (x0.toInt64)) + (x1.toInt64)))]) _ _ _
      refine own_to (fun t k => XS.ladd X50.here hx rfl (hb hby at_120) rfl k) ?_
      show own_Out p e below _ T50 (mkF m 121 #[.val (.int x0), .val (.int x1), .val (.int x2), .val (.int x3), .val (.int x4), .val (.int (3 : Int32)), .val (.int (0 : Int32)), .val (.ref ob46), .val (.long ((3 : Int32).toInt64)), .second, .val (.long (((0 : Int64) + (x0.toInt64)) + (x1.toInt64))), .second, .unset, .unset, .unset, .unset] [(.long ((((0 : Int64) + (x0.toInt64)) + (x1.toInt64)) + (x2.toInt64)))]) _ _ _
      refine own_to (fun t k => XS.lstore X50.here hx rfl (hb hby at_121) rfl (l' := #[.val (.int x0), .val (.int x1), .val (.int x2), .val (.int x3), .val (.int x4), .val (.int (3 : Int32)), .val (.int (0 : Int32)), .val (.ref ob46), .val (.long ((3 : Int32).toInt64)), .second, .val (.long ((((0 : Int64) + (x0.toInt64)) + (x1.toInt64)) + (x2.toInt64))), .second, .unset, .unset, .unset, .unset]) rfl k) ?_
      show own_Out p e below _ T50 (mkF m 123 #[.val (.int x0), .val (.int x1), .val (.int x2), .val (.int x3), .val (.int x4), .val (.int (3 : Int32)), .val (.int (0 : Int32)), .val (.ref ob46), .val (.long ((3 : Int32).toInt64)), .second, .val (.long ((((0 : Int64) + (x0.toInt64)) + (x1.toInt64)) + (x2.toInt64))), .second, .unset, .unset, .unset, .unset] []) _ _ _
      refine own_to (fun t k => XS.iload X50.here hx rfl (hb hby at_123) rfl k) ?_
      show own_Out p e below _ T50 (mkF m 125 #[.val (.int x0), .val (.int x1), .val (.int x2), .val (.int x3), .val (.int x4), .val (.int (3 : Int32)), .val (.int (0 : Int32)), .val (.ref ob46), .val (.long ((3 : Int32).toInt64)), .second, .val (.long ((((0 : Int64) + (x0.toInt64)) + (x1.toInt64)) + (x2.toInt64))), .second, .unset, .unset, .unset, .unset] [(.int (0 : Int32))]) _ _ _
      have hc125 : (0 : Int32) = (0 : Int32) := by decide
      refine own_to (fun t k => XS.ifYes X50.here hx rfl (pc0 := 125) (pc' := 132) rfl (hb hby at_125) rfl ((if0 _ _).trans (teq hc125).1) (by decide) (by decide) k) ?_
      show own_Out p e below _ T50 (mkF m 132 #[.val (.int x0), .val (.int x1), .val (.int x2), .val (.int x3), .val (.int x4), .val (.int (3 : Int32)), .val (.int (0 : Int32)), .val (.ref ob46), .val (.long ((3 : Int32).toInt64)), .second, .val (.long ((((0 : Int64) + (x0.toInt64)) + (x1.toInt64)) + (x2.toInt64))), .second, .unset, .unset, .unset, .unset] []) _ _ _
      refine own_to (fun t k => XS.lconst X50.here hx rfl (hb hby at_132) k) ?_
      show own_Out p e below _ T50 (mkF m 133 #[.val (.int x0), .val (.int x1), .val (.int x2), .val (.int x3), .val (.int x4), .val (.int (3 : Int32)), .val (.int (0 : Int32)), .val (.ref ob46), .val (.long ((3 : Int32).toInt64)), .second, .val (.long ((((0 : Int64) + (x0.toInt64)) + (x1.toInt64)) + (x2.toInt64))), .second, .unset, .unset, .unset, .unset] [(.long (0 : Int64))]) _ _ _
      refine own_to (fun t k => XS.lstore X50.here hx rfl (hb hby at_133) rfl (l' := #[.val (.int x0), .val (.int x1), .val (.int x2), .val (.int x3), .val (.int x4), .val (.int (3 : Int32)), .val (.int (0 : Int32)), .val (.ref ob46), .val (.long ((3 : Int32).toInt64)), .second, .val (.long ((((0 : Int64) + (x0.toInt64)) + (x1.toInt64)) + (x2.toInt64))), .second, .val (.long (0 : Int64)), .second, .unset, .unset]) rfl k) ?_
      show own_Out p e below _ T50 (mkF m 135 #[.val (.int x0), .val (.int x1), .val (.int x2), .val (.int x3), .val (.int x4), .val (.int (3 : Int32)), .val (.int (0 : Int32)), .val (.ref ob46), .val (.long ((3 : Int32).toInt64)), .second, .val (.long ((((0 : Int64) + (x0.toInt64)) + (x1.toInt64)) + (x2.toInt64))), .second, .val (.long (0 : Int64)), .second, .unset, .unset] []) _ _ _
      refine own_to (fun t k => XS.iload X50.here hx rfl (hb hby at_135) rfl k) ?_
      show own_Out p e below _ T50 (mkF m 137 #[.val (.int x0), .val (.int x1), .val (.int x2), .val (.int x3), .val (.int x4), .val (.int (3 : Int32)), .val (.int (0 : Int32)), .val (.ref ob46), .val (.long ((3 : Int32).toInt64)), .second, .val (.long ((((0 : Int64) + (x0.toInt64)) + (x1.toInt64)) + (x2.toInt64))), .second, .val (.long (0 : Int64)), .second, .unset, .unset] [(.int (0 : Int32))]) _ _ _
      have hc137 : (0 : Int32) = (0 : Int32) := by decide
      refine own_to (fun t k => XS.ifYes X50.here hx rfl (pc0 := 137) (pc' := 145) rfl (hb hby at_137) rfl ((if0 _ _).trans (teq hc137).1) (by decide) (by decide) k) ?_
      show own_Out p e below _ T50 (mkF m 145 #[.val (.int x0), .val (.int x1), .val (.int x2), .val (.int x3), .val (.int x4), .val (.int (3 : Int32)), .val (.int (0 : Int32)), .val (.ref ob46), .val (.long ((3 : Int32).toInt64)), .second, .val (.long ((((0 : Int64) + (x0.toInt64)) + (x1.toInt64)) + (x2.toInt64))), .second, .val (.long (0 : Int64)), .second, .unset, .unset] []) _ _ _
      refine own_to (fun t k => XS.lconst X50.here hx rfl (hb hby at_145) k) ?_
      show own_Out p e below _ T50 (mkF m 146 #[.val (.int x0), .val (.int x1), .val (.int x2), .val (.int x3), .val (.int x4), .val (.int (3 : Int32)), .val (.int (0 : Int32)), .val (.ref ob46), .val (.long ((3 : Int32).toInt64)), .second, .val (.long ((((0 : Int64) + (x0.toInt64)) + (x1.toInt64)) + (x2.toInt64))), .second, .val (.long (0 : Int64)), .second, .unset, .unset] [(.long (0 : Int64))]) _ _ _
      refine own_to (fun t k => XS.lstore X50.here hx rfl (hb hby at_146) rfl (l' := #[.val (.int x0), .val (.int x1), .val (.int x2), .val (.int x3), .val (.int x4), .val (.int (3 : Int32)), .val (.int (0 : Int32)), .val (.ref ob46), .val (.long ((3 : Int32).toInt64)), .second, .val (.long ((((0 : Int64) + (x0.toInt64)) + (x1.toInt64)) + (x2.toInt64))), .second, .val (.long (0 : Int64)), .second, .val (.long (0 : Int64)), .second]) rfl k) ?_
      show own_Out p e below _ T50 (mkF m 148 #[.val (.int x0), .val (.int x1), .val (.int x2), .val (.int x3), .val (.int x4), .val (.int (3 : Int32)), .val (.int (0 : Int32)), .val (.ref ob46), .val (.long ((3 : Int32).toInt64)), .second, .val (.long ((((0 : Int64) + (x0.toInt64)) + (x1.toInt64)) + (x2.toInt64))), .second, .val (.long (0 : Int64)), .second, .val (.long (0 : Int64)), .second] []) _ _ _
      refine own_to (fun t k => XS.aload X50.here hx rfl (hb hby at_148) rfl rfl k) ?_
      show own_Out p e below _ T50 (mkF m 150 #[.val (.int x0), .val (.int x1), .val (.int x2), .val (.int x3), .val (.int x4), .val (.int (3 : Int32)), .val (.int (0 : Int32)), .val (.ref ob46), .val (.long ((3 : Int32).toInt64)), .second, .val (.long ((((0 : Int64) + (x0.toInt64)) + (x1.toInt64)) + (x2.toInt64))), .second, .val (.long (0 : Int64)), .second, .val (.long (0 : Int64)), .second] [(.ref ob46)]) _ _ _
      refine own_callV X50 hx hZ hown (a := ob46) (argsL := []) (rest := []) (hw _ (List.mem_of_getElem? (i := 9) rfl)) (hw _ (List.mem_of_getElem? (i := 10) rfl)) (hw _ (List.mem_of_getElem? (i := 12) rfl)) (hw _ (List.mem_of_getElem? (i := 11) rfl)) (hw _ (List.mem_of_getElem? (i := 2) rfl)) (hw _ (List.mem_of_getElem? (i := 13) rfl)) (by decide) (rm3 l Z a0 hw ob46 ((((0 : Int64) + (1 : Int64)) + (1 : Int64)) + (1 : Int64)) hh50 n0 Z0 F_ob46_messageFrames) (by decide) (by decide) e50 E_ob46 rfl (by rw [hml]; rfl) (lenOf pd_1 rfl) rfl (W := 0) (by show 2 * 0 + _ ≤ _; exact Nat.le_of_eq rfl) (hb hby at_150) (by decide) (by decide) fun v51 T51 hh51 L51 X51 e51 hQ51 => ?_
      obtain ⟨rfl, NL51, he51⟩ := hQ51
      replace e51 := e51.trans he51
      have N51 := Fr.app N50 NL51
      show own_Out p e below _ T51 (mkF m 153 #[.val (.int x0), .val (.int x1), .val (.int x2), .val (.int x3), .val (.int x4), .val (.int (3 : Int32)), .val (.int (0 : Int32)), .val (.ref ob46), .val (.long ((3 : Int32).toInt64)), .second, .val (.long ((((0 : Int64) + (x0.toInt64)) + (x1.toInt64)) + (x2.toInt64))), .second, .val (.long (0 : Int64)), .second, .val (.long (0 : Int64)), .second] [(.long ((((0 : Int64) + (1 : Int64)) + (1 : Int64)) + (1 : Int64)))]) _ _ _
      refine own_to (fun t k => XS.lload X51.here hx rfl (hb hby at_153) rfl k) ?_
      show own_Out p e below _ T51 (mkF m 155 #[.val (.int x0), .val (.int x1), .val (.int x2), .val (.int x3), .val (.int x4), .val (.int (3 : Int32)), .val (.int (0 : Int32)), .val (.ref ob46), .val (.long ((3 : Int32).toInt64)), .second, .val (.long ((((0 : Int64) + (x0.toInt64)) + (x1.toInt64)) + (x2.toInt64))), .second, .val (.long (0 : Int64)), .second, .val (.long (0 : Int64)), .second] [(.long ((3 : Int32).toInt64)), (.long ((((0 : Int64) + (1 : Int64)) + (1 : Int64)) + (1 : Int64)))]) _ _ _
      refine own_to (fun t k => XS.lcmp X51.here hx rfl (hb hby at_155) rfl k) ?_
      show own_Out p e below _ T51 (mkF m 156 #[.val (.int x0), .val (.int x1), .val (.int x2), .val (.int x3), .val (.int x4), .val (.int (3 : Int32)), .val (.int (0 : Int32)), .val (.ref ob46), .val (.long ((3 : Int32).toInt64)), .second, .val (.long ((((0 : Int64) + (x0.toInt64)) + (x1.toInt64)) + (x2.toInt64))), .second, .val (.long (0 : Int64)), .second, .val (.long (0 : Int64)), .second] [(.int (lcmpW ((((0 : Int64) + (1 : Int64)) + (1 : Int64)) + (1 : Int64)) ((3 : Int32).toInt64)))]) _ _ _
      have hc156 : ((((0 : Int64) + (1 : Int64)) + (1 : Int64)) + (1 : Int64)) = ((3 : Int32).toInt64) := by first | rfl | decide | (simp only [Int64.zero_add]; done) | simp
      refine own_to (fun t k => XS.ifNo X51.here hx rfl (hb hby at_156) rfl ((if0 _ _).trans (teq ((lw_eq _ _).mpr hc156)).2) k) ?_
      show own_Out p e below _ T51 (mkF m 159 #[.val (.int x0), .val (.int x1), .val (.int x2), .val (.int x3), .val (.int x4), .val (.int (3 : Int32)), .val (.int (0 : Int32)), .val (.ref ob46), .val (.long ((3 : Int32).toInt64)), .second, .val (.long ((((0 : Int64) + (x0.toInt64)) + (x1.toInt64)) + (x2.toInt64))), .second, .val (.long (0 : Int64)), .second, .val (.long (0 : Int64)), .second] []) _ _ _
      refine own_to (fun t k => XS.aload X51.here hx rfl (hb hby at_159) rfl rfl k) ?_
      show own_Out p e below _ T51 (mkF m 161 #[.val (.int x0), .val (.int x1), .val (.int x2), .val (.int x3), .val (.int x4), .val (.int (3 : Int32)), .val (.int (0 : Int32)), .val (.ref ob46), .val (.long ((3 : Int32).toInt64)), .second, .val (.long ((((0 : Int64) + (x0.toInt64)) + (x1.toInt64)) + (x2.toInt64))), .second, .val (.long (0 : Int64)), .second, .val (.long (0 : Int64)), .second] [(.ref ob46)]) _ _ _
      refine own_callV X51 hx hZ hown (a := ob46) (argsL := []) (rest := []) (hw _ (List.mem_of_getElem? (i := 16) rfl)) (hw _ (List.mem_of_getElem? (i := 17) rfl)) (hw _ (List.mem_of_getElem? (i := 19) rfl)) (hw _ (List.mem_of_getElem? (i := 18) rfl)) (hw _ (List.mem_of_getElem? (i := 2) rfl)) (hw _ (List.mem_of_getElem? (i := 20) rfl)) (by decide) (rm4 l Z a0 hw ob46 ((((0 : Int64) + (x0.toInt64)) + (x1.toInt64)) + (x2.toInt64)) hh50 n0 Z0 F_ob46_messageBytes) (by decide) (by decide) e51 E_ob46 rfl (by rw [hml]; rfl) (lenOf pd_1 rfl) rfl (W := 0) (by show 2 * 0 + _ ≤ _; exact Nat.le_of_eq rfl) (hb hby at_161) (by decide) (by decide) fun v52 T52 hh52 L52 X52 e52 hQ52 => ?_
      obtain ⟨rfl, NL52, he52⟩ := hQ52
      replace e52 := e52.trans he52
      have N52 := Fr.app N51 NL52
      show own_Out p e below _ T52 (mkF m 164 #[.val (.int x0), .val (.int x1), .val (.int x2), .val (.int x3), .val (.int x4), .val (.int (3 : Int32)), .val (.int (0 : Int32)), .val (.ref ob46), .val (.long ((3 : Int32).toInt64)), .second, .val (.long ((((0 : Int64) + (x0.toInt64)) + (x1.toInt64)) + (x2.toInt64))), .second, .val (.long (0 : Int64)), .second, .val (.long (0 : Int64)), .second] [(.long ((((0 : Int64) + (x0.toInt64)) + (x1.toInt64)) + (x2.toInt64)))]) _ _ _
      refine own_to (fun t k => XS.lload X52.here hx rfl (hb hby at_164) rfl k) ?_
      show own_Out p e below _ T52 (mkF m 166 #[.val (.int x0), .val (.int x1), .val (.int x2), .val (.int x3), .val (.int x4), .val (.int (3 : Int32)), .val (.int (0 : Int32)), .val (.ref ob46), .val (.long ((3 : Int32).toInt64)), .second, .val (.long ((((0 : Int64) + (x0.toInt64)) + (x1.toInt64)) + (x2.toInt64))), .second, .val (.long (0 : Int64)), .second, .val (.long (0 : Int64)), .second] [(.long ((((0 : Int64) + (x0.toInt64)) + (x1.toInt64)) + (x2.toInt64))), (.long ((((0 : Int64) + (x0.toInt64)) + (x1.toInt64)) + (x2.toInt64)))]) _ _ _
      refine own_to (fun t k => XS.lcmp X52.here hx rfl (hb hby at_166) rfl k) ?_
      show own_Out p e below _ T52 (mkF m 167 #[.val (.int x0), .val (.int x1), .val (.int x2), .val (.int x3), .val (.int x4), .val (.int (3 : Int32)), .val (.int (0 : Int32)), .val (.ref ob46), .val (.long ((3 : Int32).toInt64)), .second, .val (.long ((((0 : Int64) + (x0.toInt64)) + (x1.toInt64)) + (x2.toInt64))), .second, .val (.long (0 : Int64)), .second, .val (.long (0 : Int64)), .second] [(.int (lcmpW ((((0 : Int64) + (x0.toInt64)) + (x1.toInt64)) + (x2.toInt64)) ((((0 : Int64) + (x0.toInt64)) + (x1.toInt64)) + (x2.toInt64))))]) _ _ _
      have hc167 : ((((0 : Int64) + (x0.toInt64)) + (x1.toInt64)) + (x2.toInt64)) = ((((0 : Int64) + (x0.toInt64)) + (x1.toInt64)) + (x2.toInt64)) := by first | rfl | decide | (simp only [Int64.zero_add]; done) | simp
      refine own_to (fun t k => XS.ifNo X52.here hx rfl (hb hby at_167) rfl ((if0 _ _).trans (teq ((lw_eq _ _).mpr hc167)).2) k) ?_
      show own_Out p e below _ T52 (mkF m 170 #[.val (.int x0), .val (.int x1), .val (.int x2), .val (.int x3), .val (.int x4), .val (.int (3 : Int32)), .val (.int (0 : Int32)), .val (.ref ob46), .val (.long ((3 : Int32).toInt64)), .second, .val (.long ((((0 : Int64) + (x0.toInt64)) + (x1.toInt64)) + (x2.toInt64))), .second, .val (.long (0 : Int64)), .second, .val (.long (0 : Int64)), .second] []) _ _ _
      refine own_to (fun t k => XS.aload X52.here hx rfl (hb hby at_170) rfl rfl k) ?_
      show own_Out p e below _ T52 (mkF m 172 #[.val (.int x0), .val (.int x1), .val (.int x2), .val (.int x3), .val (.int x4), .val (.int (3 : Int32)), .val (.int (0 : Int32)), .val (.ref ob46), .val (.long ((3 : Int32).toInt64)), .second, .val (.long ((((0 : Int64) + (x0.toInt64)) + (x1.toInt64)) + (x2.toInt64))), .second, .val (.long (0 : Int64)), .second, .val (.long (0 : Int64)), .second] [(.ref ob46)]) _ _ _
      refine own_callV X52 hx hZ hown (a := ob46) (argsL := []) (rest := []) (hw _ (List.mem_of_getElem? (i := 23) rfl)) (hw _ (List.mem_of_getElem? (i := 24) rfl)) (hw _ (List.mem_of_getElem? (i := 26) rfl)) (hw _ (List.mem_of_getElem? (i := 25) rfl)) (hw _ (List.mem_of_getElem? (i := 2) rfl)) (hw _ (List.mem_of_getElem? (i := 27) rfl)) (by decide) (rm5 l Z a0 hw ob46 (0 : Int64) hh50 n0 Z0 F_ob46_ackFrames) (by decide) (by decide) e52 E_ob46 rfl (by rw [hml]; rfl) (lenOf pd_1 rfl) rfl (W := 0) (by show 2 * 0 + _ ≤ _; exact Nat.le_of_eq rfl) (hb hby at_172) (by decide) (by decide) fun v53 T53 hh53 L53 X53 e53 hQ53 => ?_
      obtain ⟨rfl, NL53, he53⟩ := hQ53
      replace e53 := e53.trans he53
      have N53 := Fr.app N52 NL53
      show own_Out p e below _ T53 (mkF m 175 #[.val (.int x0), .val (.int x1), .val (.int x2), .val (.int x3), .val (.int x4), .val (.int (3 : Int32)), .val (.int (0 : Int32)), .val (.ref ob46), .val (.long ((3 : Int32).toInt64)), .second, .val (.long ((((0 : Int64) + (x0.toInt64)) + (x1.toInt64)) + (x2.toInt64))), .second, .val (.long (0 : Int64)), .second, .val (.long (0 : Int64)), .second] [(.long (0 : Int64))]) _ _ _
      refine own_to (fun t k => XS.lload X53.here hx rfl (hb hby at_175) rfl k) ?_
      show own_Out p e below _ T53 (mkF m 177 #[.val (.int x0), .val (.int x1), .val (.int x2), .val (.int x3), .val (.int x4), .val (.int (3 : Int32)), .val (.int (0 : Int32)), .val (.ref ob46), .val (.long ((3 : Int32).toInt64)), .second, .val (.long ((((0 : Int64) + (x0.toInt64)) + (x1.toInt64)) + (x2.toInt64))), .second, .val (.long (0 : Int64)), .second, .val (.long (0 : Int64)), .second] [(.long (0 : Int64)), (.long (0 : Int64))]) _ _ _
      refine own_to (fun t k => XS.lcmp X53.here hx rfl (hb hby at_177) rfl k) ?_
      show own_Out p e below _ T53 (mkF m 178 #[.val (.int x0), .val (.int x1), .val (.int x2), .val (.int x3), .val (.int x4), .val (.int (3 : Int32)), .val (.int (0 : Int32)), .val (.ref ob46), .val (.long ((3 : Int32).toInt64)), .second, .val (.long ((((0 : Int64) + (x0.toInt64)) + (x1.toInt64)) + (x2.toInt64))), .second, .val (.long (0 : Int64)), .second, .val (.long (0 : Int64)), .second] [(.int (lcmpW (0 : Int64) (0 : Int64)))]) _ _ _
      have hc178 : (0 : Int64) = (0 : Int64) := by first | rfl | decide | (simp only [Int64.zero_add]; done) | simp
      refine own_to (fun t k => XS.ifNo X53.here hx rfl (hb hby at_178) rfl ((if0 _ _).trans (teq ((lw_eq _ _).mpr hc178)).2) k) ?_
      show own_Out p e below _ T53 (mkF m 181 #[.val (.int x0), .val (.int x1), .val (.int x2), .val (.int x3), .val (.int x4), .val (.int (3 : Int32)), .val (.int (0 : Int32)), .val (.ref ob46), .val (.long ((3 : Int32).toInt64)), .second, .val (.long ((((0 : Int64) + (x0.toInt64)) + (x1.toInt64)) + (x2.toInt64))), .second, .val (.long (0 : Int64)), .second, .val (.long (0 : Int64)), .second] []) _ _ _
      refine own_to (fun t k => XS.aload X53.here hx rfl (hb hby at_181) rfl rfl k) ?_
      show own_Out p e below _ T53 (mkF m 183 #[.val (.int x0), .val (.int x1), .val (.int x2), .val (.int x3), .val (.int x4), .val (.int (3 : Int32)), .val (.int (0 : Int32)), .val (.ref ob46), .val (.long ((3 : Int32).toInt64)), .second, .val (.long ((((0 : Int64) + (x0.toInt64)) + (x1.toInt64)) + (x2.toInt64))), .second, .val (.long (0 : Int64)), .second, .val (.long (0 : Int64)), .second] [(.ref ob46)]) _ _ _
      refine own_callV X53 hx hZ hown (a := ob46) (argsL := []) (rest := []) (hw _ (List.mem_of_getElem? (i := 30) rfl)) (hw _ (List.mem_of_getElem? (i := 31) rfl)) (hw _ (List.mem_of_getElem? (i := 33) rfl)) (hw _ (List.mem_of_getElem? (i := 32) rfl)) (hw _ (List.mem_of_getElem? (i := 2) rfl)) (hw _ (List.mem_of_getElem? (i := 34) rfl)) (by decide) (rm6 l Z a0 hw ob46 (0 : Int64) hh50 n0 Z0 F_ob46_ackBytes) (by decide) (by decide) e53 E_ob46 rfl (by rw [hml]; rfl) (lenOf pd_1 rfl) rfl (W := 0) (by show 2 * 0 + _ ≤ _; exact Nat.le_of_eq rfl) (hb hby at_183) (by decide) (by decide) fun v54 T54 hh54 L54 X54 e54 hQ54 => ?_
      obtain ⟨rfl, NL54, he54⟩ := hQ54
      replace e54 := e54.trans he54
      have N54 := Fr.app N53 NL54
      show own_Out p e below _ T54 (mkF m 186 #[.val (.int x0), .val (.int x1), .val (.int x2), .val (.int x3), .val (.int x4), .val (.int (3 : Int32)), .val (.int (0 : Int32)), .val (.ref ob46), .val (.long ((3 : Int32).toInt64)), .second, .val (.long ((((0 : Int64) + (x0.toInt64)) + (x1.toInt64)) + (x2.toInt64))), .second, .val (.long (0 : Int64)), .second, .val (.long (0 : Int64)), .second] [(.long (0 : Int64))]) _ _ _
      refine own_to (fun t k => XS.lload X54.here hx rfl (hb hby at_186) rfl k) ?_
      show own_Out p e below _ T54 (mkF m 188 #[.val (.int x0), .val (.int x1), .val (.int x2), .val (.int x3), .val (.int x4), .val (.int (3 : Int32)), .val (.int (0 : Int32)), .val (.ref ob46), .val (.long ((3 : Int32).toInt64)), .second, .val (.long ((((0 : Int64) + (x0.toInt64)) + (x1.toInt64)) + (x2.toInt64))), .second, .val (.long (0 : Int64)), .second, .val (.long (0 : Int64)), .second] [(.long (0 : Int64)), (.long (0 : Int64))]) _ _ _
      refine own_to (fun t k => XS.lcmp X54.here hx rfl (hb hby at_188) rfl k) ?_
      show own_Out p e below _ T54 (mkF m 189 #[.val (.int x0), .val (.int x1), .val (.int x2), .val (.int x3), .val (.int x4), .val (.int (3 : Int32)), .val (.int (0 : Int32)), .val (.ref ob46), .val (.long ((3 : Int32).toInt64)), .second, .val (.long ((((0 : Int64) + (x0.toInt64)) + (x1.toInt64)) + (x2.toInt64))), .second, .val (.long (0 : Int64)), .second, .val (.long (0 : Int64)), .second] [(.int (lcmpW (0 : Int64) (0 : Int64)))]) _ _ _
      have hc189 : (0 : Int64) = (0 : Int64) := by first | rfl | decide | (simp only [Int64.zero_add]; done) | simp
      refine own_to (fun t k => XS.ifNo X54.here hx rfl (hb hby at_189) rfl ((if0 _ _).trans (teq ((lw_eq _ _).mpr hc189)).2) k) ?_
      show own_Out p e below _ T54 (mkF m 192 #[.val (.int x0), .val (.int x1), .val (.int x2), .val (.int x3), .val (.int x4), .val (.int (3 : Int32)), .val (.int (0 : Int32)), .val (.ref ob46), .val (.long ((3 : Int32).toInt64)), .second, .val (.long ((((0 : Int64) + (x0.toInt64)) + (x1.toInt64)) + (x2.toInt64))), .second, .val (.long (0 : Int64)), .second, .val (.long (0 : Int64)), .second] []) _ _ _
      refine own_to (fun t k => XS.iconst X54.here hx rfl (hb hby at_192) k) ?_
      show own_Out p e below _ T54 (mkF m 193 #[.val (.int x0), .val (.int x1), .val (.int x2), .val (.int x3), .val (.int x4), .val (.int (3 : Int32)), .val (.int (0 : Int32)), .val (.ref ob46), .val (.long ((3 : Int32).toInt64)), .second, .val (.long ((((0 : Int64) + (x0.toInt64)) + (x1.toInt64)) + (x2.toInt64))), .second, .val (.long (0 : Int64)), .second, .val (.long (0 : Int64)), .second] [(.int (1 : Int32))]) _ _ _
      refine own_to (fun t k => XS.goto X54.here hx rfl (pc0 := 193) (pc' := 197) rfl (hb hby at_193) (by decide) (by decide) k) ?_
      show own_Out p e below _ T54 (mkF m 197 #[.val (.int x0), .val (.int x1), .val (.int x2), .val (.int x3), .val (.int x4), .val (.int (3 : Int32)), .val (.int (0 : Int32)), .val (.ref ob46), .val (.long ((3 : Int32).toInt64)), .second, .val (.long ((((0 : Int64) + (x0.toInt64)) + (x1.toInt64)) + (x2.toInt64))), .second, .val (.long (0 : Int64)), .second, .val (.long (0 : Int64)), .second] [(.int (1 : Int32))]) _ _ _
      refine own_retV X54 hx hlk (w := .int (1 : Int32)) hret rfl (Or.inl ⟨rfl, by simp, _, rfl⟩) (hb hby at_197) (by decide) (by decide) ?_
      rw [e54]
      exact ⟨rfl, N54⟩
    · refine own_to (fun t k => XS.ifNo X0.here hx rfl (hb hby at_10) rfl ((if0 _ _).trans (feq hc10).1) k) ?_
      show own_Out p e below _ s₁ (mkF m 13 #[.val (.int x0), .val (.int x1), .val (.int x2), .val (.int x3), .val (.int x4), .val (.int (3 : Int32)), .unset, .unset, .unset, .unset, .unset, .unset, .unset, .unset, .unset, .unset] []) _ _ _
      refine own_to (fun t k => XS.iconst X0.here hx rfl (hb hby at_13) k) ?_
      show own_Out p e below _ s₁ (mkF m 14 #[.val (.int x0), .val (.int x1), .val (.int x2), .val (.int x3), .val (.int x4), .val (.int (3 : Int32)), .unset, .unset, .unset, .unset, .unset, .unset, .unset, .unset, .unset, .unset] [(.int (1 : Int32))]) _ _ _
      refine own_to (fun t k => XS.goto X0.here hx rfl (pc0 := 14) (pc' := 18) rfl (hb hby at_14) (by decide) (by decide) k) ?_
      show own_Out p e below _ s₁ (mkF m 18 #[.val (.int x0), .val (.int x1), .val (.int x2), .val (.int x3), .val (.int x4), .val (.int (3 : Int32)), .unset, .unset, .unset, .unset, .unset, .unset, .unset, .unset, .unset, .unset] [(.int (1 : Int32))]) _ _ _
      refine own_to (fun t k => XS.istore X0.here hx rfl (hb hby at_18) rfl (l' := #[.val (.int x0), .val (.int x1), .val (.int x2), .val (.int x3), .val (.int x4), .val (.int (3 : Int32)), .val (.int (1 : Int32)), .unset, .unset, .unset, .unset, .unset, .unset, .unset, .unset, .unset]) rfl k) ?_
      show own_Out p e below _ s₁ (mkF m 20 #[.val (.int x0), .val (.int x1), .val (.int x2), .val (.int x3), .val (.int x4), .val (.int (3 : Int32)), .val (.int (1 : Int32)), .unset, .unset, .unset, .unset, .unset, .unset, .unset, .unset, .unset] []) _ _ _
      refine own_new X0 hx hZ hown (hw _ (List.mem_of_getElem? (i := 0) rfl)) (hw _ (List.mem_of_getElem? (i := 1) rfl)) (hw _ (List.mem_of_getElem? (i := 2) rfl)) e0 rfl (hb hby at_20) (by decide) (by decide) fun T55 hh55 ob55 gb55 X55 e55 E55 A55 D55 => ?_
      have g_ob55 : n0 ≤ ob55 := Nat.le_trans Z0 (Nat.le_of_eq gb55.symm)
      have Z0 := Nat.le_trans Z0 E55.1
      have E_ob55 := A55
      have F_ob55_messageFrames : Fld Z hh55 ob55 "com/example/mingle/mingle/FrameCounts" "messageFrames" "J" (.long (0 : Int64)) := D55 (Or.inl (hw _ (List.mem_of_getElem? (i := 15) rfl))) (ty := .long) (by decide)
      have F_ob55_messageBytes : Fld Z hh55 ob55 "com/example/mingle/mingle/FrameCounts" "messageBytes" "J" (.long (0 : Int64)) := D55 (Or.inl (hw _ (List.mem_of_getElem? (i := 22) rfl))) (ty := .long) (by decide)
      have F_ob55_ackFrames : Fld Z hh55 ob55 "com/example/mingle/mingle/FrameCounts" "ackFrames" "J" (.long (0 : Int64)) := D55 (Or.inl (hw _ (List.mem_of_getElem? (i := 29) rfl))) (ty := .long) (by decide)
      have F_ob55_ackBytes : Fld Z hh55 ob55 "com/example/mingle/mingle/FrameCounts" "ackBytes" "J" (.long (0 : Int64)) := D55 (Or.inl (hw _ (List.mem_of_getElem? (i := 36) rfl))) (ty := .long) (by decide)
      show own_Out p e below _ T55 (mkF m 23 #[.val (.int x0), .val (.int x1), .val (.int x2), .val (.int x3), .val (.int x4), .val (.int (3 : Int32)), .val (.int (1 : Int32)), .unset, .unset, .unset, .unset, .unset, .unset, .unset, .unset, .unset] [(.ref ob55)]) _ _ _
      refine own_to (fun t k => XS.dup X55.here hx rfl (hb hby at_23) rfl rfl k) ?_
      show own_Out p e below _ T55 (mkF m 24 #[.val (.int x0), .val (.int x1), .val (.int x2), .val (.int x3), .val (.int x4), .val (.int (3 : Int32)), .val (.int (1 : Int32)), .unset, .unset, .unset, .unset, .unset, .unset, .unset, .unset, .unset] [(.ref ob55), (.ref ob55)]) _ _ _
      refine own_callC X55 hx hZ hown (a := ob55) (argsL := []) (rest := [(.ref ob55)]) rfl (hw _ (List.mem_of_getElem? (i := 3) rfl)) (hw _ (List.mem_of_getElem? (i := 4) rfl)) (hw _ (List.mem_of_getElem? (i := 2) rfl)) (hw _ (List.mem_of_getElem? (i := 5) rfl)) (by decide) (rm1 l Z a0 hw ob55 hh55 n0 Z0 ) (by decide) (by decide) e55 rfl (by rw [hml]; rfl) (lenOf pd_0 rfl) rfl (W := 1) (by show 2 * 0 + _ ≤ _; exact Nat.le_of_eq rfl) (hb hby at_24) (by decide) (by decide) fun v56 T56 hh56 L56 X56 e56 hQ56 => ?_
      obtain ⟨rfl, NL56, he56⟩ := hQ56
      replace e56 := e56.trans he56
      have N56 := Fr.app N0 NL56
      show own_Out p e below _ T56 (mkF m 27 #[.val (.int x0), .val (.int x1), .val (.int x2), .val (.int x3), .val (.int x4), .val (.int (3 : Int32)), .val (.int (1 : Int32)), .unset, .unset, .unset, .unset, .unset, .unset, .unset, .unset, .unset] [(.ref ob55)]) _ _ _
      refine own_to (fun t k => XS.astore X56.here hx rfl (hb hby at_27) rfl rfl (l' := #[.val (.int x0), .val (.int x1), .val (.int x2), .val (.int x3), .val (.int x4), .val (.int (3 : Int32)), .val (.int (1 : Int32)), .val (.ref ob55), .unset, .unset, .unset, .unset, .unset, .unset, .unset, .unset]) rfl k) ?_
      show own_Out p e below _ T56 (mkF m 29 #[.val (.int x0), .val (.int x1), .val (.int x2), .val (.int x3), .val (.int x4), .val (.int (3 : Int32)), .val (.int (1 : Int32)), .val (.ref ob55), .unset, .unset, .unset, .unset, .unset, .unset, .unset, .unset] []) _ _ _
      refine own_to (fun t k => XS.iload X56.here hx rfl (hb hby at_29) rfl k) ?_
      show own_Out p e below _ T56 (mkF m 31 #[.val (.int x0), .val (.int x1), .val (.int x2), .val (.int x3), .val (.int x4), .val (.int (3 : Int32)), .val (.int (1 : Int32)), .val (.ref ob55), .unset, .unset, .unset, .unset, .unset, .unset, .unset, .unset] [(.int (3 : Int32))]) _ _ _
      refine own_to (fun t k => XS.iconst X56.here hx rfl (hb hby at_31) k) ?_
      show own_Out p e below _ T56 (mkF m 32 #[.val (.int x0), .val (.int x1), .val (.int x2), .val (.int x3), .val (.int x4), .val (.int (3 : Int32)), .val (.int (1 : Int32)), .val (.ref ob55), .unset, .unset, .unset, .unset, .unset, .unset, .unset, .unset] [(.int (1 : Int32)), (.int (3 : Int32))]) _ _ _
      have hc32 : ¬ ((3 : Int32) < (1 : Int32)) := by decide
      refine own_to (fun t k => XS.icmpNo X56.here hx rfl (hb hby at_32) rfl (flt hc32).1 k) ?_
      show own_Out p e below _ T56 (mkF m 35 #[.val (.int x0), .val (.int x1), .val (.int x2), .val (.int x3), .val (.int x4), .val (.int (3 : Int32)), .val (.int (1 : Int32)), .val (.ref ob55), .unset, .unset, .unset, .unset, .unset, .unset, .unset, .unset] []) _ _ _
      refine own_to (fun t k => XS.aload X56.here hx rfl (hb hby at_35) rfl rfl k) ?_
      show own_Out p e below _ T56 (mkF m 37 #[.val (.int x0), .val (.int x1), .val (.int x2), .val (.int x3), .val (.int x4), .val (.int (3 : Int32)), .val (.int (1 : Int32)), .val (.ref ob55), .unset, .unset, .unset, .unset, .unset, .unset, .unset, .unset] [(.ref ob55)]) _ _ _
      refine own_to (fun t k => XS.iloadN X56.here hx rfl (hb hby at_37) rfl k) ?_
      show own_Out p e below _ T56 (mkF m 38 #[.val (.int x0), .val (.int x1), .val (.int x2), .val (.int x3), .val (.int x4), .val (.int (3 : Int32)), .val (.int (1 : Int32)), .val (.ref ob55), .unset, .unset, .unset, .unset, .unset, .unset, .unset, .unset] [(.int x0), (.ref ob55)]) _ _ _
      refine own_callV X56 hx hZ hown (a := ob55) (argsL := [(.int x0)]) (rest := []) (hw _ (List.mem_of_getElem? (i := 37) rfl)) (hw _ (List.mem_of_getElem? (i := 38) rfl)) (hw _ (List.mem_of_getElem? (i := 40) rfl)) (hw _ (List.mem_of_getElem? (i := 39) rfl)) (hw _ (List.mem_of_getElem? (i := 2) rfl)) (hw _ (List.mem_of_getElem? (i := 41) rfl)) (by decide) (rm7 l Z a0 hw ob55 x0 (0 : Int64) (0 : Int64) (0 : Int64) (0 : Int64) hh55 n0 Z0 E_ob55 F_ob55_messageFrames F_ob55_messageBytes g_ob55 F_ob55_ackFrames F_ob55_ackBytes) (by decide) (by decide) e56 E_ob55 rfl (by rw [hml]; rfl) (lenOf pd_2 rfl) rfl (W := 0) (by show 2 * 0 + _ ≤ _; exact Nat.le_of_eq rfl) (hb hby at_38) (by decide) (by decide) fun v57 T57 hh57 L57 X57 e57 hQ57 => ?_
      obtain ⟨rfl, NL57, KK57, P57_0, P57_1, P57_2, P57_3⟩ := hQ57
      have E_ob55 := E_ob55.keep KK57
      have F_ob55_messageFrames := P57_0
      have F_ob55_messageBytes := P57_1
      have F_ob55_ackFrames := P57_2
      have F_ob55_ackBytes := P57_3
      have Z0 := Nat.le_trans Z0 KK57.1
      have N57 := Fr.app N56 NL57
      show own_Out p e below _ T57 (mkF m 41 #[.val (.int x0), .val (.int x1), .val (.int x2), .val (.int x3), .val (.int x4), .val (.int (3 : Int32)), .val (.int (1 : Int32)), .val (.ref ob55), .unset, .unset, .unset, .unset, .unset, .unset, .unset, .unset] []) _ _ _
      refine own_to (fun t k => XS.iload X57.here hx rfl (hb hby at_41) rfl k) ?_
      show own_Out p e below _ T57 (mkF m 43 #[.val (.int x0), .val (.int x1), .val (.int x2), .val (.int x3), .val (.int x4), .val (.int (3 : Int32)), .val (.int (1 : Int32)), .val (.ref ob55), .unset, .unset, .unset, .unset, .unset, .unset, .unset, .unset] [(.int (1 : Int32))]) _ _ _
      have hc43 : ¬ ((1 : Int32) = (0 : Int32)) := by decide
      refine own_to (fun t k => XS.ifNo X57.here hx rfl (hb hby at_43) rfl ((if0 _ _).trans (feq hc43).1) k) ?_
      show own_Out p e below _ T57 (mkF m 46 #[.val (.int x0), .val (.int x1), .val (.int x2), .val (.int x3), .val (.int x4), .val (.int (3 : Int32)), .val (.int (1 : Int32)), .val (.ref ob55), .unset, .unset, .unset, .unset, .unset, .unset, .unset, .unset] []) _ _ _
      refine own_to (fun t k => XS.aload X57.here hx rfl (hb hby at_46) rfl rfl k) ?_
      show own_Out p e below _ T57 (mkF m 48 #[.val (.int x0), .val (.int x1), .val (.int x2), .val (.int x3), .val (.int x4), .val (.int (3 : Int32)), .val (.int (1 : Int32)), .val (.ref ob55), .unset, .unset, .unset, .unset, .unset, .unset, .unset, .unset] [(.ref ob55)]) _ _ _
      refine own_to (fun t k => XS.iloadN X57.here hx rfl (hb hby at_48) rfl k) ?_
      show own_Out p e below _ T57 (mkF m 49 #[.val (.int x0), .val (.int x1), .val (.int x2), .val (.int x3), .val (.int x4), .val (.int (3 : Int32)), .val (.int (1 : Int32)), .val (.ref ob55), .unset, .unset, .unset, .unset, .unset, .unset, .unset, .unset] [(.int x3), (.ref ob55)]) _ _ _
      refine own_callV X57 hx hZ hown (a := ob55) (argsL := [(.int x3)]) (rest := []) (hw _ (List.mem_of_getElem? (i := 42) rfl)) (hw _ (List.mem_of_getElem? (i := 43) rfl)) (hw _ (List.mem_of_getElem? (i := 45) rfl)) (hw _ (List.mem_of_getElem? (i := 44) rfl)) (hw _ (List.mem_of_getElem? (i := 2) rfl)) (hw _ (List.mem_of_getElem? (i := 46) rfl)) (by decide) (rm8 l Z a0 hw ob55 x3 (0 : Int64) (0 : Int64) ((0 : Int64) + (1 : Int64)) ((0 : Int64) + (x0.toInt64)) hh57 n0 Z0 E_ob55 F_ob55_ackFrames F_ob55_ackBytes g_ob55 F_ob55_messageFrames F_ob55_messageBytes) (by decide) (by decide) e57 E_ob55 rfl (by rw [hml]; rfl) (lenOf pd_2 rfl) rfl (W := 0) (by show 2 * 0 + _ ≤ _; exact Nat.le_of_eq rfl) (hb hby at_49) (by decide) (by decide) fun v58 T58 hh58 L58 X58 e58 hQ58 => ?_
      obtain ⟨rfl, NL58, KK58, P58_0, P58_1, P58_2, P58_3⟩ := hQ58
      have E_ob55 := E_ob55.keep KK58
      have F_ob55_ackFrames := P58_0
      have F_ob55_ackBytes := P58_1
      have F_ob55_messageFrames := P58_2
      have F_ob55_messageBytes := P58_3
      have Z0 := Nat.le_trans Z0 KK58.1
      have N58 := Fr.app N57 NL58
      show own_Out p e below _ T58 (mkF m 52 #[.val (.int x0), .val (.int x1), .val (.int x2), .val (.int x3), .val (.int x4), .val (.int (3 : Int32)), .val (.int (1 : Int32)), .val (.ref ob55), .unset, .unset, .unset, .unset, .unset, .unset, .unset, .unset] []) _ _ _
      refine own_to (fun t k => XS.iload X58.here hx rfl (hb hby at_52) rfl k) ?_
      show own_Out p e below _ T58 (mkF m 54 #[.val (.int x0), .val (.int x1), .val (.int x2), .val (.int x3), .val (.int x4), .val (.int (3 : Int32)), .val (.int (1 : Int32)), .val (.ref ob55), .unset, .unset, .unset, .unset, .unset, .unset, .unset, .unset] [(.int (3 : Int32))]) _ _ _
      refine own_to (fun t k => XS.iconst X58.here hx rfl (hb hby at_54) k) ?_
      show own_Out p e below _ T58 (mkF m 55 #[.val (.int x0), .val (.int x1), .val (.int x2), .val (.int x3), .val (.int x4), .val (.int (3 : Int32)), .val (.int (1 : Int32)), .val (.ref ob55), .unset, .unset, .unset, .unset, .unset, .unset, .unset, .unset] [(.int (2 : Int32)), (.int (3 : Int32))]) _ _ _
      have hc55 : ¬ ((3 : Int32) < (2 : Int32)) := by decide
      refine own_to (fun t k => XS.icmpNo X58.here hx rfl (hb hby at_55) rfl (flt hc55).1 k) ?_
      show own_Out p e below _ T58 (mkF m 58 #[.val (.int x0), .val (.int x1), .val (.int x2), .val (.int x3), .val (.int x4), .val (.int (3 : Int32)), .val (.int (1 : Int32)), .val (.ref ob55), .unset, .unset, .unset, .unset, .unset, .unset, .unset, .unset] []) _ _ _
      refine own_to (fun t k => XS.aload X58.here hx rfl (hb hby at_58) rfl rfl k) ?_
      show own_Out p e below _ T58 (mkF m 60 #[.val (.int x0), .val (.int x1), .val (.int x2), .val (.int x3), .val (.int x4), .val (.int (3 : Int32)), .val (.int (1 : Int32)), .val (.ref ob55), .unset, .unset, .unset, .unset, .unset, .unset, .unset, .unset] [(.ref ob55)]) _ _ _
      refine own_to (fun t k => XS.iloadN X58.here hx rfl (hb hby at_60) rfl k) ?_
      show own_Out p e below _ T58 (mkF m 61 #[.val (.int x0), .val (.int x1), .val (.int x2), .val (.int x3), .val (.int x4), .val (.int (3 : Int32)), .val (.int (1 : Int32)), .val (.ref ob55), .unset, .unset, .unset, .unset, .unset, .unset, .unset, .unset] [(.int x1), (.ref ob55)]) _ _ _
      refine own_callV X58 hx hZ hown (a := ob55) (argsL := [(.int x1)]) (rest := []) (hw _ (List.mem_of_getElem? (i := 37) rfl)) (hw _ (List.mem_of_getElem? (i := 38) rfl)) (hw _ (List.mem_of_getElem? (i := 40) rfl)) (hw _ (List.mem_of_getElem? (i := 39) rfl)) (hw _ (List.mem_of_getElem? (i := 2) rfl)) (hw _ (List.mem_of_getElem? (i := 41) rfl)) (by decide) (rm7 l Z a0 hw ob55 x1 ((0 : Int64) + (1 : Int64)) ((0 : Int64) + (x0.toInt64)) ((0 : Int64) + (1 : Int64)) ((0 : Int64) + (x3.toInt64)) hh58 n0 Z0 E_ob55 F_ob55_messageFrames F_ob55_messageBytes g_ob55 F_ob55_ackFrames F_ob55_ackBytes) (by decide) (by decide) e58 E_ob55 rfl (by rw [hml]; rfl) (lenOf pd_2 rfl) rfl (W := 0) (by show 2 * 0 + _ ≤ _; exact Nat.le_of_eq rfl) (hb hby at_61) (by decide) (by decide) fun v59 T59 hh59 L59 X59 e59 hQ59 => ?_
      obtain ⟨rfl, NL59, KK59, P59_0, P59_1, P59_2, P59_3⟩ := hQ59
      have E_ob55 := E_ob55.keep KK59
      have F_ob55_messageFrames := P59_0
      have F_ob55_messageBytes := P59_1
      have F_ob55_ackFrames := P59_2
      have F_ob55_ackBytes := P59_3
      have Z0 := Nat.le_trans Z0 KK59.1
      have N59 := Fr.app N58 NL59
      show own_Out p e below _ T59 (mkF m 64 #[.val (.int x0), .val (.int x1), .val (.int x2), .val (.int x3), .val (.int x4), .val (.int (3 : Int32)), .val (.int (1 : Int32)), .val (.ref ob55), .unset, .unset, .unset, .unset, .unset, .unset, .unset, .unset] []) _ _ _
      refine own_to (fun t k => XS.iload X59.here hx rfl (hb hby at_64) rfl k) ?_
      show own_Out p e below _ T59 (mkF m 66 #[.val (.int x0), .val (.int x1), .val (.int x2), .val (.int x3), .val (.int x4), .val (.int (3 : Int32)), .val (.int (1 : Int32)), .val (.ref ob55), .unset, .unset, .unset, .unset, .unset, .unset, .unset, .unset] [(.int (3 : Int32))]) _ _ _
      refine own_to (fun t k => XS.iconst X59.here hx rfl (hb hby at_66) k) ?_
      show own_Out p e below _ T59 (mkF m 67 #[.val (.int x0), .val (.int x1), .val (.int x2), .val (.int x3), .val (.int x4), .val (.int (3 : Int32)), .val (.int (1 : Int32)), .val (.ref ob55), .unset, .unset, .unset, .unset, .unset, .unset, .unset, .unset] [(.int (3 : Int32)), (.int (3 : Int32))]) _ _ _
      have hc67 : ¬ ((3 : Int32) < (3 : Int32)) := by decide
      refine own_to (fun t k => XS.icmpNo X59.here hx rfl (hb hby at_67) rfl (flt hc67).1 k) ?_
      show own_Out p e below _ T59 (mkF m 70 #[.val (.int x0), .val (.int x1), .val (.int x2), .val (.int x3), .val (.int x4), .val (.int (3 : Int32)), .val (.int (1 : Int32)), .val (.ref ob55), .unset, .unset, .unset, .unset, .unset, .unset, .unset, .unset] []) _ _ _
      refine own_to (fun t k => XS.aload X59.here hx rfl (hb hby at_70) rfl rfl k) ?_
      show own_Out p e below _ T59 (mkF m 72 #[.val (.int x0), .val (.int x1), .val (.int x2), .val (.int x3), .val (.int x4), .val (.int (3 : Int32)), .val (.int (1 : Int32)), .val (.ref ob55), .unset, .unset, .unset, .unset, .unset, .unset, .unset, .unset] [(.ref ob55)]) _ _ _
      refine own_to (fun t k => XS.iloadN X59.here hx rfl (hb hby at_72) rfl k) ?_
      show own_Out p e below _ T59 (mkF m 73 #[.val (.int x0), .val (.int x1), .val (.int x2), .val (.int x3), .val (.int x4), .val (.int (3 : Int32)), .val (.int (1 : Int32)), .val (.ref ob55), .unset, .unset, .unset, .unset, .unset, .unset, .unset, .unset] [(.int x2), (.ref ob55)]) _ _ _
      refine own_callV X59 hx hZ hown (a := ob55) (argsL := [(.int x2)]) (rest := []) (hw _ (List.mem_of_getElem? (i := 37) rfl)) (hw _ (List.mem_of_getElem? (i := 38) rfl)) (hw _ (List.mem_of_getElem? (i := 40) rfl)) (hw _ (List.mem_of_getElem? (i := 39) rfl)) (hw _ (List.mem_of_getElem? (i := 2) rfl)) (hw _ (List.mem_of_getElem? (i := 41) rfl)) (by decide) (rm7 l Z a0 hw ob55 x2 (((0 : Int64) + (1 : Int64)) + (1 : Int64)) (((0 : Int64) + (x0.toInt64)) + (x1.toInt64)) ((0 : Int64) + (1 : Int64)) ((0 : Int64) + (x3.toInt64)) hh59 n0 Z0 E_ob55 F_ob55_messageFrames F_ob55_messageBytes g_ob55 F_ob55_ackFrames F_ob55_ackBytes) (by decide) (by decide) e59 E_ob55 rfl (by rw [hml]; rfl) (lenOf pd_2 rfl) rfl (W := 0) (by show 2 * 0 + _ ≤ _; exact Nat.le_of_eq rfl) (hb hby at_73) (by decide) (by decide) fun v60 T60 hh60 L60 X60 e60 hQ60 => ?_
      obtain ⟨rfl, NL60, KK60, P60_0, P60_1, P60_2, P60_3⟩ := hQ60
      have E_ob55 := E_ob55.keep KK60
      have F_ob55_messageFrames := P60_0
      have F_ob55_messageBytes := P60_1
      have F_ob55_ackFrames := P60_2
      have F_ob55_ackBytes := P60_3
      have Z0 := Nat.le_trans Z0 KK60.1
      have N60 := Fr.app N59 NL60
      show own_Out p e below _ T60 (mkF m 76 #[.val (.int x0), .val (.int x1), .val (.int x2), .val (.int x3), .val (.int x4), .val (.int (3 : Int32)), .val (.int (1 : Int32)), .val (.ref ob55), .unset, .unset, .unset, .unset, .unset, .unset, .unset, .unset] []) _ _ _
      refine own_to (fun t k => XS.iload X60.here hx rfl (hb hby at_76) rfl k) ?_
      show own_Out p e below _ T60 (mkF m 78 #[.val (.int x0), .val (.int x1), .val (.int x2), .val (.int x3), .val (.int x4), .val (.int (3 : Int32)), .val (.int (1 : Int32)), .val (.ref ob55), .unset, .unset, .unset, .unset, .unset, .unset, .unset, .unset] [(.int (3 : Int32))]) _ _ _
      refine own_to (fun t k => XS.i2l X60.here hx rfl (hb hby at_78) rfl k) ?_
      show own_Out p e below _ T60 (mkF m 79 #[.val (.int x0), .val (.int x1), .val (.int x2), .val (.int x3), .val (.int x4), .val (.int (3 : Int32)), .val (.int (1 : Int32)), .val (.ref ob55), .unset, .unset, .unset, .unset, .unset, .unset, .unset, .unset] [(.long ((3 : Int32).toInt64))]) _ _ _
      refine own_to (fun t k => XS.lstore X60.here hx rfl (hb hby at_79) rfl (l' := #[.val (.int x0), .val (.int x1), .val (.int x2), .val (.int x3), .val (.int x4), .val (.int (3 : Int32)), .val (.int (1 : Int32)), .val (.ref ob55), .val (.long ((3 : Int32).toInt64)), .second, .unset, .unset, .unset, .unset, .unset, .unset]) rfl k) ?_
      show own_Out p e below _ T60 (mkF m 81 #[.val (.int x0), .val (.int x1), .val (.int x2), .val (.int x3), .val (.int x4), .val (.int (3 : Int32)), .val (.int (1 : Int32)), .val (.ref ob55), .val (.long ((3 : Int32).toInt64)), .second, .unset, .unset, .unset, .unset, .unset, .unset] []) _ _ _
      refine own_to (fun t k => XS.lconst X60.here hx rfl (hb hby at_81) k) ?_
      show own_Out p e below _ T60 (mkF m 82 #[.val (.int x0), .val (.int x1), .val (.int x2), .val (.int x3), .val (.int x4), .val (.int (3 : Int32)), .val (.int (1 : Int32)), .val (.ref ob55), .val (.long ((3 : Int32).toInt64)), .second, .unset, .unset, .unset, .unset, .unset, .unset] [(.long (0 : Int64))]) _ _ _
      refine own_to (fun t k => XS.lstore X60.here hx rfl (hb hby at_82) rfl (l' := #[.val (.int x0), .val (.int x1), .val (.int x2), .val (.int x3), .val (.int x4), .val (.int (3 : Int32)), .val (.int (1 : Int32)), .val (.ref ob55), .val (.long ((3 : Int32).toInt64)), .second, .val (.long (0 : Int64)), .second, .unset, .unset, .unset, .unset]) rfl k) ?_
      show own_Out p e below _ T60 (mkF m 84 #[.val (.int x0), .val (.int x1), .val (.int x2), .val (.int x3), .val (.int x4), .val (.int (3 : Int32)), .val (.int (1 : Int32)), .val (.ref ob55), .val (.long ((3 : Int32).toInt64)), .second, .val (.long (0 : Int64)), .second, .unset, .unset, .unset, .unset] []) _ _ _
      refine own_to (fun t k => XS.iload X60.here hx rfl (hb hby at_84) rfl k) ?_
      show own_Out p e below _ T60 (mkF m 86 #[.val (.int x0), .val (.int x1), .val (.int x2), .val (.int x3), .val (.int x4), .val (.int (3 : Int32)), .val (.int (1 : Int32)), .val (.ref ob55), .val (.long ((3 : Int32).toInt64)), .second, .val (.long (0 : Int64)), .second, .unset, .unset, .unset, .unset] [(.int (3 : Int32))]) _ _ _
      refine own_to (fun t k => XS.iconst X60.here hx rfl (hb hby at_86) k) ?_
      show own_Out p e below _ T60 (mkF m 87 #[.val (.int x0), .val (.int x1), .val (.int x2), .val (.int x3), .val (.int x4), .val (.int (3 : Int32)), .val (.int (1 : Int32)), .val (.ref ob55), .val (.long ((3 : Int32).toInt64)), .second, .val (.long (0 : Int64)), .second, .unset, .unset, .unset, .unset] [(.int (1 : Int32)), (.int (3 : Int32))]) _ _ _
      have hc87 : ¬ ((3 : Int32) < (1 : Int32)) := by decide
      refine own_to (fun t k => XS.icmpNo X60.here hx rfl (hb hby at_87) rfl (flt hc87).1 k) ?_
      show own_Out p e below _ T60 (mkF m 90 #[.val (.int x0), .val (.int x1), .val (.int x2), .val (.int x3), .val (.int x4), .val (.int (3 : Int32)), .val (.int (1 : Int32)), .val (.ref ob55), .val (.long ((3 : Int32).toInt64)), .second, .val (.long (0 : Int64)), .second, .unset, .unset, .unset, .unset] []) _ _ _
      refine own_to (fun t k => XS.lload X60.here hx rfl (hb hby at_90) rfl k) ?_
      show own_Out p e below _ T60 (mkF m 92 #[.val (.int x0), .val (.int x1), .val (.int x2), .val (.int x3), .val (.int x4), .val (.int (3 : Int32)), .val (.int (1 : Int32)), .val (.ref ob55), .val (.long ((3 : Int32).toInt64)), .second, .val (.long (0 : Int64)), .second, .unset, .unset, .unset, .unset] [(.long (0 : Int64))]) _ _ _
      refine own_to (fun t k => XS.iloadN X60.here hx rfl (hb hby at_92) rfl k) ?_
      show own_Out p e below _ T60 (mkF m 93 #[.val (.int x0), .val (.int x1), .val (.int x2), .val (.int x3), .val (.int x4), .val (.int (3 : Int32)), .val (.int (1 : Int32)), .val (.ref ob55), .val (.long ((3 : Int32).toInt64)), .second, .val (.long (0 : Int64)), .second, .unset, .unset, .unset, .unset] [(.int x0), (.long (0 : Int64))]) _ _ _
      refine own_to (fun t k => XS.i2l X60.here hx rfl (hb hby at_93) rfl k) ?_
      show own_Out p e below _ T60 (mkF m 94 #[.val (.int x0), .val (.int x1), .val (.int x2), .val (.int x3), .val (.int x4), .val (.int (3 : Int32)), .val (.int (1 : Int32)), .val (.ref ob55), .val (.long ((3 : Int32).toInt64)), .second, .val (.long (0 : Int64)), .second, .unset, .unset, .unset, .unset] [(.long (x0.toInt64)), (.long (0 : Int64))]) _ _ _
      refine own_to (fun t k => XS.ladd X60.here hx rfl (hb hby at_94) rfl k) ?_
      show own_Out p e below _ T60 (mkF m 95 #[.val (.int x0), .val (.int x1), .val (.int x2), .val (.int x3), .val (.int x4), .val (.int (3 : Int32)), .val (.int (1 : Int32)), .val (.ref ob55), .val (.long ((3 : Int32).toInt64)), .second, .val (.long (0 : Int64)), .second, .unset, .unset, .unset, .unset] [(.long ((0 : Int64) + (x0.toInt64)))]) _ _ _
      refine own_to (fun t k => XS.lstore X60.here hx rfl (hb hby at_95) rfl (l' := #[.val (.int x0), .val (.int x1), .val (.int x2), .val (.int x3), .val (.int x4), .val (.int (3 : Int32)), .val (.int (1 : Int32)), .val (.ref ob55), .val (.long ((3 : Int32).toInt64)), .second, .val (.long ((0 : Int64) + (x0.toInt64))), .second, .unset, .unset, .unset, .unset]) rfl k) ?_
      show own_Out p e below _ T60 (mkF m 97 #[.val (.int x0), .val (.int x1), .val (.int x2), .val (.int x3), .val (.int x4), .val (.int (3 : Int32)), .val (.int (1 : Int32)), .val (.ref ob55), .val (.long ((3 : Int32).toInt64)), .second, .val (.long ((0 : Int64) + (x0.toInt64))), .second, .unset, .unset, .unset, .unset] []) _ _ _
      refine own_to (fun t k => XS.iload X60.here hx rfl (hb hby at_97) rfl k) ?_
      show own_Out p e below _ T60 (mkF m 99 #[.val (.int x0), .val (.int x1), .val (.int x2), .val (.int x3), .val (.int x4), .val (.int (3 : Int32)), .val (.int (1 : Int32)), .val (.ref ob55), .val (.long ((3 : Int32).toInt64)), .second, .val (.long ((0 : Int64) + (x0.toInt64))), .second, .unset, .unset, .unset, .unset] [(.int (3 : Int32))]) _ _ _
      refine own_to (fun t k => XS.iconst X60.here hx rfl (hb hby at_99) k) ?_
      show own_Out p e below _ T60 (mkF m 100 #[.val (.int x0), .val (.int x1), .val (.int x2), .val (.int x3), .val (.int x4), .val (.int (3 : Int32)), .val (.int (1 : Int32)), .val (.ref ob55), .val (.long ((3 : Int32).toInt64)), .second, .val (.long ((0 : Int64) + (x0.toInt64))), .second, .unset, .unset, .unset, .unset] [(.int (2 : Int32)), (.int (3 : Int32))]) _ _ _
      have hc100 : ¬ ((3 : Int32) < (2 : Int32)) := by decide
      refine own_to (fun t k => XS.icmpNo X60.here hx rfl (hb hby at_100) rfl (flt hc100).1 k) ?_
      show own_Out p e below _ T60 (mkF m 103 #[.val (.int x0), .val (.int x1), .val (.int x2), .val (.int x3), .val (.int x4), .val (.int (3 : Int32)), .val (.int (1 : Int32)), .val (.ref ob55), .val (.long ((3 : Int32).toInt64)), .second, .val (.long ((0 : Int64) + (x0.toInt64))), .second, .unset, .unset, .unset, .unset] []) _ _ _
      refine own_to (fun t k => XS.lload X60.here hx rfl (hb hby at_103) rfl k) ?_
      show own_Out p e below _ T60 (mkF m 105 #[.val (.int x0), .val (.int x1), .val (.int x2), .val (.int x3), .val (.int x4), .val (.int (3 : Int32)), .val (.int (1 : Int32)), .val (.ref ob55), .val (.long ((3 : Int32).toInt64)), .second, .val (.long ((0 : Int64) + (x0.toInt64))), .second, .unset, .unset, .unset, .unset] [(.long ((0 : Int64) + (x0.toInt64)))]) _ _ _
      refine own_to (fun t k => XS.iloadN X60.here hx rfl (hb hby at_105) rfl k) ?_
      show own_Out p e below _ T60 (mkF m 106 #[.val (.int x0), .val (.int x1), .val (.int x2), .val (.int x3), .val (.int x4), .val (.int (3 : Int32)), .val (.int (1 : Int32)), .val (.ref ob55), .val (.long ((3 : Int32).toInt64)), .second, .val (.long ((0 : Int64) + (x0.toInt64))), .second, .unset, .unset, .unset, .unset] [(.int x1), (.long ((0 : Int64) + (x0.toInt64)))]) _ _ _
      refine own_to (fun t k => XS.i2l X60.here hx rfl (hb hby at_106) rfl k) ?_
      show own_Out p e below _ T60 (mkF m 107 #[.val (.int x0), .val (.int x1), .val (.int x2), .val (.int x3), .val (.int x4), .val (.int (3 : Int32)), .val (.int (1 : Int32)), .val (.ref ob55), .val (.long ((3 : Int32).toInt64)), .second, .val (.long ((0 : Int64) + (x0.toInt64))), .second, .unset, .unset, .unset, .unset] [(.long (x1.toInt64)), (.long ((0 : Int64) + (x0.toInt64)))]) _ _ _
      refine own_to (fun t k => XS.ladd X60.here hx rfl (hb hby at_107) rfl k) ?_
      show own_Out p e below _ T60 (mkF m 108 #[.val (.int x0), .val (.int x1), .val (.int x2), .val (.int x3), .val (.int x4), .val (.int (3 : Int32)), .val (.int (1 : Int32)), .val (.ref ob55), .val (.long ((3 : Int32).toInt64)), .second, .val (.long ((0 : Int64) + (x0.toInt64))), .second, .unset, .unset, .unset, .unset] [(.long (((0 : Int64) + (x0.toInt64)) + (x1.toInt64)))]) _ _ _
      refine own_to (fun t k => XS.lstore X60.here hx rfl (hb hby at_108) rfl (l' := #[.val (.int x0), .val (.int x1), .val (.int x2), .val (.int x3), .val (.int x4), .val (.int (3 : Int32)), .val (.int (1 : Int32)), .val (.ref ob55), .val (.long ((3 : Int32).toInt64)), .second, .val (.long (((0 : Int64) + (x0.toInt64)) + (x1.toInt64))), .second, .unset, .unset, .unset, .unset]) rfl k) ?_
      show own_Out p e below _ T60 (mkF m 110 #[.val (.int x0), .val (.int x1), .val (.int x2), .val (.int x3), .val (.int x4), .val (.int (3 : Int32)), .val (.int (1 : Int32)), .val (.ref ob55), .val (.long ((3 : Int32).toInt64)), .second, .val (.long (((0 : Int64) + (x0.toInt64)) + (x1.toInt64))), .second, .unset, .unset, .unset, .unset] []) _ _ _
      refine own_to (fun t k => XS.iload X60.here hx rfl (hb hby at_110) rfl k) ?_
      show own_Out p e below _ T60 (mkF m 112 #[.val (.int x0), .val (.int x1), .val (.int x2), .val (.int x3), .val (.int x4), .val (.int (3 : Int32)), .val (.int (1 : Int32)), .val (.ref ob55), .val (.long ((3 : Int32).toInt64)), .second, .val (.long (((0 : Int64) + (x0.toInt64)) + (x1.toInt64))), .second, .unset, .unset, .unset, .unset] [(.int (3 : Int32))]) _ _ _
      refine own_to (fun t k => XS.iconst X60.here hx rfl (hb hby at_112) k) ?_
      show own_Out p e below _ T60 (mkF m 113 #[.val (.int x0), .val (.int x1), .val (.int x2), .val (.int x3), .val (.int x4), .val (.int (3 : Int32)), .val (.int (1 : Int32)), .val (.ref ob55), .val (.long ((3 : Int32).toInt64)), .second, .val (.long (((0 : Int64) + (x0.toInt64)) + (x1.toInt64))), .second, .unset, .unset, .unset, .unset] [(.int (3 : Int32)), (.int (3 : Int32))]) _ _ _
      have hc113 : ¬ ((3 : Int32) < (3 : Int32)) := by decide
      refine own_to (fun t k => XS.icmpNo X60.here hx rfl (hb hby at_113) rfl (flt hc113).1 k) ?_
      show own_Out p e below _ T60 (mkF m 116 #[.val (.int x0), .val (.int x1), .val (.int x2), .val (.int x3), .val (.int x4), .val (.int (3 : Int32)), .val (.int (1 : Int32)), .val (.ref ob55), .val (.long ((3 : Int32).toInt64)), .second, .val (.long (((0 : Int64) + (x0.toInt64)) + (x1.toInt64))), .second, .unset, .unset, .unset, .unset] []) _ _ _
      refine own_to (fun t k => XS.lload X60.here hx rfl (hb hby at_116) rfl k) ?_
      show own_Out p e below _ T60 (mkF m 118 #[.val (.int x0), .val (.int x1), .val (.int x2), .val (.int x3), .val (.int x4), .val (.int (3 : Int32)), .val (.int (1 : Int32)), .val (.ref ob55), .val (.long ((3 : Int32).toInt64)), .second, .val (.long (((0 : Int64) + (x0.toInt64)) + (x1.toInt64))), .second, .unset, .unset, .unset, .unset] [(.long (((0 : Int64) + (x0.toInt64)) + (x1.toInt64)))]) _ _ _
      refine own_to (fun t k => XS.iloadN X60.here hx rfl (hb hby at_118) rfl k) ?_
      show own_Out p e below _ T60 (mkF m 119 #[.val (.int x0), .val (.int x1), .val (.int x2), .val (.int x3), .val (.int x4), .val (.int (3 : Int32)), .val (.int (1 : Int32)), .val (.ref ob55), .val (.long ((3 : Int32).toInt64)), .second, .val (.long (((0 : Int64) + (x0.toInt64)) + (x1.toInt64))), .second, .unset, .unset, .unset, .unset] [(.int x2), (.long (((0 : Int64) + (x0.toInt64)) + (x1.toInt64)))]) _ _ _
      refine own_to (fun t k => XS.i2l X60.here hx rfl (hb hby at_119) rfl k) ?_
      show own_Out p e below _ T60 (mkF m 120 #[.val (.int x0), .val (.int x1), .val (.int x2), .val (.int x3), .val (.int x4), .val (.int (3 : Int32)), .val (.int (1 : Int32)), .val (.ref ob55), .val (.long ((3 : Int32).toInt64)), .second, .val (.long (((0 : Int64) + (x0.toInt64)) + (x1.toInt64))), .second, .unset, .unset, .unset, .unset] [(.long (x2.toInt64)), (.long (((0 : Int64) + (x0.toInt64)) + (x1.toInt64)))]) _ _ _
      refine own_to (fun t k => XS.ladd X60.here hx rfl (hb hby at_120) rfl k) ?_
      show own_Out p e below _ T60 (mkF m 121 #[.val (.int x0), .val (.int x1), .val (.int x2), .val (.int x3), .val (.int x4), .val (.int (3 : Int32)), .val (.int (1 : Int32)), .val (.ref ob55), .val (.long ((3 : Int32).toInt64)), .second, .val (.long (((0 : Int64) + (x0.toInt64)) + (x1.toInt64))), .second, .unset, .unset, .unset, .unset] [(.long ((((0 : Int64) + (x0.toInt64)) + (x1.toInt64)) + (x2.toInt64)))]) _ _ _
      refine own_to (fun t k => XS.lstore X60.here hx rfl (hb hby at_121) rfl (l' := #[.val (.int x0), .val (.int x1), .val (.int x2), .val (.int x3), .val (.int x4), .val (.int (3 : Int32)), .val (.int (1 : Int32)), .val (.ref ob55), .val (.long ((3 : Int32).toInt64)), .second, .val (.long ((((0 : Int64) + (x0.toInt64)) + (x1.toInt64)) + (x2.toInt64))), .second, .unset, .unset, .unset, .unset]) rfl k) ?_
      show own_Out p e below _ T60 (mkF m 123 #[.val (.int x0), .val (.int x1), .val (.int x2), .val (.int x3), .val (.int x4), .val (.int (3 : Int32)), .val (.int (1 : Int32)), .val (.ref ob55), .val (.long ((3 : Int32).toInt64)), .second, .val (.long ((((0 : Int64) + (x0.toInt64)) + (x1.toInt64)) + (x2.toInt64))), .second, .unset, .unset, .unset, .unset] []) _ _ _
      refine own_to (fun t k => XS.iload X60.here hx rfl (hb hby at_123) rfl k) ?_
      show own_Out p e below _ T60 (mkF m 125 #[.val (.int x0), .val (.int x1), .val (.int x2), .val (.int x3), .val (.int x4), .val (.int (3 : Int32)), .val (.int (1 : Int32)), .val (.ref ob55), .val (.long ((3 : Int32).toInt64)), .second, .val (.long ((((0 : Int64) + (x0.toInt64)) + (x1.toInt64)) + (x2.toInt64))), .second, .unset, .unset, .unset, .unset] [(.int (1 : Int32))]) _ _ _
      have hc125 : ¬ ((1 : Int32) = (0 : Int32)) := by decide
      refine own_to (fun t k => XS.ifNo X60.here hx rfl (hb hby at_125) rfl ((if0 _ _).trans (feq hc125).1) k) ?_
      show own_Out p e below _ T60 (mkF m 128 #[.val (.int x0), .val (.int x1), .val (.int x2), .val (.int x3), .val (.int x4), .val (.int (3 : Int32)), .val (.int (1 : Int32)), .val (.ref ob55), .val (.long ((3 : Int32).toInt64)), .second, .val (.long ((((0 : Int64) + (x0.toInt64)) + (x1.toInt64)) + (x2.toInt64))), .second, .unset, .unset, .unset, .unset] []) _ _ _
      refine own_to (fun t k => XS.lconst X60.here hx rfl (hb hby at_128) k) ?_
      show own_Out p e below _ T60 (mkF m 129 #[.val (.int x0), .val (.int x1), .val (.int x2), .val (.int x3), .val (.int x4), .val (.int (3 : Int32)), .val (.int (1 : Int32)), .val (.ref ob55), .val (.long ((3 : Int32).toInt64)), .second, .val (.long ((((0 : Int64) + (x0.toInt64)) + (x1.toInt64)) + (x2.toInt64))), .second, .unset, .unset, .unset, .unset] [(.long (1 : Int64))]) _ _ _
      refine own_to (fun t k => XS.goto X60.here hx rfl (pc0 := 129) (pc' := 133) rfl (hb hby at_129) (by decide) (by decide) k) ?_
      show own_Out p e below _ T60 (mkF m 133 #[.val (.int x0), .val (.int x1), .val (.int x2), .val (.int x3), .val (.int x4), .val (.int (3 : Int32)), .val (.int (1 : Int32)), .val (.ref ob55), .val (.long ((3 : Int32).toInt64)), .second, .val (.long ((((0 : Int64) + (x0.toInt64)) + (x1.toInt64)) + (x2.toInt64))), .second, .unset, .unset, .unset, .unset] [(.long (1 : Int64))]) _ _ _
      refine own_to (fun t k => XS.lstore X60.here hx rfl (hb hby at_133) rfl (l' := #[.val (.int x0), .val (.int x1), .val (.int x2), .val (.int x3), .val (.int x4), .val (.int (3 : Int32)), .val (.int (1 : Int32)), .val (.ref ob55), .val (.long ((3 : Int32).toInt64)), .second, .val (.long ((((0 : Int64) + (x0.toInt64)) + (x1.toInt64)) + (x2.toInt64))), .second, .val (.long (1 : Int64)), .second, .unset, .unset]) rfl k) ?_
      show own_Out p e below _ T60 (mkF m 135 #[.val (.int x0), .val (.int x1), .val (.int x2), .val (.int x3), .val (.int x4), .val (.int (3 : Int32)), .val (.int (1 : Int32)), .val (.ref ob55), .val (.long ((3 : Int32).toInt64)), .second, .val (.long ((((0 : Int64) + (x0.toInt64)) + (x1.toInt64)) + (x2.toInt64))), .second, .val (.long (1 : Int64)), .second, .unset, .unset] []) _ _ _
      refine own_to (fun t k => XS.iload X60.here hx rfl (hb hby at_135) rfl k) ?_
      show own_Out p e below _ T60 (mkF m 137 #[.val (.int x0), .val (.int x1), .val (.int x2), .val (.int x3), .val (.int x4), .val (.int (3 : Int32)), .val (.int (1 : Int32)), .val (.ref ob55), .val (.long ((3 : Int32).toInt64)), .second, .val (.long ((((0 : Int64) + (x0.toInt64)) + (x1.toInt64)) + (x2.toInt64))), .second, .val (.long (1 : Int64)), .second, .unset, .unset] [(.int (1 : Int32))]) _ _ _
      have hc137 : ¬ ((1 : Int32) = (0 : Int32)) := by decide
      refine own_to (fun t k => XS.ifNo X60.here hx rfl (hb hby at_137) rfl ((if0 _ _).trans (feq hc137).1) k) ?_
      show own_Out p e below _ T60 (mkF m 140 #[.val (.int x0), .val (.int x1), .val (.int x2), .val (.int x3), .val (.int x4), .val (.int (3 : Int32)), .val (.int (1 : Int32)), .val (.ref ob55), .val (.long ((3 : Int32).toInt64)), .second, .val (.long ((((0 : Int64) + (x0.toInt64)) + (x1.toInt64)) + (x2.toInt64))), .second, .val (.long (1 : Int64)), .second, .unset, .unset] []) _ _ _
      refine own_to (fun t k => XS.iloadN X60.here hx rfl (hb hby at_140) rfl k) ?_
      show own_Out p e below _ T60 (mkF m 141 #[.val (.int x0), .val (.int x1), .val (.int x2), .val (.int x3), .val (.int x4), .val (.int (3 : Int32)), .val (.int (1 : Int32)), .val (.ref ob55), .val (.long ((3 : Int32).toInt64)), .second, .val (.long ((((0 : Int64) + (x0.toInt64)) + (x1.toInt64)) + (x2.toInt64))), .second, .val (.long (1 : Int64)), .second, .unset, .unset] [(.int x3)]) _ _ _
      refine own_to (fun t k => XS.i2l X60.here hx rfl (hb hby at_141) rfl k) ?_
      show own_Out p e below _ T60 (mkF m 142 #[.val (.int x0), .val (.int x1), .val (.int x2), .val (.int x3), .val (.int x4), .val (.int (3 : Int32)), .val (.int (1 : Int32)), .val (.ref ob55), .val (.long ((3 : Int32).toInt64)), .second, .val (.long ((((0 : Int64) + (x0.toInt64)) + (x1.toInt64)) + (x2.toInt64))), .second, .val (.long (1 : Int64)), .second, .unset, .unset] [(.long (x3.toInt64))]) _ _ _
      refine own_to (fun t k => XS.goto X60.here hx rfl (pc0 := 142) (pc' := 146) rfl (hb hby at_142) (by decide) (by decide) k) ?_
      show own_Out p e below _ T60 (mkF m 146 #[.val (.int x0), .val (.int x1), .val (.int x2), .val (.int x3), .val (.int x4), .val (.int (3 : Int32)), .val (.int (1 : Int32)), .val (.ref ob55), .val (.long ((3 : Int32).toInt64)), .second, .val (.long ((((0 : Int64) + (x0.toInt64)) + (x1.toInt64)) + (x2.toInt64))), .second, .val (.long (1 : Int64)), .second, .unset, .unset] [(.long (x3.toInt64))]) _ _ _
      refine own_to (fun t k => XS.lstore X60.here hx rfl (hb hby at_146) rfl (l' := #[.val (.int x0), .val (.int x1), .val (.int x2), .val (.int x3), .val (.int x4), .val (.int (3 : Int32)), .val (.int (1 : Int32)), .val (.ref ob55), .val (.long ((3 : Int32).toInt64)), .second, .val (.long ((((0 : Int64) + (x0.toInt64)) + (x1.toInt64)) + (x2.toInt64))), .second, .val (.long (1 : Int64)), .second, .val (.long (x3.toInt64)), .second]) rfl k) ?_
      show own_Out p e below _ T60 (mkF m 148 #[.val (.int x0), .val (.int x1), .val (.int x2), .val (.int x3), .val (.int x4), .val (.int (3 : Int32)), .val (.int (1 : Int32)), .val (.ref ob55), .val (.long ((3 : Int32).toInt64)), .second, .val (.long ((((0 : Int64) + (x0.toInt64)) + (x1.toInt64)) + (x2.toInt64))), .second, .val (.long (1 : Int64)), .second, .val (.long (x3.toInt64)), .second] []) _ _ _
      refine own_to (fun t k => XS.aload X60.here hx rfl (hb hby at_148) rfl rfl k) ?_
      show own_Out p e below _ T60 (mkF m 150 #[.val (.int x0), .val (.int x1), .val (.int x2), .val (.int x3), .val (.int x4), .val (.int (3 : Int32)), .val (.int (1 : Int32)), .val (.ref ob55), .val (.long ((3 : Int32).toInt64)), .second, .val (.long ((((0 : Int64) + (x0.toInt64)) + (x1.toInt64)) + (x2.toInt64))), .second, .val (.long (1 : Int64)), .second, .val (.long (x3.toInt64)), .second] [(.ref ob55)]) _ _ _
      refine own_callV X60 hx hZ hown (a := ob55) (argsL := []) (rest := []) (hw _ (List.mem_of_getElem? (i := 9) rfl)) (hw _ (List.mem_of_getElem? (i := 10) rfl)) (hw _ (List.mem_of_getElem? (i := 12) rfl)) (hw _ (List.mem_of_getElem? (i := 11) rfl)) (hw _ (List.mem_of_getElem? (i := 2) rfl)) (hw _ (List.mem_of_getElem? (i := 13) rfl)) (by decide) (rm3 l Z a0 hw ob55 ((((0 : Int64) + (1 : Int64)) + (1 : Int64)) + (1 : Int64)) hh60 n0 Z0 F_ob55_messageFrames) (by decide) (by decide) e60 E_ob55 rfl (by rw [hml]; rfl) (lenOf pd_1 rfl) rfl (W := 0) (by show 2 * 0 + _ ≤ _; exact Nat.le_of_eq rfl) (hb hby at_150) (by decide) (by decide) fun v61 T61 hh61 L61 X61 e61 hQ61 => ?_
      obtain ⟨rfl, NL61, he61⟩ := hQ61
      replace e61 := e61.trans he61
      have N61 := Fr.app N60 NL61
      show own_Out p e below _ T61 (mkF m 153 #[.val (.int x0), .val (.int x1), .val (.int x2), .val (.int x3), .val (.int x4), .val (.int (3 : Int32)), .val (.int (1 : Int32)), .val (.ref ob55), .val (.long ((3 : Int32).toInt64)), .second, .val (.long ((((0 : Int64) + (x0.toInt64)) + (x1.toInt64)) + (x2.toInt64))), .second, .val (.long (1 : Int64)), .second, .val (.long (x3.toInt64)), .second] [(.long ((((0 : Int64) + (1 : Int64)) + (1 : Int64)) + (1 : Int64)))]) _ _ _
      refine own_to (fun t k => XS.lload X61.here hx rfl (hb hby at_153) rfl k) ?_
      show own_Out p e below _ T61 (mkF m 155 #[.val (.int x0), .val (.int x1), .val (.int x2), .val (.int x3), .val (.int x4), .val (.int (3 : Int32)), .val (.int (1 : Int32)), .val (.ref ob55), .val (.long ((3 : Int32).toInt64)), .second, .val (.long ((((0 : Int64) + (x0.toInt64)) + (x1.toInt64)) + (x2.toInt64))), .second, .val (.long (1 : Int64)), .second, .val (.long (x3.toInt64)), .second] [(.long ((3 : Int32).toInt64)), (.long ((((0 : Int64) + (1 : Int64)) + (1 : Int64)) + (1 : Int64)))]) _ _ _
      refine own_to (fun t k => XS.lcmp X61.here hx rfl (hb hby at_155) rfl k) ?_
      show own_Out p e below _ T61 (mkF m 156 #[.val (.int x0), .val (.int x1), .val (.int x2), .val (.int x3), .val (.int x4), .val (.int (3 : Int32)), .val (.int (1 : Int32)), .val (.ref ob55), .val (.long ((3 : Int32).toInt64)), .second, .val (.long ((((0 : Int64) + (x0.toInt64)) + (x1.toInt64)) + (x2.toInt64))), .second, .val (.long (1 : Int64)), .second, .val (.long (x3.toInt64)), .second] [(.int (lcmpW ((((0 : Int64) + (1 : Int64)) + (1 : Int64)) + (1 : Int64)) ((3 : Int32).toInt64)))]) _ _ _
      have hc156 : ((((0 : Int64) + (1 : Int64)) + (1 : Int64)) + (1 : Int64)) = ((3 : Int32).toInt64) := by first | rfl | decide | (simp only [Int64.zero_add]; done) | simp
      refine own_to (fun t k => XS.ifNo X61.here hx rfl (hb hby at_156) rfl ((if0 _ _).trans (teq ((lw_eq _ _).mpr hc156)).2) k) ?_
      show own_Out p e below _ T61 (mkF m 159 #[.val (.int x0), .val (.int x1), .val (.int x2), .val (.int x3), .val (.int x4), .val (.int (3 : Int32)), .val (.int (1 : Int32)), .val (.ref ob55), .val (.long ((3 : Int32).toInt64)), .second, .val (.long ((((0 : Int64) + (x0.toInt64)) + (x1.toInt64)) + (x2.toInt64))), .second, .val (.long (1 : Int64)), .second, .val (.long (x3.toInt64)), .second] []) _ _ _
      refine own_to (fun t k => XS.aload X61.here hx rfl (hb hby at_159) rfl rfl k) ?_
      show own_Out p e below _ T61 (mkF m 161 #[.val (.int x0), .val (.int x1), .val (.int x2), .val (.int x3), .val (.int x4), .val (.int (3 : Int32)), .val (.int (1 : Int32)), .val (.ref ob55), .val (.long ((3 : Int32).toInt64)), .second, .val (.long ((((0 : Int64) + (x0.toInt64)) + (x1.toInt64)) + (x2.toInt64))), .second, .val (.long (1 : Int64)), .second, .val (.long (x3.toInt64)), .second] [(.ref ob55)]) _ _ _
      refine own_callV X61 hx hZ hown (a := ob55) (argsL := []) (rest := []) (hw _ (List.mem_of_getElem? (i := 16) rfl)) (hw _ (List.mem_of_getElem? (i := 17) rfl)) (hw _ (List.mem_of_getElem? (i := 19) rfl)) (hw _ (List.mem_of_getElem? (i := 18) rfl)) (hw _ (List.mem_of_getElem? (i := 2) rfl)) (hw _ (List.mem_of_getElem? (i := 20) rfl)) (by decide) (rm4 l Z a0 hw ob55 ((((0 : Int64) + (x0.toInt64)) + (x1.toInt64)) + (x2.toInt64)) hh60 n0 Z0 F_ob55_messageBytes) (by decide) (by decide) e61 E_ob55 rfl (by rw [hml]; rfl) (lenOf pd_1 rfl) rfl (W := 0) (by show 2 * 0 + _ ≤ _; exact Nat.le_of_eq rfl) (hb hby at_161) (by decide) (by decide) fun v62 T62 hh62 L62 X62 e62 hQ62 => ?_
      obtain ⟨rfl, NL62, he62⟩ := hQ62
      replace e62 := e62.trans he62
      have N62 := Fr.app N61 NL62
      show own_Out p e below _ T62 (mkF m 164 #[.val (.int x0), .val (.int x1), .val (.int x2), .val (.int x3), .val (.int x4), .val (.int (3 : Int32)), .val (.int (1 : Int32)), .val (.ref ob55), .val (.long ((3 : Int32).toInt64)), .second, .val (.long ((((0 : Int64) + (x0.toInt64)) + (x1.toInt64)) + (x2.toInt64))), .second, .val (.long (1 : Int64)), .second, .val (.long (x3.toInt64)), .second] [(.long ((((0 : Int64) + (x0.toInt64)) + (x1.toInt64)) + (x2.toInt64)))]) _ _ _
      refine own_to (fun t k => XS.lload X62.here hx rfl (hb hby at_164) rfl k) ?_
      show own_Out p e below _ T62 (mkF m 166 #[.val (.int x0), .val (.int x1), .val (.int x2), .val (.int x3), .val (.int x4), .val (.int (3 : Int32)), .val (.int (1 : Int32)), .val (.ref ob55), .val (.long ((3 : Int32).toInt64)), .second, .val (.long ((((0 : Int64) + (x0.toInt64)) + (x1.toInt64)) + (x2.toInt64))), .second, .val (.long (1 : Int64)), .second, .val (.long (x3.toInt64)), .second] [(.long ((((0 : Int64) + (x0.toInt64)) + (x1.toInt64)) + (x2.toInt64))), (.long ((((0 : Int64) + (x0.toInt64)) + (x1.toInt64)) + (x2.toInt64)))]) _ _ _
      refine own_to (fun t k => XS.lcmp X62.here hx rfl (hb hby at_166) rfl k) ?_
      show own_Out p e below _ T62 (mkF m 167 #[.val (.int x0), .val (.int x1), .val (.int x2), .val (.int x3), .val (.int x4), .val (.int (3 : Int32)), .val (.int (1 : Int32)), .val (.ref ob55), .val (.long ((3 : Int32).toInt64)), .second, .val (.long ((((0 : Int64) + (x0.toInt64)) + (x1.toInt64)) + (x2.toInt64))), .second, .val (.long (1 : Int64)), .second, .val (.long (x3.toInt64)), .second] [(.int (lcmpW ((((0 : Int64) + (x0.toInt64)) + (x1.toInt64)) + (x2.toInt64)) ((((0 : Int64) + (x0.toInt64)) + (x1.toInt64)) + (x2.toInt64))))]) _ _ _
      have hc167 : ((((0 : Int64) + (x0.toInt64)) + (x1.toInt64)) + (x2.toInt64)) = ((((0 : Int64) + (x0.toInt64)) + (x1.toInt64)) + (x2.toInt64)) := by first | rfl | decide | (simp only [Int64.zero_add]; done) | simp
      refine own_to (fun t k => XS.ifNo X62.here hx rfl (hb hby at_167) rfl ((if0 _ _).trans (teq ((lw_eq _ _).mpr hc167)).2) k) ?_
      show own_Out p e below _ T62 (mkF m 170 #[.val (.int x0), .val (.int x1), .val (.int x2), .val (.int x3), .val (.int x4), .val (.int (3 : Int32)), .val (.int (1 : Int32)), .val (.ref ob55), .val (.long ((3 : Int32).toInt64)), .second, .val (.long ((((0 : Int64) + (x0.toInt64)) + (x1.toInt64)) + (x2.toInt64))), .second, .val (.long (1 : Int64)), .second, .val (.long (x3.toInt64)), .second] []) _ _ _
      refine own_to (fun t k => XS.aload X62.here hx rfl (hb hby at_170) rfl rfl k) ?_
      show own_Out p e below _ T62 (mkF m 172 #[.val (.int x0), .val (.int x1), .val (.int x2), .val (.int x3), .val (.int x4), .val (.int (3 : Int32)), .val (.int (1 : Int32)), .val (.ref ob55), .val (.long ((3 : Int32).toInt64)), .second, .val (.long ((((0 : Int64) + (x0.toInt64)) + (x1.toInt64)) + (x2.toInt64))), .second, .val (.long (1 : Int64)), .second, .val (.long (x3.toInt64)), .second] [(.ref ob55)]) _ _ _
      refine own_callV X62 hx hZ hown (a := ob55) (argsL := []) (rest := []) (hw _ (List.mem_of_getElem? (i := 23) rfl)) (hw _ (List.mem_of_getElem? (i := 24) rfl)) (hw _ (List.mem_of_getElem? (i := 26) rfl)) (hw _ (List.mem_of_getElem? (i := 25) rfl)) (hw _ (List.mem_of_getElem? (i := 2) rfl)) (hw _ (List.mem_of_getElem? (i := 27) rfl)) (by decide) (rm5 l Z a0 hw ob55 ((0 : Int64) + (1 : Int64)) hh60 n0 Z0 F_ob55_ackFrames) (by decide) (by decide) e62 E_ob55 rfl (by rw [hml]; rfl) (lenOf pd_1 rfl) rfl (W := 0) (by show 2 * 0 + _ ≤ _; exact Nat.le_of_eq rfl) (hb hby at_172) (by decide) (by decide) fun v63 T63 hh63 L63 X63 e63 hQ63 => ?_
      obtain ⟨rfl, NL63, he63⟩ := hQ63
      replace e63 := e63.trans he63
      have N63 := Fr.app N62 NL63
      show own_Out p e below _ T63 (mkF m 175 #[.val (.int x0), .val (.int x1), .val (.int x2), .val (.int x3), .val (.int x4), .val (.int (3 : Int32)), .val (.int (1 : Int32)), .val (.ref ob55), .val (.long ((3 : Int32).toInt64)), .second, .val (.long ((((0 : Int64) + (x0.toInt64)) + (x1.toInt64)) + (x2.toInt64))), .second, .val (.long (1 : Int64)), .second, .val (.long (x3.toInt64)), .second] [(.long ((0 : Int64) + (1 : Int64)))]) _ _ _
      refine own_to (fun t k => XS.lload X63.here hx rfl (hb hby at_175) rfl k) ?_
      show own_Out p e below _ T63 (mkF m 177 #[.val (.int x0), .val (.int x1), .val (.int x2), .val (.int x3), .val (.int x4), .val (.int (3 : Int32)), .val (.int (1 : Int32)), .val (.ref ob55), .val (.long ((3 : Int32).toInt64)), .second, .val (.long ((((0 : Int64) + (x0.toInt64)) + (x1.toInt64)) + (x2.toInt64))), .second, .val (.long (1 : Int64)), .second, .val (.long (x3.toInt64)), .second] [(.long (1 : Int64)), (.long ((0 : Int64) + (1 : Int64)))]) _ _ _
      refine own_to (fun t k => XS.lcmp X63.here hx rfl (hb hby at_177) rfl k) ?_
      show own_Out p e below _ T63 (mkF m 178 #[.val (.int x0), .val (.int x1), .val (.int x2), .val (.int x3), .val (.int x4), .val (.int (3 : Int32)), .val (.int (1 : Int32)), .val (.ref ob55), .val (.long ((3 : Int32).toInt64)), .second, .val (.long ((((0 : Int64) + (x0.toInt64)) + (x1.toInt64)) + (x2.toInt64))), .second, .val (.long (1 : Int64)), .second, .val (.long (x3.toInt64)), .second] [(.int (lcmpW ((0 : Int64) + (1 : Int64)) (1 : Int64)))]) _ _ _
      have hc178 : ((0 : Int64) + (1 : Int64)) = (1 : Int64) := by first | rfl | decide | (simp only [Int64.zero_add]; done) | simp
      refine own_to (fun t k => XS.ifNo X63.here hx rfl (hb hby at_178) rfl ((if0 _ _).trans (teq ((lw_eq _ _).mpr hc178)).2) k) ?_
      show own_Out p e below _ T63 (mkF m 181 #[.val (.int x0), .val (.int x1), .val (.int x2), .val (.int x3), .val (.int x4), .val (.int (3 : Int32)), .val (.int (1 : Int32)), .val (.ref ob55), .val (.long ((3 : Int32).toInt64)), .second, .val (.long ((((0 : Int64) + (x0.toInt64)) + (x1.toInt64)) + (x2.toInt64))), .second, .val (.long (1 : Int64)), .second, .val (.long (x3.toInt64)), .second] []) _ _ _
      refine own_to (fun t k => XS.aload X63.here hx rfl (hb hby at_181) rfl rfl k) ?_
      show own_Out p e below _ T63 (mkF m 183 #[.val (.int x0), .val (.int x1), .val (.int x2), .val (.int x3), .val (.int x4), .val (.int (3 : Int32)), .val (.int (1 : Int32)), .val (.ref ob55), .val (.long ((3 : Int32).toInt64)), .second, .val (.long ((((0 : Int64) + (x0.toInt64)) + (x1.toInt64)) + (x2.toInt64))), .second, .val (.long (1 : Int64)), .second, .val (.long (x3.toInt64)), .second] [(.ref ob55)]) _ _ _
      refine own_callV X63 hx hZ hown (a := ob55) (argsL := []) (rest := []) (hw _ (List.mem_of_getElem? (i := 30) rfl)) (hw _ (List.mem_of_getElem? (i := 31) rfl)) (hw _ (List.mem_of_getElem? (i := 33) rfl)) (hw _ (List.mem_of_getElem? (i := 32) rfl)) (hw _ (List.mem_of_getElem? (i := 2) rfl)) (hw _ (List.mem_of_getElem? (i := 34) rfl)) (by decide) (rm6 l Z a0 hw ob55 ((0 : Int64) + (x3.toInt64)) hh60 n0 Z0 F_ob55_ackBytes) (by decide) (by decide) e63 E_ob55 rfl (by rw [hml]; rfl) (lenOf pd_1 rfl) rfl (W := 0) (by show 2 * 0 + _ ≤ _; exact Nat.le_of_eq rfl) (hb hby at_183) (by decide) (by decide) fun v64 T64 hh64 L64 X64 e64 hQ64 => ?_
      obtain ⟨rfl, NL64, he64⟩ := hQ64
      replace e64 := e64.trans he64
      have N64 := Fr.app N63 NL64
      show own_Out p e below _ T64 (mkF m 186 #[.val (.int x0), .val (.int x1), .val (.int x2), .val (.int x3), .val (.int x4), .val (.int (3 : Int32)), .val (.int (1 : Int32)), .val (.ref ob55), .val (.long ((3 : Int32).toInt64)), .second, .val (.long ((((0 : Int64) + (x0.toInt64)) + (x1.toInt64)) + (x2.toInt64))), .second, .val (.long (1 : Int64)), .second, .val (.long (x3.toInt64)), .second] [(.long ((0 : Int64) + (x3.toInt64)))]) _ _ _
      refine own_to (fun t k => XS.lload X64.here hx rfl (hb hby at_186) rfl k) ?_
      show own_Out p e below _ T64 (mkF m 188 #[.val (.int x0), .val (.int x1), .val (.int x2), .val (.int x3), .val (.int x4), .val (.int (3 : Int32)), .val (.int (1 : Int32)), .val (.ref ob55), .val (.long ((3 : Int32).toInt64)), .second, .val (.long ((((0 : Int64) + (x0.toInt64)) + (x1.toInt64)) + (x2.toInt64))), .second, .val (.long (1 : Int64)), .second, .val (.long (x3.toInt64)), .second] [(.long (x3.toInt64)), (.long ((0 : Int64) + (x3.toInt64)))]) _ _ _
      refine own_to (fun t k => XS.lcmp X64.here hx rfl (hb hby at_188) rfl k) ?_
      show own_Out p e below _ T64 (mkF m 189 #[.val (.int x0), .val (.int x1), .val (.int x2), .val (.int x3), .val (.int x4), .val (.int (3 : Int32)), .val (.int (1 : Int32)), .val (.ref ob55), .val (.long ((3 : Int32).toInt64)), .second, .val (.long ((((0 : Int64) + (x0.toInt64)) + (x1.toInt64)) + (x2.toInt64))), .second, .val (.long (1 : Int64)), .second, .val (.long (x3.toInt64)), .second] [(.int (lcmpW ((0 : Int64) + (x3.toInt64)) (x3.toInt64)))]) _ _ _
      have hc189 : ((0 : Int64) + (x3.toInt64)) = (x3.toInt64) := by first | rfl | decide | (simp only [Int64.zero_add]; done) | simp
      refine own_to (fun t k => XS.ifNo X64.here hx rfl (hb hby at_189) rfl ((if0 _ _).trans (teq ((lw_eq _ _).mpr hc189)).2) k) ?_
      show own_Out p e below _ T64 (mkF m 192 #[.val (.int x0), .val (.int x1), .val (.int x2), .val (.int x3), .val (.int x4), .val (.int (3 : Int32)), .val (.int (1 : Int32)), .val (.ref ob55), .val (.long ((3 : Int32).toInt64)), .second, .val (.long ((((0 : Int64) + (x0.toInt64)) + (x1.toInt64)) + (x2.toInt64))), .second, .val (.long (1 : Int64)), .second, .val (.long (x3.toInt64)), .second] []) _ _ _
      refine own_to (fun t k => XS.iconst X64.here hx rfl (hb hby at_192) k) ?_
      show own_Out p e below _ T64 (mkF m 193 #[.val (.int x0), .val (.int x1), .val (.int x2), .val (.int x3), .val (.int x4), .val (.int (3 : Int32)), .val (.int (1 : Int32)), .val (.ref ob55), .val (.long ((3 : Int32).toInt64)), .second, .val (.long ((((0 : Int64) + (x0.toInt64)) + (x1.toInt64)) + (x2.toInt64))), .second, .val (.long (1 : Int64)), .second, .val (.long (x3.toInt64)), .second] [(.int (1 : Int32))]) _ _ _
      refine own_to (fun t k => XS.goto X64.here hx rfl (pc0 := 193) (pc' := 197) rfl (hb hby at_193) (by decide) (by decide) k) ?_
      show own_Out p e below _ T64 (mkF m 197 #[.val (.int x0), .val (.int x1), .val (.int x2), .val (.int x3), .val (.int x4), .val (.int (3 : Int32)), .val (.int (1 : Int32)), .val (.ref ob55), .val (.long ((3 : Int32).toInt64)), .second, .val (.long ((((0 : Int64) + (x0.toInt64)) + (x1.toInt64)) + (x2.toInt64))), .second, .val (.long (1 : Int64)), .second, .val (.long (x3.toInt64)), .second] [(.int (1 : Int32))]) _ _ _
      refine own_retV X64 hx hlk (w := .int (1 : Int32)) hret rfl (Or.inl ⟨rfl, by simp, _, rfl⟩) (hb hby at_197) (by decide) (by decide) ?_
      rw [e64]
      exact ⟨rfl, N64⟩
set_option maxRecDepth 65536 in
set_option maxHeartbeats 40000000 in
theorem comes_1 {Post : Tables → Env → Array Value → State → Outcome → State → Prop} (hpost : ∀ tb e args s v u, (limb_1_1.after args s (.returned v) u = true ∧ limb_1_2.after args s (.returned v) u = true ∧ True) → FrameEnd s (.returned v) u (Jvm.fieldLocs frame_1_writes args s ++ Jvm.arrayLocs frame_1_arrays args s ++ Jvm.staticLocs frame_1_statics s) 16 128 → Post tb e args s (.returned v) u) :
    ArmFor flags0 classFile x code maxLocals ret World_1 tables_1 room_1 Calls_1 rest_1 Pre_1 Post := by
  intro l hfl _ _ p e ha hc hk s m args below hf hA hF happ hP
  obtain ⟨hcalls, hrest, hpre⟩ := hP
  obtain ⟨-, -, -, hnamed, -, -, -, hat⟩ := (Spec.applies_iff hf).mp happ
  obtain ⟨hg, hn⟩ := and_e (Cond.before_iff.mp (show (Jvm.Cond.and given_1 narrow_1).before args s = true from hpre))
  obtain ⟨gg2, gg3⟩ := and_e hg
  obtain ⟨gg4, gg5⟩ := and_e gg3
  obtain ⟨gg6, gg7⟩ := and_e gg5
  obtain ⟨gg8, gg9⟩ := and_e gg7
  obtain ⟨gg10, gg11⟩ := and_e gg9
  obtain ⟨w0, w1, w2, w3, w4, rfl⟩ : ∃ w0 w1 w2 w3 w4 : Value, args = #[w0, w1, w2, w3, w4] := by
    have hs : args.size = 5 := by simpa [Cond.value, given_1] using gg2
    obtain ⟨L⟩ := args
    match L, hs with
    | [w0, w1, w2, w3, w4], _ => exact ⟨w0, w1, w2, w3, w4, rfl⟩
  have hw := fun d (hd : d ∈ tables_1) => atoms_spec (ws := Jvm.Cond.code x code maxLocals ret :: tables_1) hat d (List.mem_cons_of_mem _ hd)
  have hfit : Fit s := fun {y c} hc i hi => by
    obtain ⟨ha, rfl⟩ := Array.getElem?_eq_some_iff.mp hc
    have q := List.all_eq_true.mp ((Array.all_eq_true_iff_forall_mem.mp hF) _ (Array.getElem_mem ha)) i (List.mem_range.mpr hi)
    simpa [Array.getElem?_eq_getElem hi] using q
  obtain ⟨i0, ei0⟩ := is_v gg4
  obtain rfl : w0 = (.int i0) := Option.some.inj ei0
  obtain ⟨i1, ei1⟩ := is_v gg6
  obtain rfl : w1 = (.int i1) := Option.some.inj ei1
  obtain ⟨i2, ei2⟩ := is_v gg8
  obtain rfl : w2 = (.int i2) := Option.some.inj ei2
  obtain ⟨i3, ei3⟩ := is_v gg10
  obtain rfl : w3 = (.int i3) := Option.some.inj ei3
  obtain ⟨i4, ei4⟩ := is_v gg11
  obtain rfl : w4 = (.int i4) := Option.some.inj ei4
  obtain ⟨n, o, h1, h2, h3, _, L, rfl, ⟨rfl, N⟩, hq⟩ := rm0 l s _ hw i0 i1 i2 i3 i4 s.heap s.heap.size (Nat.le_refl _) tables_1 p e ha hc hk s m _ below hf ((Spec.applies_iff_loose hf).mp happ).1 ⟨rfl, State.Warmed39.refl s, rfl⟩ trivial
  refine ⟨n, _, h1, h2, h3, hpost _ _ _ _ _ _ ⟨Cond.after_iff.mpr rfl, Cond.after_iff.mpr (eq_i res_at (Term.int_eval (1)) rfl), trivial⟩ ⟨hq.1, hq.2.1, (hq.2.2.sift fun y hy => Or.inr (N y hy)).mono (by decide) (by decide)⟩⟩
theorem main_1_1 : Claimed_1_1 := comes_1 fun _ _ _ _ _ _ h hF => ⟨h.1, hF⟩
theorem main_1_2 : Claimed_1_2 := comes_1 fun _ _ _ _ _ _ h hF => ⟨h.2.1, hF⟩
end Jvm.Pilot.@@N@@
namespace Jvm.Pilot.@@N@@
open Jvm Jvm.ClassFile Sem Op Lib Jvm.Free Jvm.Stand Jvm.Pilot.@@N@@.Jvm.D
/-! MADE BY PROGRAM (witnessworld.py) out of the Statement's table words and the real class files: 9 classes; the members and pool entries that the words name. The judged class is class 1, her method 1. -/
namespace start1
open Jvm.ClassFile
def u (s : String) : CpInfo := .utf8 (stringToUtf16 s)
/-- a pool by its gaps: so many unusable entries, then the entry; so many at the end -/
def gap : Nat → List CpInfo → List CpInfo
  | 0, r => r
  | n + 1, r => .unusable :: gap n r
def poolList (es : List (Nat × CpInfo)) (last : Nat) : List CpInfo := es.foldr (fun e r => gap e.1 (e.2 :: r)) (gap last [])
def pool (es : List (Nat × CpInfo)) (last : Nat) : Array CpInfo := ⟨poolList es last⟩
def fileOf (pool : Array CpInfo) (this : Nat) (attrs : Array Attribute := #[]) (ms : Array MethodInfo := #[]) (fl : Nat := 33) (sup : Nat := 0) (ifs : Array Nat := #[]) (fds : Array FieldInfo := #[]) : ClassFile where
  minorVersion := 0
  majorVersion := 65
  constantPool := pool
  accessFlags := fl
  thisClass := this
  superClass := sup
  interfaces := ifs
  fields := fds
  methods := ms
  attributes := attrs
def plain (name : String) (sup : Option ClassId) : Class where
  name := name
  kind := .ordinary
  loader := none
  accessFlags := 33
  super := sup
  interfaces := #[]
  cf := none
  fields := #[]
  methods := #[]
  instanceTypes := #[]
  staticTypes := #[]
  resolved := #[]
  callSites := []
  init := .initialized
  statics := none
  mirror := none

def pool0 : Array CpInfo := pool [(5, u "<init>"), (0, u "()V"), (1, .class_ 10), (1, u "java/lang/Object")] 113

def k0c0 : Code := { maxStack := 0, maxLocals := 1, code := object_method_1_code, exceptionTable := #[], attributes := #[] }
def k0m0 : Method := { name := "<init>", desc := "()V", sig := { parameters := [], returnType := none }, accessFlags := 1, code := some k0c0 }
/-- java/lang/Object -/
def k0 : Class := { plain "java/lang/Object" none with
  accessFlags := 33
  interfaces := #[]
  cf := some (fileOf pool0 8 #[] #[{ accessFlags := 1, nameIndex := 5, descriptorIndex := 6, attributes := #[] }] 33 0 #[] #[])
  fields := #[]
  methods := #[k0m0]
  instanceTypes := #[]
  staticTypes := #[]
  resolved := Array.replicate 124 none
  statics := none }

def pool1 : Array CpInfo := pool [(2, .class_ 4), (0, .nameAndType 5 6), (0, u "java/lang/Object"), (0, u "<init>"), (0, u "()V"), (0, .class_ 8), (0, u "com/example/mingle/mingle/FrameCounts"), (0, .methodref 7 3), (0, .methodref 7 11), (0, .nameAndType 12 13), (0, u "countMessageFrame"), (0, u "(I)V"), (0, .methodref 7 15), (0, .nameAndType 16 13), (0, u "countAckFrame"), (0, .methodref 7 18), (0, .nameAndType 19 20), (0, u "messageFrames"), (0, u "()J"), (0, .methodref 7 22), (0, .nameAndType 23 20), (0, u "messageBytes"), (0, .methodref 7 25), (0, .nameAndType 26 20), (0, u "ackFrames"), (0, .methodref 7 28), (0, .nameAndType 29 20), (0, u "ackBytes"), (0, .class_ 31), (0, u "com/example/mingle/mingle/FrameCountsCountMessageFramePinLaw"), (2, u "law"), (0, u "(IIIII)Z")] 3

def k1m0 : Method := { name := "<init>", desc := "()V", sig := { parameters := [], returnType := none }, accessFlags := 1, code := none }
def k1c1 : Code := { maxStack := 4, maxLocals := 16, code := code, exceptionTable := #[], attributes := #[] }
def k1m1 : Method := { name := "law", desc := "(IIIII)Z", sig := { parameters := [.int, .int, .int, .int, .int], returnType := some .boolean }, accessFlags := 9, code := some k1c1 }
/-- com/example/mingle/mingle/FrameCountsCountMessageFramePinLaw -/
def k1 : Class := { plain "com/example/mingle/mingle/FrameCountsCountMessageFramePinLaw" (some 0) with
  accessFlags := 49
  interfaces := #[]
  cf := some (fileOf pool1 30 #[] #[{ accessFlags := 1, nameIndex := 5, descriptorIndex := 6, attributes := #[] }, { accessFlags := 9, nameIndex := 34, descriptorIndex := 35, attributes := #[] }] 49 2 #[] #[])
  fields := #[]
  methods := #[k1m0, k1m1]
  instanceTypes := #[]
  staticTypes := #[]
  resolved := Array.replicate 39 none
  statics := none }

def pool2 : Array CpInfo := pool [(1, .methodref 2 3), (0, .class_ 4), (0, .nameAndType 5 6), (0, u "java/lang/Object"), (0, u "<init>"), (0, u "()V"), (0, .fieldref 8 9), (0, .class_ 10), (0, .nameAndType 11 12), (0, u "com/example/mingle/mingle/FrameCounts"), (0, u "messageFrames"), (0, u "J"), (0, .fieldref 8 14), (0, .nameAndType 15 12), (0, u "messageBytes"), (0, .fieldref 8 17), (0, .nameAndType 18 12), (0, u "ackFrames"), (0, .fieldref 8 20), (0, .nameAndType 21 12), (0, u "ackBytes"), (2, u "countMessageFrame"), (0, u "(I)V"), (0, u "countAckFrame"), (0, u "()J")] 2

def k2c0 : Code := { maxStack := 1, maxLocals := 1, code := prog_6_method_1_code, exceptionTable := #[], attributes := #[] }
def k2m0 : Method := { name := "<init>", desc := "()V", sig := { parameters := [], returnType := none }, accessFlags := 0, code := some k2c0 }
def k2c1 : Code := { maxStack := 5, maxLocals := 2, code := prog_6_method_2_code, exceptionTable := #[], attributes := #[] }
def k2m1 : Method := { name := "countMessageFrame", desc := "(I)V", sig := { parameters := [.int], returnType := none }, accessFlags := 0, code := some k2c1 }
def k2c2 : Code := { maxStack := 5, maxLocals := 2, code := prog_6_method_3_code, exceptionTable := #[], attributes := #[] }
def k2m2 : Method := { name := "countAckFrame", desc := "(I)V", sig := { parameters := [.int], returnType := none }, accessFlags := 0, code := some k2c2 }
def k2c3 : Code := { maxStack := 2, maxLocals := 1, code := prog_6_method_4_code, exceptionTable := #[], attributes := #[] }
def k2m3 : Method := { name := "messageFrames", desc := "()J", sig := { parameters := [], returnType := some .long }, accessFlags := 1, code := some k2c3 }
def k2c4 : Code := { maxStack := 2, maxLocals := 1, code := prog_6_method_5_code, exceptionTable := #[], attributes := #[] }
def k2m4 : Method := { name := "messageBytes", desc := "()J", sig := { parameters := [], returnType := some .long }, accessFlags := 1, code := some k2c4 }
def k2c5 : Code := { maxStack := 2, maxLocals := 1, code := prog_6_method_6_code, exceptionTable := #[], attributes := #[] }
def k2m5 : Method := { name := "ackFrames", desc := "()J", sig := { parameters := [], returnType := some .long }, accessFlags := 1, code := some k2c5 }
def k2c6 : Code := { maxStack := 2, maxLocals := 1, code := prog_6_method_7_code, exceptionTable := #[], attributes := #[] }
def k2m6 : Method := { name := "ackBytes", desc := "()J", sig := { parameters := [], returnType := some .long }, accessFlags := 1, code := some k2c6 }
/-- com/example/mingle/mingle/FrameCounts -/
def k2 : Class := { plain "com/example/mingle/mingle/FrameCounts" (some 0) with
  accessFlags := 49
  interfaces := #[]
  cf := some (fileOf pool2 8 #[] #[{ accessFlags := 0, nameIndex := 5, descriptorIndex := 6, attributes := #[] }, { accessFlags := 0, nameIndex := 24, descriptorIndex := 25, attributes := #[] }, { accessFlags := 0, nameIndex := 26, descriptorIndex := 25, attributes := #[] }, { accessFlags := 1, nameIndex := 11, descriptorIndex := 27, attributes := #[] }, { accessFlags := 1, nameIndex := 15, descriptorIndex := 27, attributes := #[] }, { accessFlags := 1, nameIndex := 18, descriptorIndex := 27, attributes := #[] }, { accessFlags := 1, nameIndex := 21, descriptorIndex := 27, attributes := #[] }] 49 2 #[] #[{ accessFlags := 66, nameIndex := 11, descriptorIndex := 12, attributes := #[] }, { accessFlags := 66, nameIndex := 15, descriptorIndex := 12, attributes := #[] }, { accessFlags := 66, nameIndex := 18, descriptorIndex := 12, attributes := #[] }, { accessFlags := 66, nameIndex := 21, descriptorIndex := 12, attributes := #[] }])
  fields := #[{ name := "messageFrames", type := .long, accessFlags := 66, slot := 0, constantValue := 0 }, { name := "messageBytes", type := .long, accessFlags := 66, slot := 1, constantValue := 0 }, { name := "ackFrames", type := .long, accessFlags := 66, slot := 2, constantValue := 0 }, { name := "ackBytes", type := .long, accessFlags := 66, slot := 3, constantValue := 0 }]
  methods := #[k2m0, k2m1, k2m2, k2m3, k2m4, k2m5, k2m6]
  instanceTypes := #[.long, .long, .long, .long]
  staticTypes := #[]
  resolved := Array.replicate 30 none
  statics := none }

def pool3 : Array CpInfo := pool [(1, u "java/lang/Cloneable"), (0, .class_ 1), (0, u "java/lang/Object"), (0, .class_ 3)] 3

/-- java/lang/Cloneable -/
def k3 : Class := { plain "java/lang/Cloneable" (some 0) with
  accessFlags := 1537
  interfaces := #[]
  cf := some (fileOf pool3 2 #[] #[] 1537 4 #[] #[])
  fields := #[]
  methods := #[]
  instanceTypes := #[]
  staticTypes := #[]
  resolved := Array.replicate 8 none
  statics := none }

def pool4 : Array CpInfo := pool [(1, u "java/io/Serializable"), (0, .class_ 1), (0, u "java/lang/Object"), (0, .class_ 3)] 3

/-- java/io/Serializable -/
def k4 : Class := { plain "java/io/Serializable" (some 0) with
  accessFlags := 1537
  interfaces := #[]
  cf := some (fileOf pool4 2 #[] #[] 1537 4 #[] #[])
  fields := #[]
  methods := #[]
  instanceTypes := #[]
  staticTypes := #[]
  resolved := Array.replicate 8 none
  statics := none }

/-- the primitive byte -/
def k5 : Class := { plain "byte" none with kind := .primitive 'B', accessFlags := 0x411 }
/-- [B -/
def k6 : Class := { plain "[B" (some 0) with kind := .array 5 .byte, interfaces := #[3, 4], accessFlags := 1041 }

/-- the primitive int -/
def k7 : Class := { plain "int" none with kind := .primitive 'I', accessFlags := 0x411 }
/-- [I -/
def k8 : Class := { plain "[I" (some 0) with kind := .array 7 .int, interfaces := #[3, 4], accessFlags := 1041 }

def heap : Heap := #[]
def classes : Array Class := #[k0, k1, k2, k3, k4, k5, k6, k7, k8]
def interned : List (Array UInt16 × Addr) := []
def slotsUsed : Nat := 0
def theMethod : MethodId := ⟨1, 1⟩
def args0 : Array Value := #[.int 5, .int 65, .int 1, .int 2, .int 3]
def aboutOver (below : List Frame) : State where
  vm := { classes := classes, interned := interned.toArray }
  heap := heap
  slotsUsed := slotsUsed
  threads := #[{ frames := .invoking theMethod args0 :: below }]
def below0 : List Frame := [.native { method := ⟨0, 0⟩, args := #[] }]
def about1 : State := aboutOver below0
def p0 : Program := .bare "" "" ""
def e0 : Env := launch0.env 0 0 0
theorem w_frames : about1.frames = Frame.invoking theMethod args0 :: below0 := rfl
set_option maxRecDepth 65536 in
theorem w_args : argsFit about1.vm theMethod args0 = true := by decide +kernel
set_option maxRecDepth 65536 in
theorem w_heap : heapFits about1 = true := by decide +kernel
set_option maxRecDepth 65536 in
theorem w_runnable : about1.curStatus? = some .runnable := by decide +kernel
set_option maxRecDepth 65536 in
theorem w_alone : about1.alone = true := by decide +kernel
set_option maxRecDepth 65536 in
theorem w_named : about1.methodNamed? x = some theMethod := by decide +kernel
set_option maxRecDepth 65536 in
theorem w_hears : about1.hears theMethod below0 = true := by decide +kernel
set_option maxRecDepth 65536 in
theorem w_ripe : about1.ripe theMethod args0 below0 = true := by decide +kernel
theorem w_running : about1.status = .running := rfl
set_option maxRecDepth 65536 in
theorem w_room : about1.hasRoom e0.platform room_1 = true :=
  launch0.hasRoom_least _ room_1 (by decide +kernel) (by decide +kernel) (by decide +kernel) (by decide +kernel) (by decide +kernel) (by decide +kernel)
theorem allAtoms_all (ts : List Jvm.Cond) (a : Array Jvm.Value) (st : Jvm.State) : (allAtoms ts).before a st = ts.all (fun c => c.before a st) := by
  induction ts with
  | nil => rfl
  | cons c t ih =>
    show (Jvm.Cond.and c (allAtoms t)).before a st = _
    rw [Jvm.Cond.before_and, ih, List.all_cons]
def words1 : List Jvm.Cond := Jvm.Cond.code x code maxLocals ret :: tables_1
/-- a 'code' word, met by the world's own term for the bytes: nothing is compared byte by byte -/
theorem code_word {y : MethodName} {bytes : ByteArray} {mx : Nat} {rt : Option FieldType} {a : Array Value} {s : State} {m : MethodId} {meth : Method} {c : Code} (h1 : s.methodNamed? y = some m) (h2 : s.vm.method? m = some meth) (h3 : meth.code = some c) (h4 : c.code = bytes)
    (h5 : (c.maxLocals == mx && c.exceptionTable.isEmpty && decide (c.maxStack ≤ mostOperands) && decide (meth.sig.returnType = rt) && !meth.locks && decide (parseMethodDescriptor y.desc = some meth.sig)) = true) : (Jvm.Cond.code y bytes mx rt).before a s = true := by
  simp only [Bool.and_eq_true, beq_iff_eq, Bool.not_eq_true', decide_eq_true_eq] at h5
  obtain ⟨⟨⟨⟨⟨g1, g2⟩, g3⟩, g4⟩, g5⟩, g6⟩ := h5
  simp [Cond.before, Cond.holds, Cond.value, h1, h2, h3, h4, g1, g2, g3, g4, g5, g6]
def isCode : Jvm.Cond → Bool
  | .code _ _ _ _ => true
  | _ => false
theorem all_split {L : List Jvm.Cond} {P : Jvm.Cond → Bool} (h1 : L.all (fun c => isCode c || P c) = true) (h2 : ∀ c ∈ L.filter isCode, P c = true) : L.all P = true := by
  refine List.all_eq_true.mpr fun c hc => ?_
  have h := List.all_eq_true.mp h1 c hc
  rcases Bool.eq_false_or_eq_true (isCode c) with hi | hi
  · exact h2 c (List.mem_filter.mpr ⟨hc, hi⟩)
  · simpa [hi] using h
set_option maxRecDepth 65536 in
theorem w_c0 : (Jvm.Cond.code x code maxLocals ret).before args0 about1 = true := code_word (m := ⟨1, 1⟩) (meth := k1m1) (c := k1c1) (by decide +kernel) rfl rfl rfl (by decide +kernel)
set_option maxRecDepth 65536 in
theorem w_c1 : (Jvm.Cond.code ({ cls := "com/example/mingle/mingle/FrameCounts", name := "<init>", desc := "()V" } : Jvm.MethodName) prog_6_method_1_code (1 : Nat) (Option.none : Option Jvm.ClassFile.FieldType)).before args0 about1 = true := code_word (m := ⟨2, 0⟩) (meth := k2m0) (c := k2c0) (by decide +kernel) rfl rfl rfl (by decide +kernel)
set_option maxRecDepth 65536 in
theorem w_c2 : (Jvm.Cond.code ({ cls := "java/lang/Object", name := "<init>", desc := "()V" } : Jvm.MethodName) object_method_1_code (1 : Nat) (Option.none : Option Jvm.ClassFile.FieldType)).before args0 about1 = true := code_word (m := ⟨0, 0⟩) (meth := k0m0) (c := k0c0) (by decide +kernel) rfl rfl rfl (by decide +kernel)
set_option maxRecDepth 65536 in
theorem w_c3 : (Jvm.Cond.code ({ cls := "com/example/mingle/mingle/FrameCounts", name := "messageFrames", desc := "()J" } : Jvm.MethodName) prog_6_method_4_code (1 : Nat) (Option.some Jvm.ClassFile.FieldType.long)).before args0 about1 = true := code_word (m := ⟨2, 3⟩) (meth := k2m3) (c := k2c3) (by decide +kernel) rfl rfl rfl (by decide +kernel)
set_option maxRecDepth 65536 in
theorem w_c4 : (Jvm.Cond.code ({ cls := "com/example/mingle/mingle/FrameCounts", name := "messageBytes", desc := "()J" } : Jvm.MethodName) prog_6_method_5_code (1 : Nat) (Option.some Jvm.ClassFile.FieldType.long)).before args0 about1 = true := code_word (m := ⟨2, 4⟩) (meth := k2m4) (c := k2c4) (by decide +kernel) rfl rfl rfl (by decide +kernel)
set_option maxRecDepth 65536 in
theorem w_c5 : (Jvm.Cond.code ({ cls := "com/example/mingle/mingle/FrameCounts", name := "ackFrames", desc := "()J" } : Jvm.MethodName) prog_6_method_6_code (1 : Nat) (Option.some Jvm.ClassFile.FieldType.long)).before args0 about1 = true := code_word (m := ⟨2, 5⟩) (meth := k2m5) (c := k2c5) (by decide +kernel) rfl rfl rfl (by decide +kernel)
set_option maxRecDepth 65536 in
theorem w_c6 : (Jvm.Cond.code ({ cls := "com/example/mingle/mingle/FrameCounts", name := "ackBytes", desc := "()J" } : Jvm.MethodName) prog_6_method_7_code (1 : Nat) (Option.some Jvm.ClassFile.FieldType.long)).before args0 about1 = true := code_word (m := ⟨2, 6⟩) (meth := k2m6) (c := k2c6) (by decide +kernel) rfl rfl rfl (by decide +kernel)
set_option maxRecDepth 65536 in
theorem w_c7 : (Jvm.Cond.code ({ cls := "com/example/mingle/mingle/FrameCounts", name := "countMessageFrame", desc := "(I)V" } : Jvm.MethodName) prog_6_method_2_code (2 : Nat) (Option.none : Option Jvm.ClassFile.FieldType)).before args0 about1 = true := code_word (m := ⟨2, 1⟩) (meth := k2m1) (c := k2c1) (by decide +kernel) rfl rfl rfl (by decide +kernel)
set_option maxRecDepth 65536 in
theorem w_c8 : (Jvm.Cond.code ({ cls := "com/example/mingle/mingle/FrameCounts", name := "countAckFrame", desc := "(I)V" } : Jvm.MethodName) prog_6_method_3_code (2 : Nat) (Option.none : Option Jvm.ClassFile.FieldType)).before args0 about1 = true := code_word (m := ⟨2, 2⟩) (meth := k2m2) (c := k2c2) (by decide +kernel) rfl rfl rfl (by decide +kernel)
def codes1 : List Jvm.Cond := [Jvm.Cond.code x code maxLocals ret, Jvm.Cond.code ({ cls := "com/example/mingle/mingle/FrameCounts", name := "<init>", desc := "()V" } : Jvm.MethodName) prog_6_method_1_code (1 : Nat) (Option.none : Option Jvm.ClassFile.FieldType), Jvm.Cond.code ({ cls := "java/lang/Object", name := "<init>", desc := "()V" } : Jvm.MethodName) object_method_1_code (1 : Nat) (Option.none : Option Jvm.ClassFile.FieldType), Jvm.Cond.code ({ cls := "com/example/mingle/mingle/FrameCounts", name := "messageFrames", desc := "()J" } : Jvm.MethodName) prog_6_method_4_code (1 : Nat) (Option.some Jvm.ClassFile.FieldType.long), Jvm.Cond.code ({ cls := "com/example/mingle/mingle/FrameCounts", name := "messageBytes", desc := "()J" } : Jvm.MethodName) prog_6_method_5_code (1 : Nat) (Option.some Jvm.ClassFile.FieldType.long), Jvm.Cond.code ({ cls := "com/example/mingle/mingle/FrameCounts", name := "ackFrames", desc := "()J" } : Jvm.MethodName) prog_6_method_6_code (1 : Nat) (Option.some Jvm.ClassFile.FieldType.long), Jvm.Cond.code ({ cls := "com/example/mingle/mingle/FrameCounts", name := "ackBytes", desc := "()J" } : Jvm.MethodName) prog_6_method_7_code (1 : Nat) (Option.some Jvm.ClassFile.FieldType.long), Jvm.Cond.code ({ cls := "com/example/mingle/mingle/FrameCounts", name := "countMessageFrame", desc := "(I)V" } : Jvm.MethodName) prog_6_method_2_code (2 : Nat) (Option.none : Option Jvm.ClassFile.FieldType), Jvm.Cond.code ({ cls := "com/example/mingle/mingle/FrameCounts", name := "countAckFrame", desc := "(I)V" } : Jvm.MethodName) prog_6_method_3_code (2 : Nat) (Option.none : Option Jvm.ClassFile.FieldType)]
set_option maxRecDepth 65536 in
theorem codes_eq : words1.filter isCode = codes1 := rfl
theorem w_codes : ∀ c ∈ words1.filter isCode, c.before args0 about1 = true := by
  rw [codes_eq]
  intro c hc
  simp only [codes1, List.mem_cons, List.not_mem_nil, or_false] at hc
  rcases hc with rfl | rfl | rfl | rfl | rfl | rfl | rfl | rfl | rfl
  · exact w_c0
  · exact w_c1
  · exact w_c2
  · exact w_c3
  · exact w_c4
  · exact w_c5
  · exact w_c6
  · exact w_c7
  · exact w_c8
set_option maxRecDepth 65536 in
theorem w_t1 : (words1.take 24).all (fun c => isCode c || c.before args0 about1) = true := by decide +kernel
set_option maxRecDepth 65536 in
theorem w_t2 : (words1.drop 24).all (fun c => isCode c || c.before args0 about1) = true := by decide +kernel
theorem w_tables : (allAtoms (Jvm.Cond.code x code maxLocals ret :: tables_1)).before args0 about1 = true := by
  rw [allAtoms_all]
  show words1.all (fun c => c.before args0 about1) = true
  refine all_split ?_ w_codes
  rw [← List.take_append_drop 24 words1, List.all_append, w_t1, w_t2]
  rfl
set_option maxRecDepth 65536 in
theorem w_case : (Jvm.Cond.and given_1 narrow_1).before args0 about1 = true := by decide +kernel
theorem w_applies : (headSpec (Jvm.Cond.code x code maxLocals ret :: tables_1) room_1).applies x e0.platform about1 = true :=
  (Spec.applies_iff w_frames).mpr ⟨w_running, w_runnable, w_alone, w_named, w_hears, w_ripe, w_room, w_tables⟩
theorem atStart : AtStart classFile x code maxLocals ret World_1 tables_1 room_1 Calls_1 rest_1 Pre_1 launch0 p0 e0 about1 theMethod args0 below0 :=
  ⟨lists_1, trivial, launch0.admits_env _ _ _, launch0.least_env, fairChoices_fair.cas, fairChoices_fair.clock, w_frames, w_args, w_heap, w_applies, trivial, trivial, w_case⟩
end start1
theorem witness_1 : WitnessClaimed_1 := ⟨start1.p0, start1.e0, start1.about1, start1.theMethod, start1.args0, start1.below0, start1.atStart⟩
end Jvm.Pilot.@@N@@
