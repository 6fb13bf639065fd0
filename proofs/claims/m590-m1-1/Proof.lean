import JvmDerived
import JvmDerived.Pilot.@@N@@Statement
import JvmDerived.Pilot.@@N@@Code
set_option linter.unusedVariables false
set_option linter.unusedSimpArgs false
namespace Jvm.Pilot.@@N@@
open Jvm Jvm.ClassFile Sem Op Lib Jvm.Free Jvm.Stand Jvm.LawKit Jvm.RoadKit Bundle Jvm.Pilot.@@N@@.Jvm.D
section OwnKit
variable {p : Program} {l : Launch} {e : Env} {R : Room} {s : State} {m : MethodId} {args : Array Value} {below : List Frame} {meth : Method} {c : Code} {T T' : State} {locs : List Loc} {cells slots kc ks : Nat} {g g' : JFrame} {Q : Option Value → Heap → List Loc → Prop} {Z : State} {h h' : Heap} {a0 : Array Value} {En : Outcome → State → List Loc → Nat → Nat → Prop}
/-- from this frame the run comes to the method's end and leaves what Q says -/
def own_Out (p : Program) (e : Env) (below : List Frame) (En : Outcome → State → List Loc → Nat → Nat → Prop) (T : State) (g : JFrame) (Q : Option Value → Heap → List Loc → Prop) (kc ks : Nat) : Prop :=
  ∃ (t : State) (o : Outcome), Steps p.tables e below (T.setTop g) t ∧ t.status = .running ∧ Ended t below o ∧ ∃ (v : Option Value) (L : List Loc), o = .returned v ∧ Q v t.heap L ∧ En o t L kc ks
theorem own_to (st : ∀ t, Steps p.tables e below (T'.setTop g') t → Steps p.tables e below (T.setTop g) t) (k : own_Out p e below En T' g' Q kc ks) : own_Out p e below En T g Q kc ks := by
  obtain ⟨t, o, h1, h2⟩ := k
  exact ⟨t, o, st t h1, h2⟩
theorem own_cast (q : g = g') (k : own_Out p e below En T g' Q kc ks) : own_Out p e below En T g Q kc ks := q ▸ k
/-- a method's contract: called with these arguments over this heap it returns, and Q says what it leaves -/
def own_C (l : Launch) (Z : State) (y : MethodName) (bytes : ByteArray) (maxL : Nat) (ret : Option FieldType) (rm : Room) (as' : Array Value) (h0 : Heap) (Q : Option Value → Heap → List Loc → Prop) : Prop :=
  ∀ ws : List Jvm.Cond, MetFree l y (head1 (Jvm.Cond.code y bytes maxL ret :: ws) rm) (fun a U => a = as' ∧ Z.Warmed39 U.vm ∧ U.heap = h0) (fun _ _ _ _ _ => True) (fun _ U o U' => ∃ v L, o = .returned v ∧ Q v U'.heap L ∧ FrameEnd U o U' L rm.cells rm.slots)
theorem own_met {y : MethodName} {bytes : ByteArray} {maxL : Nat} {ret : Option FieldType} {rm : Room} {as' : Array Value} {h0 : Heap} (pl : plainFor y = true)
    (body : ∀ (p : Program) (e : Env) (s : State) (m : MethodId) (below : List Frame) (meth : Method) (c : Code) (s₁ : State), p.tables.exec = Jvm.exec → c.code = bytes → c.maxLocals = maxL → meth.sig.returnType = ret → meth.locks = false → s.vm.findClass y.cls = some m.cls → meth.name = y.name → Z.Warmed39 s.vm → Stand p l e rm s m as' below meth c s₁ [] 0 0 → s₁.heap = h0 → own_Out p e below (FrameEnd s) s₁ (entryFrame m as' maxL) Q rm.cells rm.slots) :
    own_C l Z y bytes maxL ret rm as' h0 Q := by
  intro ws
  refine MetFree.of_bodySF pl hisR ?_
  intro p e s m args below meth c s₁ Bd hml0 hP hK
  obtain ⟨rfl, hZ, hh⟩ := hP
  exact body p e s m below meth c s₁ Bd.exec Bd.bytes hml0 Bd.returns (BodyLoose.notSynchronized Bd) (findClass_of_methodNamed Bd.named) ((name_of_methodNamed Bd.named Bd.method).1) hZ (Stand.of_body Bd) (by rw [← hh, Bd.state]; rfl)
/-! returns -/
theorem own_retV (X : Stand p l e R s m args below meth c T locs cells slots) (hx : p.tables.exec = Jvm.exec) (hlk : meth.locks = false) {pc : Nat} {Ls : Array Slot} {w : Value} {t : FieldType} {i : Instr} {rest : List Value} (hret : meth.sig.returnType = some t) (hn : narrow t w = w)
    (hi : (i = .ireturn ∧ (t = .int ∨ t = .boolean ∨ t = .byte ∨ t = .char ∨ t = .short) ∧ ∃ z, w = .int z) ∨ (i = .lreturn ∧ t = .long ∧ ∃ z, w = .long z) ∨ (i = .dreturn ∧ t = .double ∧ ∃ z, w = .double z) ∨ (i = .freturn ∧ t = .float ∧ ∃ z, w = .float z) ∨ (i = .areturn ∧ t.isReference = true ∧ w.isRef = true))
    (hd : decode c.code pc = .ok (i, 1)) (hc : cells ≤ kc) (hs : slots ≤ ks) (hQ : Q (some w) T.heap locs) : own_Out p e below (FrameEnd s) T (mkF m pc Ls (w :: rest)) Q kc ks := by
  obtain ⟨fs, hr, hrun, hended, hW, hsame⟩ := X.leave (v := some w) (fun h => by rw [hret] at h; cases h) hlk
  exact ⟨_, _, retOut X hx hret hn hi hd hr, hrun, hended, _, _, rfl, hQ, ⟨_, rfl⟩, hW, hsame.mono hc hs⟩
theorem own_retI (X : Stand p l e R s m args below meth c T locs cells slots) (hx : p.tables.exec = Jvm.exec) (hlk : meth.locks = false) (hret : meth.sig.returnType = some .int) {pc : Nat} {Ls : Array Slot} {z : Int32} {rest : List Value}
    (hd : decode c.code pc = .ok (.ireturn, 1)) (hc : cells ≤ kc) (hs : slots ≤ ks) (hQ : Q (some (.int z)) T.heap locs) : own_Out p e below (FrameEnd s) T (mkF m pc Ls (.int z :: rest)) Q kc ks :=
  own_retV X hx hlk hret rfl (Or.inl ⟨rfl, Or.inl rfl, _, rfl⟩) hd hc hs hQ
theorem own_retJ (X : Stand p l e R s m args below meth c T locs cells slots) (hx : p.tables.exec = Jvm.exec) (hlk : meth.locks = false) (hret : meth.sig.returnType = some .long) {pc : Nat} {Ls : Array Slot} {z : Int64} {rest : List Value}
    (hd : decode c.code pc = .ok (.lreturn, 1)) (hc : cells ≤ kc) (hs : slots ≤ ks) (hQ : Q (some (.long z)) T.heap locs) : own_Out p e below (FrameEnd s) T (mkF m pc Ls (.long z :: rest)) Q kc ks :=
  own_retV X hx hlk hret rfl (Or.inr (Or.inl ⟨rfl, rfl, _, rfl⟩)) hd hc hs hQ
theorem own_retA (X : Stand p l e R s m args below meth c T locs cells slots) (hx : p.tables.exec = Jvm.exec) (hlk : meth.locks = false) {t : FieldType} (hret : meth.sig.returnType = some t) (ht : t.isReference = true) {pc : Nat} {Ls : Array Slot} {z : Addr} {rest : List Value}
    (hd : decode c.code pc = .ok (.areturn, 1)) (hc : cells ≤ kc) (hs : slots ≤ ks) (hQ : Q (some (.ref z)) T.heap locs) : own_Out p e below (FrameEnd s) T (mkF m pc Ls (.ref z :: rest)) Q kc ks :=
  own_retV X hx hlk hret (by cases t <;> rfl) (Or.inr (Or.inr (Or.inr (Or.inr ⟨rfl, ht, rfl⟩)))) hd hc hs hQ
/-- a boolean, byte, char or short: the value is narrowed -/
theorem own_retN (X : Stand p l e R s m args below meth c T locs cells slots) (hx : p.tables.exec = Jvm.exec) (hlk : meth.locks = false) {t : FieldType} (hret : meth.sig.returnType = some t) (ht : t = .boolean ∨ t = .byte ∨ t = .char ∨ t = .short) {pc : Nat} {Ls : Array Slot} {z : Int32} {rest : List Value}
    (hd : decode c.code pc = .ok (.ireturn, 1)) (hc : cells ≤ kc) (hs : slots ≤ ks) (hQ : Q (some (.int (nar t z))) T.heap locs) : own_Out p e below (FrameEnd s) T (mkF m pc Ls (.int z :: rest)) Q kc ks := by
  obtain ⟨fs, hr, hrun, hended, hW, hsame⟩ := X.leave (v := some (.int (nar t z))) (fun h => by rw [hret] at h; cases h) hlk
  exact ⟨_, _, retN X hx hret ht hd hr, hrun, hended, _, _, rfl, hQ, ⟨_, rfl⟩, hW, hsame.mono hc hs⟩
theorem own_ret0 (X : Stand p l e R s m args below meth c T locs cells slots) (hx : p.tables.exec = Jvm.exec) (hlk : meth.locks = false) (hret : meth.sig.returnType = none) {pc : Nat} {Ls : Array Slot}
    (hd : decode c.code pc = .ok (.return_, 1)) (hc : cells ≤ kc) (hs : slots ≤ ks) (hQ : Q none T.heap locs) : own_Out p e below (FrameEnd s) T (mkF m pc Ls []) Q kc ks := by
  obtain ⟨fs, hr, hrun, hended, hW, hsame⟩ := X.leave (v := none) (fun _ => rfl) hlk
  exact ⟨_, _, X.returnOut hx hret hd hr, hrun, hended, _, _, rfl, hQ, ⟨_, rfl⟩, hW, hsame.mono hc hs⟩
/-! calls -/
theorem own_callS (X : Stand p l e R s m args below meth c T locs cells slots) (hx : p.tables.exec = Jvm.exec) (hZ : Z.Warmed39 s.vm) {own : String} (hown : s.vm.findClass own = some m.cls) {index : Nat} {y : MethodName} {bytes : ByteArray} {maxL : Nat} {ret : Option FieldType} {rm : Room} {W : Nat} {Qc : Option Value → Heap → List Loc → Prop} {argsL rest : List Value}
    (w1 : (Jvm.Cond.methodLink own index y).before a0 Z = true) (w2 : (Jvm.Cond.static y).before a0 Z = true) (w3 : (Jvm.Cond.initialized y.cls).before a0 Z = true) (w4 : (Jvm.Cond.code y bytes maxL ret).before a0 Z = true) (hy : y.cls ≠ "java/lang/invoke/MethodHandle" ∧ y.cls ≠ "java/lang/invoke/VarHandle")
    (hM : own_C l Z y bytes maxL ret rm argsL.toArray h Qc) (hf : rm.frames + 1 ≤ R.frames) (hl : W + (maxL + 11) + rm.locals ≤ R.locals) (eT : T.heap = h) (hg : g.method = m) (hsize : g.locals.size = c.maxLocals) (hlen : ∀ sig, parseMethodDescriptor y.desc = some sig → argsL.length = sig.parameters.length)
    (hstack : g.stack = argsL.reverse ++ rest) (hW : 2 * g.monitorRoom + (rest.map fun v => v.category).sum ≤ W) (hd : decode c.code g.pc = .ok (.invokestatic index, 3)) (hc : cells + rm.cells ≤ R.cells) (hs : slots + rm.slots ≤ R.slots)
    (k : ∀ (v : Option Value) (T' : State) (h' : Heap) (L : List Loc), Stand p l e R s m args below meth c T' (locs ++ L) (cells + rm.cells) (slots + rm.slots) → T'.heap = h' → Qc v h' L → own_Out p e below En T' { g with pc := g.pc + 3, stack := v.toList ++ rest } Q kc ks) : own_Out p e below En T g Q kc ks := by
  obtain ⟨v, _, ⟨T', L', k', n'⟩, -, X', ⟨Lc, hQ, l1, l2, l3⟩, st⟩ := Jvm.LawKit.callS X hx hown (mvT hZ w1) (mvT hZ w2) (mvT hZ w3) (mvT hZ w4) hy (backOf (W := W) (hM []) hZ w4 w3 hf hl) hg hsize hlen hstack hW hd (fun _ _ => ⟨rfl, eT, hc, hs⟩)
  dsimp only [Pt.U, Pt.locs, Pt.cells, Pt.slots] at X' l1 l2 l3 st hQ
  subst l1 l2 l3
  exact own_to st (k v T' _ Lc X' rfl hQ)
/-- a constructor -/
theorem own_callC (X : Stand p l e R s m args below meth c T locs cells slots) (hx : p.tables.exec = Jvm.exec) (hZ : Z.Warmed39 s.vm) {own : String} (hown : s.vm.findClass own = some m.cls) {index : Nat} {y : MethodName} {bytes : ByteArray} {maxL : Nat} {rm : Room} {W : Nat} {Qc : Option Value → Heap → List Loc → Prop} {a : Addr} {argsL rest : List Value}
    (hy1 : y.name = "<init>") (w1 : (Jvm.Cond.methodLink own index y).before a0 Z = true) (w2 : (Jvm.Cond.instanceMethod y).before a0 Z = true) (w3 : (Jvm.Cond.initialized y.cls).before a0 Z = true) (w4 : (Jvm.Cond.code y bytes maxL none).before a0 Z = true) (hy : y.cls ≠ "java/lang/invoke/MethodHandle" ∧ y.cls ≠ "java/lang/invoke/VarHandle")
    (hM : own_C l Z y bytes maxL none rm (.ref a :: argsL).toArray h Qc) (hf : rm.frames + 1 ≤ R.frames) (hl : W + (maxL + 11) + rm.locals ≤ R.locals) (eT : T.heap = h) (hg : g.method = m) (hsize : g.locals.size = c.maxLocals) (hlen : ∀ sig, parseMethodDescriptor y.desc = some sig → argsL.length = sig.parameters.length)
    (hstack : g.stack = argsL.reverse ++ .ref a :: rest) (hW : 2 * g.monitorRoom + (rest.map fun v => v.category).sum ≤ W) (hd : decode c.code g.pc = .ok (.invokespecial index, 3)) (hc : cells + rm.cells ≤ R.cells) (hs : slots + rm.slots ≤ R.slots)
    (k : ∀ (v : Option Value) (T' : State) (h' : Heap) (L : List Loc), Stand p l e R s m args below meth c T' (locs ++ L) (cells + rm.cells) (slots + rm.slots) → T'.heap = h' → Qc v h' L → own_Out p e below En T' { g with pc := g.pc + 3, stack := v.toList ++ rest } Q kc ks) : own_Out p e below En T g Q kc ks := by
  obtain ⟨v, _, ⟨T', L', k', n'⟩, -, X', ⟨Lc, hQ, l1, l2, l3⟩, st⟩ := X.specialBack hx hy1 hown (mvT hZ w1) (mvT hZ w2) (mvT hZ w4) hy (backOf (W := W) (hM []) hZ w4 w3 hf hl) hg hsize (Steps.refl _) hlen hstack hW hd (fun _ _ => ⟨rfl, eT, hc, hs⟩)
  dsimp only [Pt.U, Pt.locs, Pt.cells, Pt.slots] at X' l1 l2 l3 st hQ
  subst l1 l2 l3
  exact own_to (fun t k => st.trans k) (k v T' _ Lc X' rfl hQ)
/-- an instance method of the object's own class -/
theorem own_callV (X : Stand p l e R s m args below meth c T locs cells slots) (hx : p.tables.exec = Jvm.exec) (hZ : Z.Warmed39 s.vm) {own C : String} (hown : s.vm.findClass own = some m.cls) {index : Nat} {y : MethodName} {bytes : ByteArray} {maxL : Nat} {ret : Option FieldType} {rm : Room} {W : Nat} {Qc : Option Value → Heap → List Loc → Prop} {a : Addr} {argsL rest : List Value}
    (w1 : (Jvm.Cond.methodLink own index y).before a0 Z = true) (w5 : (Jvm.Cond.declares y).before a0 Z = true) (w6 : (Jvm.Cond.selects C y y).before a0 Z = true) (w2 : (Jvm.Cond.instanceMethod y).before a0 Z = true) (w3 : (Jvm.Cond.initialized y.cls).before a0 Z = true) (w4 : (Jvm.Cond.code y bytes maxL ret).before a0 Z = true) (hy : y.cls ≠ "java/lang/invoke/MethodHandle" ∧ y.cls ≠ "java/lang/invoke/VarHandle")
    (hM : own_C l Z y bytes maxL ret rm (.ref a :: argsL).toArray h Qc) (hf : rm.frames + 1 ≤ R.frames) (hl : W + (maxL + 11) + rm.locals ≤ R.locals) (eT : T.heap = h) (E : Exa Z h a C) (hg : g.method = m) (hsize : g.locals.size = c.maxLocals) (hlen : ∀ sig, parseMethodDescriptor y.desc = some sig → argsL.length = sig.parameters.length)
    (hstack : g.stack = argsL.reverse ++ .ref a :: rest) (hW : 2 * g.monitorRoom + (rest.map fun v => v.category).sum ≤ W) (hd : decode c.code g.pc = .ok (.invokevirtual index, 3)) (hc : cells + rm.cells ≤ R.cells) (hs : slots + rm.slots ≤ R.slots)
    (k : ∀ (v : Option Value) (T' : State) (h' : Heap) (L : List Loc), Stand p l e R s m args below meth c T' (locs ++ L) (cells + rm.cells) (slots + rm.slots) → T'.heap = h' → Qc v h' L → own_Out p e below En T' { g with pc := g.pc + 3, stack := v.toList ++ rest } Q kc ks) : own_Out p e below En T g Q kc ks := by
  obtain ⟨cq, kq, qa, qb, qc⟩ := isOf hZ eT E
  obtain ⟨v, _, ⟨T', L', k', n'⟩, -, X', ⟨Lc, hQ, l1, l2, l3⟩, st⟩ := X.virtualBack hx hown (mvT hZ w1) (mvT hZ w5) (notFace_of_selects (args := #[]) (mvT hZ w6)) (mvT hZ w6) (mvT hZ w2) hy (backOf (W := W) (hM []) hZ w4 w3 hf hl) qa qc hg hsize (Steps.refl _) hlen hstack hW hd (fun _ _ => ⟨rfl, eT, hc, hs⟩)
  dsimp only [Pt.U, Pt.locs, Pt.cells, Pt.slots] at X' l1 l2 l3 st hQ
  subst l1 l2 l3
  exact own_to (fun t k => st.trans k) (k v T' _ Lc X' rfl hQ)
/-- a private method of the object's own class, by invokevirtual -/
theorem own_callP (X : Stand p l e R s m args below meth c T locs cells slots) (hx : p.tables.exec = Jvm.exec) (hZ : Z.Warmed39 s.vm) {own C : String} (hown : s.vm.findClass own = some m.cls) {index kk : Nat} {y : MethodName} {bytes : ByteArray} {maxL : Nat} {ret : Option FieldType} {rm : Room} {W : Nat} {Qc : Option Value → Heap → List Loc → Prop} {a : Addr} {argsL rest : List Value}
    (w1 : (Jvm.Cond.methodLink own index y).before a0 Z = true) (w5 : (Jvm.Cond.privateMethod y).before a0 Z = true) (w6 : (Jvm.Cond.instantiable y.cls kk).before a0 Z = true) (w2 : (Jvm.Cond.instanceMethod y).before a0 Z = true) (w3 : (Jvm.Cond.initialized y.cls).before a0 Z = true) (w4 : (Jvm.Cond.code y bytes maxL ret).before a0 Z = true) (hy : y.cls ≠ "java/lang/invoke/MethodHandle" ∧ y.cls ≠ "java/lang/invoke/VarHandle")
    (hM : own_C l Z y bytes maxL ret rm (.ref a :: argsL).toArray h Qc) (hf : rm.frames + 1 ≤ R.frames) (hl : W + (maxL + 11) + rm.locals ≤ R.locals) (eT : T.heap = h) (E : Exa Z h a C) (hg : g.method = m) (hsize : g.locals.size = c.maxLocals) (hlen : ∀ sig, parseMethodDescriptor y.desc = some sig → argsL.length = sig.parameters.length)
    (hstack : g.stack = argsL.reverse ++ .ref a :: rest) (hW : 2 * g.monitorRoom + (rest.map fun v => v.category).sum ≤ W) (hd : decode c.code g.pc = .ok (.invokevirtual index, 3)) (hc : cells + rm.cells ≤ R.cells) (hs : slots + rm.slots ≤ R.slots)
    (k : ∀ (v : Option Value) (T' : State) (h' : Heap) (L : List Loc), Stand p l e R s m args below meth c T' (locs ++ L) (cells + rm.cells) (slots + rm.slots) → T'.heap = h' → Qc v h' L → own_Out p e below En T' { g with pc := g.pc + 3, stack := v.toList ++ rest } Q kc ks) : own_Out p e below En T g Q kc ks := by
  obtain ⟨cq, q, q'⟩ := E.cell
  have hp : s.PrivateAt y := Cond.privateMethod_at (mvP hZ w5 (args := #[]))
  obtain ⟨cy, ky, f1, f2, -, f3, -⟩ := Cond.instantiable_spec (mvT (args := args) hZ w6)
  have hi : ky.isInterface = false := (Bool.or_eq_false_iff.mp f3).1
  have hse : (Jvm.Cond.selects y.cls y y).before args s = true := selects_self_of_private f1 f2 hi hp (mvT hZ w2) hy
  obtain ⟨v, _, ⟨T', L', k', n'⟩, -, X', ⟨Lc, hQ, l1, l2, l3⟩, st⟩ := X.privateBack hx hown (mvT hZ w1) (mvT hZ w2) hse hp (mvT hZ w4) hy (backOf (W := W) (hM []) hZ w4 w3 hf hl) hg hsize (Steps.refl _) (by rw [eT]; exact q) q' hlen hstack hW hd (fun _ _ => ⟨rfl, eT, hc, hs⟩)
  dsimp only [Pt.U, Pt.locs, Pt.cells, Pt.slots] at X' l1 l2 l3 st hQ
  subst l1 l2 l3
  exact own_to (fun t k => st.trans k) (k v T' _ Lc X' rfl hQ)
/-! the heap's steps -/
theorem own_getF (X : Stand p l e R s m args below meth c T locs cells slots) (hx : p.tables.exec = Jvm.exec) (hZ : Z.Warmed39 s.vm) {own O n d : String} {index : Nat} (hown : s.vm.findClass own = some m.cls) (w : (Jvm.Cond.fieldLink own index O n d).before a0 Z = true) (eT : T.heap = h) {a : Addr} {v : Value} (F : Fld Z h a O n d v)
    (hg : g.method = m) {rest : List Value} (hs : g.stack = .ref a :: rest) (hd : decode c.code g.pc = .ok (.getfield index, 3)) (k : ∀ T', Stand p l e R s m args below meth c T' locs cells slots → T'.heap = h → own_Out p e below En T' { g with pc := g.pc + 3, stack := v :: rest } Q kc ks) : own_Out p e below En T g Q kc ks := by
  obtain ⟨T', X', e', st⟩ := getF X hx hZ hown (host := "") (Or.inl w) Via.refl eT F hg hs hd
  exact own_to st (k T' X' e')
theorem own_putF (X : Stand p l e R s m args below meth c T locs cells slots) (hx : p.tables.exec = Jvm.exec) (hZ : Z.Warmed39 s.vm) {own O n d C : String} {index kk : Nat} {ty : FieldType} (hown : s.vm.findClass own = some m.cls) (w : (Jvm.Cond.fieldLink own index O n d).before a0 Z = true) (eT : T.heap = h) {a : Addr} {v old : Value} (F : Fld Z h a O n d old) (E : Exa Z h a C)
    (L : (Jvm.Cond.lays C O n d).before a0 Z = true ∨ ((Jvm.Cond.laysFinal C O n d).before a0 Z = true ∧ own = O ∧ meth.name = "<init>")) (wi : (Jvm.Cond.instantiable C kk).before a0 Z = true) (hty : parseFieldDescriptor d = some ty) (hn : narrow ty v = v) (hf : fits ty v = true)
    (hg : g.method = m) {rest : List Value} (hs : g.stack = v :: .ref a :: rest) (hd : decode c.code g.pc = .ok (.putfield index, 3)) (k : ∀ T' h', Stand p l e R s m args below meth c T' (locs ++ [⟨a, Jvm.RoadKit.slotOf Z O n d⟩]) cells slots → T'.heap = h' → Wr h h' a (Jvm.RoadKit.slotOf Z O n d) v → own_Out p e below En T' { g with pc := g.pc + 3, stack := rest } Q kc ks) : own_Out p e below En T g Q kc ks := by
  obtain ⟨T', h', X', e', W', st⟩ := putF X hx hZ hown (host := "") (Or.inl w) Via.refl eT F E L wi hty hn hf hg hs hd
  exact own_to st (k T' h' X' e' W')
theorem own_new (X : Stand p l e R s m args below meth c T locs cells slots) (hx : p.tables.exec = Jvm.exec) (hZ : Z.Warmed39 s.vm) {own C : String} {index n : Nat} (hown : s.vm.findClass own = some m.cls) (w : (Jvm.Cond.classLink own index C).before a0 Z = true) (wi : (Jvm.Cond.instantiable C n).before a0 Z = true) (wz : (Jvm.Cond.initialized C).before a0 Z = true) (eT : T.heap = h)
    (hg : g.method = m) (hd : decode c.code g.pc = .ok (.new index, 3)) (hc : cells + 1 ≤ R.cells) (hl : slots + n ≤ R.slots)
    (k : ∀ T' h' a, a = h.size → Stand p l e R s m args below meth c T' locs (cells + 1) (slots + n) → T'.heap = h' → Ext h h' → Exa Z h' a C → (∀ {O nm d : String} {ty : FieldType}, Laid Z a0 C O nm d → parseFieldDescriptor d = some ty → Fld Z h' a O nm d (defaultValue ty)) → own_Out p e below En T' { g with pc := g.pc + 3, stack := .ref a :: g.stack } Q kc ks) : own_Out p e below En T g Q kc ks := by
  obtain ⟨T', h', X', e', E', A', D', -, st⟩ := newO X hx hZ hown w wi wz eT hg hd hc hl
  exact own_to st (k T' h' _ rfl X' e' E' A' D')
/-! arrays of ints, bytes, booleans: how many places, and what each holds -/
def own_upd (f : Nat → Int32) (j : Nat) (x : Int32) : Nat → Int32 := fun i => if i = j then x else f i
def own_A (Z : State) (h : Heap) (a : Addr) (ty : FieldType) (n : Nat) (f : Nat → Int32) : Prop := ∃ cl : Cell, Arr Z h a cl ty ∧ cl.slots.size = n ∧ ∀ j, j < n → cl.slots[j]? = some (.int (f j))
variable {a b : Addr} {ty : FieldType} {n : Nat} {f : Nat → Int32} {ws : List Addr} {v : Value} {sl : Nat}
theorem own_A.lt (F : own_A Z h a ty n f) : a < h.size := by obtain ⟨_, A, -⟩ := F; exact A.lt
theorem own_A.ext (F : own_A Z h a ty n f) (E : Ext h h') : own_A Z h' a ty n f := by obtain ⟨cl, A, r⟩ := F; exact ⟨cl, A.ext E, r⟩
theorem own_A.other (F : own_A Z h b ty n f) (W : Wr h h' a sl v) (q : b ≠ a) : own_A Z h' b ty n f := by obtain ⟨cl, A, r⟩ := F; exact ⟨cl, A.other W q, r⟩
theorem own_A.keep (F : own_A Z h a ty n f) (K : Keep h h' ws) (q : a ∉ ws) : own_A Z h' a ty n f := by obtain ⟨cl, A, r⟩ := F; exact ⟨cl, ⟨K.2.1 a cl A.1 q, A.2⟩, r⟩
theorem own_A.congr {f' : Nat → Int32} (F : own_A Z h a ty n f) (q : ∀ j, j < n → f j = f' j) : own_A Z h a ty n f' := by obtain ⟨cl, A, r1, r2⟩ := F; exact ⟨cl, A, r1, fun j hj => by rw [r2 j hj, q j hj]⟩
theorem own_A.set {cl : Cell} {j : Nat} {x : Int32} (A : Arr Z h a cl ty) (q1 : cl.slots.size = n) (q2 : ∀ j, j < n → cl.slots[j]? = some (.int (f j))) (W : Wr h h' a j (.int x)) (hj : j < n) : own_A Z h' a ty n (own_upd f j x) := by
  refine ⟨_, A.same W, by rw [sz_set, q1], fun i hi => ?_⟩
  simp only [Cell.setSlot, Array.getElem?_setIfInBounds, own_upd]
  by_cases e : j = i
  · subst e
    simp [q1, hj]
  · rw [if_neg e, q2 i hi, if_neg (fun q => e q.symm)]
theorem own_in {j : Int32} {N : Nat} (h0 : ¬ j < 0) (h1 : j.toNatClampNeg < N) : ¬ (j < 0 ∨ N ≤ j.toNatClampNeg) := fun q => q.elim h0 (fun r => Nat.not_lt.mpr r h1)
theorem own_stI (X : Stand p l e R s m args below meth c T locs cells slots) (hx : p.tables.exec = Jvm.exec) (hZ : Z.Warmed39 s.vm) (eT : T.heap = h) (F : own_A Z h a .int n f) {j x : Int32} (h0 : ¬ j < 0) (h1 : j.toNatClampNeg < n) (hg : g.method = m) {rest : List Value} (hs : g.stack = .int x :: .int j :: .ref a :: rest) (hd : decode c.code g.pc = .ok (.iastore, 1))
    (k : ∀ T' h', Stand p l e R s m args below meth c T' (locs ++ [⟨a, j.toNatClampNeg⟩]) cells slots → T'.heap = h' → Wr h h' a j.toNatClampNeg (.int x) → own_A Z h' a .int n (own_upd f j.toNatClampNeg x) → own_Out p e below En T' { g with pc := g.pc + 1, stack := rest } Q kc ks) : own_Out p e below En T g Q kc ks := by
  obtain ⟨cl, A, q1, q2⟩ := F
  obtain ⟨T', h', X', e', W', st⟩ := stI X hx hZ eT A (own_in h0 (by rw [q1]; exact h1)) hg hs hd
  exact own_to st (k T' h' X' e' W' (own_A.set A q1 q2 W' h1))
theorem own_stZ (X : Stand p l e R s m args below meth c T locs cells slots) (hx : p.tables.exec = Jvm.exec) (hZ : Z.Warmed39 s.vm) (eT : T.heap = h) (F : own_A Z h a .boolean n f) {j x : Int32} (h0 : ¬ j < 0) (h1 : j.toNatClampNeg < n) (hg : g.method = m) {rest : List Value} (hs : g.stack = .int x :: .int j :: .ref a :: rest) (hd : decode c.code g.pc = .ok (.bastore, 1))
    (k : ∀ T' h', Stand p l e R s m args below meth c T' (locs ++ [⟨a, j.toNatClampNeg⟩]) cells slots → T'.heap = h' → Wr h h' a j.toNatClampNeg (.int (nar .boolean x)) → own_A Z h' a .boolean n (own_upd f j.toNatClampNeg (nar .boolean x)) → own_Out p e below En T' { g with pc := g.pc + 1, stack := rest } Q kc ks) : own_Out p e below En T g Q kc ks := by
  obtain ⟨cl, A, q1, q2⟩ := F
  obtain ⟨T', h', X', e', W', st⟩ := stZ X hx hZ eT A (own_in h0 (by rw [q1]; exact h1)) hg hs hd
  exact own_to st (k T' h' X' e' W' (own_A.set A q1 q2 W' h1))
theorem own_stB (X : Stand p l e R s m args below meth c T locs cells slots) (hx : p.tables.exec = Jvm.exec) (hZ : Z.Warmed39 s.vm) (eT : T.heap = h) (F : own_A Z h a .byte n f) {j x : Int32} (h0 : ¬ j < 0) (h1 : j.toNatClampNeg < n) (hg : g.method = m) {rest : List Value} (hs : g.stack = .int x :: .int j :: .ref a :: rest) (hd : decode c.code g.pc = .ok (.bastore, 1))
    (k : ∀ T' h', Stand p l e R s m args below meth c T' (locs ++ [⟨a, j.toNatClampNeg⟩]) cells slots → T'.heap = h' → Wr h h' a j.toNatClampNeg (.int (nar .byte x)) → own_A Z h' a .byte n (own_upd f j.toNatClampNeg (nar .byte x)) → own_Out p e below En T' { g with pc := g.pc + 1, stack := rest } Q kc ks) : own_Out p e below En T g Q kc ks := by
  obtain ⟨cl, A, q1, q2⟩ := F
  obtain ⟨T', h', X', e', W', st⟩ := stB X hx hZ eT A (own_in h0 (by rw [q1]; exact h1)) hg hs hd
  exact own_to st (k T' h' X' e' W' (own_A.set A q1 q2 W' h1))
theorem own_newA (X : Stand p l e R s m args below meth c T locs cells slots) (hx : p.tables.exec = Jvm.exec) (hZ : Z.Warmed39 s.vm) {aty : ArrayType} (w : (Jvm.Cond.arrayClass (newarray.typeOf aty)).before a0 Z = true) (hdef : defaultValue (newarray.typeOf aty) = .int 0) (eT : T.heap = h) (hg : g.method = m) (hd : decode c.code g.pc = .ok (.newarray aty, 2)) {N : Int32} {rest : List Value} (hs : g.stack = .int N :: rest)
    (hn : ¬ N < 0) {cap : Nat} (hcap : N.toNatClampNeg ≤ cap) (hb : cap * 8 ≤ 536870912) (hc : cells + 1 ≤ R.cells) (hl : slots + cap ≤ R.slots)
    (k : ∀ T' h' a, a = h.size → Stand p l e R s m args below meth c T' locs (cells + 1) (slots + cap) → T'.heap = h' → Ext h h' → own_A Z h' a (newarray.typeOf aty) N.toNatClampNeg (fun _ => 0) → own_Out p e below En T' { g with pc := g.pc + 2, stack := .ref a :: rest } Q kc ks) : own_Out p e below En T g Q kc ks := by
  obtain ⟨T', h', cA, X', e', E', A', st⟩ := newP X hx hZ w eT hg hd hs hn hcap hb hc hl
  refine own_to st (k T' h' _ rfl X' e' E' ⟨_, A', sz_new _ _ _, fun j hj => ?_⟩)
  simp [newA, hdef, hj]
theorem own_len (X : Stand p l e R s m args below meth c T locs cells slots) (hx : p.tables.exec = Jvm.exec) (hZ : Z.Warmed39 s.vm) (eT : T.heap = h) (F : own_A Z h a ty n f) (hg : g.method = m) {rest : List Value} (hs : g.stack = .ref a :: rest) (hd : decode c.code g.pc = .ok (.arraylength, 1))
    (k : own_Out p e below En T { g with pc := g.pc + 1, stack := .int n.toInt32 :: rest } Q kc ks) : own_Out p e below En T g Q kc ks := by
  obtain ⟨cl, A, q1, q2⟩ := F
  subst q1
  exact own_to (X.arraylength hx (by rw [eT]; exact A.1) (State.isArrayOf_alike hZ.alike A.2.1) hg hs hd) k
theorem own_ldI (X : Stand p l e R s m args below meth c T locs cells slots) (hx : p.tables.exec = Jvm.exec) (hZ : Z.Warmed39 s.vm) (eT : T.heap = h) (F : own_A Z h a .int n f) {j : Int32} (h0 : ¬ j < 0) (h1 : j.toNatClampNeg < n) (hg : g.method = m) {rest : List Value} (hs : g.stack = .int j :: .ref a :: rest) (hd : decode c.code g.pc = .ok (.iaload, 1))
    (k : ∀ w : Int32, w = f j.toNatClampNeg → own_Out p e below En T { g with pc := g.pc + 1, stack := .int w :: rest } Q kc ks) : own_Out p e below En T g Q kc ks := by
  obtain ⟨cl, A, q1, q2⟩ := F
  exact own_to (X.iaload hx (by rw [eT]; exact A.1) (State.isArrayOf_alike hZ.alike A.2.1) A.2.2 (own_in h0 (by rw [q1]; exact h1)) (q2 _ h1) hg hs hd) (k _ rfl)
theorem own_ldZ (X : Stand p l e R s m args below meth c T locs cells slots) (hx : p.tables.exec = Jvm.exec) (hZ : Z.Warmed39 s.vm) (eT : T.heap = h) (F : own_A Z h a .boolean n f) {j : Int32} (h0 : ¬ j < 0) (h1 : j.toNatClampNeg < n) (hg : g.method = m) {rest : List Value} (hs : g.stack = .int j :: .ref a :: rest) (hd : decode c.code g.pc = .ok (.baload, 1))
    (k : ∀ w : Int32, w = f j.toNatClampNeg → own_Out p e below En T { g with pc := g.pc + 1, stack := .int w :: rest } Q kc ks) : own_Out p e below En T g Q kc ks := by
  obtain ⟨cl, A, q1, q2⟩ := F
  exact own_to (X.baloadBooleans hx (by rw [eT]; exact A.1) (State.isArrayOf_alike hZ.alike A.2.1) A.2.2 (own_in h0 (by rw [q1]; exact h1)) (q2 _ h1) hg hs hd) (k _ rfl)
theorem own_ldB (X : Stand p l e R s m args below meth c T locs cells slots) (hx : p.tables.exec = Jvm.exec) (hZ : Z.Warmed39 s.vm) (eT : T.heap = h) (F : own_A Z h a .byte n f) {j : Int32} (h0 : ¬ j < 0) (h1 : j.toNatClampNeg < n) (hg : g.method = m) {rest : List Value} (hs : g.stack = .int j :: .ref a :: rest) (hd : decode c.code g.pc = .ok (.baload, 1))
    (k : ∀ w : Int32, w = f j.toNatClampNeg → own_Out p e below En T { g with pc := g.pc + 1, stack := .int w :: rest } Q kc ks) : own_Out p e below En T g Q kc ks := by
  obtain ⟨cl, A, q1, q2⟩ := F
  exact own_to (X.baloadBytes hx (by rw [eT]; exact A.1) (State.isArrayOf_alike hZ.alike A.2.1) A.2.2 (own_in h0 (by rw [q1]; exact h1)) (q2 _ h1) hg hs hd) (k _ rfl)
theorem own_idx (x n : Int32) (N : Nat) (hn : n.toInt = (N : Int)) (h0 : 0 < N) : ¬ ((x &&& (2147483647 : Int32)) % n < 0) ∧ ((x &&& (2147483647 : Int32)) % n).toNatClampNeg < N := by
  have h1 := c_mask x 2147483647 31 (by decide) (by decide)
  have h2 := c_irem (x &&& 2147483647) n N hn
  have k : (0 : Int32).toInt = 0 := by decide
  have h3 : ¬ ((x &&& (2147483647 : Int32)) % n < 0) := by
    rw [Int32.lt_iff_toInt_lt, k, h2.1 (by omega)]
    have := Int.emod_nonneg (x &&& 2147483647).toInt (show (N : Int) ≠ 0 by omega)
    omega
  have h4 := nat_of h3
  have h5 := Int.emod_lt_of_pos (x &&& 2147483647).toInt (show (0 : Int) < N by omega)
  rw [h2.1 (by omega)] at h4
  exact ⟨h3, by omega⟩
theorem own_fs {k : Nat} {L : List Loc} (N : Fr k L) (q : k ≤ a) : Fr k (L ++ [⟨a, sl⟩]) := N.app fun y hy => by cases List.mem_singleton.mp hy; exact q
end OwnKit
def own_cur (f : Nat → Int32) (b : Nat) : Nat → Int32
  | 0 => 0
  | k + 1 => own_cur f b k ||| (if f (b + k) = 0 then 0 else (1 : Int32) <<< ((Int32.ofNat k) &&& 31))
def own_sum (f : Nat → Int32) (N : Nat) : Nat → Int32
  | 0 => 0
  | t + 1 => own_sum f N t + own_cur f (8 * t) (min 8 (N - 8 * t))
def own_fu (f : Nat → Int32) (N : Nat) : Int32 := own_sum f N ((N + 7) / 8) &&& (65535 : Int32)
theorem own_of (k : Nat) (h : k < 1000) : (Int32.ofNat k).toInt = k := Int32.toInt_ofNat_of_lt (by omega)
theorem own_tn (k : Nat) (h : k < 1000) : (Nat.toInt32 k).toInt = k := Int32.toInt_ofNat_of_lt (by omega)
theorem own_inc (k : Nat) (h : k < 100) : Int32.ofNat k + (1 : Int32) = Int32.ofNat (k + 1) := by
  apply Int32.toInt_inj.mp
  have h1 := c_iadd (Int32.ofNat k) 1
  have r := rng32 (Int32.ofNat k + 1)
  have k1 : (1 : Int32).toInt = 1 := by decide
  rw [own_of k (by omega), k1] at h1
  rw [own_of (k + 1) (by omega)]
  omega
theorem own_i8 (i : Int32) (t : Nat) (h : i.toInt = 8 * (t : Int)) (ht : t < 10) : (i + (8 : Int32)).toInt = 8 * ((t + 1 : Nat) : Int) := by
  have h1 := c_iadd i 8
  have r := rng32 (i + 8)
  have k1 : (8 : Int32).toInt = 8 := by decide
  omega
theorem own_ij (i : Int32) (t k : Nat) (h : i.toInt = 8 * (t : Int)) (ht : t < 10) (hk : k < 10) : (i + Int32.ofNat k).toInt = 8 * (t : Int) + k := by
  have h1 := c_iadd i (Int32.ofNat k)
  have r := rng32 (i + Int32.ofNat k)
  rw [own_of k (by omega)] at h1
  omega
theorem own_c8 : (8 : Int32).toInt = 8 := by decide
theorem own_c0 : (0 : Int32).toInt = 0 := by decide
theorem own_lt {x y : Int32} : x < y ↔ x.toInt < y.toInt := Int32.lt_iff_toInt_lt
theorem d1_0 : decode prog_26_method_2_code 0 = .ok (.iconst 0, 1) := by decide +kernel
theorem d1_1 : decode prog_26_method_2_code 1 = .ok (.istore_n 1, 1) := by decide +kernel
theorem d1_2 : decode prog_26_method_2_code 2 = .ok (.iconst 0, 1) := by decide +kernel
theorem d1_3 : decode prog_26_method_2_code 3 = .ok (.istore_n 2, 1) := by decide +kernel
theorem d1_4 : decode prog_26_method_2_code 4 = .ok (.iload_n 2, 1) := by decide +kernel
theorem d1_5 : decode prog_26_method_2_code 5 = .ok (.aload_n 0, 1) := by decide +kernel
theorem d1_6 : decode prog_26_method_2_code 6 = .ok (.arraylength, 1) := by decide +kernel
theorem d1_7 : decode prog_26_method_2_code 7 = .ok (.if_icmp .ge 60, 3) := by decide +kernel
theorem d1_10 : decode prog_26_method_2_code 10 = .ok (.iconst 0, 1) := by decide +kernel
theorem d1_11 : decode prog_26_method_2_code 11 = .ok (.istore_n 3, 1) := by decide +kernel
theorem d1_12 : decode prog_26_method_2_code 12 = .ok (.iconst 0, 1) := by decide +kernel
theorem d1_13 : decode prog_26_method_2_code 13 = .ok (.istore 4, 2) := by decide +kernel
theorem d1_15 : decode prog_26_method_2_code 15 = .ok (.iload 4, 2) := by decide +kernel
theorem d1_17 : decode prog_26_method_2_code 17 = .ok (.bipush 8, 2) := by decide +kernel
theorem d1_19 : decode prog_26_method_2_code 19 = .ok (.if_icmp .ge 38, 3) := by decide +kernel
theorem d1_22 : decode prog_26_method_2_code 22 = .ok (.iload_n 2, 1) := by decide +kernel
theorem d1_23 : decode prog_26_method_2_code 23 = .ok (.iload 4, 2) := by decide +kernel
theorem d1_25 : decode prog_26_method_2_code 25 = .ok (.iadd, 1) := by decide +kernel
theorem d1_26 : decode prog_26_method_2_code 26 = .ok (.aload_n 0, 1) := by decide +kernel
theorem d1_27 : decode prog_26_method_2_code 27 = .ok (.arraylength, 1) := by decide +kernel
theorem d1_28 : decode prog_26_method_2_code 28 = .ok (.if_icmp .ge 29, 3) := by decide +kernel
theorem d1_31 : decode prog_26_method_2_code 31 = .ok (.iload_n 3, 1) := by decide +kernel
theorem d1_32 : decode prog_26_method_2_code 32 = .ok (.aload_n 0, 1) := by decide +kernel
theorem d1_33 : decode prog_26_method_2_code 33 = .ok (.iload_n 2, 1) := by decide +kernel
theorem d1_34 : decode prog_26_method_2_code 34 = .ok (.iload 4, 2) := by decide +kernel
theorem d1_36 : decode prog_26_method_2_code 36 = .ok (.iadd, 1) := by decide +kernel
theorem d1_37 : decode prog_26_method_2_code 37 = .ok (.baload, 1) := by decide +kernel
theorem d1_38 : decode prog_26_method_2_code 38 = .ok (.ifCond .eq 10, 3) := by decide +kernel
theorem d1_41 : decode prog_26_method_2_code 41 = .ok (.iconst 1, 1) := by decide +kernel
theorem d1_42 : decode prog_26_method_2_code 42 = .ok (.iload 4, 2) := by decide +kernel
theorem d1_44 : decode prog_26_method_2_code 44 = .ok (.ishl, 1) := by decide +kernel
theorem d1_45 : decode prog_26_method_2_code 45 = .ok (.goto 4, 3) := by decide +kernel
theorem d1_48 : decode prog_26_method_2_code 48 = .ok (.iconst 0, 1) := by decide +kernel
theorem d1_49 : decode prog_26_method_2_code 49 = .ok (.ior, 1) := by decide +kernel
theorem d1_50 : decode prog_26_method_2_code 50 = .ok (.istore_n 3, 1) := by decide +kernel
theorem d1_51 : decode prog_26_method_2_code 51 = .ok (.iinc 4 1, 3) := by decide +kernel
theorem d1_54 : decode prog_26_method_2_code 54 = .ok (.goto (-39), 3) := by decide +kernel
theorem d1_57 : decode prog_26_method_2_code 57 = .ok (.iload_n 1, 1) := by decide +kernel
theorem d1_58 : decode prog_26_method_2_code 58 = .ok (.iload_n 3, 1) := by decide +kernel
theorem d1_59 : decode prog_26_method_2_code 59 = .ok (.iadd, 1) := by decide +kernel
theorem d1_60 : decode prog_26_method_2_code 60 = .ok (.istore_n 1, 1) := by decide +kernel
theorem d1_61 : decode prog_26_method_2_code 61 = .ok (.iinc 2 8, 3) := by decide +kernel
theorem d1_64 : decode prog_26_method_2_code 64 = .ok (.goto (-60), 3) := by decide +kernel
theorem d1_67 : decode prog_26_method_2_code 67 = .ok (.iload_n 1, 1) := by decide +kernel
theorem d1_68 : decode prog_26_method_2_code 68 = .ok (.ldc 7, 2) := by decide +kernel
theorem d1_70 : decode prog_26_method_2_code 70 = .ok (.iand, 1) := by decide +kernel
theorem d1_71 : decode prog_26_method_2_code 71 = .ok (.ireturn, 1) := by decide +kernel
theorem pn_0 : plainName "com/example/mat44/mat44/JedecChecksum" = true := by first | (simp [plainName, overriddenIn]; done) | decide +kernel
theorem ef_1 (m : MethodId) (oa : Addr) : entryFrame m #[(.ref oa)] 5 = mkF m 0 #[.val (.ref oa), .unset, .unset, .unset, .unset] [] := by first | (simp [entryFrame, mkF, argsToLocals, Value.category]; done) | rfl
def Q1 (Z : State) (oa : Addr) (N : Nat) (f : Nat → Int32) (h0 : Heap) (n0 : Nat) (v : Option Value) (h : Heap) (L : List Loc) : Prop := v = some (.int (own_fu f N)) ∧ Fr n0 L ∧ h = h0
set_option maxRecDepth 65536 in
set_option maxHeartbeats 40000000 in
theorem rm1 (l : Launch) (Z : State) (a0 : Array Value) (hw : ∀ d ∈ tables_1, d.before a0 Z = true) (oa : Addr) (N : Nat) (f : Nat → Int32) (h0 : Heap) (n0 : Nat) (Z0 : n0 ≤ h0.size) (A_oa : own_A Z h0 oa .boolean N f) (hN : N ≤ 20) :
    own_C l Z (⟨"com/example/mat44/mat44/JedecChecksum", "fuses", "([Z)I"⟩ : MethodName) prog_26_method_2_code 5 (some .int) ({ frames := 0, cells := 0, slots := 0, locals := 0 } : Room) #[(.ref oa)] h0 (Q1 Z oa N f h0 n0) := by
  refine own_met (plainFor_of_name pn_0) ?_
  intro p e s m below meth c s₁ hx hby hml hret hlk hown hnm hZ X0 e0
  refine own_cast (ef_1 m oa) ?_
  have N0 := Fr.nil n0
  show own_Out p e below _ s₁ (mkF m 0 #[.val (.ref oa), .unset, .unset, .unset, .unset] []) _ _ _
  refine own_to (fun t k => XS.iconst X0.here hx rfl (hb hby d1_0) k) ?_
  show own_Out p e below _ s₁ (mkF m 1 #[.val (.ref oa), .unset, .unset, .unset, .unset] [(.int (0 : Int32))]) _ _ _
  refine own_to (fun t k => XS.istoreN X0.here hx rfl (hb hby d1_1) rfl (l' := #[.val (.ref oa), .val (.int (0 : Int32)), .unset, .unset, .unset]) rfl k) ?_
  show own_Out p e below _ s₁ (mkF m 2 #[.val (.ref oa), .val (.int (0 : Int32)), .unset, .unset, .unset] []) _ _ _
  refine own_to (fun t k => XS.iconst X0.here hx rfl (hb hby d1_2) k) ?_
  show own_Out p e below _ s₁ (mkF m 3 #[.val (.ref oa), .val (.int (0 : Int32)), .unset, .unset, .unset] [(.int (0 : Int32))]) _ _ _
  refine own_to (fun t k => XS.istoreN X0.here hx rfl (hb hby d1_3) rfl (l' := #[.val (.ref oa), .val (.int (0 : Int32)), .val (.int (0 : Int32)), .unset, .unset]) rfl k) ?_
  show own_Out p e below _ s₁ (mkF m 4 #[.val (.ref oa), .val (.int (0 : Int32)), .val (.int (0 : Int32)), .unset, .unset] []) _ _ _
  have J4 : ∀ (fu4 : Nat) (tt : Nat) (sm : Int32) (ii : Int32) (s3 : Slot) (o_s3 : One s3) (s4 : Slot) (o_s4 : One s4) (hi : ii.toInt = 8 * (tt : Int)) (hs : sm = own_sum f N tt) (ht : 8 * tt < N + 8) (hfu : N + 8 - 8 * tt < fu4), own_Out p e below (FrameEnd s) s₁ (mkF m 4 #[.val (.ref oa), .val (.int sm), .val (.int ii), s3, s4] []) (Q1 Z oa N f h0 n0) ({ frames := 0, cells := 0, slots := 0, locals := 0 } : Room).cells ({ frames := 0, cells := 0, slots := 0, locals := 0 } : Room).slots := by
    intro fu4
    induction fu4 with
    | zero => intro tt sm ii s3 o_s3 s4 o_s4 hi hs ht hfu; exact absurd hfu (Nat.not_lt_zero _)
    | succ fu4 ih4 =>
      intro tt sm ii s3 o_s3 s4 o_s4 hi hs ht hfu
      show own_Out p e below _ s₁ (mkF m 4 #[.val (.ref oa), .val (.int sm), .val (.int ii), s3, s4] []) _ _ _
      refine own_to (fun t k => XS.iloadN X0.here hx rfl (hb hby d1_4) rfl k) ?_
      show own_Out p e below _ s₁ (mkF m 5 #[.val (.ref oa), .val (.int sm), .val (.int ii), s3, s4] [(.int ii)]) _ _ _
      refine own_to (fun t k => XS.aloadN X0.here hx rfl (hb hby d1_5) rfl rfl k) ?_
      show own_Out p e below _ s₁ (mkF m 6 #[.val (.ref oa), .val (.int sm), .val (.int ii), s3, s4] [(.ref oa), (.int ii)]) _ _ _
      refine own_len X0 hx hZ e0 A_oa rfl rfl (hb hby d1_6) ?_
      show own_Out p e below _ s₁ (mkF m 7 #[.val (.ref oa), .val (.int sm), .val (.int ii), s3, s4] [(.int (Nat.toInt32 N)), (.int ii)]) _ _ _
      by_cases hc7 : ii < (Nat.toInt32 N)
      · refine own_to (fun t k => XS.icmpNo X0.here hx rfl (hb hby d1_7) rfl (tlt hc7).2.1 k) ?_
        show own_Out p e below _ s₁ (mkF m 10 #[.val (.ref oa), .val (.int sm), .val (.int ii), s3, s4] []) _ _ _
        have hlt : 8 * tt < N := by rw [own_lt, own_tn N (by omega)] at hc7; omega
        refine own_to (fun t k => XS.iconst X0.here hx rfl (hb hby d1_10) k) ?_
        show own_Out p e below _ s₁ (mkF m 11 #[.val (.ref oa), .val (.int sm), .val (.int ii), s3, s4] [(.int (0 : Int32))]) _ _ _
        refine own_to (fun t k => XS.istoreNS X0.here hx rfl (hb hby d1_11) rfl rfl o_s3 k) ?_
        show own_Out p e below _ s₁ (mkF m 12 #[.val (.ref oa), .val (.int sm), .val (.int ii), .val (.int (0 : Int32)), s4] []) _ _ _
        refine own_to (fun t k => XS.iconst X0.here hx rfl (hb hby d1_12) k) ?_
        show own_Out p e below _ s₁ (mkF m 13 #[.val (.ref oa), .val (.int sm), .val (.int ii), .val (.int (0 : Int32)), s4] [(.int (0 : Int32))]) _ _ _
        refine own_to (fun t k => XS.istoreS X0.here hx rfl (hb hby d1_13) rfl rfl o_s4 k) ?_
        show own_Out p e below _ s₁ (mkF m 15 #[.val (.ref oa), .val (.int sm), .val (.int ii), .val (.int (0 : Int32)), .val (.int (0 : Int32))] []) _ _ _
        have J15 : ∀ (fu15 : Nat) (kk : Nat) (cu : Int32) (jj : Int32) (hjj : jj = Int32.ofNat kk) (hcu : cu = own_cur f (8 * tt) kk) (hkk : kk ≤ 8 ∧ 8 * tt + kk ≤ N) (hfu : 9 - kk < fu15), own_Out p e below (FrameEnd s) s₁ (mkF m 15 #[.val (.ref oa), .val (.int sm), .val (.int ii), .val (.int cu), .val (.int jj)] []) (Q1 Z oa N f h0 n0) ({ frames := 0, cells := 0, slots := 0, locals := 0 } : Room).cells ({ frames := 0, cells := 0, slots := 0, locals := 0 } : Room).slots := by
          intro fu15
          induction fu15 with
          | zero => intro kk cu jj hjj hcu hkk hfu; exact absurd hfu (Nat.not_lt_zero _)
          | succ fu15 ih15 =>
            intro kk cu jj hjj hcu hkk hfu
            show own_Out p e below _ s₁ (mkF m 15 #[.val (.ref oa), .val (.int sm), .val (.int ii), .val (.int cu), .val (.int jj)] []) _ _ _
            refine own_to (fun t k => XS.iload X0.here hx rfl (hb hby d1_15) rfl k) ?_
            show own_Out p e below _ s₁ (mkF m 17 #[.val (.ref oa), .val (.int sm), .val (.int ii), .val (.int cu), .val (.int jj)] [(.int jj)]) _ _ _
            refine own_to (fun t k => XS.bipush X0.here hx rfl (hb hby d1_17) k) ?_
            show own_Out p e below _ s₁ (mkF m 19 #[.val (.ref oa), .val (.int sm), .val (.int ii), .val (.int cu), .val (.int jj)] [(.int (8 : Int32)), (.int jj)]) _ _ _
            by_cases hc19 : jj < (8 : Int32)
            · refine own_to (fun t k => XS.icmpNo X0.here hx rfl (hb hby d1_19) rfl (tlt hc19).2.1 k) ?_
              show own_Out p e below _ s₁ (mkF m 22 #[.val (.ref oa), .val (.int sm), .val (.int ii), .val (.int cu), .val (.int jj)] []) _ _ _
              have hk8 : kk < 8 := by rw [own_lt, hjj, own_of kk (by omega)] at hc19; have k8 := own_c8; omega
              refine own_to (fun t k => XS.iloadN X0.here hx rfl (hb hby d1_22) rfl k) ?_
              show own_Out p e below _ s₁ (mkF m 23 #[.val (.ref oa), .val (.int sm), .val (.int ii), .val (.int cu), .val (.int jj)] [(.int ii)]) _ _ _
              refine own_to (fun t k => XS.iload X0.here hx rfl (hb hby d1_23) rfl k) ?_
              show own_Out p e below _ s₁ (mkF m 25 #[.val (.ref oa), .val (.int sm), .val (.int ii), .val (.int cu), .val (.int jj)] [(.int jj), (.int ii)]) _ _ _
              refine own_to (fun t k => XS.iadd X0.here hx rfl (hb hby d1_25) rfl k) ?_
              show own_Out p e below _ s₁ (mkF m 26 #[.val (.ref oa), .val (.int sm), .val (.int ii), .val (.int cu), .val (.int jj)] [(.int (ii + jj))]) _ _ _
              refine own_to (fun t k => XS.aloadN X0.here hx rfl (hb hby d1_26) rfl rfl k) ?_
              show own_Out p e below _ s₁ (mkF m 27 #[.val (.ref oa), .val (.int sm), .val (.int ii), .val (.int cu), .val (.int jj)] [(.ref oa), (.int (ii + jj))]) _ _ _
              refine own_len X0 hx hZ e0 A_oa rfl rfl (hb hby d1_27) ?_
              show own_Out p e below _ s₁ (mkF m 28 #[.val (.ref oa), .val (.int sm), .val (.int ii), .val (.int cu), .val (.int jj)] [(.int (Nat.toInt32 N)), (.int (ii + jj))]) _ _ _
              by_cases hc28 : (ii + jj) < (Nat.toInt32 N)
              · refine own_to (fun t k => XS.icmpNo X0.here hx rfl (hb hby d1_28) rfl (tlt hc28).2.1 k) ?_
                show own_Out p e below _ s₁ (mkF m 31 #[.val (.ref oa), .val (.int sm), .val (.int ii), .val (.int cu), .val (.int jj)] []) _ _ _
                have hij := own_ij ii tt kk hi (by omega) (by omega)
                have hkn : 8 * tt + kk < N := by rw [own_lt, hjj, hij, own_tn N (by omega)] at hc28; omega
                have hix : (ii + jj).toNatClampNeg = 8 * tt + kk := by rw [hjj]; show (ii + Int32.ofNat kk).toInt.toNat = _; omega
                refine own_to (fun t k => XS.iloadN X0.here hx rfl (hb hby d1_31) rfl k) ?_
                show own_Out p e below _ s₁ (mkF m 32 #[.val (.ref oa), .val (.int sm), .val (.int ii), .val (.int cu), .val (.int jj)] [(.int cu)]) _ _ _
                refine own_to (fun t k => XS.aloadN X0.here hx rfl (hb hby d1_32) rfl rfl k) ?_
                show own_Out p e below _ s₁ (mkF m 33 #[.val (.ref oa), .val (.int sm), .val (.int ii), .val (.int cu), .val (.int jj)] [(.ref oa), (.int cu)]) _ _ _
                refine own_to (fun t k => XS.iloadN X0.here hx rfl (hb hby d1_33) rfl k) ?_
                show own_Out p e below _ s₁ (mkF m 34 #[.val (.ref oa), .val (.int sm), .val (.int ii), .val (.int cu), .val (.int jj)] [(.int ii), (.ref oa), (.int cu)]) _ _ _
                refine own_to (fun t k => XS.iload X0.here hx rfl (hb hby d1_34) rfl k) ?_
                show own_Out p e below _ s₁ (mkF m 36 #[.val (.ref oa), .val (.int sm), .val (.int ii), .val (.int cu), .val (.int jj)] [(.int jj), (.int ii), (.ref oa), (.int cu)]) _ _ _
                refine own_to (fun t k => XS.iadd X0.here hx rfl (hb hby d1_36) rfl k) ?_
                show own_Out p e below _ s₁ (mkF m 37 #[.val (.ref oa), .val (.int sm), .val (.int ii), .val (.int cu), .val (.int jj)] [(.int (ii + jj)), (.ref oa), (.int cu)]) _ _ _
                refine own_ldZ X0 hx hZ e0 A_oa (by rw [own_lt, hjj, hij]; have k0 := own_c0; omega) (by rw [hix]; exact hkn) rfl rfl (hb hby d1_37) fun w1 hw1 => ?_
                show own_Out p e below _ s₁ (mkF m 38 #[.val (.ref oa), .val (.int sm), .val (.int ii), .val (.int cu), .val (.int jj)] [(.int w1), (.int cu)]) _ _ _
                by_cases hc38 : w1 = (0 : Int32)
                · refine own_to (fun t k => XS.ifYes X0.here hx rfl (pc0 := 38) (pc' := 48) rfl (hb hby d1_38) rfl ((if0 _ _).trans (teq hc38).1) (by decide) (by decide) k) ?_
                  show own_Out p e below _ s₁ (mkF m 48 #[.val (.ref oa), .val (.int sm), .val (.int ii), .val (.int cu), .val (.int jj)] [(.int cu)]) _ _ _
                  refine own_to (fun t k => XS.iconst X0.here hx rfl (hb hby d1_48) k) ?_
                  show own_Out p e below _ s₁ (mkF m 49 #[.val (.ref oa), .val (.int sm), .val (.int ii), .val (.int cu), .val (.int jj)] [(.int (0 : Int32)), (.int cu)]) _ _ _
                  refine own_to (fun t k => XS.ior X0.here hx rfl (hb hby d1_49) rfl k) ?_
                  show own_Out p e below _ s₁ (mkF m 50 #[.val (.ref oa), .val (.int sm), .val (.int ii), .val (.int cu), .val (.int jj)] [(.int (cu ||| (0 : Int32)))]) _ _ _
                  refine own_to (fun t k => XS.istoreN X0.here hx rfl (hb hby d1_50) rfl (l' := #[.val (.ref oa), .val (.int sm), .val (.int ii), .val (.int (cu ||| (0 : Int32))), .val (.int jj)]) rfl k) ?_
                  show own_Out p e below _ s₁ (mkF m 51 #[.val (.ref oa), .val (.int sm), .val (.int ii), .val (.int (cu ||| (0 : Int32))), .val (.int jj)] []) _ _ _
                  refine own_to (fun t k => XS.iinc X0.here hx rfl (hb hby d1_51) rfl (l' := #[.val (.ref oa), .val (.int sm), .val (.int ii), .val (.int (cu ||| (0 : Int32))), .val (.int (jj + (1 : Int32)))]) rfl k) ?_
                  show own_Out p e below _ s₁ (mkF m 54 #[.val (.ref oa), .val (.int sm), .val (.int ii), .val (.int (cu ||| (0 : Int32))), .val (.int (jj + (1 : Int32)))] []) _ _ _
                  refine own_to (fun t k => XS.goto X0.here hx rfl (pc0 := 54) (pc' := 15) rfl (hb hby d1_54) (by decide) (by decide) k) ?_
                  exact ih15 (kk + 1) (cu ||| (0 : Int32)) (jj + (1 : Int32)) (by rw [hjj]; exact own_inc kk (by omega)) (by rw [own_cur, ← hcu, if_pos (hix ▸ hw1.symm.trans hc38)]) (by omega) (by omega)
                · refine own_to (fun t k => XS.ifNo X0.here hx rfl (hb hby d1_38) rfl ((if0 _ _).trans (feq hc38).1) k) ?_
                  show own_Out p e below _ s₁ (mkF m 41 #[.val (.ref oa), .val (.int sm), .val (.int ii), .val (.int cu), .val (.int jj)] [(.int cu)]) _ _ _
                  refine own_to (fun t k => XS.iconst X0.here hx rfl (hb hby d1_41) k) ?_
                  show own_Out p e below _ s₁ (mkF m 42 #[.val (.ref oa), .val (.int sm), .val (.int ii), .val (.int cu), .val (.int jj)] [(.int (1 : Int32)), (.int cu)]) _ _ _
                  refine own_to (fun t k => XS.iload X0.here hx rfl (hb hby d1_42) rfl k) ?_
                  show own_Out p e below _ s₁ (mkF m 44 #[.val (.ref oa), .val (.int sm), .val (.int ii), .val (.int cu), .val (.int jj)] [(.int jj), (.int (1 : Int32)), (.int cu)]) _ _ _
                  refine own_to (fun t k => XS.ishl X0.here hx rfl (hb hby d1_44) rfl k) ?_
                  show own_Out p e below _ s₁ (mkF m 45 #[.val (.ref oa), .val (.int sm), .val (.int ii), .val (.int cu), .val (.int jj)] [(.int ((1 : Int32) <<< (jj &&& 31))), (.int cu)]) _ _ _
                  refine own_to (fun t k => XS.goto X0.here hx rfl (pc0 := 45) (pc' := 49) rfl (hb hby d1_45) (by decide) (by decide) k) ?_
                  show own_Out p e below _ s₁ (mkF m 49 #[.val (.ref oa), .val (.int sm), .val (.int ii), .val (.int cu), .val (.int jj)] [(.int ((1 : Int32) <<< (jj &&& 31))), (.int cu)]) _ _ _
                  refine own_to (fun t k => XS.ior X0.here hx rfl (hb hby d1_49) rfl k) ?_
                  show own_Out p e below _ s₁ (mkF m 50 #[.val (.ref oa), .val (.int sm), .val (.int ii), .val (.int cu), .val (.int jj)] [(.int (cu ||| ((1 : Int32) <<< (jj &&& 31))))]) _ _ _
                  refine own_to (fun t k => XS.istoreN X0.here hx rfl (hb hby d1_50) rfl (l' := #[.val (.ref oa), .val (.int sm), .val (.int ii), .val (.int (cu ||| ((1 : Int32) <<< (jj &&& 31)))), .val (.int jj)]) rfl k) ?_
                  show own_Out p e below _ s₁ (mkF m 51 #[.val (.ref oa), .val (.int sm), .val (.int ii), .val (.int (cu ||| ((1 : Int32) <<< (jj &&& 31)))), .val (.int jj)] []) _ _ _
                  refine own_to (fun t k => XS.iinc X0.here hx rfl (hb hby d1_51) rfl (l' := #[.val (.ref oa), .val (.int sm), .val (.int ii), .val (.int (cu ||| ((1 : Int32) <<< (jj &&& 31)))), .val (.int (jj + (1 : Int32)))]) rfl k) ?_
                  show own_Out p e below _ s₁ (mkF m 54 #[.val (.ref oa), .val (.int sm), .val (.int ii), .val (.int (cu ||| ((1 : Int32) <<< (jj &&& 31)))), .val (.int (jj + (1 : Int32)))] []) _ _ _
                  refine own_to (fun t k => XS.goto X0.here hx rfl (pc0 := 54) (pc' := 15) rfl (hb hby d1_54) (by decide) (by decide) k) ?_
                  exact ih15 (kk + 1) (cu ||| ((1 : Int32) <<< (jj &&& 31))) (jj + (1 : Int32)) (by rw [hjj]; exact own_inc kk (by omega)) (by rw [own_cur, ← hcu, if_neg (fun q => hc38 (hw1.trans (hix ▸ q))), ← hjj]) (by omega) (by omega)
              · refine own_to (fun t k => XS.icmpYes X0.here hx rfl (pc0 := 28) (pc' := 57) rfl (hb hby d1_28) rfl (flt hc28).2.1 (by decide) (by decide) k) ?_
                show own_Out p e below _ s₁ (mkF m 57 #[.val (.ref oa), .val (.int sm), .val (.int ii), .val (.int cu), .val (.int jj)] []) _ _ _
                have hmin : kk = min 8 (N - 8 * tt) := by have hij := own_ij ii tt kk hi (by omega) (by omega); rw [own_lt, hjj, hij, own_tn N (by omega)] at hc28; omega
                refine own_to (fun t k => XS.iloadN X0.here hx rfl (hb hby d1_57) rfl k) ?_
                show own_Out p e below _ s₁ (mkF m 58 #[.val (.ref oa), .val (.int sm), .val (.int ii), .val (.int cu), .val (.int jj)] [(.int sm)]) _ _ _
                refine own_to (fun t k => XS.iloadN X0.here hx rfl (hb hby d1_58) rfl k) ?_
                show own_Out p e below _ s₁ (mkF m 59 #[.val (.ref oa), .val (.int sm), .val (.int ii), .val (.int cu), .val (.int jj)] [(.int cu), (.int sm)]) _ _ _
                refine own_to (fun t k => XS.iadd X0.here hx rfl (hb hby d1_59) rfl k) ?_
                show own_Out p e below _ s₁ (mkF m 60 #[.val (.ref oa), .val (.int sm), .val (.int ii), .val (.int cu), .val (.int jj)] [(.int (sm + cu))]) _ _ _
                refine own_to (fun t k => XS.istoreN X0.here hx rfl (hb hby d1_60) rfl (l' := #[.val (.ref oa), .val (.int (sm + cu)), .val (.int ii), .val (.int cu), .val (.int jj)]) rfl k) ?_
                show own_Out p e below _ s₁ (mkF m 61 #[.val (.ref oa), .val (.int (sm + cu)), .val (.int ii), .val (.int cu), .val (.int jj)] []) _ _ _
                refine own_to (fun t k => XS.iinc X0.here hx rfl (hb hby d1_61) rfl (l' := #[.val (.ref oa), .val (.int (sm + cu)), .val (.int (ii + (8 : Int32))), .val (.int cu), .val (.int jj)]) rfl k) ?_
                show own_Out p e below _ s₁ (mkF m 64 #[.val (.ref oa), .val (.int (sm + cu)), .val (.int (ii + (8 : Int32))), .val (.int cu), .val (.int jj)] []) _ _ _
                refine own_to (fun t k => XS.goto X0.here hx rfl (pc0 := 64) (pc' := 4) rfl (hb hby d1_64) (by decide) (by decide) k) ?_
                exact ih4 (tt + 1) (sm + cu) (ii + (8 : Int32)) _ (One.val rfl) _ (One.val rfl) (own_i8 ii tt hi (by omega)) (by rw [own_sum, ← hs, ← hmin, ← hcu]) (by omega) (by omega)
            · refine own_to (fun t k => XS.icmpYes X0.here hx rfl (pc0 := 19) (pc' := 57) rfl (hb hby d1_19) rfl (flt hc19).2.1 (by decide) (by decide) k) ?_
              show own_Out p e below _ s₁ (mkF m 57 #[.val (.ref oa), .val (.int sm), .val (.int ii), .val (.int cu), .val (.int jj)] []) _ _ _
              have hmin : kk = min 8 (N - 8 * tt) := by rw [own_lt, hjj, own_of kk (by omega)] at hc19; have k8 := own_c8; omega
              refine own_to (fun t k => XS.iloadN X0.here hx rfl (hb hby d1_57) rfl k) ?_
              show own_Out p e below _ s₁ (mkF m 58 #[.val (.ref oa), .val (.int sm), .val (.int ii), .val (.int cu), .val (.int jj)] [(.int sm)]) _ _ _
              refine own_to (fun t k => XS.iloadN X0.here hx rfl (hb hby d1_58) rfl k) ?_
              show own_Out p e below _ s₁ (mkF m 59 #[.val (.ref oa), .val (.int sm), .val (.int ii), .val (.int cu), .val (.int jj)] [(.int cu), (.int sm)]) _ _ _
              refine own_to (fun t k => XS.iadd X0.here hx rfl (hb hby d1_59) rfl k) ?_
              show own_Out p e below _ s₁ (mkF m 60 #[.val (.ref oa), .val (.int sm), .val (.int ii), .val (.int cu), .val (.int jj)] [(.int (sm + cu))]) _ _ _
              refine own_to (fun t k => XS.istoreN X0.here hx rfl (hb hby d1_60) rfl (l' := #[.val (.ref oa), .val (.int (sm + cu)), .val (.int ii), .val (.int cu), .val (.int jj)]) rfl k) ?_
              show own_Out p e below _ s₁ (mkF m 61 #[.val (.ref oa), .val (.int (sm + cu)), .val (.int ii), .val (.int cu), .val (.int jj)] []) _ _ _
              refine own_to (fun t k => XS.iinc X0.here hx rfl (hb hby d1_61) rfl (l' := #[.val (.ref oa), .val (.int (sm + cu)), .val (.int (ii + (8 : Int32))), .val (.int cu), .val (.int jj)]) rfl k) ?_
              show own_Out p e below _ s₁ (mkF m 64 #[.val (.ref oa), .val (.int (sm + cu)), .val (.int (ii + (8 : Int32))), .val (.int cu), .val (.int jj)] []) _ _ _
              refine own_to (fun t k => XS.goto X0.here hx rfl (pc0 := 64) (pc' := 4) rfl (hb hby d1_64) (by decide) (by decide) k) ?_
              exact ih4 (tt + 1) (sm + cu) (ii + (8 : Int32)) _ (One.val rfl) _ (One.val rfl) (own_i8 ii tt hi (by omega)) (by rw [own_sum, ← hs, ← hmin, ← hcu]) (by omega) (by omega)
        exact J15 _ 0 (0 : Int32) (0 : Int32) (by decide) rfl (by omega) (Nat.lt_succ_self _)
      · refine own_to (fun t k => XS.icmpYes X0.here hx rfl (pc0 := 7) (pc' := 67) rfl (hb hby d1_7) rfl (flt hc7).2.1 (by decide) (by decide) k) ?_
        show own_Out p e below _ s₁ (mkF m 67 #[.val (.ref oa), .val (.int sm), .val (.int ii), s3, s4] []) _ _ _
        refine own_to (fun t k => XS.iloadN X0.here hx rfl (hb hby d1_67) rfl k) ?_
        show own_Out p e below _ s₁ (mkF m 68 #[.val (.ref oa), .val (.int sm), .val (.int ii), s3, s4] [(.int sm)]) _ _ _
        refine own_to (fun t k => X0.ldcI hx hown (mvT hZ (hw _ (List.mem_of_getElem? (i := 6) rfl))) rfl (hb hby d1_68) k) ?_
        show own_Out p e below _ s₁ (mkF m 70 #[.val (.ref oa), .val (.int sm), .val (.int ii), s3, s4] [(.int (65535 : Int32)), (.int sm)]) _ _ _
        refine own_to (fun t k => XS.iand X0.here hx rfl (hb hby d1_70) rfl k) ?_
        show own_Out p e below _ s₁ (mkF m 71 #[.val (.ref oa), .val (.int sm), .val (.int ii), s3, s4] [(.int (sm &&& (65535 : Int32)))]) _ _ _
        refine own_retI X0 hx hlk hret (hb hby d1_71) (by decide) (by decide) ?_
        rw [e0]
        exact ⟨(by rw [hs, own_fu]; rw [own_lt, own_tn N (by omega)] at hc7; rw [show (N + 7) / 8 = tt by omega]), N0, rfl⟩
  exact J4 _ 0 (0 : Int32) (0 : Int32) _ One.u _ One.u (by decide) rfl (by omega) (Nat.lt_succ_self _)
theorem own_cc0 : (0 : Int32).toInt = 0 := by decide
theorem own_cc1 : (1 : Int32).toInt = 1 := by decide
theorem own_cc2 : (2 : Int32).toInt = 2 := by decide
theorem own_cc3 : (3 : Int32).toInt = 3 := by decide
theorem own_cc4 : (4 : Int32).toInt = 4 := by decide
theorem own_cc5 : (5 : Int32).toInt = 5 := by decide
theorem own_cc6 : (6 : Int32).toInt = 6 := by decide
theorem own_cc7 : (7 : Int32).toInt = 7 := by decide
theorem own_cc8 : (8 : Int32).toInt = 8 := by decide
theorem own_cc9 : (9 : Int32).toInt = 9 := by decide
theorem own_cc10 : (10 : Int32).toInt = 10 := by decide
theorem own_cc11 : (11 : Int32).toInt = 11 := by decide
theorem own_cc12 : (12 : Int32).toInt = 12 := by decide
theorem own_cc13 : (13 : Int32).toInt = 13 := by decide
theorem own_cc14 : (14 : Int32).toInt = 14 := by decide
theorem own_cc15 : (15 : Int32).toInt = 15 := by decide
theorem own_cc16 : (16 : Int32).toInt = 16 := by decide
theorem own_cc17 : (17 : Int32).toInt = 17 := by decide
theorem own_cc18 : (18 : Int32).toInt = 18 := by decide
theorem own_cc19 : (19 : Int32).toInt = 19 := by decide
def own_bt (x : Int32) (i : Nat) : Int32 := if x.toBitVec.getLsbD i then 1 else 0
def own_bts (x : Int32) (k : Nat) : Nat → Int32 := fun i => if i < k then own_bt x i else 0
theorem own_tt {b : Bool} (h : ¬ b = false) : b = true := by cases b <;> simp_all
theorem own_and1 (y : BitVec 32) : (y &&& 1#32 = 0#32) ↔ y.getLsbD 0 = false := by
  constructor
  · intro h
    have q := congrArg (fun z => BitVec.getLsbD z 0) h
    simpa using q
  · intro h
    apply BitVec.eq_of_getLsbD_eq
    intro i hi
    by_cases q : i = 0
    · subst q; rw [BitVec.getLsbD_and, h]; simp
    · rw [BitVec.getLsbD_and, BitVec.getLsbD_one]; simp [q]
theorem own_shk (x : Int32) (k : Nat) (z : Int32) (h : z.toBitVec = x.toBitVec >>> k) : (z &&& (1 : Int32) = (0 : Int32)) ↔ x.toBitVec.getLsbD k = false := by
  have e1 : (1 : Int32).toBitVec = 1#32 := by decide
  have e0 : (0 : Int32).toBitVec = 0#32 := by decide
  rw [← Int32.toBitVec_inj, Int32.toBitVec_and, e1, e0, own_and1, h, BitVec.getLsbD_ushiftRight, Nat.add_zero]
theorem own_e0 (x0 : Int32) : ((x0 &&& (1 : Int32)) = (0 : Int32)) ↔ x0.toBitVec.getLsbD 0 = false := own_shk x0 0 x0 (by simp)
theorem own_e1 (x0 : Int32) : ((((x0.toUInt32 >>> ((1 : Int32) &&& 31).toUInt32).toInt32) &&& (1 : Int32)) = (0 : Int32)) ↔ x0.toBitVec.getLsbD 1 = false := by
  have e : ((1 : Int32) &&& 31).toUInt32 = 1 := by decide
  rw [e]
  exact own_shk x0 1 _ rfl
theorem own_e2 (x0 : Int32) : ((((x0.toUInt32 >>> ((2 : Int32) &&& 31).toUInt32).toInt32) &&& (1 : Int32)) = (0 : Int32)) ↔ x0.toBitVec.getLsbD 2 = false := by
  have e : ((2 : Int32) &&& 31).toUInt32 = 2 := by decide
  rw [e]
  exact own_shk x0 2 _ rfl
theorem own_e3 (x0 : Int32) : ((((x0.toUInt32 >>> ((3 : Int32) &&& 31).toUInt32).toInt32) &&& (1 : Int32)) = (0 : Int32)) ↔ x0.toBitVec.getLsbD 3 = false := by
  have e : ((3 : Int32) &&& 31).toUInt32 = 3 := by decide
  rw [e]
  exact own_shk x0 3 _ rfl
theorem own_e4 (x0 : Int32) : ((((x0.toUInt32 >>> ((4 : Int32) &&& 31).toUInt32).toInt32) &&& (1 : Int32)) = (0 : Int32)) ↔ x0.toBitVec.getLsbD 4 = false := by
  have e : ((4 : Int32) &&& 31).toUInt32 = 4 := by decide
  rw [e]
  exact own_shk x0 4 _ rfl
theorem own_e5 (x0 : Int32) : ((((x0.toUInt32 >>> ((5 : Int32) &&& 31).toUInt32).toInt32) &&& (1 : Int32)) = (0 : Int32)) ↔ x0.toBitVec.getLsbD 5 = false := by
  have e : ((5 : Int32) &&& 31).toUInt32 = 5 := by decide
  rw [e]
  exact own_shk x0 5 _ rfl
theorem own_e6 (x0 : Int32) : ((((x0.toUInt32 >>> ((6 : Int32) &&& 31).toUInt32).toInt32) &&& (1 : Int32)) = (0 : Int32)) ↔ x0.toBitVec.getLsbD 6 = false := by
  have e : ((6 : Int32) &&& 31).toUInt32 = 6 := by decide
  rw [e]
  exact own_shk x0 6 _ rfl
theorem own_e7 (x0 : Int32) : ((((x0.toUInt32 >>> ((7 : Int32) &&& 31).toUInt32).toInt32) &&& (1 : Int32)) = (0 : Int32)) ↔ x0.toBitVec.getLsbD 7 = false := by
  have e : ((7 : Int32) &&& 31).toUInt32 = 7 := by decide
  rw [e]
  exact own_shk x0 7 _ rfl
theorem own_e8 (x0 : Int32) : ((((x0.toUInt32 >>> ((8 : Int32) &&& 31).toUInt32).toInt32) &&& (1 : Int32)) = (0 : Int32)) ↔ x0.toBitVec.getLsbD 8 = false := by
  have e : ((8 : Int32) &&& 31).toUInt32 = 8 := by decide
  rw [e]
  exact own_shk x0 8 _ rfl
theorem own_e9 (x0 : Int32) : ((((x0.toUInt32 >>> ((9 : Int32) &&& 31).toUInt32).toInt32) &&& (1 : Int32)) = (0 : Int32)) ↔ x0.toBitVec.getLsbD 9 = false := by
  have e : ((9 : Int32) &&& 31).toUInt32 = 9 := by decide
  rw [e]
  exact own_shk x0 9 _ rfl
theorem own_e10 (x0 : Int32) : ((((x0.toUInt32 >>> ((10 : Int32) &&& 31).toUInt32).toInt32) &&& (1 : Int32)) = (0 : Int32)) ↔ x0.toBitVec.getLsbD 10 = false := by
  have e : ((10 : Int32) &&& 31).toUInt32 = 10 := by decide
  rw [e]
  exact own_shk x0 10 _ rfl
theorem own_e11 (x0 : Int32) : ((((x0.toUInt32 >>> ((11 : Int32) &&& 31).toUInt32).toInt32) &&& (1 : Int32)) = (0 : Int32)) ↔ x0.toBitVec.getLsbD 11 = false := by
  have e : ((11 : Int32) &&& 31).toUInt32 = 11 := by decide
  rw [e]
  exact own_shk x0 11 _ rfl
theorem own_e12 (x0 : Int32) : ((((x0.toUInt32 >>> ((12 : Int32) &&& 31).toUInt32).toInt32) &&& (1 : Int32)) = (0 : Int32)) ↔ x0.toBitVec.getLsbD 12 = false := by
  have e : ((12 : Int32) &&& 31).toUInt32 = 12 := by decide
  rw [e]
  exact own_shk x0 12 _ rfl
theorem own_e13 (x0 : Int32) : ((((x0.toUInt32 >>> ((13 : Int32) &&& 31).toUInt32).toInt32) &&& (1 : Int32)) = (0 : Int32)) ↔ x0.toBitVec.getLsbD 13 = false := by
  have e : ((13 : Int32) &&& 31).toUInt32 = 13 := by decide
  rw [e]
  exact own_shk x0 13 _ rfl
theorem own_e14 (x0 : Int32) : ((((x0.toUInt32 >>> ((14 : Int32) &&& 31).toUInt32).toInt32) &&& (1 : Int32)) = (0 : Int32)) ↔ x0.toBitVec.getLsbD 14 = false := by
  have e : ((14 : Int32) &&& 31).toUInt32 = 14 := by decide
  rw [e]
  exact own_shk x0 14 _ rfl
theorem own_e15 (x0 : Int32) : ((((x0.toUInt32 >>> ((15 : Int32) &&& 31).toUInt32).toInt32) &&& (1 : Int32)) = (0 : Int32)) ↔ x0.toBitVec.getLsbD 15 = false := by
  have e : ((15 : Int32) &&& 31).toUInt32 = 15 := by decide
  rw [e]
  exact own_shk x0 15 _ rfl
theorem own_e16 (x0 : Int32) : ((((x0.toUInt32 >>> ((16 : Int32) &&& 31).toUInt32).toInt32) &&& (1 : Int32)) = (0 : Int32)) ↔ x0.toBitVec.getLsbD 16 = false := by
  have e : ((16 : Int32) &&& 31).toUInt32 = 16 := by decide
  rw [e]
  exact own_shk x0 16 _ rfl
theorem own_e17 (x0 : Int32) : ((((x0.toUInt32 >>> ((17 : Int32) &&& 31).toUInt32).toInt32) &&& (1 : Int32)) = (0 : Int32)) ↔ x0.toBitVec.getLsbD 17 = false := by
  have e : ((17 : Int32) &&& 31).toUInt32 = 17 := by decide
  rw [e]
  exact own_shk x0 17 _ rfl
theorem own_e18 (x0 : Int32) : ((((x0.toUInt32 >>> ((18 : Int32) &&& 31).toUInt32).toInt32) &&& (1 : Int32)) = (0 : Int32)) ↔ x0.toBitVec.getLsbD 18 = false := by
  have e : ((18 : Int32) &&& 31).toUInt32 = 18 := by decide
  rw [e]
  exact own_shk x0 18 _ rfl
theorem own_e19 (x0 : Int32) : ((((x0.toUInt32 >>> ((19 : Int32) &&& 31).toUInt32).toInt32) &&& (1 : Int32)) = (0 : Int32)) ↔ x0.toBitVec.getLsbD 19 = false := by
  have e : ((19 : Int32) &&& 31).toUInt32 = 19 := by decide
  rw [e]
  exact own_shk x0 19 _ rfl
theorem own_skip (x kn lit : Int32) (k : Nat) (hl : lit.toInt = (k : Int)) (h0 : 0 ≤ kn.toInt) (h : ¬ lit < kn) : ∀ j, j < kn.toNatClampNeg → own_bts x k j = own_bts x (k + 1) j := fun j hj => by
  have hj' : j < kn.toInt.toNat := hj
  rw [own_lt] at h
  unfold own_bts
  rw [if_pos (by omega), if_pos (by omega)]
theorem own_put1 (x lit : Int32) (k : Nat) (hl : lit.toNatClampNeg = k) (hb : x.toBitVec.getLsbD k = true) : ∀ j, own_upd (own_bts x k) (lit.toNatClampNeg) (nar .boolean (1 : Int32)) j = own_bts x (k + 1) j := fun j => by
  rw [hl]
  unfold own_upd own_bts
  by_cases q : j = k
  · subst q
    rw [if_pos rfl, if_pos (by omega), own_bt, if_pos hb]
    decide
  · rw [if_neg q]
    by_cases r : j < k
    · rw [if_pos r, if_pos (by omega)]
    · rw [if_neg r, if_neg (by omega)]
theorem own_put0 (x lit : Int32) (k : Nat) (hl : lit.toNatClampNeg = k) (hb : x.toBitVec.getLsbD k = false) : ∀ j, own_upd (own_bts x k) (lit.toNatClampNeg) (nar .boolean (0 : Int32)) j = own_bts x (k + 1) j := fun j => by
  rw [hl]
  unfold own_upd own_bts
  by_cases q : j = k
  · subst q
    rw [if_pos rfl, if_pos (by omega), own_bt, if_neg (by rw [hb]; decide)]
    decide
  · rw [if_neg q]
    by_cases r : j < k
    · rw [if_pos r, if_pos (by omega)]
    · rw [if_neg r, if_neg (by omega)]
theorem own_ge {x : Int32} (h : 0 ≤ x.toInt) : ¬ x < 0 := by
  have k : (0 : Int32).toInt = 0 := by decide
  rw [own_lt]; omega
theorem own_n (x : Int32) : 0 ≤ ((x &&& (2147483647 : Int32)) % (21 : Int32)).toInt ∧ ((x &&& (2147483647 : Int32)) % (21 : Int32)).toInt ≤ 20 := by
  have h1 := c_mask x 2147483647 31 (by decide) (by decide)
  have h2 := (c_irem (x &&& 2147483647) 21 21 (by decide)).1 (by omega)
  omega
theorem own_nth (k : Nat) (h : k < 8) : ∀ i, i < 32 → ((1 : Int32) <<< ((Int32.ofNat k) &&& 31)).toBitVec.getLsbD i = decide (i = k) := by
  have q : ∀ k : Fin 8, ∀ i : Fin 32, ((1 : Int32) <<< ((Int32.ofNat k.1) &&& 31)).toBitVec.getLsbD i.1 = decide (i.1 = k.1) := by decide +kernel
  exact fun i hi => q ⟨k, h⟩ ⟨i, hi⟩
theorem own_curb (f : Nat → Int32) (b : Nat) : ∀ k, k ≤ 8 → ∀ i, i < 32 → (own_cur f b k).toBitVec.getLsbD i = (decide (i < k) && decide (f (b + i) ≠ 0))
  | 0, _, i, _ => by
    have e0 : (0 : Int32).toBitVec = 0#32 := by decide
    rw [own_cur, e0, BitVec.getLsbD_zero]; simp
  | k + 1, hk, i, hi => by
    have e0 : (0 : Int32).toBitVec = 0#32 := by decide
    rw [own_cur, Int32.toBitVec_or, BitVec.getLsbD_or, own_curb f b k (by omega) i hi]
    by_cases q : f (b + k) = 0
    · rw [if_pos q, e0, BitVec.getLsbD_zero]
      by_cases r : i = k
      · subst r; simp [q]
      · have r' : (i < k + 1) = (i < k) := propext ⟨fun _ => by omega, fun _ => by omega⟩
        simp [r']
    · rw [if_neg q, own_nth k (by omega) i hi]
      by_cases r : i = k
      · subst r; simp [q]
      · have r' : (i < k + 1) = (i < k) := propext ⟨fun _ => by omega, fun _ => by omega⟩
        simp [r, r']
theorem own_mask (k : Int32) (h : 0 ≤ k.toInt ∧ k.toInt ≤ 20) (i : Nat) (hi : i < 32) : (((1 : Int32) <<< (k &&& 31)) - (1 : Int32)).toBitVec.getLsbD i = decide (i < k.toInt.toNat) := by
  have q : ∀ k : Fin 21, ∀ i : Fin 32, (((1 : Int32) <<< ((Int32.ofNat k.1) &&& 31)) - (1 : Int32)).toBitVec.getLsbD i.1 = decide (i.1 < k.1) := by decide +kernel
  have e : k = Int32.ofNat k.toInt.toNat := Int32.toInt_inj.mp (by rw [own_of _ (by omega)]; omega)
  have w := q ⟨k.toInt.toNat, by omega⟩ ⟨i, hi⟩
  rw [e]
  rw [← e] at w ⊢
  exact w
theorem own_255 (i : Nat) (hi : i < 32) : (255 : Int32).toBitVec.getLsbD i = decide (i < 8) := by
  have q : ∀ i : Fin 32, (255 : Int32).toBitVec.getLsbD i.1 = decide (i.1 < 8) := by decide +kernel
  exact q ⟨i, hi⟩
theorem own_byte (x kn y : Int32) (b : Nat) (hb : b ≤ 16) (h : 0 ≤ kn.toInt ∧ kn.toInt ≤ 20) (hy : y.toBitVec = (x &&& (((1 : Int32) <<< (kn &&& 31)) - (1 : Int32))).toBitVec >>> b) :
    own_cur (own_bts x 20) b (min 8 (kn.toNatClampNeg - b)) = y &&& (255 : Int32) := by
  have hkn : kn.toNatClampNeg = kn.toInt.toNat := rfl
  apply Int32.toBitVec_inj.mp
  apply BitVec.eq_of_getLsbD_eq
  intro i hi
  rw [own_curb _ _ _ (by omega) i hi, Int32.toBitVec_and, BitVec.getLsbD_and, own_255 i hi, hy, BitVec.getLsbD_ushiftRight, Int32.toBitVec_and, BitVec.getLsbD_and]
  by_cases q : b + i < 32
  · rw [own_mask kn h (b + i) q]
    by_cases r : i < 8
    · by_cases u : b + i < kn.toInt.toNat
      · have u1 : i < min 8 (kn.toNatClampNeg - b) := by omega
        have u2 : b + i < 20 := by omega
        simp only [own_bts, u2, if_true, own_bt, u1, u, r, decide_true, Bool.true_and, Bool.and_true]
        cases x.toBitVec.getLsbD (b + i) <;> decide
      · have u1 : ¬ i < min 8 (kn.toNatClampNeg - b) := by omega
        rw [decide_eq_false u1, decide_eq_false u]; simp
    · have u1 : ¬ i < min 8 (kn.toNatClampNeg - b) := by omega
      rw [decide_eq_false u1, decide_eq_false r]; simp
  · have r : ¬ i < 8 := by omega
    have u1 : ¬ i < min 8 (kn.toNatClampNeg - b) := by omega
    rw [decide_eq_false u1, decide_eq_false r]; simp
theorem own_cur0 (f : Nat → Int32) (b : Nat) (k : Nat) (h : k = 0) : own_cur f b k = 0 := by rw [h, own_cur]
theorem own_s8 : ((8 : Int32) &&& 31).toUInt32 = 8 := by decide
theorem own_s16 : ((16 : Int32) &&& 31).toUInt32 = 16 := by decide
theorem own_exp (x kn : Int32) (h : 0 ≤ kn.toInt ∧ kn.toInt ≤ 20) : own_fu (own_bts x 20) kn.toNatClampNeg =
    (((x &&& (((1 : Int32) <<< (kn &&& 31)) - (1 : Int32))) &&& (255 : Int32)) + ((((x &&& (((1 : Int32) <<< (kn &&& 31)) - (1 : Int32))).toUInt32 >>> ((8 : Int32) &&& 31).toUInt32).toInt32) &&& (255 : Int32))) + ((((x &&& (((1 : Int32) <<< (kn &&& 31)) - (1 : Int32))).toUInt32 >>> ((16 : Int32) &&& 31).toUInt32).toInt32) &&& (255 : Int32)) := by
  have b0 := own_byte x kn (x &&& (((1 : Int32) <<< (kn &&& 31)) - (1 : Int32))) 0 (by omega) h (by simp)
  have b1 := own_byte x kn (((x &&& (((1 : Int32) <<< (kn &&& 31)) - (1 : Int32))).toUInt32 >>> ((8 : Int32) &&& 31).toUInt32).toInt32) 8 (by omega) h (by rw [own_s8]; rfl)
  have b2 := own_byte x kn (((x &&& (((1 : Int32) <<< (kn &&& 31)) - (1 : Int32))).toUInt32 >>> ((16 : Int32) &&& 31).toUInt32).toInt32) 16 (by omega) h (by rw [own_s16]; rfl)
  rw [← b0, ← b1, ← b2]
  have m0 := c_mask (x &&& (((1 : Int32) <<< (kn &&& 31)) - (1 : Int32))) 255 8 (by decide) (by decide)
  have m1 := c_mask (((x &&& (((1 : Int32) <<< (kn &&& 31)) - (1 : Int32))).toUInt32 >>> ((8 : Int32) &&& 31).toUInt32).toInt32) 255 8 (by decide) (by decide)
  have m2 := c_mask (((x &&& (((1 : Int32) <<< (kn &&& 31)) - (1 : Int32))).toUInt32 >>> ((16 : Int32) &&& 31).toUInt32).toInt32) 255 8 (by decide) (by decide)
  rw [← b0] at m0
  rw [← b1] at m1
  rw [← b2] at m2
  have hN : kn.toNatClampNeg ≤ 20 := by show kn.toInt.toNat ≤ 20; omega
  generalize kn.toNatClampNeg = N at *
  have z0 := fun q => own_cur0 (own_bts x 20) 0 (min 8 (N - 0)) q
  have z1 := fun q => own_cur0 (own_bts x 20) 8 (min 8 (N - 8)) q
  have z2 := fun q => own_cur0 (own_bts x 20) 16 (min 8 (N - 16)) q
  unfold own_fu
  have hc : (N + 7) / 8 = 0 ∨ (N + 7) / 8 = 1 ∨ (N + 7) / 8 = 2 ∨ (N + 7) / 8 = 3 := by omega
  have k0 : (0 : Int32).toInt = 0 := by decide
  apply Int32.toInt_inj.mp
  rw [c_mask _ 65535 16 (by decide) (by decide)]
  rcases hc with hc | hc | hc | hc
  · rw [hc, z0 (by omega), z1 (by omega), z2 (by omega)]
    simp only [own_sum]
    decide
  · rw [hc, z1 (by omega), z2 (by omega)]
    simp only [own_sum, Nat.mul_zero]
    generalize own_cur (own_bts x 20) 0 (min 8 (N - 0)) = c0 at *
    have a1 := c_iadd 0 c0
    have a2 := c_iadd c0 0
    have a3 := c_iadd (c0 + 0) 0
    have r1 := rng32 (0 + c0)
    have r2 := rng32 (c0 + 0)
    have r3 := rng32 (c0 + 0 + 0)
    omega
  · rw [hc, z2 (by omega)]
    simp only [own_sum, Nat.mul_zero, Nat.mul_one]
    generalize own_cur (own_bts x 20) 0 (min 8 (N - 0)) = c0 at *
    generalize own_cur (own_bts x 20) 8 (min 8 (N - 8)) = c1 at *
    have a1 := c_iadd 0 c0
    have a2 := c_iadd (0 + c0) c1
    have a3 := c_iadd c0 c1
    have a4 := c_iadd (c0 + c1) 0
    have r1 := rng32 (0 + c0)
    have r2 := rng32 (0 + c0 + c1)
    have r3 := rng32 (c0 + c1)
    have r4 := rng32 (c0 + c1 + 0)
    omega
  · rw [hc]
    simp only [own_sum, Nat.mul_zero, Nat.mul_one, show 8 * 2 = 16 from rfl]
    generalize own_cur (own_bts x 20) 0 (min 8 (N - 0)) = c0 at *
    generalize own_cur (own_bts x 20) 8 (min 8 (N - 8)) = c1 at *
    generalize own_cur (own_bts x 20) 16 (min 8 (N - 16)) = c2 at *
    have a1 := c_iadd 0 c0
    have a2 := c_iadd (0 + c0) c1
    have a3 := c_iadd (0 + c0 + c1) c2
    have a4 := c_iadd c0 c1
    have a5 := c_iadd (c0 + c1) c2
    have r1 := rng32 (0 + c0)
    have r2 := rng32 (0 + c0 + c1)
    have r3 := rng32 (0 + c0 + c1 + c2)
    have r4 := rng32 (c0 + c1)
    have r5 := rng32 (c0 + c1 + c2)
    omega
theorem pn_1 : plainName "com/example/mat44/mat44/JedecChecksumFusesPinLaw" = true := by first | (simp [plainName, overriddenIn]; done) | decide +kernel
theorem ef_0 (m : MethodId) (x0 : Int32) (x1 : Int32) : entryFrame m #[(.int x0), (.int x1)] maxLocals = mkF m 0 #[.val (.int x0), .val (.int x1), .unset, .unset, .unset, .unset] [] := by first | (simp [entryFrame, mkF, argsToLocals, Value.category, maxLocals]; done) | rfl
def Q0 (Z : State) (x0 : Int32) (x1 : Int32) (h0 : Heap) (n0 : Nat) (v : Option Value) (h : Heap) (L : List Loc) : Prop := v = some (.int (1 : Int32)) ∧ Fr n0 L
theorem pd_0 : parseMethodDescriptor "([Z)I" = some ⟨[(.array .boolean)], some .int⟩ := by decide +kernel
set_option maxRecDepth 65536 in
set_option maxHeartbeats 40000000 in
theorem rm0 (l : Launch) (Z : State) (a0 : Array Value) (hw : ∀ d ∈ tables_1, d.before a0 Z = true) (x0 : Int32) (x1 : Int32) (h0 : Heap) (n0 : Nat) (Z0 : n0 ≤ h0.size) :
    own_C l Z x code maxLocals ret room_1 #[(.int x0), (.int x1)] h0 (Q0 Z x0 x1 h0 n0) := by
  refine own_met (plainFor_of_name pn_1) ?_
  intro p e s m below meth c s₁ hx hby hml hret hlk hown hnm hZ X0 e0
  refine own_cast (ef_0 m x0 x1) ?_
  have N0 := Fr.nil n0
  show own_Out p e below _ s₁ (mkF m 0 #[.val (.int x0), .val (.int x1), .unset, .unset, .unset, .unset] []) _ _ _
  refine own_to (fun t k => XS.iloadN X0.here hx rfl (hb hby at_0) rfl k) ?_
  show own_Out p e below _ s₁ (mkF m 1 #[.val (.int x0), .val (.int x1), .unset, .unset, .unset, .unset] [(.int x1)]) _ _ _
  refine own_to (fun t k => X0.ldcI hx hown (mvT hZ (hw _ (List.mem_of_getElem? (i := 0) rfl))) rfl (hb hby at_1) k) ?_
  show own_Out p e below _ s₁ (mkF m 3 #[.val (.int x0), .val (.int x1), .unset, .unset, .unset, .unset] [(.int (2147483647 : Int32)), (.int x1)]) _ _ _
  refine own_to (fun t k => XS.iand X0.here hx rfl (hb hby at_3) rfl k) ?_
  show own_Out p e below _ s₁ (mkF m 4 #[.val (.int x0), .val (.int x1), .unset, .unset, .unset, .unset] [(.int (x1 &&& (2147483647 : Int32)))]) _ _ _
  refine own_to (fun t k => XS.bipush X0.here hx rfl (hb hby at_4) k) ?_
  show own_Out p e below _ s₁ (mkF m 6 #[.val (.int x0), .val (.int x1), .unset, .unset, .unset, .unset] [(.int (21 : Int32)), (.int (x1 &&& (2147483647 : Int32)))]) _ _ _
  refine own_to (fun t k => iremM X0 hx rfl (hb hby at_6) rfl (by decide) k) ?_
  show own_Out p e below _ s₁ (mkF m 7 #[.val (.int x0), .val (.int x1), .unset, .unset, .unset, .unset] [(.int ((x1 &&& (2147483647 : Int32)) % (21 : Int32)))]) _ _ _
  refine own_to (fun t k => XS.istoreN X0.here hx rfl (hb hby at_7) rfl (l' := #[.val (.int x0), .val (.int x1), .val (.int ((x1 &&& (2147483647 : Int32)) % (21 : Int32))), .unset, .unset, .unset]) rfl k) ?_
  show own_Out p e below _ s₁ (mkF m 8 #[.val (.int x0), .val (.int x1), .val (.int ((x1 &&& (2147483647 : Int32)) % (21 : Int32))), .unset, .unset, .unset] []) _ _ _
  generalize hv_kn : ((x1 &&& (2147483647 : Int32)) % (21 : Int32)) = kn
  show own_Out p e below _ s₁ (mkF m 8 #[.val (.int x0), .val (.int x1), .val (.int kn), .unset, .unset, .unset] []) _ _ _
  have bn := own_n x1
  rw [hv_kn] at bn
  refine own_to (fun t k => XS.iloadN X0.here hx rfl (hb hby at_8) rfl k) ?_
  show own_Out p e below _ s₁ (mkF m 9 #[.val (.int x0), .val (.int x1), .val (.int kn), .unset, .unset, .unset] [(.int kn)]) _ _ _
  refine own_newA X0 hx hZ (hw _ (List.mem_of_getElem? (i := 1) rfl)) rfl e0 rfl (hb hby at_9) rfl (own_ge bn.1) (cap := 20) (show kn.toInt.toNat ≤ 20 by omega) (by decide) (by decide) (by decide) fun T1 hh1 ob1 gb1 X1 e1 E1 A1 => ?_
  have g_ob1 : n0 ≤ ob1 := Nat.le_trans Z0 (Nat.le_of_eq gb1.symm)
  have Z0 := Nat.le_trans Z0 E1.1
  have A_ob1 : own_A Z hh1 ob1 .boolean kn.toNatClampNeg (fun _ => 0) := A1
  show own_Out p e below _ T1 (mkF m 11 #[.val (.int x0), .val (.int x1), .val (.int kn), .unset, .unset, .unset] [(.ref ob1)]) _ _ _
  refine own_to (fun t k => XS.astoreN X1.here hx rfl (hb hby at_11) rfl rfl (l' := #[.val (.int x0), .val (.int x1), .val (.int kn), .val (.ref ob1), .unset, .unset]) rfl k) ?_
  show own_Out p e below _ T1 (mkF m 12 #[.val (.int x0), .val (.int x1), .val (.int kn), .val (.ref ob1), .unset, .unset] []) _ _ _
  have A_ob1 : own_A Z hh1 ob1 .boolean kn.toNatClampNeg (own_bts x0 0) := A_ob1.congr (fun j _ => rfl)
  have J30 : ∀ (T2 : State) (hh2 : Heap) (L2 : List Loc) (X2 : Stand p l e room_1 s m #[(.int x0), (.int x1)] below meth c T2 L2 1 20) (e2 : T2.heap = hh2) (N2 : Fr n0 L2) (Z0 : n0 ≤ hh2.size) (A_ob1 : own_A Z hh2 ob1 .boolean kn.toNatClampNeg (own_bts x0 1)), own_Out p e below (FrameEnd s) T2 (mkF m 30 #[.val (.int x0), .val (.int x1), .val (.int kn), .val (.ref ob1), .unset, .unset] []) (Q0 Z x0 x1 h0 n0) room_1.cells room_1.slots := by
    intro T2 hh2 L2 X2 e2 N2 Z0 A_ob1
    show own_Out p e below _ T2 (mkF m 30 #[.val (.int x0), .val (.int x1), .val (.int kn), .val (.ref ob1), .unset, .unset] []) _ _ _
    have J51 : ∀ (T3 : State) (hh3 : Heap) (L3 : List Loc) (X3 : Stand p l e room_1 s m #[(.int x0), (.int x1)] below meth c T3 L3 1 20) (e3 : T3.heap = hh3) (N3 : Fr n0 L3) (Z0 : n0 ≤ hh3.size) (A_ob1 : own_A Z hh3 ob1 .boolean kn.toNatClampNeg (own_bts x0 2)), own_Out p e below (FrameEnd s) T3 (mkF m 51 #[.val (.int x0), .val (.int x1), .val (.int kn), .val (.ref ob1), .unset, .unset] []) (Q0 Z x0 x1 h0 n0) room_1.cells room_1.slots := by
      intro T3 hh3 L3 X3 e3 N3 Z0 A_ob1
      show own_Out p e below _ T3 (mkF m 51 #[.val (.int x0), .val (.int x1), .val (.int kn), .val (.ref ob1), .unset, .unset] []) _ _ _
      have J72 : ∀ (T4 : State) (hh4 : Heap) (L4 : List Loc) (X4 : Stand p l e room_1 s m #[(.int x0), (.int x1)] below meth c T4 L4 1 20) (e4 : T4.heap = hh4) (N4 : Fr n0 L4) (Z0 : n0 ≤ hh4.size) (A_ob1 : own_A Z hh4 ob1 .boolean kn.toNatClampNeg (own_bts x0 3)), own_Out p e below (FrameEnd s) T4 (mkF m 72 #[.val (.int x0), .val (.int x1), .val (.int kn), .val (.ref ob1), .unset, .unset] []) (Q0 Z x0 x1 h0 n0) room_1.cells room_1.slots := by
        intro T4 hh4 L4 X4 e4 N4 Z0 A_ob1
        show own_Out p e below _ T4 (mkF m 72 #[.val (.int x0), .val (.int x1), .val (.int kn), .val (.ref ob1), .unset, .unset] []) _ _ _
        have J93 : ∀ (T5 : State) (hh5 : Heap) (L5 : List Loc) (X5 : Stand p l e room_1 s m #[(.int x0), (.int x1)] below meth c T5 L5 1 20) (e5 : T5.heap = hh5) (N5 : Fr n0 L5) (Z0 : n0 ≤ hh5.size) (A_ob1 : own_A Z hh5 ob1 .boolean kn.toNatClampNeg (own_bts x0 4)), own_Out p e below (FrameEnd s) T5 (mkF m 93 #[.val (.int x0), .val (.int x1), .val (.int kn), .val (.ref ob1), .unset, .unset] []) (Q0 Z x0 x1 h0 n0) room_1.cells room_1.slots := by
          intro T5 hh5 L5 X5 e5 N5 Z0 A_ob1
          show own_Out p e below _ T5 (mkF m 93 #[.val (.int x0), .val (.int x1), .val (.int kn), .val (.ref ob1), .unset, .unset] []) _ _ _
          have J114 : ∀ (T6 : State) (hh6 : Heap) (L6 : List Loc) (X6 : Stand p l e room_1 s m #[(.int x0), (.int x1)] below meth c T6 L6 1 20) (e6 : T6.heap = hh6) (N6 : Fr n0 L6) (Z0 : n0 ≤ hh6.size) (A_ob1 : own_A Z hh6 ob1 .boolean kn.toNatClampNeg (own_bts x0 5)), own_Out p e below (FrameEnd s) T6 (mkF m 114 #[.val (.int x0), .val (.int x1), .val (.int kn), .val (.ref ob1), .unset, .unset] []) (Q0 Z x0 x1 h0 n0) room_1.cells room_1.slots := by
            intro T6 hh6 L6 X6 e6 N6 Z0 A_ob1
            show own_Out p e below _ T6 (mkF m 114 #[.val (.int x0), .val (.int x1), .val (.int kn), .val (.ref ob1), .unset, .unset] []) _ _ _
            have J135 : ∀ (T7 : State) (hh7 : Heap) (L7 : List Loc) (X7 : Stand p l e room_1 s m #[(.int x0), (.int x1)] below meth c T7 L7 1 20) (e7 : T7.heap = hh7) (N7 : Fr n0 L7) (Z0 : n0 ≤ hh7.size) (A_ob1 : own_A Z hh7 ob1 .boolean kn.toNatClampNeg (own_bts x0 6)), own_Out p e below (FrameEnd s) T7 (mkF m 135 #[.val (.int x0), .val (.int x1), .val (.int kn), .val (.ref ob1), .unset, .unset] []) (Q0 Z x0 x1 h0 n0) room_1.cells room_1.slots := by
              intro T7 hh7 L7 X7 e7 N7 Z0 A_ob1
              show own_Out p e below _ T7 (mkF m 135 #[.val (.int x0), .val (.int x1), .val (.int kn), .val (.ref ob1), .unset, .unset] []) _ _ _
              have J159 : ∀ (T8 : State) (hh8 : Heap) (L8 : List Loc) (X8 : Stand p l e room_1 s m #[(.int x0), (.int x1)] below meth c T8 L8 1 20) (e8 : T8.heap = hh8) (N8 : Fr n0 L8) (Z0 : n0 ≤ hh8.size) (A_ob1 : own_A Z hh8 ob1 .boolean kn.toNatClampNeg (own_bts x0 7)), own_Out p e below (FrameEnd s) T8 (mkF m 159 #[.val (.int x0), .val (.int x1), .val (.int kn), .val (.ref ob1), .unset, .unset] []) (Q0 Z x0 x1 h0 n0) room_1.cells room_1.slots := by
                intro T8 hh8 L8 X8 e8 N8 Z0 A_ob1
                show own_Out p e below _ T8 (mkF m 159 #[.val (.int x0), .val (.int x1), .val (.int kn), .val (.ref ob1), .unset, .unset] []) _ _ _
                have J183 : ∀ (T9 : State) (hh9 : Heap) (L9 : List Loc) (X9 : Stand p l e room_1 s m #[(.int x0), (.int x1)] below meth c T9 L9 1 20) (e9 : T9.heap = hh9) (N9 : Fr n0 L9) (Z0 : n0 ≤ hh9.size) (A_ob1 : own_A Z hh9 ob1 .boolean kn.toNatClampNeg (own_bts x0 8)), own_Out p e below (FrameEnd s) T9 (mkF m 183 #[.val (.int x0), .val (.int x1), .val (.int kn), .val (.ref ob1), .unset, .unset] []) (Q0 Z x0 x1 h0 n0) room_1.cells room_1.slots := by
                  intro T9 hh9 L9 X9 e9 N9 Z0 A_ob1
                  show own_Out p e below _ T9 (mkF m 183 #[.val (.int x0), .val (.int x1), .val (.int kn), .val (.ref ob1), .unset, .unset] []) _ _ _
                  have J207 : ∀ (T10 : State) (hh10 : Heap) (L10 : List Loc) (X10 : Stand p l e room_1 s m #[(.int x0), (.int x1)] below meth c T10 L10 1 20) (e10 : T10.heap = hh10) (N10 : Fr n0 L10) (Z0 : n0 ≤ hh10.size) (A_ob1 : own_A Z hh10 ob1 .boolean kn.toNatClampNeg (own_bts x0 9)), own_Out p e below (FrameEnd s) T10 (mkF m 207 #[.val (.int x0), .val (.int x1), .val (.int kn), .val (.ref ob1), .unset, .unset] []) (Q0 Z x0 x1 h0 n0) room_1.cells room_1.slots := by
                    intro T10 hh10 L10 X10 e10 N10 Z0 A_ob1
                    show own_Out p e below _ T10 (mkF m 207 #[.val (.int x0), .val (.int x1), .val (.int kn), .val (.ref ob1), .unset, .unset] []) _ _ _
                    have J231 : ∀ (T11 : State) (hh11 : Heap) (L11 : List Loc) (X11 : Stand p l e room_1 s m #[(.int x0), (.int x1)] below meth c T11 L11 1 20) (e11 : T11.heap = hh11) (N11 : Fr n0 L11) (Z0 : n0 ≤ hh11.size) (A_ob1 : own_A Z hh11 ob1 .boolean kn.toNatClampNeg (own_bts x0 10)), own_Out p e below (FrameEnd s) T11 (mkF m 231 #[.val (.int x0), .val (.int x1), .val (.int kn), .val (.ref ob1), .unset, .unset] []) (Q0 Z x0 x1 h0 n0) room_1.cells room_1.slots := by
                      intro T11 hh11 L11 X11 e11 N11 Z0 A_ob1
                      show own_Out p e below _ T11 (mkF m 231 #[.val (.int x0), .val (.int x1), .val (.int kn), .val (.ref ob1), .unset, .unset] []) _ _ _
                      have J255 : ∀ (T12 : State) (hh12 : Heap) (L12 : List Loc) (X12 : Stand p l e room_1 s m #[(.int x0), (.int x1)] below meth c T12 L12 1 20) (e12 : T12.heap = hh12) (N12 : Fr n0 L12) (Z0 : n0 ≤ hh12.size) (A_ob1 : own_A Z hh12 ob1 .boolean kn.toNatClampNeg (own_bts x0 11)), own_Out p e below (FrameEnd s) T12 (mkF m 255 #[.val (.int x0), .val (.int x1), .val (.int kn), .val (.ref ob1), .unset, .unset] []) (Q0 Z x0 x1 h0 n0) room_1.cells room_1.slots := by
                        intro T12 hh12 L12 X12 e12 N12 Z0 A_ob1
                        show own_Out p e below _ T12 (mkF m 255 #[.val (.int x0), .val (.int x1), .val (.int kn), .val (.ref ob1), .unset, .unset] []) _ _ _
                        have J279 : ∀ (T13 : State) (hh13 : Heap) (L13 : List Loc) (X13 : Stand p l e room_1 s m #[(.int x0), (.int x1)] below meth c T13 L13 1 20) (e13 : T13.heap = hh13) (N13 : Fr n0 L13) (Z0 : n0 ≤ hh13.size) (A_ob1 : own_A Z hh13 ob1 .boolean kn.toNatClampNeg (own_bts x0 12)), own_Out p e below (FrameEnd s) T13 (mkF m 279 #[.val (.int x0), .val (.int x1), .val (.int kn), .val (.ref ob1), .unset, .unset] []) (Q0 Z x0 x1 h0 n0) room_1.cells room_1.slots := by
                          intro T13 hh13 L13 X13 e13 N13 Z0 A_ob1
                          show own_Out p e below _ T13 (mkF m 279 #[.val (.int x0), .val (.int x1), .val (.int kn), .val (.ref ob1), .unset, .unset] []) _ _ _
                          have J303 : ∀ (T14 : State) (hh14 : Heap) (L14 : List Loc) (X14 : Stand p l e room_1 s m #[(.int x0), (.int x1)] below meth c T14 L14 1 20) (e14 : T14.heap = hh14) (N14 : Fr n0 L14) (Z0 : n0 ≤ hh14.size) (A_ob1 : own_A Z hh14 ob1 .boolean kn.toNatClampNeg (own_bts x0 13)), own_Out p e below (FrameEnd s) T14 (mkF m 303 #[.val (.int x0), .val (.int x1), .val (.int kn), .val (.ref ob1), .unset, .unset] []) (Q0 Z x0 x1 h0 n0) room_1.cells room_1.slots := by
                            intro T14 hh14 L14 X14 e14 N14 Z0 A_ob1
                            show own_Out p e below _ T14 (mkF m 303 #[.val (.int x0), .val (.int x1), .val (.int kn), .val (.ref ob1), .unset, .unset] []) _ _ _
                            have J327 : ∀ (T15 : State) (hh15 : Heap) (L15 : List Loc) (X15 : Stand p l e room_1 s m #[(.int x0), (.int x1)] below meth c T15 L15 1 20) (e15 : T15.heap = hh15) (N15 : Fr n0 L15) (Z0 : n0 ≤ hh15.size) (A_ob1 : own_A Z hh15 ob1 .boolean kn.toNatClampNeg (own_bts x0 14)), own_Out p e below (FrameEnd s) T15 (mkF m 327 #[.val (.int x0), .val (.int x1), .val (.int kn), .val (.ref ob1), .unset, .unset] []) (Q0 Z x0 x1 h0 n0) room_1.cells room_1.slots := by
                              intro T15 hh15 L15 X15 e15 N15 Z0 A_ob1
                              show own_Out p e below _ T15 (mkF m 327 #[.val (.int x0), .val (.int x1), .val (.int kn), .val (.ref ob1), .unset, .unset] []) _ _ _
                              have J351 : ∀ (T16 : State) (hh16 : Heap) (L16 : List Loc) (X16 : Stand p l e room_1 s m #[(.int x0), (.int x1)] below meth c T16 L16 1 20) (e16 : T16.heap = hh16) (N16 : Fr n0 L16) (Z0 : n0 ≤ hh16.size) (A_ob1 : own_A Z hh16 ob1 .boolean kn.toNatClampNeg (own_bts x0 15)), own_Out p e below (FrameEnd s) T16 (mkF m 351 #[.val (.int x0), .val (.int x1), .val (.int kn), .val (.ref ob1), .unset, .unset] []) (Q0 Z x0 x1 h0 n0) room_1.cells room_1.slots := by
                                intro T16 hh16 L16 X16 e16 N16 Z0 A_ob1
                                show own_Out p e below _ T16 (mkF m 351 #[.val (.int x0), .val (.int x1), .val (.int kn), .val (.ref ob1), .unset, .unset] []) _ _ _
                                have J375 : ∀ (T17 : State) (hh17 : Heap) (L17 : List Loc) (X17 : Stand p l e room_1 s m #[(.int x0), (.int x1)] below meth c T17 L17 1 20) (e17 : T17.heap = hh17) (N17 : Fr n0 L17) (Z0 : n0 ≤ hh17.size) (A_ob1 : own_A Z hh17 ob1 .boolean kn.toNatClampNeg (own_bts x0 16)), own_Out p e below (FrameEnd s) T17 (mkF m 375 #[.val (.int x0), .val (.int x1), .val (.int kn), .val (.ref ob1), .unset, .unset] []) (Q0 Z x0 x1 h0 n0) room_1.cells room_1.slots := by
                                  intro T17 hh17 L17 X17 e17 N17 Z0 A_ob1
                                  show own_Out p e below _ T17 (mkF m 375 #[.val (.int x0), .val (.int x1), .val (.int kn), .val (.ref ob1), .unset, .unset] []) _ _ _
                                  have J399 : ∀ (T18 : State) (hh18 : Heap) (L18 : List Loc) (X18 : Stand p l e room_1 s m #[(.int x0), (.int x1)] below meth c T18 L18 1 20) (e18 : T18.heap = hh18) (N18 : Fr n0 L18) (Z0 : n0 ≤ hh18.size) (A_ob1 : own_A Z hh18 ob1 .boolean kn.toNatClampNeg (own_bts x0 17)), own_Out p e below (FrameEnd s) T18 (mkF m 399 #[.val (.int x0), .val (.int x1), .val (.int kn), .val (.ref ob1), .unset, .unset] []) (Q0 Z x0 x1 h0 n0) room_1.cells room_1.slots := by
                                    intro T18 hh18 L18 X18 e18 N18 Z0 A_ob1
                                    show own_Out p e below _ T18 (mkF m 399 #[.val (.int x0), .val (.int x1), .val (.int kn), .val (.ref ob1), .unset, .unset] []) _ _ _
                                    have J423 : ∀ (T19 : State) (hh19 : Heap) (L19 : List Loc) (X19 : Stand p l e room_1 s m #[(.int x0), (.int x1)] below meth c T19 L19 1 20) (e19 : T19.heap = hh19) (N19 : Fr n0 L19) (Z0 : n0 ≤ hh19.size) (A_ob1 : own_A Z hh19 ob1 .boolean kn.toNatClampNeg (own_bts x0 18)), own_Out p e below (FrameEnd s) T19 (mkF m 423 #[.val (.int x0), .val (.int x1), .val (.int kn), .val (.ref ob1), .unset, .unset] []) (Q0 Z x0 x1 h0 n0) room_1.cells room_1.slots := by
                                      intro T19 hh19 L19 X19 e19 N19 Z0 A_ob1
                                      show own_Out p e below _ T19 (mkF m 423 #[.val (.int x0), .val (.int x1), .val (.int kn), .val (.ref ob1), .unset, .unset] []) _ _ _
                                      have J447 : ∀ (T20 : State) (hh20 : Heap) (L20 : List Loc) (X20 : Stand p l e room_1 s m #[(.int x0), (.int x1)] below meth c T20 L20 1 20) (e20 : T20.heap = hh20) (N20 : Fr n0 L20) (Z0 : n0 ≤ hh20.size) (A_ob1 : own_A Z hh20 ob1 .boolean kn.toNatClampNeg (own_bts x0 19)), own_Out p e below (FrameEnd s) T20 (mkF m 447 #[.val (.int x0), .val (.int x1), .val (.int kn), .val (.ref ob1), .unset, .unset] []) (Q0 Z x0 x1 h0 n0) room_1.cells room_1.slots := by
                                        intro T20 hh20 L20 X20 e20 N20 Z0 A_ob1
                                        show own_Out p e below _ T20 (mkF m 447 #[.val (.int x0), .val (.int x1), .val (.int kn), .val (.ref ob1), .unset, .unset] []) _ _ _
                                        have J471 : ∀ (T21 : State) (hh21 : Heap) (L21 : List Loc) (X21 : Stand p l e room_1 s m #[(.int x0), (.int x1)] below meth c T21 L21 1 20) (e21 : T21.heap = hh21) (N21 : Fr n0 L21) (Z0 : n0 ≤ hh21.size) (A_ob1 : own_A Z hh21 ob1 .boolean kn.toNatClampNeg (own_bts x0 20)), own_Out p e below (FrameEnd s) T21 (mkF m 471 #[.val (.int x0), .val (.int x1), .val (.int kn), .val (.ref ob1), .unset, .unset] []) (Q0 Z x0 x1 h0 n0) room_1.cells room_1.slots := by
                                          intro T21 hh21 L21 X21 e21 N21 Z0 A_ob1
                                          show own_Out p e below _ T21 (mkF m 471 #[.val (.int x0), .val (.int x1), .val (.int kn), .val (.ref ob1), .unset, .unset] []) _ _ _
                                          refine own_to (fun t k => XS.iloadN X21.here hx rfl (hb hby at_471) rfl k) ?_
                                          show own_Out p e below _ T21 (mkF m 472 #[.val (.int x0), .val (.int x1), .val (.int kn), .val (.ref ob1), .unset, .unset] [(.int x0)]) _ _ _
                                          refine own_to (fun t k => XS.iconst X21.here hx rfl (hb hby at_472) k) ?_
                                          show own_Out p e below _ T21 (mkF m 473 #[.val (.int x0), .val (.int x1), .val (.int kn), .val (.ref ob1), .unset, .unset] [(.int (1 : Int32)), (.int x0)]) _ _ _
                                          refine own_to (fun t k => XS.iloadN X21.here hx rfl (hb hby at_473) rfl k) ?_
                                          show own_Out p e below _ T21 (mkF m 474 #[.val (.int x0), .val (.int x1), .val (.int kn), .val (.ref ob1), .unset, .unset] [(.int kn), (.int (1 : Int32)), (.int x0)]) _ _ _
                                          refine own_to (fun t k => XS.ishl X21.here hx rfl (hb hby at_474) rfl k) ?_
                                          show own_Out p e below _ T21 (mkF m 475 #[.val (.int x0), .val (.int x1), .val (.int kn), .val (.ref ob1), .unset, .unset] [(.int ((1 : Int32) <<< (kn &&& 31))), (.int x0)]) _ _ _
                                          refine own_to (fun t k => XS.iconst X21.here hx rfl (hb hby at_475) k) ?_
                                          show own_Out p e below _ T21 (mkF m 476 #[.val (.int x0), .val (.int x1), .val (.int kn), .val (.ref ob1), .unset, .unset] [(.int (1 : Int32)), (.int ((1 : Int32) <<< (kn &&& 31))), (.int x0)]) _ _ _
                                          refine own_to (fun t k => XS.isub X21.here hx rfl (hb hby at_476) rfl k) ?_
                                          show own_Out p e below _ T21 (mkF m 477 #[.val (.int x0), .val (.int x1), .val (.int kn), .val (.ref ob1), .unset, .unset] [(.int (((1 : Int32) <<< (kn &&& 31)) - (1 : Int32))), (.int x0)]) _ _ _
                                          refine own_to (fun t k => XS.iand X21.here hx rfl (hb hby at_477) rfl k) ?_
                                          show own_Out p e below _ T21 (mkF m 478 #[.val (.int x0), .val (.int x1), .val (.int kn), .val (.ref ob1), .unset, .unset] [(.int (x0 &&& (((1 : Int32) <<< (kn &&& 31)) - (1 : Int32))))]) _ _ _
                                          refine own_to (fun t k => XS.istore X21.here hx rfl (hb hby at_478) rfl (l' := #[.val (.int x0), .val (.int x1), .val (.int kn), .val (.ref ob1), .val (.int (x0 &&& (((1 : Int32) <<< (kn &&& 31)) - (1 : Int32)))), .unset]) rfl k) ?_
                                          show own_Out p e below _ T21 (mkF m 480 #[.val (.int x0), .val (.int x1), .val (.int kn), .val (.ref ob1), .val (.int (x0 &&& (((1 : Int32) <<< (kn &&& 31)) - (1 : Int32)))), .unset] []) _ _ _
                                          refine own_to (fun t k => XS.iload X21.here hx rfl (hb hby at_480) rfl k) ?_
                                          show own_Out p e below _ T21 (mkF m 482 #[.val (.int x0), .val (.int x1), .val (.int kn), .val (.ref ob1), .val (.int (x0 &&& (((1 : Int32) <<< (kn &&& 31)) - (1 : Int32)))), .unset] [(.int (x0 &&& (((1 : Int32) <<< (kn &&& 31)) - (1 : Int32))))]) _ _ _
                                          refine own_to (fun t k => XS.sipush X21.here hx rfl (hb hby at_482) k) ?_
                                          show own_Out p e below _ T21 (mkF m 485 #[.val (.int x0), .val (.int x1), .val (.int kn), .val (.ref ob1), .val (.int (x0 &&& (((1 : Int32) <<< (kn &&& 31)) - (1 : Int32)))), .unset] [(.int (255 : Int32)), (.int (x0 &&& (((1 : Int32) <<< (kn &&& 31)) - (1 : Int32))))]) _ _ _
                                          refine own_to (fun t k => XS.iand X21.here hx rfl (hb hby at_485) rfl k) ?_
                                          show own_Out p e below _ T21 (mkF m 486 #[.val (.int x0), .val (.int x1), .val (.int kn), .val (.ref ob1), .val (.int (x0 &&& (((1 : Int32) <<< (kn &&& 31)) - (1 : Int32)))), .unset] [(.int ((x0 &&& (((1 : Int32) <<< (kn &&& 31)) - (1 : Int32))) &&& (255 : Int32)))]) _ _ _
                                          refine own_to (fun t k => XS.iload X21.here hx rfl (hb hby at_486) rfl k) ?_
                                          show own_Out p e below _ T21 (mkF m 488 #[.val (.int x0), .val (.int x1), .val (.int kn), .val (.ref ob1), .val (.int (x0 &&& (((1 : Int32) <<< (kn &&& 31)) - (1 : Int32)))), .unset] [(.int (x0 &&& (((1 : Int32) <<< (kn &&& 31)) - (1 : Int32)))), (.int ((x0 &&& (((1 : Int32) <<< (kn &&& 31)) - (1 : Int32))) &&& (255 : Int32)))]) _ _ _
                                          refine own_to (fun t k => XS.bipush X21.here hx rfl (hb hby at_488) k) ?_
                                          show own_Out p e below _ T21 (mkF m 490 #[.val (.int x0), .val (.int x1), .val (.int kn), .val (.ref ob1), .val (.int (x0 &&& (((1 : Int32) <<< (kn &&& 31)) - (1 : Int32)))), .unset] [(.int (8 : Int32)), (.int (x0 &&& (((1 : Int32) <<< (kn &&& 31)) - (1 : Int32)))), (.int ((x0 &&& (((1 : Int32) <<< (kn &&& 31)) - (1 : Int32))) &&& (255 : Int32)))]) _ _ _
                                          refine own_to (fun t k => XS.iushr X21.here hx rfl (hb hby at_490) rfl k) ?_
                                          show own_Out p e below _ T21 (mkF m 491 #[.val (.int x0), .val (.int x1), .val (.int kn), .val (.ref ob1), .val (.int (x0 &&& (((1 : Int32) <<< (kn &&& 31)) - (1 : Int32)))), .unset] [(.int (((x0 &&& (((1 : Int32) <<< (kn &&& 31)) - (1 : Int32))).toUInt32 >>> ((8 : Int32) &&& 31).toUInt32).toInt32)), (.int ((x0 &&& (((1 : Int32) <<< (kn &&& 31)) - (1 : Int32))) &&& (255 : Int32)))]) _ _ _
                                          refine own_to (fun t k => XS.sipush X21.here hx rfl (hb hby at_491) k) ?_
                                          show own_Out p e below _ T21 (mkF m 494 #[.val (.int x0), .val (.int x1), .val (.int kn), .val (.ref ob1), .val (.int (x0 &&& (((1 : Int32) <<< (kn &&& 31)) - (1 : Int32)))), .unset] [(.int (255 : Int32)), (.int (((x0 &&& (((1 : Int32) <<< (kn &&& 31)) - (1 : Int32))).toUInt32 >>> ((8 : Int32) &&& 31).toUInt32).toInt32)), (.int ((x0 &&& (((1 : Int32) <<< (kn &&& 31)) - (1 : Int32))) &&& (255 : Int32)))]) _ _ _
                                          refine own_to (fun t k => XS.iand X21.here hx rfl (hb hby at_494) rfl k) ?_
                                          show own_Out p e below _ T21 (mkF m 495 #[.val (.int x0), .val (.int x1), .val (.int kn), .val (.ref ob1), .val (.int (x0 &&& (((1 : Int32) <<< (kn &&& 31)) - (1 : Int32)))), .unset] [(.int ((((x0 &&& (((1 : Int32) <<< (kn &&& 31)) - (1 : Int32))).toUInt32 >>> ((8 : Int32) &&& 31).toUInt32).toInt32) &&& (255 : Int32))), (.int ((x0 &&& (((1 : Int32) <<< (kn &&& 31)) - (1 : Int32))) &&& (255 : Int32)))]) _ _ _
                                          refine own_to (fun t k => XS.iadd X21.here hx rfl (hb hby at_495) rfl k) ?_
                                          show own_Out p e below _ T21 (mkF m 496 #[.val (.int x0), .val (.int x1), .val (.int kn), .val (.ref ob1), .val (.int (x0 &&& (((1 : Int32) <<< (kn &&& 31)) - (1 : Int32)))), .unset] [(.int (((x0 &&& (((1 : Int32) <<< (kn &&& 31)) - (1 : Int32))) &&& (255 : Int32)) + ((((x0 &&& (((1 : Int32) <<< (kn &&& 31)) - (1 : Int32))).toUInt32 >>> ((8 : Int32) &&& 31).toUInt32).toInt32) &&& (255 : Int32))))]) _ _ _
                                          refine own_to (fun t k => XS.iload X21.here hx rfl (hb hby at_496) rfl k) ?_
                                          show own_Out p e below _ T21 (mkF m 498 #[.val (.int x0), .val (.int x1), .val (.int kn), .val (.ref ob1), .val (.int (x0 &&& (((1 : Int32) <<< (kn &&& 31)) - (1 : Int32)))), .unset] [(.int (x0 &&& (((1 : Int32) <<< (kn &&& 31)) - (1 : Int32)))), (.int (((x0 &&& (((1 : Int32) <<< (kn &&& 31)) - (1 : Int32))) &&& (255 : Int32)) + ((((x0 &&& (((1 : Int32) <<< (kn &&& 31)) - (1 : Int32))).toUInt32 >>> ((8 : Int32) &&& 31).toUInt32).toInt32) &&& (255 : Int32))))]) _ _ _
                                          refine own_to (fun t k => XS.bipush X21.here hx rfl (hb hby at_498) k) ?_
                                          show own_Out p e below _ T21 (mkF m 500 #[.val (.int x0), .val (.int x1), .val (.int kn), .val (.ref ob1), .val (.int (x0 &&& (((1 : Int32) <<< (kn &&& 31)) - (1 : Int32)))), .unset] [(.int (16 : Int32)), (.int (x0 &&& (((1 : Int32) <<< (kn &&& 31)) - (1 : Int32)))), (.int (((x0 &&& (((1 : Int32) <<< (kn &&& 31)) - (1 : Int32))) &&& (255 : Int32)) + ((((x0 &&& (((1 : Int32) <<< (kn &&& 31)) - (1 : Int32))).toUInt32 >>> ((8 : Int32) &&& 31).toUInt32).toInt32) &&& (255 : Int32))))]) _ _ _
                                          refine own_to (fun t k => XS.iushr X21.here hx rfl (hb hby at_500) rfl k) ?_
                                          show own_Out p e below _ T21 (mkF m 501 #[.val (.int x0), .val (.int x1), .val (.int kn), .val (.ref ob1), .val (.int (x0 &&& (((1 : Int32) <<< (kn &&& 31)) - (1 : Int32)))), .unset] [(.int (((x0 &&& (((1 : Int32) <<< (kn &&& 31)) - (1 : Int32))).toUInt32 >>> ((16 : Int32) &&& 31).toUInt32).toInt32)), (.int (((x0 &&& (((1 : Int32) <<< (kn &&& 31)) - (1 : Int32))) &&& (255 : Int32)) + ((((x0 &&& (((1 : Int32) <<< (kn &&& 31)) - (1 : Int32))).toUInt32 >>> ((8 : Int32) &&& 31).toUInt32).toInt32) &&& (255 : Int32))))]) _ _ _
                                          refine own_to (fun t k => XS.sipush X21.here hx rfl (hb hby at_501) k) ?_
                                          show own_Out p e below _ T21 (mkF m 504 #[.val (.int x0), .val (.int x1), .val (.int kn), .val (.ref ob1), .val (.int (x0 &&& (((1 : Int32) <<< (kn &&& 31)) - (1 : Int32)))), .unset] [(.int (255 : Int32)), (.int (((x0 &&& (((1 : Int32) <<< (kn &&& 31)) - (1 : Int32))).toUInt32 >>> ((16 : Int32) &&& 31).toUInt32).toInt32)), (.int (((x0 &&& (((1 : Int32) <<< (kn &&& 31)) - (1 : Int32))) &&& (255 : Int32)) + ((((x0 &&& (((1 : Int32) <<< (kn &&& 31)) - (1 : Int32))).toUInt32 >>> ((8 : Int32) &&& 31).toUInt32).toInt32) &&& (255 : Int32))))]) _ _ _
                                          refine own_to (fun t k => XS.iand X21.here hx rfl (hb hby at_504) rfl k) ?_
                                          show own_Out p e below _ T21 (mkF m 505 #[.val (.int x0), .val (.int x1), .val (.int kn), .val (.ref ob1), .val (.int (x0 &&& (((1 : Int32) <<< (kn &&& 31)) - (1 : Int32)))), .unset] [(.int ((((x0 &&& (((1 : Int32) <<< (kn &&& 31)) - (1 : Int32))).toUInt32 >>> ((16 : Int32) &&& 31).toUInt32).toInt32) &&& (255 : Int32))), (.int (((x0 &&& (((1 : Int32) <<< (kn &&& 31)) - (1 : Int32))) &&& (255 : Int32)) + ((((x0 &&& (((1 : Int32) <<< (kn &&& 31)) - (1 : Int32))).toUInt32 >>> ((8 : Int32) &&& 31).toUInt32).toInt32) &&& (255 : Int32))))]) _ _ _
                                          refine own_to (fun t k => XS.iadd X21.here hx rfl (hb hby at_505) rfl k) ?_
                                          show own_Out p e below _ T21 (mkF m 506 #[.val (.int x0), .val (.int x1), .val (.int kn), .val (.ref ob1), .val (.int (x0 &&& (((1 : Int32) <<< (kn &&& 31)) - (1 : Int32)))), .unset] [(.int ((((x0 &&& (((1 : Int32) <<< (kn &&& 31)) - (1 : Int32))) &&& (255 : Int32)) + ((((x0 &&& (((1 : Int32) <<< (kn &&& 31)) - (1 : Int32))).toUInt32 >>> ((8 : Int32) &&& 31).toUInt32).toInt32) &&& (255 : Int32))) + ((((x0 &&& (((1 : Int32) <<< (kn &&& 31)) - (1 : Int32))).toUInt32 >>> ((16 : Int32) &&& 31).toUInt32).toInt32) &&& (255 : Int32))))]) _ _ _
                                          refine own_to (fun t k => XS.istore X21.here hx rfl (hb hby at_506) rfl (l' := #[.val (.int x0), .val (.int x1), .val (.int kn), .val (.ref ob1), .val (.int (x0 &&& (((1 : Int32) <<< (kn &&& 31)) - (1 : Int32)))), .val (.int ((((x0 &&& (((1 : Int32) <<< (kn &&& 31)) - (1 : Int32))) &&& (255 : Int32)) + ((((x0 &&& (((1 : Int32) <<< (kn &&& 31)) - (1 : Int32))).toUInt32 >>> ((8 : Int32) &&& 31).toUInt32).toInt32) &&& (255 : Int32))) + ((((x0 &&& (((1 : Int32) <<< (kn &&& 31)) - (1 : Int32))).toUInt32 >>> ((16 : Int32) &&& 31).toUInt32).toInt32) &&& (255 : Int32))))]) rfl k) ?_
                                          show own_Out p e below _ T21 (mkF m 508 #[.val (.int x0), .val (.int x1), .val (.int kn), .val (.ref ob1), .val (.int (x0 &&& (((1 : Int32) <<< (kn &&& 31)) - (1 : Int32)))), .val (.int ((((x0 &&& (((1 : Int32) <<< (kn &&& 31)) - (1 : Int32))) &&& (255 : Int32)) + ((((x0 &&& (((1 : Int32) <<< (kn &&& 31)) - (1 : Int32))).toUInt32 >>> ((8 : Int32) &&& 31).toUInt32).toInt32) &&& (255 : Int32))) + ((((x0 &&& (((1 : Int32) <<< (kn &&& 31)) - (1 : Int32))).toUInt32 >>> ((16 : Int32) &&& 31).toUInt32).toInt32) &&& (255 : Int32))))] []) _ _ _
                                          refine own_to (fun t k => XS.aloadN X21.here hx rfl (hb hby at_508) rfl rfl k) ?_
                                          show own_Out p e below _ T21 (mkF m 509 #[.val (.int x0), .val (.int x1), .val (.int kn), .val (.ref ob1), .val (.int (x0 &&& (((1 : Int32) <<< (kn &&& 31)) - (1 : Int32)))), .val (.int ((((x0 &&& (((1 : Int32) <<< (kn &&& 31)) - (1 : Int32))) &&& (255 : Int32)) + ((((x0 &&& (((1 : Int32) <<< (kn &&& 31)) - (1 : Int32))).toUInt32 >>> ((8 : Int32) &&& 31).toUInt32).toInt32) &&& (255 : Int32))) + ((((x0 &&& (((1 : Int32) <<< (kn &&& 31)) - (1 : Int32))).toUInt32 >>> ((16 : Int32) &&& 31).toUInt32).toInt32) &&& (255 : Int32))))] [(.ref ob1)]) _ _ _
                                          refine own_callS X21 hx hZ hown (argsL := [(.ref ob1)]) (rest := []) (hw _ (List.mem_of_getElem? (i := 2) rfl)) (hw _ (List.mem_of_getElem? (i := 3) rfl)) (hw _ (List.mem_of_getElem? (i := 4) rfl)) (hw _ (List.mem_of_getElem? (i := 5) rfl)) (by decide) (rm1 l Z a0 hw ob1 (kn.toNatClampNeg) (own_bts x0 20) hh21 n0 Z0 A_ob1 (show kn.toInt.toNat ≤ 20 by omega)) (by decide) (by decide) e21 rfl (by rw [hml]; rfl) (lenOf pd_0 rfl) rfl (W := 0) (by show 2 * 0 + _ ≤ _; exact Nat.le_of_eq rfl) (hb hby at_509) (by decide) (by decide) fun v22 T22 hh22 L22 X22 e22 hQ22 => ?_
                                          obtain ⟨rfl, NL22, he22⟩ := hQ22
                                          replace e22 := e22.trans he22
                                          have N22 := Fr.app N21 NL22
                                          show own_Out p e below _ T22 (mkF m 512 #[.val (.int x0), .val (.int x1), .val (.int kn), .val (.ref ob1), .val (.int (x0 &&& (((1 : Int32) <<< (kn &&& 31)) - (1 : Int32)))), .val (.int ((((x0 &&& (((1 : Int32) <<< (kn &&& 31)) - (1 : Int32))) &&& (255 : Int32)) + ((((x0 &&& (((1 : Int32) <<< (kn &&& 31)) - (1 : Int32))).toUInt32 >>> ((8 : Int32) &&& 31).toUInt32).toInt32) &&& (255 : Int32))) + ((((x0 &&& (((1 : Int32) <<< (kn &&& 31)) - (1 : Int32))).toUInt32 >>> ((16 : Int32) &&& 31).toUInt32).toInt32) &&& (255 : Int32))))] [(.int (own_fu (own_bts x0 20) (kn.toNatClampNeg)))]) _ _ _
                                          rw [own_exp x0 kn bn]
                                          show own_Out p e below _ T22 (mkF m 512 #[.val (.int x0), .val (.int x1), .val (.int kn), .val (.ref ob1), .val (.int (x0 &&& (((1 : Int32) <<< (kn &&& 31)) - (1 : Int32)))), .val (.int ((((x0 &&& (((1 : Int32) <<< (kn &&& 31)) - (1 : Int32))) &&& (255 : Int32)) + ((((x0 &&& (((1 : Int32) <<< (kn &&& 31)) - (1 : Int32))).toUInt32 >>> ((8 : Int32) &&& 31).toUInt32).toInt32) &&& (255 : Int32))) + ((((x0 &&& (((1 : Int32) <<< (kn &&& 31)) - (1 : Int32))).toUInt32 >>> ((16 : Int32) &&& 31).toUInt32).toInt32) &&& (255 : Int32))))] [(.int ((((x0 &&& (((1 : Int32) <<< (kn &&& 31)) - (1 : Int32))) &&& (255 : Int32)) + ((((x0 &&& (((1 : Int32) <<< (kn &&& 31)) - (1 : Int32))).toUInt32 >>> ((8 : Int32) &&& 31).toUInt32).toInt32) &&& (255 : Int32))) + ((((x0 &&& (((1 : Int32) <<< (kn &&& 31)) - (1 : Int32))).toUInt32 >>> ((16 : Int32) &&& 31).toUInt32).toInt32) &&& (255 : Int32))))]) _ _ _
                                          refine own_to (fun t k => XS.iload X22.here hx rfl (hb hby at_512) rfl k) ?_
                                          show own_Out p e below _ T22 (mkF m 514 #[.val (.int x0), .val (.int x1), .val (.int kn), .val (.ref ob1), .val (.int (x0 &&& (((1 : Int32) <<< (kn &&& 31)) - (1 : Int32)))), .val (.int ((((x0 &&& (((1 : Int32) <<< (kn &&& 31)) - (1 : Int32))) &&& (255 : Int32)) + ((((x0 &&& (((1 : Int32) <<< (kn &&& 31)) - (1 : Int32))).toUInt32 >>> ((8 : Int32) &&& 31).toUInt32).toInt32) &&& (255 : Int32))) + ((((x0 &&& (((1 : Int32) <<< (kn &&& 31)) - (1 : Int32))).toUInt32 >>> ((16 : Int32) &&& 31).toUInt32).toInt32) &&& (255 : Int32))))] [(.int ((((x0 &&& (((1 : Int32) <<< (kn &&& 31)) - (1 : Int32))) &&& (255 : Int32)) + ((((x0 &&& (((1 : Int32) <<< (kn &&& 31)) - (1 : Int32))).toUInt32 >>> ((8 : Int32) &&& 31).toUInt32).toInt32) &&& (255 : Int32))) + ((((x0 &&& (((1 : Int32) <<< (kn &&& 31)) - (1 : Int32))).toUInt32 >>> ((16 : Int32) &&& 31).toUInt32).toInt32) &&& (255 : Int32)))), (.int ((((x0 &&& (((1 : Int32) <<< (kn &&& 31)) - (1 : Int32))) &&& (255 : Int32)) + ((((x0 &&& (((1 : Int32) <<< (kn &&& 31)) - (1 : Int32))).toUInt32 >>> ((8 : Int32) &&& 31).toUInt32).toInt32) &&& (255 : Int32))) + ((((x0 &&& (((1 : Int32) <<< (kn &&& 31)) - (1 : Int32))).toUInt32 >>> ((16 : Int32) &&& 31).toUInt32).toInt32) &&& (255 : Int32))))]) _ _ _
                                          have hc514 : ((((x0 &&& (((1 : Int32) <<< (kn &&& 31)) - (1 : Int32))) &&& (255 : Int32)) + ((((x0 &&& (((1 : Int32) <<< (kn &&& 31)) - (1 : Int32))).toUInt32 >>> ((8 : Int32) &&& 31).toUInt32).toInt32) &&& (255 : Int32))) + ((((x0 &&& (((1 : Int32) <<< (kn &&& 31)) - (1 : Int32))).toUInt32 >>> ((16 : Int32) &&& 31).toUInt32).toInt32) &&& (255 : Int32))) = ((((x0 &&& (((1 : Int32) <<< (kn &&& 31)) - (1 : Int32))) &&& (255 : Int32)) + ((((x0 &&& (((1 : Int32) <<< (kn &&& 31)) - (1 : Int32))).toUInt32 >>> ((8 : Int32) &&& 31).toUInt32).toInt32) &&& (255 : Int32))) + ((((x0 &&& (((1 : Int32) <<< (kn &&& 31)) - (1 : Int32))).toUInt32 >>> ((16 : Int32) &&& 31).toUInt32).toInt32) &&& (255 : Int32))) := rfl
                                          refine own_to (fun t k => XS.icmpNo X22.here hx rfl (hb hby at_514) rfl (teq hc514).2 k) ?_
                                          show own_Out p e below _ T22 (mkF m 517 #[.val (.int x0), .val (.int x1), .val (.int kn), .val (.ref ob1), .val (.int (x0 &&& (((1 : Int32) <<< (kn &&& 31)) - (1 : Int32)))), .val (.int ((((x0 &&& (((1 : Int32) <<< (kn &&& 31)) - (1 : Int32))) &&& (255 : Int32)) + ((((x0 &&& (((1 : Int32) <<< (kn &&& 31)) - (1 : Int32))).toUInt32 >>> ((8 : Int32) &&& 31).toUInt32).toInt32) &&& (255 : Int32))) + ((((x0 &&& (((1 : Int32) <<< (kn &&& 31)) - (1 : Int32))).toUInt32 >>> ((16 : Int32) &&& 31).toUInt32).toInt32) &&& (255 : Int32))))] []) _ _ _
                                          refine own_to (fun t k => XS.iconst X22.here hx rfl (hb hby at_517) k) ?_
                                          show own_Out p e below _ T22 (mkF m 518 #[.val (.int x0), .val (.int x1), .val (.int kn), .val (.ref ob1), .val (.int (x0 &&& (((1 : Int32) <<< (kn &&& 31)) - (1 : Int32)))), .val (.int ((((x0 &&& (((1 : Int32) <<< (kn &&& 31)) - (1 : Int32))) &&& (255 : Int32)) + ((((x0 &&& (((1 : Int32) <<< (kn &&& 31)) - (1 : Int32))).toUInt32 >>> ((8 : Int32) &&& 31).toUInt32).toInt32) &&& (255 : Int32))) + ((((x0 &&& (((1 : Int32) <<< (kn &&& 31)) - (1 : Int32))).toUInt32 >>> ((16 : Int32) &&& 31).toUInt32).toInt32) &&& (255 : Int32))))] [(.int (1 : Int32))]) _ _ _
                                          refine own_to (fun t k => XS.goto X22.here hx rfl (pc0 := 518) (pc' := 522) rfl (hb hby at_518) (by decide) (by decide) k) ?_
                                          show own_Out p e below _ T22 (mkF m 522 #[.val (.int x0), .val (.int x1), .val (.int kn), .val (.ref ob1), .val (.int (x0 &&& (((1 : Int32) <<< (kn &&& 31)) - (1 : Int32)))), .val (.int ((((x0 &&& (((1 : Int32) <<< (kn &&& 31)) - (1 : Int32))) &&& (255 : Int32)) + ((((x0 &&& (((1 : Int32) <<< (kn &&& 31)) - (1 : Int32))).toUInt32 >>> ((8 : Int32) &&& 31).toUInt32).toInt32) &&& (255 : Int32))) + ((((x0 &&& (((1 : Int32) <<< (kn &&& 31)) - (1 : Int32))).toUInt32 >>> ((16 : Int32) &&& 31).toUInt32).toInt32) &&& (255 : Int32))))] [(.int (1 : Int32))]) _ _ _
                                          refine own_retV X22 hx hlk (w := .int (1 : Int32)) hret rfl (Or.inl ⟨rfl, by simp, _, rfl⟩) (hb hby at_522) (by decide) (by decide) ?_
                                          rw [e22]
                                          exact ⟨rfl, N22⟩
                                        refine own_to (fun t k => XS.iloadN X20.here hx rfl (hb hby at_447) rfl k) ?_
                                        show own_Out p e below _ T20 (mkF m 448 #[.val (.int x0), .val (.int x1), .val (.int kn), .val (.ref ob1), .unset, .unset] [(.int kn)]) _ _ _
                                        refine own_to (fun t k => XS.bipush X20.here hx rfl (hb hby at_448) k) ?_
                                        show own_Out p e below _ T20 (mkF m 450 #[.val (.int x0), .val (.int x1), .val (.int kn), .val (.ref ob1), .unset, .unset] [(.int (19 : Int32)), (.int kn)]) _ _ _
                                        by_cases hc450 : (19 : Int32) < kn
                                        · refine own_to (fun t k => XS.icmpNo X20.here hx rfl (hb hby at_450) rfl (tlt hc450).2.2.2 k) ?_
                                          show own_Out p e below _ T20 (mkF m 453 #[.val (.int x0), .val (.int x1), .val (.int kn), .val (.ref ob1), .unset, .unset] []) _ _ _
                                          refine own_to (fun t k => XS.aloadN X20.here hx rfl (hb hby at_453) rfl rfl k) ?_
                                          show own_Out p e below _ T20 (mkF m 454 #[.val (.int x0), .val (.int x1), .val (.int kn), .val (.ref ob1), .unset, .unset] [(.ref ob1)]) _ _ _
                                          refine own_to (fun t k => XS.bipush X20.here hx rfl (hb hby at_454) k) ?_
                                          show own_Out p e below _ T20 (mkF m 456 #[.val (.int x0), .val (.int x1), .val (.int kn), .val (.ref ob1), .unset, .unset] [(.int (19 : Int32)), (.ref ob1)]) _ _ _
                                          refine own_to (fun t k => XS.iloadN X20.here hx rfl (hb hby at_456) rfl k) ?_
                                          show own_Out p e below _ T20 (mkF m 457 #[.val (.int x0), .val (.int x1), .val (.int kn), .val (.ref ob1), .unset, .unset] [(.int x0), (.int (19 : Int32)), (.ref ob1)]) _ _ _
                                          refine own_to (fun t k => XS.bipush X20.here hx rfl (hb hby at_457) k) ?_
                                          show own_Out p e below _ T20 (mkF m 459 #[.val (.int x0), .val (.int x1), .val (.int kn), .val (.ref ob1), .unset, .unset] [(.int (19 : Int32)), (.int x0), (.int (19 : Int32)), (.ref ob1)]) _ _ _
                                          refine own_to (fun t k => XS.iushr X20.here hx rfl (hb hby at_459) rfl k) ?_
                                          show own_Out p e below _ T20 (mkF m 460 #[.val (.int x0), .val (.int x1), .val (.int kn), .val (.ref ob1), .unset, .unset] [(.int ((x0.toUInt32 >>> ((19 : Int32) &&& 31).toUInt32).toInt32)), (.int (19 : Int32)), (.ref ob1)]) _ _ _
                                          refine own_to (fun t k => XS.iconst X20.here hx rfl (hb hby at_460) k) ?_
                                          show own_Out p e below _ T20 (mkF m 461 #[.val (.int x0), .val (.int x1), .val (.int kn), .val (.ref ob1), .unset, .unset] [(.int (1 : Int32)), (.int ((x0.toUInt32 >>> ((19 : Int32) &&& 31).toUInt32).toInt32)), (.int (19 : Int32)), (.ref ob1)]) _ _ _
                                          refine own_to (fun t k => XS.iand X20.here hx rfl (hb hby at_461) rfl k) ?_
                                          show own_Out p e below _ T20 (mkF m 462 #[.val (.int x0), .val (.int x1), .val (.int kn), .val (.ref ob1), .unset, .unset] [(.int (((x0.toUInt32 >>> ((19 : Int32) &&& 31).toUInt32).toInt32) &&& (1 : Int32))), (.int (19 : Int32)), (.ref ob1)]) _ _ _
                                          by_cases hc462 : (((x0.toUInt32 >>> ((19 : Int32) &&& 31).toUInt32).toInt32) &&& (1 : Int32)) = (0 : Int32)
                                          · refine own_to (fun t k => XS.ifYes X20.here hx rfl (pc0 := 462) (pc' := 469) rfl (hb hby at_462) rfl ((if0 _ _).trans (teq hc462).1) (by decide) (by decide) k) ?_
                                            show own_Out p e below _ T20 (mkF m 469 #[.val (.int x0), .val (.int x1), .val (.int kn), .val (.ref ob1), .unset, .unset] [(.int (19 : Int32)), (.ref ob1)]) _ _ _
                                            refine own_to (fun t k => XS.iconst X20.here hx rfl (hb hby at_469) k) ?_
                                            show own_Out p e below _ T20 (mkF m 470 #[.val (.int x0), .val (.int x1), .val (.int kn), .val (.ref ob1), .unset, .unset] [(.int (0 : Int32)), (.int (19 : Int32)), (.ref ob1)]) _ _ _
                                            refine own_stZ X20 hx hZ e20 A_ob1 (by decide) (by rw [own_lt] at hc450; have kz := own_cc19; show (19 : Int32).toInt.toNat < kn.toInt.toNat; omega) rfl rfl (hb hby at_470) fun T23 hh23 X23 e23 W23 A23 => ?_
                                            have A_ob1 := A23
                                            have Z0 := Nat.le_trans Z0 (Nat.le_of_eq W23.size.symm)
                                            have N23 := own_fs (sl := Int32.toNatClampNeg (19 : Int32)) N20 g_ob1
                                            exact J471 T23 hh23 _ (X23.more (by decide) (by decide)) e23 N23 Z0 (A_ob1.congr (fun j _ => own_put0 x0 (19 : Int32) 19 (by decide) ((own_e19 x0).mp hc462) j))
                                          · refine own_to (fun t k => XS.ifNo X20.here hx rfl (hb hby at_462) rfl ((if0 _ _).trans (feq hc462).1) k) ?_
                                            show own_Out p e below _ T20 (mkF m 465 #[.val (.int x0), .val (.int x1), .val (.int kn), .val (.ref ob1), .unset, .unset] [(.int (19 : Int32)), (.ref ob1)]) _ _ _
                                            refine own_to (fun t k => XS.iconst X20.here hx rfl (hb hby at_465) k) ?_
                                            show own_Out p e below _ T20 (mkF m 466 #[.val (.int x0), .val (.int x1), .val (.int kn), .val (.ref ob1), .unset, .unset] [(.int (1 : Int32)), (.int (19 : Int32)), (.ref ob1)]) _ _ _
                                            refine own_to (fun t k => XS.goto X20.here hx rfl (pc0 := 466) (pc' := 470) rfl (hb hby at_466) (by decide) (by decide) k) ?_
                                            show own_Out p e below _ T20 (mkF m 470 #[.val (.int x0), .val (.int x1), .val (.int kn), .val (.ref ob1), .unset, .unset] [(.int (1 : Int32)), (.int (19 : Int32)), (.ref ob1)]) _ _ _
                                            refine own_stZ X20 hx hZ e20 A_ob1 (by decide) (by rw [own_lt] at hc450; have kz := own_cc19; show (19 : Int32).toInt.toNat < kn.toInt.toNat; omega) rfl rfl (hb hby at_470) fun T24 hh24 X24 e24 W24 A24 => ?_
                                            have A_ob1 := A24
                                            have Z0 := Nat.le_trans Z0 (Nat.le_of_eq W24.size.symm)
                                            have N24 := own_fs (sl := Int32.toNatClampNeg (19 : Int32)) N20 g_ob1
                                            exact J471 T24 hh24 _ (X24.more (by decide) (by decide)) e24 N24 Z0 (A_ob1.congr (fun j _ => own_put1 x0 (19 : Int32) 19 (by decide) (own_tt (fun q => hc462 ((own_e19 x0).mpr q))) j))
                                        · refine own_to (fun t k => XS.icmpYes X20.here hx rfl (pc0 := 450) (pc' := 471) rfl (hb hby at_450) rfl (flt hc450).2.2.2 (by decide) (by decide) k) ?_
                                          exact J471 T20 hh20 _ (X20.more (by decide) (by decide)) e20 N20 Z0 (A_ob1.congr (own_skip x0 kn (19 : Int32) 19 (by decide) bn.1 hc450))
                                      refine own_to (fun t k => XS.iloadN X19.here hx rfl (hb hby at_423) rfl k) ?_
                                      show own_Out p e below _ T19 (mkF m 424 #[.val (.int x0), .val (.int x1), .val (.int kn), .val (.ref ob1), .unset, .unset] [(.int kn)]) _ _ _
                                      refine own_to (fun t k => XS.bipush X19.here hx rfl (hb hby at_424) k) ?_
                                      show own_Out p e below _ T19 (mkF m 426 #[.val (.int x0), .val (.int x1), .val (.int kn), .val (.ref ob1), .unset, .unset] [(.int (18 : Int32)), (.int kn)]) _ _ _
                                      by_cases hc426 : (18 : Int32) < kn
                                      · refine own_to (fun t k => XS.icmpNo X19.here hx rfl (hb hby at_426) rfl (tlt hc426).2.2.2 k) ?_
                                        show own_Out p e below _ T19 (mkF m 429 #[.val (.int x0), .val (.int x1), .val (.int kn), .val (.ref ob1), .unset, .unset] []) _ _ _
                                        refine own_to (fun t k => XS.aloadN X19.here hx rfl (hb hby at_429) rfl rfl k) ?_
                                        show own_Out p e below _ T19 (mkF m 430 #[.val (.int x0), .val (.int x1), .val (.int kn), .val (.ref ob1), .unset, .unset] [(.ref ob1)]) _ _ _
                                        refine own_to (fun t k => XS.bipush X19.here hx rfl (hb hby at_430) k) ?_
                                        show own_Out p e below _ T19 (mkF m 432 #[.val (.int x0), .val (.int x1), .val (.int kn), .val (.ref ob1), .unset, .unset] [(.int (18 : Int32)), (.ref ob1)]) _ _ _
                                        refine own_to (fun t k => XS.iloadN X19.here hx rfl (hb hby at_432) rfl k) ?_
                                        show own_Out p e below _ T19 (mkF m 433 #[.val (.int x0), .val (.int x1), .val (.int kn), .val (.ref ob1), .unset, .unset] [(.int x0), (.int (18 : Int32)), (.ref ob1)]) _ _ _
                                        refine own_to (fun t k => XS.bipush X19.here hx rfl (hb hby at_433) k) ?_
                                        show own_Out p e below _ T19 (mkF m 435 #[.val (.int x0), .val (.int x1), .val (.int kn), .val (.ref ob1), .unset, .unset] [(.int (18 : Int32)), (.int x0), (.int (18 : Int32)), (.ref ob1)]) _ _ _
                                        refine own_to (fun t k => XS.iushr X19.here hx rfl (hb hby at_435) rfl k) ?_
                                        show own_Out p e below _ T19 (mkF m 436 #[.val (.int x0), .val (.int x1), .val (.int kn), .val (.ref ob1), .unset, .unset] [(.int ((x0.toUInt32 >>> ((18 : Int32) &&& 31).toUInt32).toInt32)), (.int (18 : Int32)), (.ref ob1)]) _ _ _
                                        refine own_to (fun t k => XS.iconst X19.here hx rfl (hb hby at_436) k) ?_
                                        show own_Out p e below _ T19 (mkF m 437 #[.val (.int x0), .val (.int x1), .val (.int kn), .val (.ref ob1), .unset, .unset] [(.int (1 : Int32)), (.int ((x0.toUInt32 >>> ((18 : Int32) &&& 31).toUInt32).toInt32)), (.int (18 : Int32)), (.ref ob1)]) _ _ _
                                        refine own_to (fun t k => XS.iand X19.here hx rfl (hb hby at_437) rfl k) ?_
                                        show own_Out p e below _ T19 (mkF m 438 #[.val (.int x0), .val (.int x1), .val (.int kn), .val (.ref ob1), .unset, .unset] [(.int (((x0.toUInt32 >>> ((18 : Int32) &&& 31).toUInt32).toInt32) &&& (1 : Int32))), (.int (18 : Int32)), (.ref ob1)]) _ _ _
                                        by_cases hc438 : (((x0.toUInt32 >>> ((18 : Int32) &&& 31).toUInt32).toInt32) &&& (1 : Int32)) = (0 : Int32)
                                        · refine own_to (fun t k => XS.ifYes X19.here hx rfl (pc0 := 438) (pc' := 445) rfl (hb hby at_438) rfl ((if0 _ _).trans (teq hc438).1) (by decide) (by decide) k) ?_
                                          show own_Out p e below _ T19 (mkF m 445 #[.val (.int x0), .val (.int x1), .val (.int kn), .val (.ref ob1), .unset, .unset] [(.int (18 : Int32)), (.ref ob1)]) _ _ _
                                          refine own_to (fun t k => XS.iconst X19.here hx rfl (hb hby at_445) k) ?_
                                          show own_Out p e below _ T19 (mkF m 446 #[.val (.int x0), .val (.int x1), .val (.int kn), .val (.ref ob1), .unset, .unset] [(.int (0 : Int32)), (.int (18 : Int32)), (.ref ob1)]) _ _ _
                                          refine own_stZ X19 hx hZ e19 A_ob1 (by decide) (by rw [own_lt] at hc426; have kz := own_cc18; show (18 : Int32).toInt.toNat < kn.toInt.toNat; omega) rfl rfl (hb hby at_446) fun T25 hh25 X25 e25 W25 A25 => ?_
                                          have A_ob1 := A25
                                          have Z0 := Nat.le_trans Z0 (Nat.le_of_eq W25.size.symm)
                                          have N25 := own_fs (sl := Int32.toNatClampNeg (18 : Int32)) N19 g_ob1
                                          exact J447 T25 hh25 _ (X25.more (by decide) (by decide)) e25 N25 Z0 (A_ob1.congr (fun j _ => own_put0 x0 (18 : Int32) 18 (by decide) ((own_e18 x0).mp hc438) j))
                                        · refine own_to (fun t k => XS.ifNo X19.here hx rfl (hb hby at_438) rfl ((if0 _ _).trans (feq hc438).1) k) ?_
                                          show own_Out p e below _ T19 (mkF m 441 #[.val (.int x0), .val (.int x1), .val (.int kn), .val (.ref ob1), .unset, .unset] [(.int (18 : Int32)), (.ref ob1)]) _ _ _
                                          refine own_to (fun t k => XS.iconst X19.here hx rfl (hb hby at_441) k) ?_
                                          show own_Out p e below _ T19 (mkF m 442 #[.val (.int x0), .val (.int x1), .val (.int kn), .val (.ref ob1), .unset, .unset] [(.int (1 : Int32)), (.int (18 : Int32)), (.ref ob1)]) _ _ _
                                          refine own_to (fun t k => XS.goto X19.here hx rfl (pc0 := 442) (pc' := 446) rfl (hb hby at_442) (by decide) (by decide) k) ?_
                                          show own_Out p e below _ T19 (mkF m 446 #[.val (.int x0), .val (.int x1), .val (.int kn), .val (.ref ob1), .unset, .unset] [(.int (1 : Int32)), (.int (18 : Int32)), (.ref ob1)]) _ _ _
                                          refine own_stZ X19 hx hZ e19 A_ob1 (by decide) (by rw [own_lt] at hc426; have kz := own_cc18; show (18 : Int32).toInt.toNat < kn.toInt.toNat; omega) rfl rfl (hb hby at_446) fun T26 hh26 X26 e26 W26 A26 => ?_
                                          have A_ob1 := A26
                                          have Z0 := Nat.le_trans Z0 (Nat.le_of_eq W26.size.symm)
                                          have N26 := own_fs (sl := Int32.toNatClampNeg (18 : Int32)) N19 g_ob1
                                          exact J447 T26 hh26 _ (X26.more (by decide) (by decide)) e26 N26 Z0 (A_ob1.congr (fun j _ => own_put1 x0 (18 : Int32) 18 (by decide) (own_tt (fun q => hc438 ((own_e18 x0).mpr q))) j))
                                      · refine own_to (fun t k => XS.icmpYes X19.here hx rfl (pc0 := 426) (pc' := 447) rfl (hb hby at_426) rfl (flt hc426).2.2.2 (by decide) (by decide) k) ?_
                                        exact J447 T19 hh19 _ (X19.more (by decide) (by decide)) e19 N19 Z0 (A_ob1.congr (own_skip x0 kn (18 : Int32) 18 (by decide) bn.1 hc426))
                                    refine own_to (fun t k => XS.iloadN X18.here hx rfl (hb hby at_399) rfl k) ?_
                                    show own_Out p e below _ T18 (mkF m 400 #[.val (.int x0), .val (.int x1), .val (.int kn), .val (.ref ob1), .unset, .unset] [(.int kn)]) _ _ _
                                    refine own_to (fun t k => XS.bipush X18.here hx rfl (hb hby at_400) k) ?_
                                    show own_Out p e below _ T18 (mkF m 402 #[.val (.int x0), .val (.int x1), .val (.int kn), .val (.ref ob1), .unset, .unset] [(.int (17 : Int32)), (.int kn)]) _ _ _
                                    by_cases hc402 : (17 : Int32) < kn
                                    · refine own_to (fun t k => XS.icmpNo X18.here hx rfl (hb hby at_402) rfl (tlt hc402).2.2.2 k) ?_
                                      show own_Out p e below _ T18 (mkF m 405 #[.val (.int x0), .val (.int x1), .val (.int kn), .val (.ref ob1), .unset, .unset] []) _ _ _
                                      refine own_to (fun t k => XS.aloadN X18.here hx rfl (hb hby at_405) rfl rfl k) ?_
                                      show own_Out p e below _ T18 (mkF m 406 #[.val (.int x0), .val (.int x1), .val (.int kn), .val (.ref ob1), .unset, .unset] [(.ref ob1)]) _ _ _
                                      refine own_to (fun t k => XS.bipush X18.here hx rfl (hb hby at_406) k) ?_
                                      show own_Out p e below _ T18 (mkF m 408 #[.val (.int x0), .val (.int x1), .val (.int kn), .val (.ref ob1), .unset, .unset] [(.int (17 : Int32)), (.ref ob1)]) _ _ _
                                      refine own_to (fun t k => XS.iloadN X18.here hx rfl (hb hby at_408) rfl k) ?_
                                      show own_Out p e below _ T18 (mkF m 409 #[.val (.int x0), .val (.int x1), .val (.int kn), .val (.ref ob1), .unset, .unset] [(.int x0), (.int (17 : Int32)), (.ref ob1)]) _ _ _
                                      refine own_to (fun t k => XS.bipush X18.here hx rfl (hb hby at_409) k) ?_
                                      show own_Out p e below _ T18 (mkF m 411 #[.val (.int x0), .val (.int x1), .val (.int kn), .val (.ref ob1), .unset, .unset] [(.int (17 : Int32)), (.int x0), (.int (17 : Int32)), (.ref ob1)]) _ _ _
                                      refine own_to (fun t k => XS.iushr X18.here hx rfl (hb hby at_411) rfl k) ?_
                                      show own_Out p e below _ T18 (mkF m 412 #[.val (.int x0), .val (.int x1), .val (.int kn), .val (.ref ob1), .unset, .unset] [(.int ((x0.toUInt32 >>> ((17 : Int32) &&& 31).toUInt32).toInt32)), (.int (17 : Int32)), (.ref ob1)]) _ _ _
                                      refine own_to (fun t k => XS.iconst X18.here hx rfl (hb hby at_412) k) ?_
                                      show own_Out p e below _ T18 (mkF m 413 #[.val (.int x0), .val (.int x1), .val (.int kn), .val (.ref ob1), .unset, .unset] [(.int (1 : Int32)), (.int ((x0.toUInt32 >>> ((17 : Int32) &&& 31).toUInt32).toInt32)), (.int (17 : Int32)), (.ref ob1)]) _ _ _
                                      refine own_to (fun t k => XS.iand X18.here hx rfl (hb hby at_413) rfl k) ?_
                                      show own_Out p e below _ T18 (mkF m 414 #[.val (.int x0), .val (.int x1), .val (.int kn), .val (.ref ob1), .unset, .unset] [(.int (((x0.toUInt32 >>> ((17 : Int32) &&& 31).toUInt32).toInt32) &&& (1 : Int32))), (.int (17 : Int32)), (.ref ob1)]) _ _ _
                                      by_cases hc414 : (((x0.toUInt32 >>> ((17 : Int32) &&& 31).toUInt32).toInt32) &&& (1 : Int32)) = (0 : Int32)
                                      · refine own_to (fun t k => XS.ifYes X18.here hx rfl (pc0 := 414) (pc' := 421) rfl (hb hby at_414) rfl ((if0 _ _).trans (teq hc414).1) (by decide) (by decide) k) ?_
                                        show own_Out p e below _ T18 (mkF m 421 #[.val (.int x0), .val (.int x1), .val (.int kn), .val (.ref ob1), .unset, .unset] [(.int (17 : Int32)), (.ref ob1)]) _ _ _
                                        refine own_to (fun t k => XS.iconst X18.here hx rfl (hb hby at_421) k) ?_
                                        show own_Out p e below _ T18 (mkF m 422 #[.val (.int x0), .val (.int x1), .val (.int kn), .val (.ref ob1), .unset, .unset] [(.int (0 : Int32)), (.int (17 : Int32)), (.ref ob1)]) _ _ _
                                        refine own_stZ X18 hx hZ e18 A_ob1 (by decide) (by rw [own_lt] at hc402; have kz := own_cc17; show (17 : Int32).toInt.toNat < kn.toInt.toNat; omega) rfl rfl (hb hby at_422) fun T27 hh27 X27 e27 W27 A27 => ?_
                                        have A_ob1 := A27
                                        have Z0 := Nat.le_trans Z0 (Nat.le_of_eq W27.size.symm)
                                        have N27 := own_fs (sl := Int32.toNatClampNeg (17 : Int32)) N18 g_ob1
                                        exact J423 T27 hh27 _ (X27.more (by decide) (by decide)) e27 N27 Z0 (A_ob1.congr (fun j _ => own_put0 x0 (17 : Int32) 17 (by decide) ((own_e17 x0).mp hc414) j))
                                      · refine own_to (fun t k => XS.ifNo X18.here hx rfl (hb hby at_414) rfl ((if0 _ _).trans (feq hc414).1) k) ?_
                                        show own_Out p e below _ T18 (mkF m 417 #[.val (.int x0), .val (.int x1), .val (.int kn), .val (.ref ob1), .unset, .unset] [(.int (17 : Int32)), (.ref ob1)]) _ _ _
                                        refine own_to (fun t k => XS.iconst X18.here hx rfl (hb hby at_417) k) ?_
                                        show own_Out p e below _ T18 (mkF m 418 #[.val (.int x0), .val (.int x1), .val (.int kn), .val (.ref ob1), .unset, .unset] [(.int (1 : Int32)), (.int (17 : Int32)), (.ref ob1)]) _ _ _
                                        refine own_to (fun t k => XS.goto X18.here hx rfl (pc0 := 418) (pc' := 422) rfl (hb hby at_418) (by decide) (by decide) k) ?_
                                        show own_Out p e below _ T18 (mkF m 422 #[.val (.int x0), .val (.int x1), .val (.int kn), .val (.ref ob1), .unset, .unset] [(.int (1 : Int32)), (.int (17 : Int32)), (.ref ob1)]) _ _ _
                                        refine own_stZ X18 hx hZ e18 A_ob1 (by decide) (by rw [own_lt] at hc402; have kz := own_cc17; show (17 : Int32).toInt.toNat < kn.toInt.toNat; omega) rfl rfl (hb hby at_422) fun T28 hh28 X28 e28 W28 A28 => ?_
                                        have A_ob1 := A28
                                        have Z0 := Nat.le_trans Z0 (Nat.le_of_eq W28.size.symm)
                                        have N28 := own_fs (sl := Int32.toNatClampNeg (17 : Int32)) N18 g_ob1
                                        exact J423 T28 hh28 _ (X28.more (by decide) (by decide)) e28 N28 Z0 (A_ob1.congr (fun j _ => own_put1 x0 (17 : Int32) 17 (by decide) (own_tt (fun q => hc414 ((own_e17 x0).mpr q))) j))
                                    · refine own_to (fun t k => XS.icmpYes X18.here hx rfl (pc0 := 402) (pc' := 423) rfl (hb hby at_402) rfl (flt hc402).2.2.2 (by decide) (by decide) k) ?_
                                      exact J423 T18 hh18 _ (X18.more (by decide) (by decide)) e18 N18 Z0 (A_ob1.congr (own_skip x0 kn (17 : Int32) 17 (by decide) bn.1 hc402))
                                  refine own_to (fun t k => XS.iloadN X17.here hx rfl (hb hby at_375) rfl k) ?_
                                  show own_Out p e below _ T17 (mkF m 376 #[.val (.int x0), .val (.int x1), .val (.int kn), .val (.ref ob1), .unset, .unset] [(.int kn)]) _ _ _
                                  refine own_to (fun t k => XS.bipush X17.here hx rfl (hb hby at_376) k) ?_
                                  show own_Out p e below _ T17 (mkF m 378 #[.val (.int x0), .val (.int x1), .val (.int kn), .val (.ref ob1), .unset, .unset] [(.int (16 : Int32)), (.int kn)]) _ _ _
                                  by_cases hc378 : (16 : Int32) < kn
                                  · refine own_to (fun t k => XS.icmpNo X17.here hx rfl (hb hby at_378) rfl (tlt hc378).2.2.2 k) ?_
                                    show own_Out p e below _ T17 (mkF m 381 #[.val (.int x0), .val (.int x1), .val (.int kn), .val (.ref ob1), .unset, .unset] []) _ _ _
                                    refine own_to (fun t k => XS.aloadN X17.here hx rfl (hb hby at_381) rfl rfl k) ?_
                                    show own_Out p e below _ T17 (mkF m 382 #[.val (.int x0), .val (.int x1), .val (.int kn), .val (.ref ob1), .unset, .unset] [(.ref ob1)]) _ _ _
                                    refine own_to (fun t k => XS.bipush X17.here hx rfl (hb hby at_382) k) ?_
                                    show own_Out p e below _ T17 (mkF m 384 #[.val (.int x0), .val (.int x1), .val (.int kn), .val (.ref ob1), .unset, .unset] [(.int (16 : Int32)), (.ref ob1)]) _ _ _
                                    refine own_to (fun t k => XS.iloadN X17.here hx rfl (hb hby at_384) rfl k) ?_
                                    show own_Out p e below _ T17 (mkF m 385 #[.val (.int x0), .val (.int x1), .val (.int kn), .val (.ref ob1), .unset, .unset] [(.int x0), (.int (16 : Int32)), (.ref ob1)]) _ _ _
                                    refine own_to (fun t k => XS.bipush X17.here hx rfl (hb hby at_385) k) ?_
                                    show own_Out p e below _ T17 (mkF m 387 #[.val (.int x0), .val (.int x1), .val (.int kn), .val (.ref ob1), .unset, .unset] [(.int (16 : Int32)), (.int x0), (.int (16 : Int32)), (.ref ob1)]) _ _ _
                                    refine own_to (fun t k => XS.iushr X17.here hx rfl (hb hby at_387) rfl k) ?_
                                    show own_Out p e below _ T17 (mkF m 388 #[.val (.int x0), .val (.int x1), .val (.int kn), .val (.ref ob1), .unset, .unset] [(.int ((x0.toUInt32 >>> ((16 : Int32) &&& 31).toUInt32).toInt32)), (.int (16 : Int32)), (.ref ob1)]) _ _ _
                                    refine own_to (fun t k => XS.iconst X17.here hx rfl (hb hby at_388) k) ?_
                                    show own_Out p e below _ T17 (mkF m 389 #[.val (.int x0), .val (.int x1), .val (.int kn), .val (.ref ob1), .unset, .unset] [(.int (1 : Int32)), (.int ((x0.toUInt32 >>> ((16 : Int32) &&& 31).toUInt32).toInt32)), (.int (16 : Int32)), (.ref ob1)]) _ _ _
                                    refine own_to (fun t k => XS.iand X17.here hx rfl (hb hby at_389) rfl k) ?_
                                    show own_Out p e below _ T17 (mkF m 390 #[.val (.int x0), .val (.int x1), .val (.int kn), .val (.ref ob1), .unset, .unset] [(.int (((x0.toUInt32 >>> ((16 : Int32) &&& 31).toUInt32).toInt32) &&& (1 : Int32))), (.int (16 : Int32)), (.ref ob1)]) _ _ _
                                    by_cases hc390 : (((x0.toUInt32 >>> ((16 : Int32) &&& 31).toUInt32).toInt32) &&& (1 : Int32)) = (0 : Int32)
                                    · refine own_to (fun t k => XS.ifYes X17.here hx rfl (pc0 := 390) (pc' := 397) rfl (hb hby at_390) rfl ((if0 _ _).trans (teq hc390).1) (by decide) (by decide) k) ?_
                                      show own_Out p e below _ T17 (mkF m 397 #[.val (.int x0), .val (.int x1), .val (.int kn), .val (.ref ob1), .unset, .unset] [(.int (16 : Int32)), (.ref ob1)]) _ _ _
                                      refine own_to (fun t k => XS.iconst X17.here hx rfl (hb hby at_397) k) ?_
                                      show own_Out p e below _ T17 (mkF m 398 #[.val (.int x0), .val (.int x1), .val (.int kn), .val (.ref ob1), .unset, .unset] [(.int (0 : Int32)), (.int (16 : Int32)), (.ref ob1)]) _ _ _
                                      refine own_stZ X17 hx hZ e17 A_ob1 (by decide) (by rw [own_lt] at hc378; have kz := own_cc16; show (16 : Int32).toInt.toNat < kn.toInt.toNat; omega) rfl rfl (hb hby at_398) fun T29 hh29 X29 e29 W29 A29 => ?_
                                      have A_ob1 := A29
                                      have Z0 := Nat.le_trans Z0 (Nat.le_of_eq W29.size.symm)
                                      have N29 := own_fs (sl := Int32.toNatClampNeg (16 : Int32)) N17 g_ob1
                                      exact J399 T29 hh29 _ (X29.more (by decide) (by decide)) e29 N29 Z0 (A_ob1.congr (fun j _ => own_put0 x0 (16 : Int32) 16 (by decide) ((own_e16 x0).mp hc390) j))
                                    · refine own_to (fun t k => XS.ifNo X17.here hx rfl (hb hby at_390) rfl ((if0 _ _).trans (feq hc390).1) k) ?_
                                      show own_Out p e below _ T17 (mkF m 393 #[.val (.int x0), .val (.int x1), .val (.int kn), .val (.ref ob1), .unset, .unset] [(.int (16 : Int32)), (.ref ob1)]) _ _ _
                                      refine own_to (fun t k => XS.iconst X17.here hx rfl (hb hby at_393) k) ?_
                                      show own_Out p e below _ T17 (mkF m 394 #[.val (.int x0), .val (.int x1), .val (.int kn), .val (.ref ob1), .unset, .unset] [(.int (1 : Int32)), (.int (16 : Int32)), (.ref ob1)]) _ _ _
                                      refine own_to (fun t k => XS.goto X17.here hx rfl (pc0 := 394) (pc' := 398) rfl (hb hby at_394) (by decide) (by decide) k) ?_
                                      show own_Out p e below _ T17 (mkF m 398 #[.val (.int x0), .val (.int x1), .val (.int kn), .val (.ref ob1), .unset, .unset] [(.int (1 : Int32)), (.int (16 : Int32)), (.ref ob1)]) _ _ _
                                      refine own_stZ X17 hx hZ e17 A_ob1 (by decide) (by rw [own_lt] at hc378; have kz := own_cc16; show (16 : Int32).toInt.toNat < kn.toInt.toNat; omega) rfl rfl (hb hby at_398) fun T30 hh30 X30 e30 W30 A30 => ?_
                                      have A_ob1 := A30
                                      have Z0 := Nat.le_trans Z0 (Nat.le_of_eq W30.size.symm)
                                      have N30 := own_fs (sl := Int32.toNatClampNeg (16 : Int32)) N17 g_ob1
                                      exact J399 T30 hh30 _ (X30.more (by decide) (by decide)) e30 N30 Z0 (A_ob1.congr (fun j _ => own_put1 x0 (16 : Int32) 16 (by decide) (own_tt (fun q => hc390 ((own_e16 x0).mpr q))) j))
                                  · refine own_to (fun t k => XS.icmpYes X17.here hx rfl (pc0 := 378) (pc' := 399) rfl (hb hby at_378) rfl (flt hc378).2.2.2 (by decide) (by decide) k) ?_
                                    exact J399 T17 hh17 _ (X17.more (by decide) (by decide)) e17 N17 Z0 (A_ob1.congr (own_skip x0 kn (16 : Int32) 16 (by decide) bn.1 hc378))
                                refine own_to (fun t k => XS.iloadN X16.here hx rfl (hb hby at_351) rfl k) ?_
                                show own_Out p e below _ T16 (mkF m 352 #[.val (.int x0), .val (.int x1), .val (.int kn), .val (.ref ob1), .unset, .unset] [(.int kn)]) _ _ _
                                refine own_to (fun t k => XS.bipush X16.here hx rfl (hb hby at_352) k) ?_
                                show own_Out p e below _ T16 (mkF m 354 #[.val (.int x0), .val (.int x1), .val (.int kn), .val (.ref ob1), .unset, .unset] [(.int (15 : Int32)), (.int kn)]) _ _ _
                                by_cases hc354 : (15 : Int32) < kn
                                · refine own_to (fun t k => XS.icmpNo X16.here hx rfl (hb hby at_354) rfl (tlt hc354).2.2.2 k) ?_
                                  show own_Out p e below _ T16 (mkF m 357 #[.val (.int x0), .val (.int x1), .val (.int kn), .val (.ref ob1), .unset, .unset] []) _ _ _
                                  refine own_to (fun t k => XS.aloadN X16.here hx rfl (hb hby at_357) rfl rfl k) ?_
                                  show own_Out p e below _ T16 (mkF m 358 #[.val (.int x0), .val (.int x1), .val (.int kn), .val (.ref ob1), .unset, .unset] [(.ref ob1)]) _ _ _
                                  refine own_to (fun t k => XS.bipush X16.here hx rfl (hb hby at_358) k) ?_
                                  show own_Out p e below _ T16 (mkF m 360 #[.val (.int x0), .val (.int x1), .val (.int kn), .val (.ref ob1), .unset, .unset] [(.int (15 : Int32)), (.ref ob1)]) _ _ _
                                  refine own_to (fun t k => XS.iloadN X16.here hx rfl (hb hby at_360) rfl k) ?_
                                  show own_Out p e below _ T16 (mkF m 361 #[.val (.int x0), .val (.int x1), .val (.int kn), .val (.ref ob1), .unset, .unset] [(.int x0), (.int (15 : Int32)), (.ref ob1)]) _ _ _
                                  refine own_to (fun t k => XS.bipush X16.here hx rfl (hb hby at_361) k) ?_
                                  show own_Out p e below _ T16 (mkF m 363 #[.val (.int x0), .val (.int x1), .val (.int kn), .val (.ref ob1), .unset, .unset] [(.int (15 : Int32)), (.int x0), (.int (15 : Int32)), (.ref ob1)]) _ _ _
                                  refine own_to (fun t k => XS.iushr X16.here hx rfl (hb hby at_363) rfl k) ?_
                                  show own_Out p e below _ T16 (mkF m 364 #[.val (.int x0), .val (.int x1), .val (.int kn), .val (.ref ob1), .unset, .unset] [(.int ((x0.toUInt32 >>> ((15 : Int32) &&& 31).toUInt32).toInt32)), (.int (15 : Int32)), (.ref ob1)]) _ _ _
                                  refine own_to (fun t k => XS.iconst X16.here hx rfl (hb hby at_364) k) ?_
                                  show own_Out p e below _ T16 (mkF m 365 #[.val (.int x0), .val (.int x1), .val (.int kn), .val (.ref ob1), .unset, .unset] [(.int (1 : Int32)), (.int ((x0.toUInt32 >>> ((15 : Int32) &&& 31).toUInt32).toInt32)), (.int (15 : Int32)), (.ref ob1)]) _ _ _
                                  refine own_to (fun t k => XS.iand X16.here hx rfl (hb hby at_365) rfl k) ?_
                                  show own_Out p e below _ T16 (mkF m 366 #[.val (.int x0), .val (.int x1), .val (.int kn), .val (.ref ob1), .unset, .unset] [(.int (((x0.toUInt32 >>> ((15 : Int32) &&& 31).toUInt32).toInt32) &&& (1 : Int32))), (.int (15 : Int32)), (.ref ob1)]) _ _ _
                                  by_cases hc366 : (((x0.toUInt32 >>> ((15 : Int32) &&& 31).toUInt32).toInt32) &&& (1 : Int32)) = (0 : Int32)
                                  · refine own_to (fun t k => XS.ifYes X16.here hx rfl (pc0 := 366) (pc' := 373) rfl (hb hby at_366) rfl ((if0 _ _).trans (teq hc366).1) (by decide) (by decide) k) ?_
                                    show own_Out p e below _ T16 (mkF m 373 #[.val (.int x0), .val (.int x1), .val (.int kn), .val (.ref ob1), .unset, .unset] [(.int (15 : Int32)), (.ref ob1)]) _ _ _
                                    refine own_to (fun t k => XS.iconst X16.here hx rfl (hb hby at_373) k) ?_
                                    show own_Out p e below _ T16 (mkF m 374 #[.val (.int x0), .val (.int x1), .val (.int kn), .val (.ref ob1), .unset, .unset] [(.int (0 : Int32)), (.int (15 : Int32)), (.ref ob1)]) _ _ _
                                    refine own_stZ X16 hx hZ e16 A_ob1 (by decide) (by rw [own_lt] at hc354; have kz := own_cc15; show (15 : Int32).toInt.toNat < kn.toInt.toNat; omega) rfl rfl (hb hby at_374) fun T31 hh31 X31 e31 W31 A31 => ?_
                                    have A_ob1 := A31
                                    have Z0 := Nat.le_trans Z0 (Nat.le_of_eq W31.size.symm)
                                    have N31 := own_fs (sl := Int32.toNatClampNeg (15 : Int32)) N16 g_ob1
                                    exact J375 T31 hh31 _ (X31.more (by decide) (by decide)) e31 N31 Z0 (A_ob1.congr (fun j _ => own_put0 x0 (15 : Int32) 15 (by decide) ((own_e15 x0).mp hc366) j))
                                  · refine own_to (fun t k => XS.ifNo X16.here hx rfl (hb hby at_366) rfl ((if0 _ _).trans (feq hc366).1) k) ?_
                                    show own_Out p e below _ T16 (mkF m 369 #[.val (.int x0), .val (.int x1), .val (.int kn), .val (.ref ob1), .unset, .unset] [(.int (15 : Int32)), (.ref ob1)]) _ _ _
                                    refine own_to (fun t k => XS.iconst X16.here hx rfl (hb hby at_369) k) ?_
                                    show own_Out p e below _ T16 (mkF m 370 #[.val (.int x0), .val (.int x1), .val (.int kn), .val (.ref ob1), .unset, .unset] [(.int (1 : Int32)), (.int (15 : Int32)), (.ref ob1)]) _ _ _
                                    refine own_to (fun t k => XS.goto X16.here hx rfl (pc0 := 370) (pc' := 374) rfl (hb hby at_370) (by decide) (by decide) k) ?_
                                    show own_Out p e below _ T16 (mkF m 374 #[.val (.int x0), .val (.int x1), .val (.int kn), .val (.ref ob1), .unset, .unset] [(.int (1 : Int32)), (.int (15 : Int32)), (.ref ob1)]) _ _ _
                                    refine own_stZ X16 hx hZ e16 A_ob1 (by decide) (by rw [own_lt] at hc354; have kz := own_cc15; show (15 : Int32).toInt.toNat < kn.toInt.toNat; omega) rfl rfl (hb hby at_374) fun T32 hh32 X32 e32 W32 A32 => ?_
                                    have A_ob1 := A32
                                    have Z0 := Nat.le_trans Z0 (Nat.le_of_eq W32.size.symm)
                                    have N32 := own_fs (sl := Int32.toNatClampNeg (15 : Int32)) N16 g_ob1
                                    exact J375 T32 hh32 _ (X32.more (by decide) (by decide)) e32 N32 Z0 (A_ob1.congr (fun j _ => own_put1 x0 (15 : Int32) 15 (by decide) (own_tt (fun q => hc366 ((own_e15 x0).mpr q))) j))
                                · refine own_to (fun t k => XS.icmpYes X16.here hx rfl (pc0 := 354) (pc' := 375) rfl (hb hby at_354) rfl (flt hc354).2.2.2 (by decide) (by decide) k) ?_
                                  exact J375 T16 hh16 _ (X16.more (by decide) (by decide)) e16 N16 Z0 (A_ob1.congr (own_skip x0 kn (15 : Int32) 15 (by decide) bn.1 hc354))
                              refine own_to (fun t k => XS.iloadN X15.here hx rfl (hb hby at_327) rfl k) ?_
                              show own_Out p e below _ T15 (mkF m 328 #[.val (.int x0), .val (.int x1), .val (.int kn), .val (.ref ob1), .unset, .unset] [(.int kn)]) _ _ _
                              refine own_to (fun t k => XS.bipush X15.here hx rfl (hb hby at_328) k) ?_
                              show own_Out p e below _ T15 (mkF m 330 #[.val (.int x0), .val (.int x1), .val (.int kn), .val (.ref ob1), .unset, .unset] [(.int (14 : Int32)), (.int kn)]) _ _ _
                              by_cases hc330 : (14 : Int32) < kn
                              · refine own_to (fun t k => XS.icmpNo X15.here hx rfl (hb hby at_330) rfl (tlt hc330).2.2.2 k) ?_
                                show own_Out p e below _ T15 (mkF m 333 #[.val (.int x0), .val (.int x1), .val (.int kn), .val (.ref ob1), .unset, .unset] []) _ _ _
                                refine own_to (fun t k => XS.aloadN X15.here hx rfl (hb hby at_333) rfl rfl k) ?_
                                show own_Out p e below _ T15 (mkF m 334 #[.val (.int x0), .val (.int x1), .val (.int kn), .val (.ref ob1), .unset, .unset] [(.ref ob1)]) _ _ _
                                refine own_to (fun t k => XS.bipush X15.here hx rfl (hb hby at_334) k) ?_
                                show own_Out p e below _ T15 (mkF m 336 #[.val (.int x0), .val (.int x1), .val (.int kn), .val (.ref ob1), .unset, .unset] [(.int (14 : Int32)), (.ref ob1)]) _ _ _
                                refine own_to (fun t k => XS.iloadN X15.here hx rfl (hb hby at_336) rfl k) ?_
                                show own_Out p e below _ T15 (mkF m 337 #[.val (.int x0), .val (.int x1), .val (.int kn), .val (.ref ob1), .unset, .unset] [(.int x0), (.int (14 : Int32)), (.ref ob1)]) _ _ _
                                refine own_to (fun t k => XS.bipush X15.here hx rfl (hb hby at_337) k) ?_
                                show own_Out p e below _ T15 (mkF m 339 #[.val (.int x0), .val (.int x1), .val (.int kn), .val (.ref ob1), .unset, .unset] [(.int (14 : Int32)), (.int x0), (.int (14 : Int32)), (.ref ob1)]) _ _ _
                                refine own_to (fun t k => XS.iushr X15.here hx rfl (hb hby at_339) rfl k) ?_
                                show own_Out p e below _ T15 (mkF m 340 #[.val (.int x0), .val (.int x1), .val (.int kn), .val (.ref ob1), .unset, .unset] [(.int ((x0.toUInt32 >>> ((14 : Int32) &&& 31).toUInt32).toInt32)), (.int (14 : Int32)), (.ref ob1)]) _ _ _
                                refine own_to (fun t k => XS.iconst X15.here hx rfl (hb hby at_340) k) ?_
                                show own_Out p e below _ T15 (mkF m 341 #[.val (.int x0), .val (.int x1), .val (.int kn), .val (.ref ob1), .unset, .unset] [(.int (1 : Int32)), (.int ((x0.toUInt32 >>> ((14 : Int32) &&& 31).toUInt32).toInt32)), (.int (14 : Int32)), (.ref ob1)]) _ _ _
                                refine own_to (fun t k => XS.iand X15.here hx rfl (hb hby at_341) rfl k) ?_
                                show own_Out p e below _ T15 (mkF m 342 #[.val (.int x0), .val (.int x1), .val (.int kn), .val (.ref ob1), .unset, .unset] [(.int (((x0.toUInt32 >>> ((14 : Int32) &&& 31).toUInt32).toInt32) &&& (1 : Int32))), (.int (14 : Int32)), (.ref ob1)]) _ _ _
                                by_cases hc342 : (((x0.toUInt32 >>> ((14 : Int32) &&& 31).toUInt32).toInt32) &&& (1 : Int32)) = (0 : Int32)
                                · refine own_to (fun t k => XS.ifYes X15.here hx rfl (pc0 := 342) (pc' := 349) rfl (hb hby at_342) rfl ((if0 _ _).trans (teq hc342).1) (by decide) (by decide) k) ?_
                                  show own_Out p e below _ T15 (mkF m 349 #[.val (.int x0), .val (.int x1), .val (.int kn), .val (.ref ob1), .unset, .unset] [(.int (14 : Int32)), (.ref ob1)]) _ _ _
                                  refine own_to (fun t k => XS.iconst X15.here hx rfl (hb hby at_349) k) ?_
                                  show own_Out p e below _ T15 (mkF m 350 #[.val (.int x0), .val (.int x1), .val (.int kn), .val (.ref ob1), .unset, .unset] [(.int (0 : Int32)), (.int (14 : Int32)), (.ref ob1)]) _ _ _
                                  refine own_stZ X15 hx hZ e15 A_ob1 (by decide) (by rw [own_lt] at hc330; have kz := own_cc14; show (14 : Int32).toInt.toNat < kn.toInt.toNat; omega) rfl rfl (hb hby at_350) fun T33 hh33 X33 e33 W33 A33 => ?_
                                  have A_ob1 := A33
                                  have Z0 := Nat.le_trans Z0 (Nat.le_of_eq W33.size.symm)
                                  have N33 := own_fs (sl := Int32.toNatClampNeg (14 : Int32)) N15 g_ob1
                                  exact J351 T33 hh33 _ (X33.more (by decide) (by decide)) e33 N33 Z0 (A_ob1.congr (fun j _ => own_put0 x0 (14 : Int32) 14 (by decide) ((own_e14 x0).mp hc342) j))
                                · refine own_to (fun t k => XS.ifNo X15.here hx rfl (hb hby at_342) rfl ((if0 _ _).trans (feq hc342).1) k) ?_
                                  show own_Out p e below _ T15 (mkF m 345 #[.val (.int x0), .val (.int x1), .val (.int kn), .val (.ref ob1), .unset, .unset] [(.int (14 : Int32)), (.ref ob1)]) _ _ _
                                  refine own_to (fun t k => XS.iconst X15.here hx rfl (hb hby at_345) k) ?_
                                  show own_Out p e below _ T15 (mkF m 346 #[.val (.int x0), .val (.int x1), .val (.int kn), .val (.ref ob1), .unset, .unset] [(.int (1 : Int32)), (.int (14 : Int32)), (.ref ob1)]) _ _ _
                                  refine own_to (fun t k => XS.goto X15.here hx rfl (pc0 := 346) (pc' := 350) rfl (hb hby at_346) (by decide) (by decide) k) ?_
                                  show own_Out p e below _ T15 (mkF m 350 #[.val (.int x0), .val (.int x1), .val (.int kn), .val (.ref ob1), .unset, .unset] [(.int (1 : Int32)), (.int (14 : Int32)), (.ref ob1)]) _ _ _
                                  refine own_stZ X15 hx hZ e15 A_ob1 (by decide) (by rw [own_lt] at hc330; have kz := own_cc14; show (14 : Int32).toInt.toNat < kn.toInt.toNat; omega) rfl rfl (hb hby at_350) fun T34 hh34 X34 e34 W34 A34 => ?_
                                  have A_ob1 := A34
                                  have Z0 := Nat.le_trans Z0 (Nat.le_of_eq W34.size.symm)
                                  have N34 := own_fs (sl := Int32.toNatClampNeg (14 : Int32)) N15 g_ob1
                                  exact J351 T34 hh34 _ (X34.more (by decide) (by decide)) e34 N34 Z0 (A_ob1.congr (fun j _ => own_put1 x0 (14 : Int32) 14 (by decide) (own_tt (fun q => hc342 ((own_e14 x0).mpr q))) j))
                              · refine own_to (fun t k => XS.icmpYes X15.here hx rfl (pc0 := 330) (pc' := 351) rfl (hb hby at_330) rfl (flt hc330).2.2.2 (by decide) (by decide) k) ?_
                                exact J351 T15 hh15 _ (X15.more (by decide) (by decide)) e15 N15 Z0 (A_ob1.congr (own_skip x0 kn (14 : Int32) 14 (by decide) bn.1 hc330))
                            refine own_to (fun t k => XS.iloadN X14.here hx rfl (hb hby at_303) rfl k) ?_
                            show own_Out p e below _ T14 (mkF m 304 #[.val (.int x0), .val (.int x1), .val (.int kn), .val (.ref ob1), .unset, .unset] [(.int kn)]) _ _ _
                            refine own_to (fun t k => XS.bipush X14.here hx rfl (hb hby at_304) k) ?_
                            show own_Out p e below _ T14 (mkF m 306 #[.val (.int x0), .val (.int x1), .val (.int kn), .val (.ref ob1), .unset, .unset] [(.int (13 : Int32)), (.int kn)]) _ _ _
                            by_cases hc306 : (13 : Int32) < kn
                            · refine own_to (fun t k => XS.icmpNo X14.here hx rfl (hb hby at_306) rfl (tlt hc306).2.2.2 k) ?_
                              show own_Out p e below _ T14 (mkF m 309 #[.val (.int x0), .val (.int x1), .val (.int kn), .val (.ref ob1), .unset, .unset] []) _ _ _
                              refine own_to (fun t k => XS.aloadN X14.here hx rfl (hb hby at_309) rfl rfl k) ?_
                              show own_Out p e below _ T14 (mkF m 310 #[.val (.int x0), .val (.int x1), .val (.int kn), .val (.ref ob1), .unset, .unset] [(.ref ob1)]) _ _ _
                              refine own_to (fun t k => XS.bipush X14.here hx rfl (hb hby at_310) k) ?_
                              show own_Out p e below _ T14 (mkF m 312 #[.val (.int x0), .val (.int x1), .val (.int kn), .val (.ref ob1), .unset, .unset] [(.int (13 : Int32)), (.ref ob1)]) _ _ _
                              refine own_to (fun t k => XS.iloadN X14.here hx rfl (hb hby at_312) rfl k) ?_
                              show own_Out p e below _ T14 (mkF m 313 #[.val (.int x0), .val (.int x1), .val (.int kn), .val (.ref ob1), .unset, .unset] [(.int x0), (.int (13 : Int32)), (.ref ob1)]) _ _ _
                              refine own_to (fun t k => XS.bipush X14.here hx rfl (hb hby at_313) k) ?_
                              show own_Out p e below _ T14 (mkF m 315 #[.val (.int x0), .val (.int x1), .val (.int kn), .val (.ref ob1), .unset, .unset] [(.int (13 : Int32)), (.int x0), (.int (13 : Int32)), (.ref ob1)]) _ _ _
                              refine own_to (fun t k => XS.iushr X14.here hx rfl (hb hby at_315) rfl k) ?_
                              show own_Out p e below _ T14 (mkF m 316 #[.val (.int x0), .val (.int x1), .val (.int kn), .val (.ref ob1), .unset, .unset] [(.int ((x0.toUInt32 >>> ((13 : Int32) &&& 31).toUInt32).toInt32)), (.int (13 : Int32)), (.ref ob1)]) _ _ _
                              refine own_to (fun t k => XS.iconst X14.here hx rfl (hb hby at_316) k) ?_
                              show own_Out p e below _ T14 (mkF m 317 #[.val (.int x0), .val (.int x1), .val (.int kn), .val (.ref ob1), .unset, .unset] [(.int (1 : Int32)), (.int ((x0.toUInt32 >>> ((13 : Int32) &&& 31).toUInt32).toInt32)), (.int (13 : Int32)), (.ref ob1)]) _ _ _
                              refine own_to (fun t k => XS.iand X14.here hx rfl (hb hby at_317) rfl k) ?_
                              show own_Out p e below _ T14 (mkF m 318 #[.val (.int x0), .val (.int x1), .val (.int kn), .val (.ref ob1), .unset, .unset] [(.int (((x0.toUInt32 >>> ((13 : Int32) &&& 31).toUInt32).toInt32) &&& (1 : Int32))), (.int (13 : Int32)), (.ref ob1)]) _ _ _
                              by_cases hc318 : (((x0.toUInt32 >>> ((13 : Int32) &&& 31).toUInt32).toInt32) &&& (1 : Int32)) = (0 : Int32)
                              · refine own_to (fun t k => XS.ifYes X14.here hx rfl (pc0 := 318) (pc' := 325) rfl (hb hby at_318) rfl ((if0 _ _).trans (teq hc318).1) (by decide) (by decide) k) ?_
                                show own_Out p e below _ T14 (mkF m 325 #[.val (.int x0), .val (.int x1), .val (.int kn), .val (.ref ob1), .unset, .unset] [(.int (13 : Int32)), (.ref ob1)]) _ _ _
                                refine own_to (fun t k => XS.iconst X14.here hx rfl (hb hby at_325) k) ?_
                                show own_Out p e below _ T14 (mkF m 326 #[.val (.int x0), .val (.int x1), .val (.int kn), .val (.ref ob1), .unset, .unset] [(.int (0 : Int32)), (.int (13 : Int32)), (.ref ob1)]) _ _ _
                                refine own_stZ X14 hx hZ e14 A_ob1 (by decide) (by rw [own_lt] at hc306; have kz := own_cc13; show (13 : Int32).toInt.toNat < kn.toInt.toNat; omega) rfl rfl (hb hby at_326) fun T35 hh35 X35 e35 W35 A35 => ?_
                                have A_ob1 := A35
                                have Z0 := Nat.le_trans Z0 (Nat.le_of_eq W35.size.symm)
                                have N35 := own_fs (sl := Int32.toNatClampNeg (13 : Int32)) N14 g_ob1
                                exact J327 T35 hh35 _ (X35.more (by decide) (by decide)) e35 N35 Z0 (A_ob1.congr (fun j _ => own_put0 x0 (13 : Int32) 13 (by decide) ((own_e13 x0).mp hc318) j))
                              · refine own_to (fun t k => XS.ifNo X14.here hx rfl (hb hby at_318) rfl ((if0 _ _).trans (feq hc318).1) k) ?_
                                show own_Out p e below _ T14 (mkF m 321 #[.val (.int x0), .val (.int x1), .val (.int kn), .val (.ref ob1), .unset, .unset] [(.int (13 : Int32)), (.ref ob1)]) _ _ _
                                refine own_to (fun t k => XS.iconst X14.here hx rfl (hb hby at_321) k) ?_
                                show own_Out p e below _ T14 (mkF m 322 #[.val (.int x0), .val (.int x1), .val (.int kn), .val (.ref ob1), .unset, .unset] [(.int (1 : Int32)), (.int (13 : Int32)), (.ref ob1)]) _ _ _
                                refine own_to (fun t k => XS.goto X14.here hx rfl (pc0 := 322) (pc' := 326) rfl (hb hby at_322) (by decide) (by decide) k) ?_
                                show own_Out p e below _ T14 (mkF m 326 #[.val (.int x0), .val (.int x1), .val (.int kn), .val (.ref ob1), .unset, .unset] [(.int (1 : Int32)), (.int (13 : Int32)), (.ref ob1)]) _ _ _
                                refine own_stZ X14 hx hZ e14 A_ob1 (by decide) (by rw [own_lt] at hc306; have kz := own_cc13; show (13 : Int32).toInt.toNat < kn.toInt.toNat; omega) rfl rfl (hb hby at_326) fun T36 hh36 X36 e36 W36 A36 => ?_
                                have A_ob1 := A36
                                have Z0 := Nat.le_trans Z0 (Nat.le_of_eq W36.size.symm)
                                have N36 := own_fs (sl := Int32.toNatClampNeg (13 : Int32)) N14 g_ob1
                                exact J327 T36 hh36 _ (X36.more (by decide) (by decide)) e36 N36 Z0 (A_ob1.congr (fun j _ => own_put1 x0 (13 : Int32) 13 (by decide) (own_tt (fun q => hc318 ((own_e13 x0).mpr q))) j))
                            · refine own_to (fun t k => XS.icmpYes X14.here hx rfl (pc0 := 306) (pc' := 327) rfl (hb hby at_306) rfl (flt hc306).2.2.2 (by decide) (by decide) k) ?_
                              exact J327 T14 hh14 _ (X14.more (by decide) (by decide)) e14 N14 Z0 (A_ob1.congr (own_skip x0 kn (13 : Int32) 13 (by decide) bn.1 hc306))
                          refine own_to (fun t k => XS.iloadN X13.here hx rfl (hb hby at_279) rfl k) ?_
                          show own_Out p e below _ T13 (mkF m 280 #[.val (.int x0), .val (.int x1), .val (.int kn), .val (.ref ob1), .unset, .unset] [(.int kn)]) _ _ _
                          refine own_to (fun t k => XS.bipush X13.here hx rfl (hb hby at_280) k) ?_
                          show own_Out p e below _ T13 (mkF m 282 #[.val (.int x0), .val (.int x1), .val (.int kn), .val (.ref ob1), .unset, .unset] [(.int (12 : Int32)), (.int kn)]) _ _ _
                          by_cases hc282 : (12 : Int32) < kn
                          · refine own_to (fun t k => XS.icmpNo X13.here hx rfl (hb hby at_282) rfl (tlt hc282).2.2.2 k) ?_
                            show own_Out p e below _ T13 (mkF m 285 #[.val (.int x0), .val (.int x1), .val (.int kn), .val (.ref ob1), .unset, .unset] []) _ _ _
                            refine own_to (fun t k => XS.aloadN X13.here hx rfl (hb hby at_285) rfl rfl k) ?_
                            show own_Out p e below _ T13 (mkF m 286 #[.val (.int x0), .val (.int x1), .val (.int kn), .val (.ref ob1), .unset, .unset] [(.ref ob1)]) _ _ _
                            refine own_to (fun t k => XS.bipush X13.here hx rfl (hb hby at_286) k) ?_
                            show own_Out p e below _ T13 (mkF m 288 #[.val (.int x0), .val (.int x1), .val (.int kn), .val (.ref ob1), .unset, .unset] [(.int (12 : Int32)), (.ref ob1)]) _ _ _
                            refine own_to (fun t k => XS.iloadN X13.here hx rfl (hb hby at_288) rfl k) ?_
                            show own_Out p e below _ T13 (mkF m 289 #[.val (.int x0), .val (.int x1), .val (.int kn), .val (.ref ob1), .unset, .unset] [(.int x0), (.int (12 : Int32)), (.ref ob1)]) _ _ _
                            refine own_to (fun t k => XS.bipush X13.here hx rfl (hb hby at_289) k) ?_
                            show own_Out p e below _ T13 (mkF m 291 #[.val (.int x0), .val (.int x1), .val (.int kn), .val (.ref ob1), .unset, .unset] [(.int (12 : Int32)), (.int x0), (.int (12 : Int32)), (.ref ob1)]) _ _ _
                            refine own_to (fun t k => XS.iushr X13.here hx rfl (hb hby at_291) rfl k) ?_
                            show own_Out p e below _ T13 (mkF m 292 #[.val (.int x0), .val (.int x1), .val (.int kn), .val (.ref ob1), .unset, .unset] [(.int ((x0.toUInt32 >>> ((12 : Int32) &&& 31).toUInt32).toInt32)), (.int (12 : Int32)), (.ref ob1)]) _ _ _
                            refine own_to (fun t k => XS.iconst X13.here hx rfl (hb hby at_292) k) ?_
                            show own_Out p e below _ T13 (mkF m 293 #[.val (.int x0), .val (.int x1), .val (.int kn), .val (.ref ob1), .unset, .unset] [(.int (1 : Int32)), (.int ((x0.toUInt32 >>> ((12 : Int32) &&& 31).toUInt32).toInt32)), (.int (12 : Int32)), (.ref ob1)]) _ _ _
                            refine own_to (fun t k => XS.iand X13.here hx rfl (hb hby at_293) rfl k) ?_
                            show own_Out p e below _ T13 (mkF m 294 #[.val (.int x0), .val (.int x1), .val (.int kn), .val (.ref ob1), .unset, .unset] [(.int (((x0.toUInt32 >>> ((12 : Int32) &&& 31).toUInt32).toInt32) &&& (1 : Int32))), (.int (12 : Int32)), (.ref ob1)]) _ _ _
                            by_cases hc294 : (((x0.toUInt32 >>> ((12 : Int32) &&& 31).toUInt32).toInt32) &&& (1 : Int32)) = (0 : Int32)
                            · refine own_to (fun t k => XS.ifYes X13.here hx rfl (pc0 := 294) (pc' := 301) rfl (hb hby at_294) rfl ((if0 _ _).trans (teq hc294).1) (by decide) (by decide) k) ?_
                              show own_Out p e below _ T13 (mkF m 301 #[.val (.int x0), .val (.int x1), .val (.int kn), .val (.ref ob1), .unset, .unset] [(.int (12 : Int32)), (.ref ob1)]) _ _ _
                              refine own_to (fun t k => XS.iconst X13.here hx rfl (hb hby at_301) k) ?_
                              show own_Out p e below _ T13 (mkF m 302 #[.val (.int x0), .val (.int x1), .val (.int kn), .val (.ref ob1), .unset, .unset] [(.int (0 : Int32)), (.int (12 : Int32)), (.ref ob1)]) _ _ _
                              refine own_stZ X13 hx hZ e13 A_ob1 (by decide) (by rw [own_lt] at hc282; have kz := own_cc12; show (12 : Int32).toInt.toNat < kn.toInt.toNat; omega) rfl rfl (hb hby at_302) fun T37 hh37 X37 e37 W37 A37 => ?_
                              have A_ob1 := A37
                              have Z0 := Nat.le_trans Z0 (Nat.le_of_eq W37.size.symm)
                              have N37 := own_fs (sl := Int32.toNatClampNeg (12 : Int32)) N13 g_ob1
                              exact J303 T37 hh37 _ (X37.more (by decide) (by decide)) e37 N37 Z0 (A_ob1.congr (fun j _ => own_put0 x0 (12 : Int32) 12 (by decide) ((own_e12 x0).mp hc294) j))
                            · refine own_to (fun t k => XS.ifNo X13.here hx rfl (hb hby at_294) rfl ((if0 _ _).trans (feq hc294).1) k) ?_
                              show own_Out p e below _ T13 (mkF m 297 #[.val (.int x0), .val (.int x1), .val (.int kn), .val (.ref ob1), .unset, .unset] [(.int (12 : Int32)), (.ref ob1)]) _ _ _
                              refine own_to (fun t k => XS.iconst X13.here hx rfl (hb hby at_297) k) ?_
                              show own_Out p e below _ T13 (mkF m 298 #[.val (.int x0), .val (.int x1), .val (.int kn), .val (.ref ob1), .unset, .unset] [(.int (1 : Int32)), (.int (12 : Int32)), (.ref ob1)]) _ _ _
                              refine own_to (fun t k => XS.goto X13.here hx rfl (pc0 := 298) (pc' := 302) rfl (hb hby at_298) (by decide) (by decide) k) ?_
                              show own_Out p e below _ T13 (mkF m 302 #[.val (.int x0), .val (.int x1), .val (.int kn), .val (.ref ob1), .unset, .unset] [(.int (1 : Int32)), (.int (12 : Int32)), (.ref ob1)]) _ _ _
                              refine own_stZ X13 hx hZ e13 A_ob1 (by decide) (by rw [own_lt] at hc282; have kz := own_cc12; show (12 : Int32).toInt.toNat < kn.toInt.toNat; omega) rfl rfl (hb hby at_302) fun T38 hh38 X38 e38 W38 A38 => ?_
                              have A_ob1 := A38
                              have Z0 := Nat.le_trans Z0 (Nat.le_of_eq W38.size.symm)
                              have N38 := own_fs (sl := Int32.toNatClampNeg (12 : Int32)) N13 g_ob1
                              exact J303 T38 hh38 _ (X38.more (by decide) (by decide)) e38 N38 Z0 (A_ob1.congr (fun j _ => own_put1 x0 (12 : Int32) 12 (by decide) (own_tt (fun q => hc294 ((own_e12 x0).mpr q))) j))
                          · refine own_to (fun t k => XS.icmpYes X13.here hx rfl (pc0 := 282) (pc' := 303) rfl (hb hby at_282) rfl (flt hc282).2.2.2 (by decide) (by decide) k) ?_
                            exact J303 T13 hh13 _ (X13.more (by decide) (by decide)) e13 N13 Z0 (A_ob1.congr (own_skip x0 kn (12 : Int32) 12 (by decide) bn.1 hc282))
                        refine own_to (fun t k => XS.iloadN X12.here hx rfl (hb hby at_255) rfl k) ?_
                        show own_Out p e below _ T12 (mkF m 256 #[.val (.int x0), .val (.int x1), .val (.int kn), .val (.ref ob1), .unset, .unset] [(.int kn)]) _ _ _
                        refine own_to (fun t k => XS.bipush X12.here hx rfl (hb hby at_256) k) ?_
                        show own_Out p e below _ T12 (mkF m 258 #[.val (.int x0), .val (.int x1), .val (.int kn), .val (.ref ob1), .unset, .unset] [(.int (11 : Int32)), (.int kn)]) _ _ _
                        by_cases hc258 : (11 : Int32) < kn
                        · refine own_to (fun t k => XS.icmpNo X12.here hx rfl (hb hby at_258) rfl (tlt hc258).2.2.2 k) ?_
                          show own_Out p e below _ T12 (mkF m 261 #[.val (.int x0), .val (.int x1), .val (.int kn), .val (.ref ob1), .unset, .unset] []) _ _ _
                          refine own_to (fun t k => XS.aloadN X12.here hx rfl (hb hby at_261) rfl rfl k) ?_
                          show own_Out p e below _ T12 (mkF m 262 #[.val (.int x0), .val (.int x1), .val (.int kn), .val (.ref ob1), .unset, .unset] [(.ref ob1)]) _ _ _
                          refine own_to (fun t k => XS.bipush X12.here hx rfl (hb hby at_262) k) ?_
                          show own_Out p e below _ T12 (mkF m 264 #[.val (.int x0), .val (.int x1), .val (.int kn), .val (.ref ob1), .unset, .unset] [(.int (11 : Int32)), (.ref ob1)]) _ _ _
                          refine own_to (fun t k => XS.iloadN X12.here hx rfl (hb hby at_264) rfl k) ?_
                          show own_Out p e below _ T12 (mkF m 265 #[.val (.int x0), .val (.int x1), .val (.int kn), .val (.ref ob1), .unset, .unset] [(.int x0), (.int (11 : Int32)), (.ref ob1)]) _ _ _
                          refine own_to (fun t k => XS.bipush X12.here hx rfl (hb hby at_265) k) ?_
                          show own_Out p e below _ T12 (mkF m 267 #[.val (.int x0), .val (.int x1), .val (.int kn), .val (.ref ob1), .unset, .unset] [(.int (11 : Int32)), (.int x0), (.int (11 : Int32)), (.ref ob1)]) _ _ _
                          refine own_to (fun t k => XS.iushr X12.here hx rfl (hb hby at_267) rfl k) ?_
                          show own_Out p e below _ T12 (mkF m 268 #[.val (.int x0), .val (.int x1), .val (.int kn), .val (.ref ob1), .unset, .unset] [(.int ((x0.toUInt32 >>> ((11 : Int32) &&& 31).toUInt32).toInt32)), (.int (11 : Int32)), (.ref ob1)]) _ _ _
                          refine own_to (fun t k => XS.iconst X12.here hx rfl (hb hby at_268) k) ?_
                          show own_Out p e below _ T12 (mkF m 269 #[.val (.int x0), .val (.int x1), .val (.int kn), .val (.ref ob1), .unset, .unset] [(.int (1 : Int32)), (.int ((x0.toUInt32 >>> ((11 : Int32) &&& 31).toUInt32).toInt32)), (.int (11 : Int32)), (.ref ob1)]) _ _ _
                          refine own_to (fun t k => XS.iand X12.here hx rfl (hb hby at_269) rfl k) ?_
                          show own_Out p e below _ T12 (mkF m 270 #[.val (.int x0), .val (.int x1), .val (.int kn), .val (.ref ob1), .unset, .unset] [(.int (((x0.toUInt32 >>> ((11 : Int32) &&& 31).toUInt32).toInt32) &&& (1 : Int32))), (.int (11 : Int32)), (.ref ob1)]) _ _ _
                          by_cases hc270 : (((x0.toUInt32 >>> ((11 : Int32) &&& 31).toUInt32).toInt32) &&& (1 : Int32)) = (0 : Int32)
                          · refine own_to (fun t k => XS.ifYes X12.here hx rfl (pc0 := 270) (pc' := 277) rfl (hb hby at_270) rfl ((if0 _ _).trans (teq hc270).1) (by decide) (by decide) k) ?_
                            show own_Out p e below _ T12 (mkF m 277 #[.val (.int x0), .val (.int x1), .val (.int kn), .val (.ref ob1), .unset, .unset] [(.int (11 : Int32)), (.ref ob1)]) _ _ _
                            refine own_to (fun t k => XS.iconst X12.here hx rfl (hb hby at_277) k) ?_
                            show own_Out p e below _ T12 (mkF m 278 #[.val (.int x0), .val (.int x1), .val (.int kn), .val (.ref ob1), .unset, .unset] [(.int (0 : Int32)), (.int (11 : Int32)), (.ref ob1)]) _ _ _
                            refine own_stZ X12 hx hZ e12 A_ob1 (by decide) (by rw [own_lt] at hc258; have kz := own_cc11; show (11 : Int32).toInt.toNat < kn.toInt.toNat; omega) rfl rfl (hb hby at_278) fun T39 hh39 X39 e39 W39 A39 => ?_
                            have A_ob1 := A39
                            have Z0 := Nat.le_trans Z0 (Nat.le_of_eq W39.size.symm)
                            have N39 := own_fs (sl := Int32.toNatClampNeg (11 : Int32)) N12 g_ob1
                            exact J279 T39 hh39 _ (X39.more (by decide) (by decide)) e39 N39 Z0 (A_ob1.congr (fun j _ => own_put0 x0 (11 : Int32) 11 (by decide) ((own_e11 x0).mp hc270) j))
                          · refine own_to (fun t k => XS.ifNo X12.here hx rfl (hb hby at_270) rfl ((if0 _ _).trans (feq hc270).1) k) ?_
                            show own_Out p e below _ T12 (mkF m 273 #[.val (.int x0), .val (.int x1), .val (.int kn), .val (.ref ob1), .unset, .unset] [(.int (11 : Int32)), (.ref ob1)]) _ _ _
                            refine own_to (fun t k => XS.iconst X12.here hx rfl (hb hby at_273) k) ?_
                            show own_Out p e below _ T12 (mkF m 274 #[.val (.int x0), .val (.int x1), .val (.int kn), .val (.ref ob1), .unset, .unset] [(.int (1 : Int32)), (.int (11 : Int32)), (.ref ob1)]) _ _ _
                            refine own_to (fun t k => XS.goto X12.here hx rfl (pc0 := 274) (pc' := 278) rfl (hb hby at_274) (by decide) (by decide) k) ?_
                            show own_Out p e below _ T12 (mkF m 278 #[.val (.int x0), .val (.int x1), .val (.int kn), .val (.ref ob1), .unset, .unset] [(.int (1 : Int32)), (.int (11 : Int32)), (.ref ob1)]) _ _ _
                            refine own_stZ X12 hx hZ e12 A_ob1 (by decide) (by rw [own_lt] at hc258; have kz := own_cc11; show (11 : Int32).toInt.toNat < kn.toInt.toNat; omega) rfl rfl (hb hby at_278) fun T40 hh40 X40 e40 W40 A40 => ?_
                            have A_ob1 := A40
                            have Z0 := Nat.le_trans Z0 (Nat.le_of_eq W40.size.symm)
                            have N40 := own_fs (sl := Int32.toNatClampNeg (11 : Int32)) N12 g_ob1
                            exact J279 T40 hh40 _ (X40.more (by decide) (by decide)) e40 N40 Z0 (A_ob1.congr (fun j _ => own_put1 x0 (11 : Int32) 11 (by decide) (own_tt (fun q => hc270 ((own_e11 x0).mpr q))) j))
                        · refine own_to (fun t k => XS.icmpYes X12.here hx rfl (pc0 := 258) (pc' := 279) rfl (hb hby at_258) rfl (flt hc258).2.2.2 (by decide) (by decide) k) ?_
                          exact J279 T12 hh12 _ (X12.more (by decide) (by decide)) e12 N12 Z0 (A_ob1.congr (own_skip x0 kn (11 : Int32) 11 (by decide) bn.1 hc258))
                      refine own_to (fun t k => XS.iloadN X11.here hx rfl (hb hby at_231) rfl k) ?_
                      show own_Out p e below _ T11 (mkF m 232 #[.val (.int x0), .val (.int x1), .val (.int kn), .val (.ref ob1), .unset, .unset] [(.int kn)]) _ _ _
                      refine own_to (fun t k => XS.bipush X11.here hx rfl (hb hby at_232) k) ?_
                      show own_Out p e below _ T11 (mkF m 234 #[.val (.int x0), .val (.int x1), .val (.int kn), .val (.ref ob1), .unset, .unset] [(.int (10 : Int32)), (.int kn)]) _ _ _
                      by_cases hc234 : (10 : Int32) < kn
                      · refine own_to (fun t k => XS.icmpNo X11.here hx rfl (hb hby at_234) rfl (tlt hc234).2.2.2 k) ?_
                        show own_Out p e below _ T11 (mkF m 237 #[.val (.int x0), .val (.int x1), .val (.int kn), .val (.ref ob1), .unset, .unset] []) _ _ _
                        refine own_to (fun t k => XS.aloadN X11.here hx rfl (hb hby at_237) rfl rfl k) ?_
                        show own_Out p e below _ T11 (mkF m 238 #[.val (.int x0), .val (.int x1), .val (.int kn), .val (.ref ob1), .unset, .unset] [(.ref ob1)]) _ _ _
                        refine own_to (fun t k => XS.bipush X11.here hx rfl (hb hby at_238) k) ?_
                        show own_Out p e below _ T11 (mkF m 240 #[.val (.int x0), .val (.int x1), .val (.int kn), .val (.ref ob1), .unset, .unset] [(.int (10 : Int32)), (.ref ob1)]) _ _ _
                        refine own_to (fun t k => XS.iloadN X11.here hx rfl (hb hby at_240) rfl k) ?_
                        show own_Out p e below _ T11 (mkF m 241 #[.val (.int x0), .val (.int x1), .val (.int kn), .val (.ref ob1), .unset, .unset] [(.int x0), (.int (10 : Int32)), (.ref ob1)]) _ _ _
                        refine own_to (fun t k => XS.bipush X11.here hx rfl (hb hby at_241) k) ?_
                        show own_Out p e below _ T11 (mkF m 243 #[.val (.int x0), .val (.int x1), .val (.int kn), .val (.ref ob1), .unset, .unset] [(.int (10 : Int32)), (.int x0), (.int (10 : Int32)), (.ref ob1)]) _ _ _
                        refine own_to (fun t k => XS.iushr X11.here hx rfl (hb hby at_243) rfl k) ?_
                        show own_Out p e below _ T11 (mkF m 244 #[.val (.int x0), .val (.int x1), .val (.int kn), .val (.ref ob1), .unset, .unset] [(.int ((x0.toUInt32 >>> ((10 : Int32) &&& 31).toUInt32).toInt32)), (.int (10 : Int32)), (.ref ob1)]) _ _ _
                        refine own_to (fun t k => XS.iconst X11.here hx rfl (hb hby at_244) k) ?_
                        show own_Out p e below _ T11 (mkF m 245 #[.val (.int x0), .val (.int x1), .val (.int kn), .val (.ref ob1), .unset, .unset] [(.int (1 : Int32)), (.int ((x0.toUInt32 >>> ((10 : Int32) &&& 31).toUInt32).toInt32)), (.int (10 : Int32)), (.ref ob1)]) _ _ _
                        refine own_to (fun t k => XS.iand X11.here hx rfl (hb hby at_245) rfl k) ?_
                        show own_Out p e below _ T11 (mkF m 246 #[.val (.int x0), .val (.int x1), .val (.int kn), .val (.ref ob1), .unset, .unset] [(.int (((x0.toUInt32 >>> ((10 : Int32) &&& 31).toUInt32).toInt32) &&& (1 : Int32))), (.int (10 : Int32)), (.ref ob1)]) _ _ _
                        by_cases hc246 : (((x0.toUInt32 >>> ((10 : Int32) &&& 31).toUInt32).toInt32) &&& (1 : Int32)) = (0 : Int32)
                        · refine own_to (fun t k => XS.ifYes X11.here hx rfl (pc0 := 246) (pc' := 253) rfl (hb hby at_246) rfl ((if0 _ _).trans (teq hc246).1) (by decide) (by decide) k) ?_
                          show own_Out p e below _ T11 (mkF m 253 #[.val (.int x0), .val (.int x1), .val (.int kn), .val (.ref ob1), .unset, .unset] [(.int (10 : Int32)), (.ref ob1)]) _ _ _
                          refine own_to (fun t k => XS.iconst X11.here hx rfl (hb hby at_253) k) ?_
                          show own_Out p e below _ T11 (mkF m 254 #[.val (.int x0), .val (.int x1), .val (.int kn), .val (.ref ob1), .unset, .unset] [(.int (0 : Int32)), (.int (10 : Int32)), (.ref ob1)]) _ _ _
                          refine own_stZ X11 hx hZ e11 A_ob1 (by decide) (by rw [own_lt] at hc234; have kz := own_cc10; show (10 : Int32).toInt.toNat < kn.toInt.toNat; omega) rfl rfl (hb hby at_254) fun T41 hh41 X41 e41 W41 A41 => ?_
                          have A_ob1 := A41
                          have Z0 := Nat.le_trans Z0 (Nat.le_of_eq W41.size.symm)
                          have N41 := own_fs (sl := Int32.toNatClampNeg (10 : Int32)) N11 g_ob1
                          exact J255 T41 hh41 _ (X41.more (by decide) (by decide)) e41 N41 Z0 (A_ob1.congr (fun j _ => own_put0 x0 (10 : Int32) 10 (by decide) ((own_e10 x0).mp hc246) j))
                        · refine own_to (fun t k => XS.ifNo X11.here hx rfl (hb hby at_246) rfl ((if0 _ _).trans (feq hc246).1) k) ?_
                          show own_Out p e below _ T11 (mkF m 249 #[.val (.int x0), .val (.int x1), .val (.int kn), .val (.ref ob1), .unset, .unset] [(.int (10 : Int32)), (.ref ob1)]) _ _ _
                          refine own_to (fun t k => XS.iconst X11.here hx rfl (hb hby at_249) k) ?_
                          show own_Out p e below _ T11 (mkF m 250 #[.val (.int x0), .val (.int x1), .val (.int kn), .val (.ref ob1), .unset, .unset] [(.int (1 : Int32)), (.int (10 : Int32)), (.ref ob1)]) _ _ _
                          refine own_to (fun t k => XS.goto X11.here hx rfl (pc0 := 250) (pc' := 254) rfl (hb hby at_250) (by decide) (by decide) k) ?_
                          show own_Out p e below _ T11 (mkF m 254 #[.val (.int x0), .val (.int x1), .val (.int kn), .val (.ref ob1), .unset, .unset] [(.int (1 : Int32)), (.int (10 : Int32)), (.ref ob1)]) _ _ _
                          refine own_stZ X11 hx hZ e11 A_ob1 (by decide) (by rw [own_lt] at hc234; have kz := own_cc10; show (10 : Int32).toInt.toNat < kn.toInt.toNat; omega) rfl rfl (hb hby at_254) fun T42 hh42 X42 e42 W42 A42 => ?_
                          have A_ob1 := A42
                          have Z0 := Nat.le_trans Z0 (Nat.le_of_eq W42.size.symm)
                          have N42 := own_fs (sl := Int32.toNatClampNeg (10 : Int32)) N11 g_ob1
                          exact J255 T42 hh42 _ (X42.more (by decide) (by decide)) e42 N42 Z0 (A_ob1.congr (fun j _ => own_put1 x0 (10 : Int32) 10 (by decide) (own_tt (fun q => hc246 ((own_e10 x0).mpr q))) j))
                      · refine own_to (fun t k => XS.icmpYes X11.here hx rfl (pc0 := 234) (pc' := 255) rfl (hb hby at_234) rfl (flt hc234).2.2.2 (by decide) (by decide) k) ?_
                        exact J255 T11 hh11 _ (X11.more (by decide) (by decide)) e11 N11 Z0 (A_ob1.congr (own_skip x0 kn (10 : Int32) 10 (by decide) bn.1 hc234))
                    refine own_to (fun t k => XS.iloadN X10.here hx rfl (hb hby at_207) rfl k) ?_
                    show own_Out p e below _ T10 (mkF m 208 #[.val (.int x0), .val (.int x1), .val (.int kn), .val (.ref ob1), .unset, .unset] [(.int kn)]) _ _ _
                    refine own_to (fun t k => XS.bipush X10.here hx rfl (hb hby at_208) k) ?_
                    show own_Out p e below _ T10 (mkF m 210 #[.val (.int x0), .val (.int x1), .val (.int kn), .val (.ref ob1), .unset, .unset] [(.int (9 : Int32)), (.int kn)]) _ _ _
                    by_cases hc210 : (9 : Int32) < kn
                    · refine own_to (fun t k => XS.icmpNo X10.here hx rfl (hb hby at_210) rfl (tlt hc210).2.2.2 k) ?_
                      show own_Out p e below _ T10 (mkF m 213 #[.val (.int x0), .val (.int x1), .val (.int kn), .val (.ref ob1), .unset, .unset] []) _ _ _
                      refine own_to (fun t k => XS.aloadN X10.here hx rfl (hb hby at_213) rfl rfl k) ?_
                      show own_Out p e below _ T10 (mkF m 214 #[.val (.int x0), .val (.int x1), .val (.int kn), .val (.ref ob1), .unset, .unset] [(.ref ob1)]) _ _ _
                      refine own_to (fun t k => XS.bipush X10.here hx rfl (hb hby at_214) k) ?_
                      show own_Out p e below _ T10 (mkF m 216 #[.val (.int x0), .val (.int x1), .val (.int kn), .val (.ref ob1), .unset, .unset] [(.int (9 : Int32)), (.ref ob1)]) _ _ _
                      refine own_to (fun t k => XS.iloadN X10.here hx rfl (hb hby at_216) rfl k) ?_
                      show own_Out p e below _ T10 (mkF m 217 #[.val (.int x0), .val (.int x1), .val (.int kn), .val (.ref ob1), .unset, .unset] [(.int x0), (.int (9 : Int32)), (.ref ob1)]) _ _ _
                      refine own_to (fun t k => XS.bipush X10.here hx rfl (hb hby at_217) k) ?_
                      show own_Out p e below _ T10 (mkF m 219 #[.val (.int x0), .val (.int x1), .val (.int kn), .val (.ref ob1), .unset, .unset] [(.int (9 : Int32)), (.int x0), (.int (9 : Int32)), (.ref ob1)]) _ _ _
                      refine own_to (fun t k => XS.iushr X10.here hx rfl (hb hby at_219) rfl k) ?_
                      show own_Out p e below _ T10 (mkF m 220 #[.val (.int x0), .val (.int x1), .val (.int kn), .val (.ref ob1), .unset, .unset] [(.int ((x0.toUInt32 >>> ((9 : Int32) &&& 31).toUInt32).toInt32)), (.int (9 : Int32)), (.ref ob1)]) _ _ _
                      refine own_to (fun t k => XS.iconst X10.here hx rfl (hb hby at_220) k) ?_
                      show own_Out p e below _ T10 (mkF m 221 #[.val (.int x0), .val (.int x1), .val (.int kn), .val (.ref ob1), .unset, .unset] [(.int (1 : Int32)), (.int ((x0.toUInt32 >>> ((9 : Int32) &&& 31).toUInt32).toInt32)), (.int (9 : Int32)), (.ref ob1)]) _ _ _
                      refine own_to (fun t k => XS.iand X10.here hx rfl (hb hby at_221) rfl k) ?_
                      show own_Out p e below _ T10 (mkF m 222 #[.val (.int x0), .val (.int x1), .val (.int kn), .val (.ref ob1), .unset, .unset] [(.int (((x0.toUInt32 >>> ((9 : Int32) &&& 31).toUInt32).toInt32) &&& (1 : Int32))), (.int (9 : Int32)), (.ref ob1)]) _ _ _
                      by_cases hc222 : (((x0.toUInt32 >>> ((9 : Int32) &&& 31).toUInt32).toInt32) &&& (1 : Int32)) = (0 : Int32)
                      · refine own_to (fun t k => XS.ifYes X10.here hx rfl (pc0 := 222) (pc' := 229) rfl (hb hby at_222) rfl ((if0 _ _).trans (teq hc222).1) (by decide) (by decide) k) ?_
                        show own_Out p e below _ T10 (mkF m 229 #[.val (.int x0), .val (.int x1), .val (.int kn), .val (.ref ob1), .unset, .unset] [(.int (9 : Int32)), (.ref ob1)]) _ _ _
                        refine own_to (fun t k => XS.iconst X10.here hx rfl (hb hby at_229) k) ?_
                        show own_Out p e below _ T10 (mkF m 230 #[.val (.int x0), .val (.int x1), .val (.int kn), .val (.ref ob1), .unset, .unset] [(.int (0 : Int32)), (.int (9 : Int32)), (.ref ob1)]) _ _ _
                        refine own_stZ X10 hx hZ e10 A_ob1 (by decide) (by rw [own_lt] at hc210; have kz := own_cc9; show (9 : Int32).toInt.toNat < kn.toInt.toNat; omega) rfl rfl (hb hby at_230) fun T43 hh43 X43 e43 W43 A43 => ?_
                        have A_ob1 := A43
                        have Z0 := Nat.le_trans Z0 (Nat.le_of_eq W43.size.symm)
                        have N43 := own_fs (sl := Int32.toNatClampNeg (9 : Int32)) N10 g_ob1
                        exact J231 T43 hh43 _ (X43.more (by decide) (by decide)) e43 N43 Z0 (A_ob1.congr (fun j _ => own_put0 x0 (9 : Int32) 9 (by decide) ((own_e9 x0).mp hc222) j))
                      · refine own_to (fun t k => XS.ifNo X10.here hx rfl (hb hby at_222) rfl ((if0 _ _).trans (feq hc222).1) k) ?_
                        show own_Out p e below _ T10 (mkF m 225 #[.val (.int x0), .val (.int x1), .val (.int kn), .val (.ref ob1), .unset, .unset] [(.int (9 : Int32)), (.ref ob1)]) _ _ _
                        refine own_to (fun t k => XS.iconst X10.here hx rfl (hb hby at_225) k) ?_
                        show own_Out p e below _ T10 (mkF m 226 #[.val (.int x0), .val (.int x1), .val (.int kn), .val (.ref ob1), .unset, .unset] [(.int (1 : Int32)), (.int (9 : Int32)), (.ref ob1)]) _ _ _
                        refine own_to (fun t k => XS.goto X10.here hx rfl (pc0 := 226) (pc' := 230) rfl (hb hby at_226) (by decide) (by decide) k) ?_
                        show own_Out p e below _ T10 (mkF m 230 #[.val (.int x0), .val (.int x1), .val (.int kn), .val (.ref ob1), .unset, .unset] [(.int (1 : Int32)), (.int (9 : Int32)), (.ref ob1)]) _ _ _
                        refine own_stZ X10 hx hZ e10 A_ob1 (by decide) (by rw [own_lt] at hc210; have kz := own_cc9; show (9 : Int32).toInt.toNat < kn.toInt.toNat; omega) rfl rfl (hb hby at_230) fun T44 hh44 X44 e44 W44 A44 => ?_
                        have A_ob1 := A44
                        have Z0 := Nat.le_trans Z0 (Nat.le_of_eq W44.size.symm)
                        have N44 := own_fs (sl := Int32.toNatClampNeg (9 : Int32)) N10 g_ob1
                        exact J231 T44 hh44 _ (X44.more (by decide) (by decide)) e44 N44 Z0 (A_ob1.congr (fun j _ => own_put1 x0 (9 : Int32) 9 (by decide) (own_tt (fun q => hc222 ((own_e9 x0).mpr q))) j))
                    · refine own_to (fun t k => XS.icmpYes X10.here hx rfl (pc0 := 210) (pc' := 231) rfl (hb hby at_210) rfl (flt hc210).2.2.2 (by decide) (by decide) k) ?_
                      exact J231 T10 hh10 _ (X10.more (by decide) (by decide)) e10 N10 Z0 (A_ob1.congr (own_skip x0 kn (9 : Int32) 9 (by decide) bn.1 hc210))
                  refine own_to (fun t k => XS.iloadN X9.here hx rfl (hb hby at_183) rfl k) ?_
                  show own_Out p e below _ T9 (mkF m 184 #[.val (.int x0), .val (.int x1), .val (.int kn), .val (.ref ob1), .unset, .unset] [(.int kn)]) _ _ _
                  refine own_to (fun t k => XS.bipush X9.here hx rfl (hb hby at_184) k) ?_
                  show own_Out p e below _ T9 (mkF m 186 #[.val (.int x0), .val (.int x1), .val (.int kn), .val (.ref ob1), .unset, .unset] [(.int (8 : Int32)), (.int kn)]) _ _ _
                  by_cases hc186 : (8 : Int32) < kn
                  · refine own_to (fun t k => XS.icmpNo X9.here hx rfl (hb hby at_186) rfl (tlt hc186).2.2.2 k) ?_
                    show own_Out p e below _ T9 (mkF m 189 #[.val (.int x0), .val (.int x1), .val (.int kn), .val (.ref ob1), .unset, .unset] []) _ _ _
                    refine own_to (fun t k => XS.aloadN X9.here hx rfl (hb hby at_189) rfl rfl k) ?_
                    show own_Out p e below _ T9 (mkF m 190 #[.val (.int x0), .val (.int x1), .val (.int kn), .val (.ref ob1), .unset, .unset] [(.ref ob1)]) _ _ _
                    refine own_to (fun t k => XS.bipush X9.here hx rfl (hb hby at_190) k) ?_
                    show own_Out p e below _ T9 (mkF m 192 #[.val (.int x0), .val (.int x1), .val (.int kn), .val (.ref ob1), .unset, .unset] [(.int (8 : Int32)), (.ref ob1)]) _ _ _
                    refine own_to (fun t k => XS.iloadN X9.here hx rfl (hb hby at_192) rfl k) ?_
                    show own_Out p e below _ T9 (mkF m 193 #[.val (.int x0), .val (.int x1), .val (.int kn), .val (.ref ob1), .unset, .unset] [(.int x0), (.int (8 : Int32)), (.ref ob1)]) _ _ _
                    refine own_to (fun t k => XS.bipush X9.here hx rfl (hb hby at_193) k) ?_
                    show own_Out p e below _ T9 (mkF m 195 #[.val (.int x0), .val (.int x1), .val (.int kn), .val (.ref ob1), .unset, .unset] [(.int (8 : Int32)), (.int x0), (.int (8 : Int32)), (.ref ob1)]) _ _ _
                    refine own_to (fun t k => XS.iushr X9.here hx rfl (hb hby at_195) rfl k) ?_
                    show own_Out p e below _ T9 (mkF m 196 #[.val (.int x0), .val (.int x1), .val (.int kn), .val (.ref ob1), .unset, .unset] [(.int ((x0.toUInt32 >>> ((8 : Int32) &&& 31).toUInt32).toInt32)), (.int (8 : Int32)), (.ref ob1)]) _ _ _
                    refine own_to (fun t k => XS.iconst X9.here hx rfl (hb hby at_196) k) ?_
                    show own_Out p e below _ T9 (mkF m 197 #[.val (.int x0), .val (.int x1), .val (.int kn), .val (.ref ob1), .unset, .unset] [(.int (1 : Int32)), (.int ((x0.toUInt32 >>> ((8 : Int32) &&& 31).toUInt32).toInt32)), (.int (8 : Int32)), (.ref ob1)]) _ _ _
                    refine own_to (fun t k => XS.iand X9.here hx rfl (hb hby at_197) rfl k) ?_
                    show own_Out p e below _ T9 (mkF m 198 #[.val (.int x0), .val (.int x1), .val (.int kn), .val (.ref ob1), .unset, .unset] [(.int (((x0.toUInt32 >>> ((8 : Int32) &&& 31).toUInt32).toInt32) &&& (1 : Int32))), (.int (8 : Int32)), (.ref ob1)]) _ _ _
                    by_cases hc198 : (((x0.toUInt32 >>> ((8 : Int32) &&& 31).toUInt32).toInt32) &&& (1 : Int32)) = (0 : Int32)
                    · refine own_to (fun t k => XS.ifYes X9.here hx rfl (pc0 := 198) (pc' := 205) rfl (hb hby at_198) rfl ((if0 _ _).trans (teq hc198).1) (by decide) (by decide) k) ?_
                      show own_Out p e below _ T9 (mkF m 205 #[.val (.int x0), .val (.int x1), .val (.int kn), .val (.ref ob1), .unset, .unset] [(.int (8 : Int32)), (.ref ob1)]) _ _ _
                      refine own_to (fun t k => XS.iconst X9.here hx rfl (hb hby at_205) k) ?_
                      show own_Out p e below _ T9 (mkF m 206 #[.val (.int x0), .val (.int x1), .val (.int kn), .val (.ref ob1), .unset, .unset] [(.int (0 : Int32)), (.int (8 : Int32)), (.ref ob1)]) _ _ _
                      refine own_stZ X9 hx hZ e9 A_ob1 (by decide) (by rw [own_lt] at hc186; have kz := own_cc8; show (8 : Int32).toInt.toNat < kn.toInt.toNat; omega) rfl rfl (hb hby at_206) fun T45 hh45 X45 e45 W45 A45 => ?_
                      have A_ob1 := A45
                      have Z0 := Nat.le_trans Z0 (Nat.le_of_eq W45.size.symm)
                      have N45 := own_fs (sl := Int32.toNatClampNeg (8 : Int32)) N9 g_ob1
                      exact J207 T45 hh45 _ (X45.more (by decide) (by decide)) e45 N45 Z0 (A_ob1.congr (fun j _ => own_put0 x0 (8 : Int32) 8 (by decide) ((own_e8 x0).mp hc198) j))
                    · refine own_to (fun t k => XS.ifNo X9.here hx rfl (hb hby at_198) rfl ((if0 _ _).trans (feq hc198).1) k) ?_
                      show own_Out p e below _ T9 (mkF m 201 #[.val (.int x0), .val (.int x1), .val (.int kn), .val (.ref ob1), .unset, .unset] [(.int (8 : Int32)), (.ref ob1)]) _ _ _
                      refine own_to (fun t k => XS.iconst X9.here hx rfl (hb hby at_201) k) ?_
                      show own_Out p e below _ T9 (mkF m 202 #[.val (.int x0), .val (.int x1), .val (.int kn), .val (.ref ob1), .unset, .unset] [(.int (1 : Int32)), (.int (8 : Int32)), (.ref ob1)]) _ _ _
                      refine own_to (fun t k => XS.goto X9.here hx rfl (pc0 := 202) (pc' := 206) rfl (hb hby at_202) (by decide) (by decide) k) ?_
                      show own_Out p e below _ T9 (mkF m 206 #[.val (.int x0), .val (.int x1), .val (.int kn), .val (.ref ob1), .unset, .unset] [(.int (1 : Int32)), (.int (8 : Int32)), (.ref ob1)]) _ _ _
                      refine own_stZ X9 hx hZ e9 A_ob1 (by decide) (by rw [own_lt] at hc186; have kz := own_cc8; show (8 : Int32).toInt.toNat < kn.toInt.toNat; omega) rfl rfl (hb hby at_206) fun T46 hh46 X46 e46 W46 A46 => ?_
                      have A_ob1 := A46
                      have Z0 := Nat.le_trans Z0 (Nat.le_of_eq W46.size.symm)
                      have N46 := own_fs (sl := Int32.toNatClampNeg (8 : Int32)) N9 g_ob1
                      exact J207 T46 hh46 _ (X46.more (by decide) (by decide)) e46 N46 Z0 (A_ob1.congr (fun j _ => own_put1 x0 (8 : Int32) 8 (by decide) (own_tt (fun q => hc198 ((own_e8 x0).mpr q))) j))
                  · refine own_to (fun t k => XS.icmpYes X9.here hx rfl (pc0 := 186) (pc' := 207) rfl (hb hby at_186) rfl (flt hc186).2.2.2 (by decide) (by decide) k) ?_
                    exact J207 T9 hh9 _ (X9.more (by decide) (by decide)) e9 N9 Z0 (A_ob1.congr (own_skip x0 kn (8 : Int32) 8 (by decide) bn.1 hc186))
                refine own_to (fun t k => XS.iloadN X8.here hx rfl (hb hby at_159) rfl k) ?_
                show own_Out p e below _ T8 (mkF m 160 #[.val (.int x0), .val (.int x1), .val (.int kn), .val (.ref ob1), .unset, .unset] [(.int kn)]) _ _ _
                refine own_to (fun t k => XS.bipush X8.here hx rfl (hb hby at_160) k) ?_
                show own_Out p e below _ T8 (mkF m 162 #[.val (.int x0), .val (.int x1), .val (.int kn), .val (.ref ob1), .unset, .unset] [(.int (7 : Int32)), (.int kn)]) _ _ _
                by_cases hc162 : (7 : Int32) < kn
                · refine own_to (fun t k => XS.icmpNo X8.here hx rfl (hb hby at_162) rfl (tlt hc162).2.2.2 k) ?_
                  show own_Out p e below _ T8 (mkF m 165 #[.val (.int x0), .val (.int x1), .val (.int kn), .val (.ref ob1), .unset, .unset] []) _ _ _
                  refine own_to (fun t k => XS.aloadN X8.here hx rfl (hb hby at_165) rfl rfl k) ?_
                  show own_Out p e below _ T8 (mkF m 166 #[.val (.int x0), .val (.int x1), .val (.int kn), .val (.ref ob1), .unset, .unset] [(.ref ob1)]) _ _ _
                  refine own_to (fun t k => XS.bipush X8.here hx rfl (hb hby at_166) k) ?_
                  show own_Out p e below _ T8 (mkF m 168 #[.val (.int x0), .val (.int x1), .val (.int kn), .val (.ref ob1), .unset, .unset] [(.int (7 : Int32)), (.ref ob1)]) _ _ _
                  refine own_to (fun t k => XS.iloadN X8.here hx rfl (hb hby at_168) rfl k) ?_
                  show own_Out p e below _ T8 (mkF m 169 #[.val (.int x0), .val (.int x1), .val (.int kn), .val (.ref ob1), .unset, .unset] [(.int x0), (.int (7 : Int32)), (.ref ob1)]) _ _ _
                  refine own_to (fun t k => XS.bipush X8.here hx rfl (hb hby at_169) k) ?_
                  show own_Out p e below _ T8 (mkF m 171 #[.val (.int x0), .val (.int x1), .val (.int kn), .val (.ref ob1), .unset, .unset] [(.int (7 : Int32)), (.int x0), (.int (7 : Int32)), (.ref ob1)]) _ _ _
                  refine own_to (fun t k => XS.iushr X8.here hx rfl (hb hby at_171) rfl k) ?_
                  show own_Out p e below _ T8 (mkF m 172 #[.val (.int x0), .val (.int x1), .val (.int kn), .val (.ref ob1), .unset, .unset] [(.int ((x0.toUInt32 >>> ((7 : Int32) &&& 31).toUInt32).toInt32)), (.int (7 : Int32)), (.ref ob1)]) _ _ _
                  refine own_to (fun t k => XS.iconst X8.here hx rfl (hb hby at_172) k) ?_
                  show own_Out p e below _ T8 (mkF m 173 #[.val (.int x0), .val (.int x1), .val (.int kn), .val (.ref ob1), .unset, .unset] [(.int (1 : Int32)), (.int ((x0.toUInt32 >>> ((7 : Int32) &&& 31).toUInt32).toInt32)), (.int (7 : Int32)), (.ref ob1)]) _ _ _
                  refine own_to (fun t k => XS.iand X8.here hx rfl (hb hby at_173) rfl k) ?_
                  show own_Out p e below _ T8 (mkF m 174 #[.val (.int x0), .val (.int x1), .val (.int kn), .val (.ref ob1), .unset, .unset] [(.int (((x0.toUInt32 >>> ((7 : Int32) &&& 31).toUInt32).toInt32) &&& (1 : Int32))), (.int (7 : Int32)), (.ref ob1)]) _ _ _
                  by_cases hc174 : (((x0.toUInt32 >>> ((7 : Int32) &&& 31).toUInt32).toInt32) &&& (1 : Int32)) = (0 : Int32)
                  · refine own_to (fun t k => XS.ifYes X8.here hx rfl (pc0 := 174) (pc' := 181) rfl (hb hby at_174) rfl ((if0 _ _).trans (teq hc174).1) (by decide) (by decide) k) ?_
                    show own_Out p e below _ T8 (mkF m 181 #[.val (.int x0), .val (.int x1), .val (.int kn), .val (.ref ob1), .unset, .unset] [(.int (7 : Int32)), (.ref ob1)]) _ _ _
                    refine own_to (fun t k => XS.iconst X8.here hx rfl (hb hby at_181) k) ?_
                    show own_Out p e below _ T8 (mkF m 182 #[.val (.int x0), .val (.int x1), .val (.int kn), .val (.ref ob1), .unset, .unset] [(.int (0 : Int32)), (.int (7 : Int32)), (.ref ob1)]) _ _ _
                    refine own_stZ X8 hx hZ e8 A_ob1 (by decide) (by rw [own_lt] at hc162; have kz := own_cc7; show (7 : Int32).toInt.toNat < kn.toInt.toNat; omega) rfl rfl (hb hby at_182) fun T47 hh47 X47 e47 W47 A47 => ?_
                    have A_ob1 := A47
                    have Z0 := Nat.le_trans Z0 (Nat.le_of_eq W47.size.symm)
                    have N47 := own_fs (sl := Int32.toNatClampNeg (7 : Int32)) N8 g_ob1
                    exact J183 T47 hh47 _ (X47.more (by decide) (by decide)) e47 N47 Z0 (A_ob1.congr (fun j _ => own_put0 x0 (7 : Int32) 7 (by decide) ((own_e7 x0).mp hc174) j))
                  · refine own_to (fun t k => XS.ifNo X8.here hx rfl (hb hby at_174) rfl ((if0 _ _).trans (feq hc174).1) k) ?_
                    show own_Out p e below _ T8 (mkF m 177 #[.val (.int x0), .val (.int x1), .val (.int kn), .val (.ref ob1), .unset, .unset] [(.int (7 : Int32)), (.ref ob1)]) _ _ _
                    refine own_to (fun t k => XS.iconst X8.here hx rfl (hb hby at_177) k) ?_
                    show own_Out p e below _ T8 (mkF m 178 #[.val (.int x0), .val (.int x1), .val (.int kn), .val (.ref ob1), .unset, .unset] [(.int (1 : Int32)), (.int (7 : Int32)), (.ref ob1)]) _ _ _
                    refine own_to (fun t k => XS.goto X8.here hx rfl (pc0 := 178) (pc' := 182) rfl (hb hby at_178) (by decide) (by decide) k) ?_
                    show own_Out p e below _ T8 (mkF m 182 #[.val (.int x0), .val (.int x1), .val (.int kn), .val (.ref ob1), .unset, .unset] [(.int (1 : Int32)), (.int (7 : Int32)), (.ref ob1)]) _ _ _
                    refine own_stZ X8 hx hZ e8 A_ob1 (by decide) (by rw [own_lt] at hc162; have kz := own_cc7; show (7 : Int32).toInt.toNat < kn.toInt.toNat; omega) rfl rfl (hb hby at_182) fun T48 hh48 X48 e48 W48 A48 => ?_
                    have A_ob1 := A48
                    have Z0 := Nat.le_trans Z0 (Nat.le_of_eq W48.size.symm)
                    have N48 := own_fs (sl := Int32.toNatClampNeg (7 : Int32)) N8 g_ob1
                    exact J183 T48 hh48 _ (X48.more (by decide) (by decide)) e48 N48 Z0 (A_ob1.congr (fun j _ => own_put1 x0 (7 : Int32) 7 (by decide) (own_tt (fun q => hc174 ((own_e7 x0).mpr q))) j))
                · refine own_to (fun t k => XS.icmpYes X8.here hx rfl (pc0 := 162) (pc' := 183) rfl (hb hby at_162) rfl (flt hc162).2.2.2 (by decide) (by decide) k) ?_
                  exact J183 T8 hh8 _ (X8.more (by decide) (by decide)) e8 N8 Z0 (A_ob1.congr (own_skip x0 kn (7 : Int32) 7 (by decide) bn.1 hc162))
              refine own_to (fun t k => XS.iloadN X7.here hx rfl (hb hby at_135) rfl k) ?_
              show own_Out p e below _ T7 (mkF m 136 #[.val (.int x0), .val (.int x1), .val (.int kn), .val (.ref ob1), .unset, .unset] [(.int kn)]) _ _ _
              refine own_to (fun t k => XS.bipush X7.here hx rfl (hb hby at_136) k) ?_
              show own_Out p e below _ T7 (mkF m 138 #[.val (.int x0), .val (.int x1), .val (.int kn), .val (.ref ob1), .unset, .unset] [(.int (6 : Int32)), (.int kn)]) _ _ _
              by_cases hc138 : (6 : Int32) < kn
              · refine own_to (fun t k => XS.icmpNo X7.here hx rfl (hb hby at_138) rfl (tlt hc138).2.2.2 k) ?_
                show own_Out p e below _ T7 (mkF m 141 #[.val (.int x0), .val (.int x1), .val (.int kn), .val (.ref ob1), .unset, .unset] []) _ _ _
                refine own_to (fun t k => XS.aloadN X7.here hx rfl (hb hby at_141) rfl rfl k) ?_
                show own_Out p e below _ T7 (mkF m 142 #[.val (.int x0), .val (.int x1), .val (.int kn), .val (.ref ob1), .unset, .unset] [(.ref ob1)]) _ _ _
                refine own_to (fun t k => XS.bipush X7.here hx rfl (hb hby at_142) k) ?_
                show own_Out p e below _ T7 (mkF m 144 #[.val (.int x0), .val (.int x1), .val (.int kn), .val (.ref ob1), .unset, .unset] [(.int (6 : Int32)), (.ref ob1)]) _ _ _
                refine own_to (fun t k => XS.iloadN X7.here hx rfl (hb hby at_144) rfl k) ?_
                show own_Out p e below _ T7 (mkF m 145 #[.val (.int x0), .val (.int x1), .val (.int kn), .val (.ref ob1), .unset, .unset] [(.int x0), (.int (6 : Int32)), (.ref ob1)]) _ _ _
                refine own_to (fun t k => XS.bipush X7.here hx rfl (hb hby at_145) k) ?_
                show own_Out p e below _ T7 (mkF m 147 #[.val (.int x0), .val (.int x1), .val (.int kn), .val (.ref ob1), .unset, .unset] [(.int (6 : Int32)), (.int x0), (.int (6 : Int32)), (.ref ob1)]) _ _ _
                refine own_to (fun t k => XS.iushr X7.here hx rfl (hb hby at_147) rfl k) ?_
                show own_Out p e below _ T7 (mkF m 148 #[.val (.int x0), .val (.int x1), .val (.int kn), .val (.ref ob1), .unset, .unset] [(.int ((x0.toUInt32 >>> ((6 : Int32) &&& 31).toUInt32).toInt32)), (.int (6 : Int32)), (.ref ob1)]) _ _ _
                refine own_to (fun t k => XS.iconst X7.here hx rfl (hb hby at_148) k) ?_
                show own_Out p e below _ T7 (mkF m 149 #[.val (.int x0), .val (.int x1), .val (.int kn), .val (.ref ob1), .unset, .unset] [(.int (1 : Int32)), (.int ((x0.toUInt32 >>> ((6 : Int32) &&& 31).toUInt32).toInt32)), (.int (6 : Int32)), (.ref ob1)]) _ _ _
                refine own_to (fun t k => XS.iand X7.here hx rfl (hb hby at_149) rfl k) ?_
                show own_Out p e below _ T7 (mkF m 150 #[.val (.int x0), .val (.int x1), .val (.int kn), .val (.ref ob1), .unset, .unset] [(.int (((x0.toUInt32 >>> ((6 : Int32) &&& 31).toUInt32).toInt32) &&& (1 : Int32))), (.int (6 : Int32)), (.ref ob1)]) _ _ _
                by_cases hc150 : (((x0.toUInt32 >>> ((6 : Int32) &&& 31).toUInt32).toInt32) &&& (1 : Int32)) = (0 : Int32)
                · refine own_to (fun t k => XS.ifYes X7.here hx rfl (pc0 := 150) (pc' := 157) rfl (hb hby at_150) rfl ((if0 _ _).trans (teq hc150).1) (by decide) (by decide) k) ?_
                  show own_Out p e below _ T7 (mkF m 157 #[.val (.int x0), .val (.int x1), .val (.int kn), .val (.ref ob1), .unset, .unset] [(.int (6 : Int32)), (.ref ob1)]) _ _ _
                  refine own_to (fun t k => XS.iconst X7.here hx rfl (hb hby at_157) k) ?_
                  show own_Out p e below _ T7 (mkF m 158 #[.val (.int x0), .val (.int x1), .val (.int kn), .val (.ref ob1), .unset, .unset] [(.int (0 : Int32)), (.int (6 : Int32)), (.ref ob1)]) _ _ _
                  refine own_stZ X7 hx hZ e7 A_ob1 (by decide) (by rw [own_lt] at hc138; have kz := own_cc6; show (6 : Int32).toInt.toNat < kn.toInt.toNat; omega) rfl rfl (hb hby at_158) fun T49 hh49 X49 e49 W49 A49 => ?_
                  have A_ob1 := A49
                  have Z0 := Nat.le_trans Z0 (Nat.le_of_eq W49.size.symm)
                  have N49 := own_fs (sl := Int32.toNatClampNeg (6 : Int32)) N7 g_ob1
                  exact J159 T49 hh49 _ (X49.more (by decide) (by decide)) e49 N49 Z0 (A_ob1.congr (fun j _ => own_put0 x0 (6 : Int32) 6 (by decide) ((own_e6 x0).mp hc150) j))
                · refine own_to (fun t k => XS.ifNo X7.here hx rfl (hb hby at_150) rfl ((if0 _ _).trans (feq hc150).1) k) ?_
                  show own_Out p e below _ T7 (mkF m 153 #[.val (.int x0), .val (.int x1), .val (.int kn), .val (.ref ob1), .unset, .unset] [(.int (6 : Int32)), (.ref ob1)]) _ _ _
                  refine own_to (fun t k => XS.iconst X7.here hx rfl (hb hby at_153) k) ?_
                  show own_Out p e below _ T7 (mkF m 154 #[.val (.int x0), .val (.int x1), .val (.int kn), .val (.ref ob1), .unset, .unset] [(.int (1 : Int32)), (.int (6 : Int32)), (.ref ob1)]) _ _ _
                  refine own_to (fun t k => XS.goto X7.here hx rfl (pc0 := 154) (pc' := 158) rfl (hb hby at_154) (by decide) (by decide) k) ?_
                  show own_Out p e below _ T7 (mkF m 158 #[.val (.int x0), .val (.int x1), .val (.int kn), .val (.ref ob1), .unset, .unset] [(.int (1 : Int32)), (.int (6 : Int32)), (.ref ob1)]) _ _ _
                  refine own_stZ X7 hx hZ e7 A_ob1 (by decide) (by rw [own_lt] at hc138; have kz := own_cc6; show (6 : Int32).toInt.toNat < kn.toInt.toNat; omega) rfl rfl (hb hby at_158) fun T50 hh50 X50 e50 W50 A50 => ?_
                  have A_ob1 := A50
                  have Z0 := Nat.le_trans Z0 (Nat.le_of_eq W50.size.symm)
                  have N50 := own_fs (sl := Int32.toNatClampNeg (6 : Int32)) N7 g_ob1
                  exact J159 T50 hh50 _ (X50.more (by decide) (by decide)) e50 N50 Z0 (A_ob1.congr (fun j _ => own_put1 x0 (6 : Int32) 6 (by decide) (own_tt (fun q => hc150 ((own_e6 x0).mpr q))) j))
              · refine own_to (fun t k => XS.icmpYes X7.here hx rfl (pc0 := 138) (pc' := 159) rfl (hb hby at_138) rfl (flt hc138).2.2.2 (by decide) (by decide) k) ?_
                exact J159 T7 hh7 _ (X7.more (by decide) (by decide)) e7 N7 Z0 (A_ob1.congr (own_skip x0 kn (6 : Int32) 6 (by decide) bn.1 hc138))
            refine own_to (fun t k => XS.iloadN X6.here hx rfl (hb hby at_114) rfl k) ?_
            show own_Out p e below _ T6 (mkF m 115 #[.val (.int x0), .val (.int x1), .val (.int kn), .val (.ref ob1), .unset, .unset] [(.int kn)]) _ _ _
            refine own_to (fun t k => XS.iconst X6.here hx rfl (hb hby at_115) k) ?_
            show own_Out p e below _ T6 (mkF m 116 #[.val (.int x0), .val (.int x1), .val (.int kn), .val (.ref ob1), .unset, .unset] [(.int (5 : Int32)), (.int kn)]) _ _ _
            by_cases hc116 : (5 : Int32) < kn
            · refine own_to (fun t k => XS.icmpNo X6.here hx rfl (hb hby at_116) rfl (tlt hc116).2.2.2 k) ?_
              show own_Out p e below _ T6 (mkF m 119 #[.val (.int x0), .val (.int x1), .val (.int kn), .val (.ref ob1), .unset, .unset] []) _ _ _
              refine own_to (fun t k => XS.aloadN X6.here hx rfl (hb hby at_119) rfl rfl k) ?_
              show own_Out p e below _ T6 (mkF m 120 #[.val (.int x0), .val (.int x1), .val (.int kn), .val (.ref ob1), .unset, .unset] [(.ref ob1)]) _ _ _
              refine own_to (fun t k => XS.iconst X6.here hx rfl (hb hby at_120) k) ?_
              show own_Out p e below _ T6 (mkF m 121 #[.val (.int x0), .val (.int x1), .val (.int kn), .val (.ref ob1), .unset, .unset] [(.int (5 : Int32)), (.ref ob1)]) _ _ _
              refine own_to (fun t k => XS.iloadN X6.here hx rfl (hb hby at_121) rfl k) ?_
              show own_Out p e below _ T6 (mkF m 122 #[.val (.int x0), .val (.int x1), .val (.int kn), .val (.ref ob1), .unset, .unset] [(.int x0), (.int (5 : Int32)), (.ref ob1)]) _ _ _
              refine own_to (fun t k => XS.iconst X6.here hx rfl (hb hby at_122) k) ?_
              show own_Out p e below _ T6 (mkF m 123 #[.val (.int x0), .val (.int x1), .val (.int kn), .val (.ref ob1), .unset, .unset] [(.int (5 : Int32)), (.int x0), (.int (5 : Int32)), (.ref ob1)]) _ _ _
              refine own_to (fun t k => XS.iushr X6.here hx rfl (hb hby at_123) rfl k) ?_
              show own_Out p e below _ T6 (mkF m 124 #[.val (.int x0), .val (.int x1), .val (.int kn), .val (.ref ob1), .unset, .unset] [(.int ((x0.toUInt32 >>> ((5 : Int32) &&& 31).toUInt32).toInt32)), (.int (5 : Int32)), (.ref ob1)]) _ _ _
              refine own_to (fun t k => XS.iconst X6.here hx rfl (hb hby at_124) k) ?_
              show own_Out p e below _ T6 (mkF m 125 #[.val (.int x0), .val (.int x1), .val (.int kn), .val (.ref ob1), .unset, .unset] [(.int (1 : Int32)), (.int ((x0.toUInt32 >>> ((5 : Int32) &&& 31).toUInt32).toInt32)), (.int (5 : Int32)), (.ref ob1)]) _ _ _
              refine own_to (fun t k => XS.iand X6.here hx rfl (hb hby at_125) rfl k) ?_
              show own_Out p e below _ T6 (mkF m 126 #[.val (.int x0), .val (.int x1), .val (.int kn), .val (.ref ob1), .unset, .unset] [(.int (((x0.toUInt32 >>> ((5 : Int32) &&& 31).toUInt32).toInt32) &&& (1 : Int32))), (.int (5 : Int32)), (.ref ob1)]) _ _ _
              by_cases hc126 : (((x0.toUInt32 >>> ((5 : Int32) &&& 31).toUInt32).toInt32) &&& (1 : Int32)) = (0 : Int32)
              · refine own_to (fun t k => XS.ifYes X6.here hx rfl (pc0 := 126) (pc' := 133) rfl (hb hby at_126) rfl ((if0 _ _).trans (teq hc126).1) (by decide) (by decide) k) ?_
                show own_Out p e below _ T6 (mkF m 133 #[.val (.int x0), .val (.int x1), .val (.int kn), .val (.ref ob1), .unset, .unset] [(.int (5 : Int32)), (.ref ob1)]) _ _ _
                refine own_to (fun t k => XS.iconst X6.here hx rfl (hb hby at_133) k) ?_
                show own_Out p e below _ T6 (mkF m 134 #[.val (.int x0), .val (.int x1), .val (.int kn), .val (.ref ob1), .unset, .unset] [(.int (0 : Int32)), (.int (5 : Int32)), (.ref ob1)]) _ _ _
                refine own_stZ X6 hx hZ e6 A_ob1 (by decide) (by rw [own_lt] at hc116; have kz := own_cc5; show (5 : Int32).toInt.toNat < kn.toInt.toNat; omega) rfl rfl (hb hby at_134) fun T51 hh51 X51 e51 W51 A51 => ?_
                have A_ob1 := A51
                have Z0 := Nat.le_trans Z0 (Nat.le_of_eq W51.size.symm)
                have N51 := own_fs (sl := Int32.toNatClampNeg (5 : Int32)) N6 g_ob1
                exact J135 T51 hh51 _ (X51.more (by decide) (by decide)) e51 N51 Z0 (A_ob1.congr (fun j _ => own_put0 x0 (5 : Int32) 5 (by decide) ((own_e5 x0).mp hc126) j))
              · refine own_to (fun t k => XS.ifNo X6.here hx rfl (hb hby at_126) rfl ((if0 _ _).trans (feq hc126).1) k) ?_
                show own_Out p e below _ T6 (mkF m 129 #[.val (.int x0), .val (.int x1), .val (.int kn), .val (.ref ob1), .unset, .unset] [(.int (5 : Int32)), (.ref ob1)]) _ _ _
                refine own_to (fun t k => XS.iconst X6.here hx rfl (hb hby at_129) k) ?_
                show own_Out p e below _ T6 (mkF m 130 #[.val (.int x0), .val (.int x1), .val (.int kn), .val (.ref ob1), .unset, .unset] [(.int (1 : Int32)), (.int (5 : Int32)), (.ref ob1)]) _ _ _
                refine own_to (fun t k => XS.goto X6.here hx rfl (pc0 := 130) (pc' := 134) rfl (hb hby at_130) (by decide) (by decide) k) ?_
                show own_Out p e below _ T6 (mkF m 134 #[.val (.int x0), .val (.int x1), .val (.int kn), .val (.ref ob1), .unset, .unset] [(.int (1 : Int32)), (.int (5 : Int32)), (.ref ob1)]) _ _ _
                refine own_stZ X6 hx hZ e6 A_ob1 (by decide) (by rw [own_lt] at hc116; have kz := own_cc5; show (5 : Int32).toInt.toNat < kn.toInt.toNat; omega) rfl rfl (hb hby at_134) fun T52 hh52 X52 e52 W52 A52 => ?_
                have A_ob1 := A52
                have Z0 := Nat.le_trans Z0 (Nat.le_of_eq W52.size.symm)
                have N52 := own_fs (sl := Int32.toNatClampNeg (5 : Int32)) N6 g_ob1
                exact J135 T52 hh52 _ (X52.more (by decide) (by decide)) e52 N52 Z0 (A_ob1.congr (fun j _ => own_put1 x0 (5 : Int32) 5 (by decide) (own_tt (fun q => hc126 ((own_e5 x0).mpr q))) j))
            · refine own_to (fun t k => XS.icmpYes X6.here hx rfl (pc0 := 116) (pc' := 135) rfl (hb hby at_116) rfl (flt hc116).2.2.2 (by decide) (by decide) k) ?_
              exact J135 T6 hh6 _ (X6.more (by decide) (by decide)) e6 N6 Z0 (A_ob1.congr (own_skip x0 kn (5 : Int32) 5 (by decide) bn.1 hc116))
          refine own_to (fun t k => XS.iloadN X5.here hx rfl (hb hby at_93) rfl k) ?_
          show own_Out p e below _ T5 (mkF m 94 #[.val (.int x0), .val (.int x1), .val (.int kn), .val (.ref ob1), .unset, .unset] [(.int kn)]) _ _ _
          refine own_to (fun t k => XS.iconst X5.here hx rfl (hb hby at_94) k) ?_
          show own_Out p e below _ T5 (mkF m 95 #[.val (.int x0), .val (.int x1), .val (.int kn), .val (.ref ob1), .unset, .unset] [(.int (4 : Int32)), (.int kn)]) _ _ _
          by_cases hc95 : (4 : Int32) < kn
          · refine own_to (fun t k => XS.icmpNo X5.here hx rfl (hb hby at_95) rfl (tlt hc95).2.2.2 k) ?_
            show own_Out p e below _ T5 (mkF m 98 #[.val (.int x0), .val (.int x1), .val (.int kn), .val (.ref ob1), .unset, .unset] []) _ _ _
            refine own_to (fun t k => XS.aloadN X5.here hx rfl (hb hby at_98) rfl rfl k) ?_
            show own_Out p e below _ T5 (mkF m 99 #[.val (.int x0), .val (.int x1), .val (.int kn), .val (.ref ob1), .unset, .unset] [(.ref ob1)]) _ _ _
            refine own_to (fun t k => XS.iconst X5.here hx rfl (hb hby at_99) k) ?_
            show own_Out p e below _ T5 (mkF m 100 #[.val (.int x0), .val (.int x1), .val (.int kn), .val (.ref ob1), .unset, .unset] [(.int (4 : Int32)), (.ref ob1)]) _ _ _
            refine own_to (fun t k => XS.iloadN X5.here hx rfl (hb hby at_100) rfl k) ?_
            show own_Out p e below _ T5 (mkF m 101 #[.val (.int x0), .val (.int x1), .val (.int kn), .val (.ref ob1), .unset, .unset] [(.int x0), (.int (4 : Int32)), (.ref ob1)]) _ _ _
            refine own_to (fun t k => XS.iconst X5.here hx rfl (hb hby at_101) k) ?_
            show own_Out p e below _ T5 (mkF m 102 #[.val (.int x0), .val (.int x1), .val (.int kn), .val (.ref ob1), .unset, .unset] [(.int (4 : Int32)), (.int x0), (.int (4 : Int32)), (.ref ob1)]) _ _ _
            refine own_to (fun t k => XS.iushr X5.here hx rfl (hb hby at_102) rfl k) ?_
            show own_Out p e below _ T5 (mkF m 103 #[.val (.int x0), .val (.int x1), .val (.int kn), .val (.ref ob1), .unset, .unset] [(.int ((x0.toUInt32 >>> ((4 : Int32) &&& 31).toUInt32).toInt32)), (.int (4 : Int32)), (.ref ob1)]) _ _ _
            refine own_to (fun t k => XS.iconst X5.here hx rfl (hb hby at_103) k) ?_
            show own_Out p e below _ T5 (mkF m 104 #[.val (.int x0), .val (.int x1), .val (.int kn), .val (.ref ob1), .unset, .unset] [(.int (1 : Int32)), (.int ((x0.toUInt32 >>> ((4 : Int32) &&& 31).toUInt32).toInt32)), (.int (4 : Int32)), (.ref ob1)]) _ _ _
            refine own_to (fun t k => XS.iand X5.here hx rfl (hb hby at_104) rfl k) ?_
            show own_Out p e below _ T5 (mkF m 105 #[.val (.int x0), .val (.int x1), .val (.int kn), .val (.ref ob1), .unset, .unset] [(.int (((x0.toUInt32 >>> ((4 : Int32) &&& 31).toUInt32).toInt32) &&& (1 : Int32))), (.int (4 : Int32)), (.ref ob1)]) _ _ _
            by_cases hc105 : (((x0.toUInt32 >>> ((4 : Int32) &&& 31).toUInt32).toInt32) &&& (1 : Int32)) = (0 : Int32)
            · refine own_to (fun t k => XS.ifYes X5.here hx rfl (pc0 := 105) (pc' := 112) rfl (hb hby at_105) rfl ((if0 _ _).trans (teq hc105).1) (by decide) (by decide) k) ?_
              show own_Out p e below _ T5 (mkF m 112 #[.val (.int x0), .val (.int x1), .val (.int kn), .val (.ref ob1), .unset, .unset] [(.int (4 : Int32)), (.ref ob1)]) _ _ _
              refine own_to (fun t k => XS.iconst X5.here hx rfl (hb hby at_112) k) ?_
              show own_Out p e below _ T5 (mkF m 113 #[.val (.int x0), .val (.int x1), .val (.int kn), .val (.ref ob1), .unset, .unset] [(.int (0 : Int32)), (.int (4 : Int32)), (.ref ob1)]) _ _ _
              refine own_stZ X5 hx hZ e5 A_ob1 (by decide) (by rw [own_lt] at hc95; have kz := own_cc4; show (4 : Int32).toInt.toNat < kn.toInt.toNat; omega) rfl rfl (hb hby at_113) fun T53 hh53 X53 e53 W53 A53 => ?_
              have A_ob1 := A53
              have Z0 := Nat.le_trans Z0 (Nat.le_of_eq W53.size.symm)
              have N53 := own_fs (sl := Int32.toNatClampNeg (4 : Int32)) N5 g_ob1
              exact J114 T53 hh53 _ (X53.more (by decide) (by decide)) e53 N53 Z0 (A_ob1.congr (fun j _ => own_put0 x0 (4 : Int32) 4 (by decide) ((own_e4 x0).mp hc105) j))
            · refine own_to (fun t k => XS.ifNo X5.here hx rfl (hb hby at_105) rfl ((if0 _ _).trans (feq hc105).1) k) ?_
              show own_Out p e below _ T5 (mkF m 108 #[.val (.int x0), .val (.int x1), .val (.int kn), .val (.ref ob1), .unset, .unset] [(.int (4 : Int32)), (.ref ob1)]) _ _ _
              refine own_to (fun t k => XS.iconst X5.here hx rfl (hb hby at_108) k) ?_
              show own_Out p e below _ T5 (mkF m 109 #[.val (.int x0), .val (.int x1), .val (.int kn), .val (.ref ob1), .unset, .unset] [(.int (1 : Int32)), (.int (4 : Int32)), (.ref ob1)]) _ _ _
              refine own_to (fun t k => XS.goto X5.here hx rfl (pc0 := 109) (pc' := 113) rfl (hb hby at_109) (by decide) (by decide) k) ?_
              show own_Out p e below _ T5 (mkF m 113 #[.val (.int x0), .val (.int x1), .val (.int kn), .val (.ref ob1), .unset, .unset] [(.int (1 : Int32)), (.int (4 : Int32)), (.ref ob1)]) _ _ _
              refine own_stZ X5 hx hZ e5 A_ob1 (by decide) (by rw [own_lt] at hc95; have kz := own_cc4; show (4 : Int32).toInt.toNat < kn.toInt.toNat; omega) rfl rfl (hb hby at_113) fun T54 hh54 X54 e54 W54 A54 => ?_
              have A_ob1 := A54
              have Z0 := Nat.le_trans Z0 (Nat.le_of_eq W54.size.symm)
              have N54 := own_fs (sl := Int32.toNatClampNeg (4 : Int32)) N5 g_ob1
              exact J114 T54 hh54 _ (X54.more (by decide) (by decide)) e54 N54 Z0 (A_ob1.congr (fun j _ => own_put1 x0 (4 : Int32) 4 (by decide) (own_tt (fun q => hc105 ((own_e4 x0).mpr q))) j))
          · refine own_to (fun t k => XS.icmpYes X5.here hx rfl (pc0 := 95) (pc' := 114) rfl (hb hby at_95) rfl (flt hc95).2.2.2 (by decide) (by decide) k) ?_
            exact J114 T5 hh5 _ (X5.more (by decide) (by decide)) e5 N5 Z0 (A_ob1.congr (own_skip x0 kn (4 : Int32) 4 (by decide) bn.1 hc95))
        refine own_to (fun t k => XS.iloadN X4.here hx rfl (hb hby at_72) rfl k) ?_
        show own_Out p e below _ T4 (mkF m 73 #[.val (.int x0), .val (.int x1), .val (.int kn), .val (.ref ob1), .unset, .unset] [(.int kn)]) _ _ _
        refine own_to (fun t k => XS.iconst X4.here hx rfl (hb hby at_73) k) ?_
        show own_Out p e below _ T4 (mkF m 74 #[.val (.int x0), .val (.int x1), .val (.int kn), .val (.ref ob1), .unset, .unset] [(.int (3 : Int32)), (.int kn)]) _ _ _
        by_cases hc74 : (3 : Int32) < kn
        · refine own_to (fun t k => XS.icmpNo X4.here hx rfl (hb hby at_74) rfl (tlt hc74).2.2.2 k) ?_
          show own_Out p e below _ T4 (mkF m 77 #[.val (.int x0), .val (.int x1), .val (.int kn), .val (.ref ob1), .unset, .unset] []) _ _ _
          refine own_to (fun t k => XS.aloadN X4.here hx rfl (hb hby at_77) rfl rfl k) ?_
          show own_Out p e below _ T4 (mkF m 78 #[.val (.int x0), .val (.int x1), .val (.int kn), .val (.ref ob1), .unset, .unset] [(.ref ob1)]) _ _ _
          refine own_to (fun t k => XS.iconst X4.here hx rfl (hb hby at_78) k) ?_
          show own_Out p e below _ T4 (mkF m 79 #[.val (.int x0), .val (.int x1), .val (.int kn), .val (.ref ob1), .unset, .unset] [(.int (3 : Int32)), (.ref ob1)]) _ _ _
          refine own_to (fun t k => XS.iloadN X4.here hx rfl (hb hby at_79) rfl k) ?_
          show own_Out p e below _ T4 (mkF m 80 #[.val (.int x0), .val (.int x1), .val (.int kn), .val (.ref ob1), .unset, .unset] [(.int x0), (.int (3 : Int32)), (.ref ob1)]) _ _ _
          refine own_to (fun t k => XS.iconst X4.here hx rfl (hb hby at_80) k) ?_
          show own_Out p e below _ T4 (mkF m 81 #[.val (.int x0), .val (.int x1), .val (.int kn), .val (.ref ob1), .unset, .unset] [(.int (3 : Int32)), (.int x0), (.int (3 : Int32)), (.ref ob1)]) _ _ _
          refine own_to (fun t k => XS.iushr X4.here hx rfl (hb hby at_81) rfl k) ?_
          show own_Out p e below _ T4 (mkF m 82 #[.val (.int x0), .val (.int x1), .val (.int kn), .val (.ref ob1), .unset, .unset] [(.int ((x0.toUInt32 >>> ((3 : Int32) &&& 31).toUInt32).toInt32)), (.int (3 : Int32)), (.ref ob1)]) _ _ _
          refine own_to (fun t k => XS.iconst X4.here hx rfl (hb hby at_82) k) ?_
          show own_Out p e below _ T4 (mkF m 83 #[.val (.int x0), .val (.int x1), .val (.int kn), .val (.ref ob1), .unset, .unset] [(.int (1 : Int32)), (.int ((x0.toUInt32 >>> ((3 : Int32) &&& 31).toUInt32).toInt32)), (.int (3 : Int32)), (.ref ob1)]) _ _ _
          refine own_to (fun t k => XS.iand X4.here hx rfl (hb hby at_83) rfl k) ?_
          show own_Out p e below _ T4 (mkF m 84 #[.val (.int x0), .val (.int x1), .val (.int kn), .val (.ref ob1), .unset, .unset] [(.int (((x0.toUInt32 >>> ((3 : Int32) &&& 31).toUInt32).toInt32) &&& (1 : Int32))), (.int (3 : Int32)), (.ref ob1)]) _ _ _
          by_cases hc84 : (((x0.toUInt32 >>> ((3 : Int32) &&& 31).toUInt32).toInt32) &&& (1 : Int32)) = (0 : Int32)
          · refine own_to (fun t k => XS.ifYes X4.here hx rfl (pc0 := 84) (pc' := 91) rfl (hb hby at_84) rfl ((if0 _ _).trans (teq hc84).1) (by decide) (by decide) k) ?_
            show own_Out p e below _ T4 (mkF m 91 #[.val (.int x0), .val (.int x1), .val (.int kn), .val (.ref ob1), .unset, .unset] [(.int (3 : Int32)), (.ref ob1)]) _ _ _
            refine own_to (fun t k => XS.iconst X4.here hx rfl (hb hby at_91) k) ?_
            show own_Out p e below _ T4 (mkF m 92 #[.val (.int x0), .val (.int x1), .val (.int kn), .val (.ref ob1), .unset, .unset] [(.int (0 : Int32)), (.int (3 : Int32)), (.ref ob1)]) _ _ _
            refine own_stZ X4 hx hZ e4 A_ob1 (by decide) (by rw [own_lt] at hc74; have kz := own_cc3; show (3 : Int32).toInt.toNat < kn.toInt.toNat; omega) rfl rfl (hb hby at_92) fun T55 hh55 X55 e55 W55 A55 => ?_
            have A_ob1 := A55
            have Z0 := Nat.le_trans Z0 (Nat.le_of_eq W55.size.symm)
            have N55 := own_fs (sl := Int32.toNatClampNeg (3 : Int32)) N4 g_ob1
            exact J93 T55 hh55 _ (X55.more (by decide) (by decide)) e55 N55 Z0 (A_ob1.congr (fun j _ => own_put0 x0 (3 : Int32) 3 (by decide) ((own_e3 x0).mp hc84) j))
          · refine own_to (fun t k => XS.ifNo X4.here hx rfl (hb hby at_84) rfl ((if0 _ _).trans (feq hc84).1) k) ?_
            show own_Out p e below _ T4 (mkF m 87 #[.val (.int x0), .val (.int x1), .val (.int kn), .val (.ref ob1), .unset, .unset] [(.int (3 : Int32)), (.ref ob1)]) _ _ _
            refine own_to (fun t k => XS.iconst X4.here hx rfl (hb hby at_87) k) ?_
            show own_Out p e below _ T4 (mkF m 88 #[.val (.int x0), .val (.int x1), .val (.int kn), .val (.ref ob1), .unset, .unset] [(.int (1 : Int32)), (.int (3 : Int32)), (.ref ob1)]) _ _ _
            refine own_to (fun t k => XS.goto X4.here hx rfl (pc0 := 88) (pc' := 92) rfl (hb hby at_88) (by decide) (by decide) k) ?_
            show own_Out p e below _ T4 (mkF m 92 #[.val (.int x0), .val (.int x1), .val (.int kn), .val (.ref ob1), .unset, .unset] [(.int (1 : Int32)), (.int (3 : Int32)), (.ref ob1)]) _ _ _
            refine own_stZ X4 hx hZ e4 A_ob1 (by decide) (by rw [own_lt] at hc74; have kz := own_cc3; show (3 : Int32).toInt.toNat < kn.toInt.toNat; omega) rfl rfl (hb hby at_92) fun T56 hh56 X56 e56 W56 A56 => ?_
            have A_ob1 := A56
            have Z0 := Nat.le_trans Z0 (Nat.le_of_eq W56.size.symm)
            have N56 := own_fs (sl := Int32.toNatClampNeg (3 : Int32)) N4 g_ob1
            exact J93 T56 hh56 _ (X56.more (by decide) (by decide)) e56 N56 Z0 (A_ob1.congr (fun j _ => own_put1 x0 (3 : Int32) 3 (by decide) (own_tt (fun q => hc84 ((own_e3 x0).mpr q))) j))
        · refine own_to (fun t k => XS.icmpYes X4.here hx rfl (pc0 := 74) (pc' := 93) rfl (hb hby at_74) rfl (flt hc74).2.2.2 (by decide) (by decide) k) ?_
          exact J93 T4 hh4 _ (X4.more (by decide) (by decide)) e4 N4 Z0 (A_ob1.congr (own_skip x0 kn (3 : Int32) 3 (by decide) bn.1 hc74))
      refine own_to (fun t k => XS.iloadN X3.here hx rfl (hb hby at_51) rfl k) ?_
      show own_Out p e below _ T3 (mkF m 52 #[.val (.int x0), .val (.int x1), .val (.int kn), .val (.ref ob1), .unset, .unset] [(.int kn)]) _ _ _
      refine own_to (fun t k => XS.iconst X3.here hx rfl (hb hby at_52) k) ?_
      show own_Out p e below _ T3 (mkF m 53 #[.val (.int x0), .val (.int x1), .val (.int kn), .val (.ref ob1), .unset, .unset] [(.int (2 : Int32)), (.int kn)]) _ _ _
      by_cases hc53 : (2 : Int32) < kn
      · refine own_to (fun t k => XS.icmpNo X3.here hx rfl (hb hby at_53) rfl (tlt hc53).2.2.2 k) ?_
        show own_Out p e below _ T3 (mkF m 56 #[.val (.int x0), .val (.int x1), .val (.int kn), .val (.ref ob1), .unset, .unset] []) _ _ _
        refine own_to (fun t k => XS.aloadN X3.here hx rfl (hb hby at_56) rfl rfl k) ?_
        show own_Out p e below _ T3 (mkF m 57 #[.val (.int x0), .val (.int x1), .val (.int kn), .val (.ref ob1), .unset, .unset] [(.ref ob1)]) _ _ _
        refine own_to (fun t k => XS.iconst X3.here hx rfl (hb hby at_57) k) ?_
        show own_Out p e below _ T3 (mkF m 58 #[.val (.int x0), .val (.int x1), .val (.int kn), .val (.ref ob1), .unset, .unset] [(.int (2 : Int32)), (.ref ob1)]) _ _ _
        refine own_to (fun t k => XS.iloadN X3.here hx rfl (hb hby at_58) rfl k) ?_
        show own_Out p e below _ T3 (mkF m 59 #[.val (.int x0), .val (.int x1), .val (.int kn), .val (.ref ob1), .unset, .unset] [(.int x0), (.int (2 : Int32)), (.ref ob1)]) _ _ _
        refine own_to (fun t k => XS.iconst X3.here hx rfl (hb hby at_59) k) ?_
        show own_Out p e below _ T3 (mkF m 60 #[.val (.int x0), .val (.int x1), .val (.int kn), .val (.ref ob1), .unset, .unset] [(.int (2 : Int32)), (.int x0), (.int (2 : Int32)), (.ref ob1)]) _ _ _
        refine own_to (fun t k => XS.iushr X3.here hx rfl (hb hby at_60) rfl k) ?_
        show own_Out p e below _ T3 (mkF m 61 #[.val (.int x0), .val (.int x1), .val (.int kn), .val (.ref ob1), .unset, .unset] [(.int ((x0.toUInt32 >>> ((2 : Int32) &&& 31).toUInt32).toInt32)), (.int (2 : Int32)), (.ref ob1)]) _ _ _
        refine own_to (fun t k => XS.iconst X3.here hx rfl (hb hby at_61) k) ?_
        show own_Out p e below _ T3 (mkF m 62 #[.val (.int x0), .val (.int x1), .val (.int kn), .val (.ref ob1), .unset, .unset] [(.int (1 : Int32)), (.int ((x0.toUInt32 >>> ((2 : Int32) &&& 31).toUInt32).toInt32)), (.int (2 : Int32)), (.ref ob1)]) _ _ _
        refine own_to (fun t k => XS.iand X3.here hx rfl (hb hby at_62) rfl k) ?_
        show own_Out p e below _ T3 (mkF m 63 #[.val (.int x0), .val (.int x1), .val (.int kn), .val (.ref ob1), .unset, .unset] [(.int (((x0.toUInt32 >>> ((2 : Int32) &&& 31).toUInt32).toInt32) &&& (1 : Int32))), (.int (2 : Int32)), (.ref ob1)]) _ _ _
        by_cases hc63 : (((x0.toUInt32 >>> ((2 : Int32) &&& 31).toUInt32).toInt32) &&& (1 : Int32)) = (0 : Int32)
        · refine own_to (fun t k => XS.ifYes X3.here hx rfl (pc0 := 63) (pc' := 70) rfl (hb hby at_63) rfl ((if0 _ _).trans (teq hc63).1) (by decide) (by decide) k) ?_
          show own_Out p e below _ T3 (mkF m 70 #[.val (.int x0), .val (.int x1), .val (.int kn), .val (.ref ob1), .unset, .unset] [(.int (2 : Int32)), (.ref ob1)]) _ _ _
          refine own_to (fun t k => XS.iconst X3.here hx rfl (hb hby at_70) k) ?_
          show own_Out p e below _ T3 (mkF m 71 #[.val (.int x0), .val (.int x1), .val (.int kn), .val (.ref ob1), .unset, .unset] [(.int (0 : Int32)), (.int (2 : Int32)), (.ref ob1)]) _ _ _
          refine own_stZ X3 hx hZ e3 A_ob1 (by decide) (by rw [own_lt] at hc53; have kz := own_cc2; show (2 : Int32).toInt.toNat < kn.toInt.toNat; omega) rfl rfl (hb hby at_71) fun T57 hh57 X57 e57 W57 A57 => ?_
          have A_ob1 := A57
          have Z0 := Nat.le_trans Z0 (Nat.le_of_eq W57.size.symm)
          have N57 := own_fs (sl := Int32.toNatClampNeg (2 : Int32)) N3 g_ob1
          exact J72 T57 hh57 _ (X57.more (by decide) (by decide)) e57 N57 Z0 (A_ob1.congr (fun j _ => own_put0 x0 (2 : Int32) 2 (by decide) ((own_e2 x0).mp hc63) j))
        · refine own_to (fun t k => XS.ifNo X3.here hx rfl (hb hby at_63) rfl ((if0 _ _).trans (feq hc63).1) k) ?_
          show own_Out p e below _ T3 (mkF m 66 #[.val (.int x0), .val (.int x1), .val (.int kn), .val (.ref ob1), .unset, .unset] [(.int (2 : Int32)), (.ref ob1)]) _ _ _
          refine own_to (fun t k => XS.iconst X3.here hx rfl (hb hby at_66) k) ?_
          show own_Out p e below _ T3 (mkF m 67 #[.val (.int x0), .val (.int x1), .val (.int kn), .val (.ref ob1), .unset, .unset] [(.int (1 : Int32)), (.int (2 : Int32)), (.ref ob1)]) _ _ _
          refine own_to (fun t k => XS.goto X3.here hx rfl (pc0 := 67) (pc' := 71) rfl (hb hby at_67) (by decide) (by decide) k) ?_
          show own_Out p e below _ T3 (mkF m 71 #[.val (.int x0), .val (.int x1), .val (.int kn), .val (.ref ob1), .unset, .unset] [(.int (1 : Int32)), (.int (2 : Int32)), (.ref ob1)]) _ _ _
          refine own_stZ X3 hx hZ e3 A_ob1 (by decide) (by rw [own_lt] at hc53; have kz := own_cc2; show (2 : Int32).toInt.toNat < kn.toInt.toNat; omega) rfl rfl (hb hby at_71) fun T58 hh58 X58 e58 W58 A58 => ?_
          have A_ob1 := A58
          have Z0 := Nat.le_trans Z0 (Nat.le_of_eq W58.size.symm)
          have N58 := own_fs (sl := Int32.toNatClampNeg (2 : Int32)) N3 g_ob1
          exact J72 T58 hh58 _ (X58.more (by decide) (by decide)) e58 N58 Z0 (A_ob1.congr (fun j _ => own_put1 x0 (2 : Int32) 2 (by decide) (own_tt (fun q => hc63 ((own_e2 x0).mpr q))) j))
      · refine own_to (fun t k => XS.icmpYes X3.here hx rfl (pc0 := 53) (pc' := 72) rfl (hb hby at_53) rfl (flt hc53).2.2.2 (by decide) (by decide) k) ?_
        exact J72 T3 hh3 _ (X3.more (by decide) (by decide)) e3 N3 Z0 (A_ob1.congr (own_skip x0 kn (2 : Int32) 2 (by decide) bn.1 hc53))
    refine own_to (fun t k => XS.iloadN X2.here hx rfl (hb hby at_30) rfl k) ?_
    show own_Out p e below _ T2 (mkF m 31 #[.val (.int x0), .val (.int x1), .val (.int kn), .val (.ref ob1), .unset, .unset] [(.int kn)]) _ _ _
    refine own_to (fun t k => XS.iconst X2.here hx rfl (hb hby at_31) k) ?_
    show own_Out p e below _ T2 (mkF m 32 #[.val (.int x0), .val (.int x1), .val (.int kn), .val (.ref ob1), .unset, .unset] [(.int (1 : Int32)), (.int kn)]) _ _ _
    by_cases hc32 : (1 : Int32) < kn
    · refine own_to (fun t k => XS.icmpNo X2.here hx rfl (hb hby at_32) rfl (tlt hc32).2.2.2 k) ?_
      show own_Out p e below _ T2 (mkF m 35 #[.val (.int x0), .val (.int x1), .val (.int kn), .val (.ref ob1), .unset, .unset] []) _ _ _
      refine own_to (fun t k => XS.aloadN X2.here hx rfl (hb hby at_35) rfl rfl k) ?_
      show own_Out p e below _ T2 (mkF m 36 #[.val (.int x0), .val (.int x1), .val (.int kn), .val (.ref ob1), .unset, .unset] [(.ref ob1)]) _ _ _
      refine own_to (fun t k => XS.iconst X2.here hx rfl (hb hby at_36) k) ?_
      show own_Out p e below _ T2 (mkF m 37 #[.val (.int x0), .val (.int x1), .val (.int kn), .val (.ref ob1), .unset, .unset] [(.int (1 : Int32)), (.ref ob1)]) _ _ _
      refine own_to (fun t k => XS.iloadN X2.here hx rfl (hb hby at_37) rfl k) ?_
      show own_Out p e below _ T2 (mkF m 38 #[.val (.int x0), .val (.int x1), .val (.int kn), .val (.ref ob1), .unset, .unset] [(.int x0), (.int (1 : Int32)), (.ref ob1)]) _ _ _
      refine own_to (fun t k => XS.iconst X2.here hx rfl (hb hby at_38) k) ?_
      show own_Out p e below _ T2 (mkF m 39 #[.val (.int x0), .val (.int x1), .val (.int kn), .val (.ref ob1), .unset, .unset] [(.int (1 : Int32)), (.int x0), (.int (1 : Int32)), (.ref ob1)]) _ _ _
      refine own_to (fun t k => XS.iushr X2.here hx rfl (hb hby at_39) rfl k) ?_
      show own_Out p e below _ T2 (mkF m 40 #[.val (.int x0), .val (.int x1), .val (.int kn), .val (.ref ob1), .unset, .unset] [(.int ((x0.toUInt32 >>> ((1 : Int32) &&& 31).toUInt32).toInt32)), (.int (1 : Int32)), (.ref ob1)]) _ _ _
      refine own_to (fun t k => XS.iconst X2.here hx rfl (hb hby at_40) k) ?_
      show own_Out p e below _ T2 (mkF m 41 #[.val (.int x0), .val (.int x1), .val (.int kn), .val (.ref ob1), .unset, .unset] [(.int (1 : Int32)), (.int ((x0.toUInt32 >>> ((1 : Int32) &&& 31).toUInt32).toInt32)), (.int (1 : Int32)), (.ref ob1)]) _ _ _
      refine own_to (fun t k => XS.iand X2.here hx rfl (hb hby at_41) rfl k) ?_
      show own_Out p e below _ T2 (mkF m 42 #[.val (.int x0), .val (.int x1), .val (.int kn), .val (.ref ob1), .unset, .unset] [(.int (((x0.toUInt32 >>> ((1 : Int32) &&& 31).toUInt32).toInt32) &&& (1 : Int32))), (.int (1 : Int32)), (.ref ob1)]) _ _ _
      by_cases hc42 : (((x0.toUInt32 >>> ((1 : Int32) &&& 31).toUInt32).toInt32) &&& (1 : Int32)) = (0 : Int32)
      · refine own_to (fun t k => XS.ifYes X2.here hx rfl (pc0 := 42) (pc' := 49) rfl (hb hby at_42) rfl ((if0 _ _).trans (teq hc42).1) (by decide) (by decide) k) ?_
        show own_Out p e below _ T2 (mkF m 49 #[.val (.int x0), .val (.int x1), .val (.int kn), .val (.ref ob1), .unset, .unset] [(.int (1 : Int32)), (.ref ob1)]) _ _ _
        refine own_to (fun t k => XS.iconst X2.here hx rfl (hb hby at_49) k) ?_
        show own_Out p e below _ T2 (mkF m 50 #[.val (.int x0), .val (.int x1), .val (.int kn), .val (.ref ob1), .unset, .unset] [(.int (0 : Int32)), (.int (1 : Int32)), (.ref ob1)]) _ _ _
        refine own_stZ X2 hx hZ e2 A_ob1 (by decide) (by rw [own_lt] at hc32; have kz := own_cc1; show (1 : Int32).toInt.toNat < kn.toInt.toNat; omega) rfl rfl (hb hby at_50) fun T59 hh59 X59 e59 W59 A59 => ?_
        have A_ob1 := A59
        have Z0 := Nat.le_trans Z0 (Nat.le_of_eq W59.size.symm)
        have N59 := own_fs (sl := Int32.toNatClampNeg (1 : Int32)) N2 g_ob1
        exact J51 T59 hh59 _ (X59.more (by decide) (by decide)) e59 N59 Z0 (A_ob1.congr (fun j _ => own_put0 x0 (1 : Int32) 1 (by decide) ((own_e1 x0).mp hc42) j))
      · refine own_to (fun t k => XS.ifNo X2.here hx rfl (hb hby at_42) rfl ((if0 _ _).trans (feq hc42).1) k) ?_
        show own_Out p e below _ T2 (mkF m 45 #[.val (.int x0), .val (.int x1), .val (.int kn), .val (.ref ob1), .unset, .unset] [(.int (1 : Int32)), (.ref ob1)]) _ _ _
        refine own_to (fun t k => XS.iconst X2.here hx rfl (hb hby at_45) k) ?_
        show own_Out p e below _ T2 (mkF m 46 #[.val (.int x0), .val (.int x1), .val (.int kn), .val (.ref ob1), .unset, .unset] [(.int (1 : Int32)), (.int (1 : Int32)), (.ref ob1)]) _ _ _
        refine own_to (fun t k => XS.goto X2.here hx rfl (pc0 := 46) (pc' := 50) rfl (hb hby at_46) (by decide) (by decide) k) ?_
        show own_Out p e below _ T2 (mkF m 50 #[.val (.int x0), .val (.int x1), .val (.int kn), .val (.ref ob1), .unset, .unset] [(.int (1 : Int32)), (.int (1 : Int32)), (.ref ob1)]) _ _ _
        refine own_stZ X2 hx hZ e2 A_ob1 (by decide) (by rw [own_lt] at hc32; have kz := own_cc1; show (1 : Int32).toInt.toNat < kn.toInt.toNat; omega) rfl rfl (hb hby at_50) fun T60 hh60 X60 e60 W60 A60 => ?_
        have A_ob1 := A60
        have Z0 := Nat.le_trans Z0 (Nat.le_of_eq W60.size.symm)
        have N60 := own_fs (sl := Int32.toNatClampNeg (1 : Int32)) N2 g_ob1
        exact J51 T60 hh60 _ (X60.more (by decide) (by decide)) e60 N60 Z0 (A_ob1.congr (fun j _ => own_put1 x0 (1 : Int32) 1 (by decide) (own_tt (fun q => hc42 ((own_e1 x0).mpr q))) j))
    · refine own_to (fun t k => XS.icmpYes X2.here hx rfl (pc0 := 32) (pc' := 51) rfl (hb hby at_32) rfl (flt hc32).2.2.2 (by decide) (by decide) k) ?_
      exact J51 T2 hh2 _ (X2.more (by decide) (by decide)) e2 N2 Z0 (A_ob1.congr (own_skip x0 kn (1 : Int32) 1 (by decide) bn.1 hc32))
  refine own_to (fun t k => XS.iloadN X1.here hx rfl (hb hby at_12) rfl k) ?_
  show own_Out p e below _ T1 (mkF m 13 #[.val (.int x0), .val (.int x1), .val (.int kn), .val (.ref ob1), .unset, .unset] [(.int kn)]) _ _ _
  by_cases hc13 : (0 : Int32) < kn
  · refine own_to (fun t k => XS.ifNo X1.here hx rfl (hb hby at_13) rfl ((if0 _ _).trans (tlt hc13).2.2.2) k) ?_
    show own_Out p e below _ T1 (mkF m 16 #[.val (.int x0), .val (.int x1), .val (.int kn), .val (.ref ob1), .unset, .unset] []) _ _ _
    refine own_to (fun t k => XS.aloadN X1.here hx rfl (hb hby at_16) rfl rfl k) ?_
    show own_Out p e below _ T1 (mkF m 17 #[.val (.int x0), .val (.int x1), .val (.int kn), .val (.ref ob1), .unset, .unset] [(.ref ob1)]) _ _ _
    refine own_to (fun t k => XS.iconst X1.here hx rfl (hb hby at_17) k) ?_
    show own_Out p e below _ T1 (mkF m 18 #[.val (.int x0), .val (.int x1), .val (.int kn), .val (.ref ob1), .unset, .unset] [(.int (0 : Int32)), (.ref ob1)]) _ _ _
    refine own_to (fun t k => XS.iloadN X1.here hx rfl (hb hby at_18) rfl k) ?_
    show own_Out p e below _ T1 (mkF m 19 #[.val (.int x0), .val (.int x1), .val (.int kn), .val (.ref ob1), .unset, .unset] [(.int x0), (.int (0 : Int32)), (.ref ob1)]) _ _ _
    refine own_to (fun t k => XS.iconst X1.here hx rfl (hb hby at_19) k) ?_
    show own_Out p e below _ T1 (mkF m 20 #[.val (.int x0), .val (.int x1), .val (.int kn), .val (.ref ob1), .unset, .unset] [(.int (1 : Int32)), (.int x0), (.int (0 : Int32)), (.ref ob1)]) _ _ _
    refine own_to (fun t k => XS.iand X1.here hx rfl (hb hby at_20) rfl k) ?_
    show own_Out p e below _ T1 (mkF m 21 #[.val (.int x0), .val (.int x1), .val (.int kn), .val (.ref ob1), .unset, .unset] [(.int (x0 &&& (1 : Int32))), (.int (0 : Int32)), (.ref ob1)]) _ _ _
    by_cases hc21 : (x0 &&& (1 : Int32)) = (0 : Int32)
    · refine own_to (fun t k => XS.ifYes X1.here hx rfl (pc0 := 21) (pc' := 28) rfl (hb hby at_21) rfl ((if0 _ _).trans (teq hc21).1) (by decide) (by decide) k) ?_
      show own_Out p e below _ T1 (mkF m 28 #[.val (.int x0), .val (.int x1), .val (.int kn), .val (.ref ob1), .unset, .unset] [(.int (0 : Int32)), (.ref ob1)]) _ _ _
      refine own_to (fun t k => XS.iconst X1.here hx rfl (hb hby at_28) k) ?_
      show own_Out p e below _ T1 (mkF m 29 #[.val (.int x0), .val (.int x1), .val (.int kn), .val (.ref ob1), .unset, .unset] [(.int (0 : Int32)), (.int (0 : Int32)), (.ref ob1)]) _ _ _
      refine own_stZ X1 hx hZ e1 A_ob1 (by decide) (by rw [own_lt] at hc13; have kz := own_cc0; show (0 : Int32).toInt.toNat < kn.toInt.toNat; omega) rfl rfl (hb hby at_29) fun T61 hh61 X61 e61 W61 A61 => ?_
      have A_ob1 := A61
      have Z0 := Nat.le_trans Z0 (Nat.le_of_eq W61.size.symm)
      have N61 := own_fs (sl := Int32.toNatClampNeg (0 : Int32)) N0 g_ob1
      exact J30 T61 hh61 _ (X61.more (by decide) (by decide)) e61 N61 Z0 (A_ob1.congr (fun j _ => own_put0 x0 (0 : Int32) 0 (by decide) ((own_e0 x0).mp hc21) j))
    · refine own_to (fun t k => XS.ifNo X1.here hx rfl (hb hby at_21) rfl ((if0 _ _).trans (feq hc21).1) k) ?_
      show own_Out p e below _ T1 (mkF m 24 #[.val (.int x0), .val (.int x1), .val (.int kn), .val (.ref ob1), .unset, .unset] [(.int (0 : Int32)), (.ref ob1)]) _ _ _
      refine own_to (fun t k => XS.iconst X1.here hx rfl (hb hby at_24) k) ?_
      show own_Out p e below _ T1 (mkF m 25 #[.val (.int x0), .val (.int x1), .val (.int kn), .val (.ref ob1), .unset, .unset] [(.int (1 : Int32)), (.int (0 : Int32)), (.ref ob1)]) _ _ _
      refine own_to (fun t k => XS.goto X1.here hx rfl (pc0 := 25) (pc' := 29) rfl (hb hby at_25) (by decide) (by decide) k) ?_
      show own_Out p e below _ T1 (mkF m 29 #[.val (.int x0), .val (.int x1), .val (.int kn), .val (.ref ob1), .unset, .unset] [(.int (1 : Int32)), (.int (0 : Int32)), (.ref ob1)]) _ _ _
      refine own_stZ X1 hx hZ e1 A_ob1 (by decide) (by rw [own_lt] at hc13; have kz := own_cc0; show (0 : Int32).toInt.toNat < kn.toInt.toNat; omega) rfl rfl (hb hby at_29) fun T62 hh62 X62 e62 W62 A62 => ?_
      have A_ob1 := A62
      have Z0 := Nat.le_trans Z0 (Nat.le_of_eq W62.size.symm)
      have N62 := own_fs (sl := Int32.toNatClampNeg (0 : Int32)) N0 g_ob1
      exact J30 T62 hh62 _ (X62.more (by decide) (by decide)) e62 N62 Z0 (A_ob1.congr (fun j _ => own_put1 x0 (0 : Int32) 0 (by decide) (own_tt (fun q => hc21 ((own_e0 x0).mpr q))) j))
  · refine own_to (fun t k => XS.ifYes X1.here hx rfl (pc0 := 13) (pc' := 30) rfl (hb hby at_13) rfl ((if0 _ _).trans (flt hc13).2.2.2) (by decide) (by decide) k) ?_
    exact J30 T1 hh1 _ (X1.more (by decide) (by decide)) e1 N0 Z0 (A_ob1.congr (own_skip x0 kn (0 : Int32) 0 (by decide) bn.1 hc13))
set_option maxRecDepth 65536 in
set_option maxHeartbeats 40000000 in
theorem comes_1 {Post : Tables → Env → Array Value → State → Outcome → State → Prop} (hpost : ∀ tb e args s v u, (limb_1_1.after args s (.returned v) u = true ∧ limb_1_2.after args s (.returned v) u = true ∧ True) → FrameEnd s (.returned v) u (Jvm.fieldLocs frame_1_writes args s ++ Jvm.arrayLocs frame_1_arrays args s ++ Jvm.staticLocs frame_1_statics s) 16 128 → Post tb e args s (.returned v) u) :
    ArmFor flags0 classFile x code maxLocals ret World_1 tables_1 room_1 Calls_1 rest_1 Pre_1 Post := by
  intro l hfl _ _ p e ha hc hk s m args below hf hA hF happ hP
  obtain ⟨hcalls, hrest, hpre⟩ := hP
  obtain ⟨-, -, -, hnamed, -, -, -, hat⟩ := (Spec.applies_iff hf).mp happ
  obtain ⟨hg, hn⟩ := and_e (Cond.before_iff.mp (show (Jvm.Cond.and given_1 narrow_1).before args s = true from hpre))
  obtain ⟨gg2, gg3⟩ := and_e hg
  obtain ⟨gg4, gg5⟩ := and_e gg3
  obtain ⟨w0, w1, rfl⟩ : ∃ w0 w1 : Value, args = #[w0, w1] := by
    have hs : args.size = 2 := by simpa [Cond.value, given_1] using gg2
    obtain ⟨L⟩ := args
    match L, hs with
    | [w0, w1], _ => exact ⟨w0, w1, rfl⟩
  have hw := fun d (hd : d ∈ tables_1) => atoms_spec (ws := Jvm.Cond.code x code maxLocals ret :: tables_1) hat d (List.mem_cons_of_mem _ hd)
  have hfit : Fit s := fun {y c} hc i hi => by
    obtain ⟨ha, rfl⟩ := Array.getElem?_eq_some_iff.mp hc
    have q := List.all_eq_true.mp ((Array.all_eq_true_iff_forall_mem.mp hF) _ (Array.getElem_mem ha)) i (List.mem_range.mpr hi)
    simpa [Array.getElem?_eq_getElem hi] using q
  obtain ⟨i0, ei0⟩ := is_v gg4
  obtain rfl : w0 = (.int i0) := Option.some.inj ei0
  obtain ⟨i1, ei1⟩ := is_v gg5
  obtain rfl : w1 = (.int i1) := Option.some.inj ei1
  obtain ⟨n, o, h1, h2, h3, _, L, rfl, ⟨rfl, N⟩, hq⟩ := rm0 l s _ hw i0 i1 s.heap s.heap.size (Nat.le_refl _) tables_1 p e ha hc hk s m _ below hf ((Spec.applies_iff_loose hf).mp happ).1 ⟨rfl, State.Warmed39.refl s, rfl⟩ trivial
  refine ⟨n, _, h1, h2, h3, hpost _ _ _ _ _ _ ⟨Cond.after_iff.mpr rfl, Cond.after_iff.mpr (eq_i res_at (Term.int_eval (1)) rfl), trivial⟩ ⟨hq.1, hq.2.1, (hq.2.2.sift fun y hy => Or.inr (N y hy)).mono (by decide) (by decide)⟩⟩
theorem main_1_1 : Claimed_1_1 := comes_1 fun _ _ _ _ _ _ h hF => ⟨h.1, hF⟩
theorem main_1_2 : Claimed_1_2 := comes_1 fun _ _ _ _ _ _ h hF => ⟨h.2.1, hF⟩
end Jvm.Pilot.@@N@@
namespace Jvm.Pilot.@@N@@
open Jvm Jvm.ClassFile Sem Op Lib Jvm.Free Jvm.Stand Jvm.Pilot.@@N@@.Jvm.D
/-! MADE BY PROGRAM (witnessworld.py) out of the Statement's table words and the real class files: 11 classes; the members and pool entries that the words name. The judged class is class 1, her method 1. -/
namespace start1
open Jvm.ClassFile
def u (s : String) : CpInfo := .utf8 (stringToUtf16 s)
/-- a pool by its gaps: so many unusable entries, then the entry; so many at the end -/
def gap : Nat → List CpInfo → List CpInfo
  | 0, r => r
  | n + 1, r => .unusable :: gap n r
def poolList (es : List (Nat × CpInfo)) (last : Nat) : List CpInfo := es.foldr (fun e r => gap e.1 (e.2 :: r)) (gap last [])
def pool (es : List (Nat × CpInfo)) (last : Nat) : Array CpInfo := ⟨poolList es last⟩
def fileOf (pool : Array CpInfo) (this : Nat) (attrs : Array Attribute := #[]) (ms : Array MethodInfo := #[]) (fl : Nat := 33) (sup : Nat := 0) (ifs : Array Nat := #[]) (fds : Array FieldInfo := #[]) : ClassFile where
  minorVersion := 0
  majorVersion := 65
  constantPool := pool
  accessFlags := fl
  thisClass := this
  superClass := sup
  interfaces := ifs
  fields := fds
  methods := ms
  attributes := attrs
def plain (name : String) (sup : Option ClassId) : Class where
  name := name
  kind := .ordinary
  loader := none
  accessFlags := 33
  super := sup
  interfaces := #[]
  cf := none
  fields := #[]
  methods := #[]
  instanceTypes := #[]
  staticTypes := #[]
  resolved := #[]
  callSites := []
  init := .initialized
  statics := none
  mirror := none

def pool0 : Array CpInfo := pool [(5, u "<init>"), (0, u "()V"), (1, .class_ 10), (1, u "java/lang/Object")] 113

def k0m0 : Method := { name := "<init>", desc := "()V", sig := { parameters := [], returnType := none }, accessFlags := 1, code := none }
/-- java/lang/Object -/
def k0 : Class := { plain "java/lang/Object" none with
  accessFlags := 33
  interfaces := #[]
  cf := some (fileOf pool0 8 #[] #[{ accessFlags := 1, nameIndex := 5, descriptorIndex := 6, attributes := #[] }] 33 0 #[] #[])
  fields := #[]
  methods := #[k0m0]
  instanceTypes := #[]
  staticTypes := #[]
  resolved := Array.replicate 124 none
  statics := none }

def pool1 : Array CpInfo := pool [(2, .class_ 4), (1, u "java/lang/Object"), (0, u "<init>"), (0, u "()V"), (0, .integer 2147483647), (0, .methodref 9 10), (0, .class_ 11), (0, .nameAndType 12 13), (0, u "com/example/mat44/mat44/JedecChecksum"), (0, u "fuses"), (0, u "([Z)I"), (0, .class_ 15), (0, u "com/example/mat44/mat44/JedecChecksumFusesPinLaw"), (2, u "law"), (0, u "(II)Z")] 5

def k1m0 : Method := { name := "<init>", desc := "()V", sig := { parameters := [], returnType := none }, accessFlags := 1, code := none }
def k1c1 : Code := { maxStack := 4, maxLocals := 6, code := code, exceptionTable := #[], attributes := #[] }
def k1m1 : Method := { name := "law", desc := "(II)Z", sig := { parameters := [.int, .int], returnType := some .boolean }, accessFlags := 9, code := some k1c1 }
/-- com/example/mat44/mat44/JedecChecksumFusesPinLaw -/
def k1 : Class := { plain "com/example/mat44/mat44/JedecChecksumFusesPinLaw" (some 0) with
  accessFlags := 49
  interfaces := #[]
  cf := some (fileOf pool1 14 #[] #[{ accessFlags := 1, nameIndex := 5, descriptorIndex := 6, attributes := #[] }, { accessFlags := 9, nameIndex := 18, descriptorIndex := 19, attributes := #[] }] 49 2 #[] #[])
  fields := #[]
  methods := #[k1m0, k1m1]
  instanceTypes := #[]
  staticTypes := #[]
  resolved := Array.replicate 25 none
  statics := none }

def pool2 : Array CpInfo := pool [(2, .class_ 4), (1, u "java/lang/Object"), (0, u "<init>"), (0, u "()V"), (0, .integer 65535), (6, .class_ 15), (0, u "com/example/mat44/mat44/JedecChecksum"), (0, u "STX"), (0, u "B"), (2, u "ETX"), (3, u "fuses"), (0, u "([Z)I")] 7

def k2m0 : Method := { name := "<init>", desc := "()V", sig := { parameters := [], returnType := none }, accessFlags := 2, code := none }
def k2c1 : Code := { maxStack := 4, maxLocals := 5, code := prog_26_method_2_code, exceptionTable := #[], attributes := #[] }
def k2m1 : Method := { name := "fuses", desc := "([Z)I", sig := { parameters := [(.array .boolean)], returnType := some .int }, accessFlags := 9, code := some k2c1 }
/-- com/example/mat44/mat44/JedecChecksum -/
def k2 : Class := { plain "com/example/mat44/mat44/JedecChecksum" (some 0) with
  accessFlags := 33
  interfaces := #[]
  cf := some (fileOf pool2 14 #[] #[{ accessFlags := 2, nameIndex := 5, descriptorIndex := 6, attributes := #[] }, { accessFlags := 9, nameIndex := 24, descriptorIndex := 25, attributes := #[] }] 33 2 #[] #[{ accessFlags := 25, nameIndex := 16, descriptorIndex := 17, attributes := #[] }, { accessFlags := 25, nameIndex := 20, descriptorIndex := 17, attributes := #[] }])
  fields := #[{ name := "STX", type := .byte, accessFlags := 25, slot := 0, constantValue := 0 }, { name := "ETX", type := .byte, accessFlags := 25, slot := 1, constantValue := 0 }]
  methods := #[k2m0, k2m1]
  instanceTypes := #[]
  staticTypes := #[.byte, .byte]
  resolved := Array.replicate 33 none
  statics := none }

def pool3 : Array CpInfo := pool [(1, u "java/lang/Cloneable"), (0, .class_ 1), (0, u "java/lang/Object"), (0, .class_ 3)] 3

/-- java/lang/Cloneable -/
def k3 : Class := { plain "java/lang/Cloneable" (some 0) with
  accessFlags := 1537
  interfaces := #[]
  cf := some (fileOf pool3 2 #[] #[] 1537 4 #[] #[])
  fields := #[]
  methods := #[]
  instanceTypes := #[]
  staticTypes := #[]
  resolved := Array.replicate 8 none
  statics := none }

def pool4 : Array CpInfo := pool [(1, u "java/io/Serializable"), (0, .class_ 1), (0, u "java/lang/Object"), (0, .class_ 3)] 3

/-- java/io/Serializable -/
def k4 : Class := { plain "java/io/Serializable" (some 0) with
  accessFlags := 1537
  interfaces := #[]
  cf := some (fileOf pool4 2 #[] #[] 1537 4 #[] #[])
  fields := #[]
  methods := #[]
  instanceTypes := #[]
  staticTypes := #[]
  resolved := Array.replicate 8 none
  statics := none }

/-- the primitive boolean -/
def k5 : Class := { plain "boolean" none with kind := .primitive 'Z', accessFlags := 0x411 }
/-- [Z -/
def k6 : Class := { plain "[Z" (some 0) with kind := .array 5 .boolean, interfaces := #[3, 4], accessFlags := 1041 }

/-- the primitive byte -/
def k7 : Class := { plain "byte" none with kind := .primitive 'B', accessFlags := 0x411 }
/-- [B -/
def k8 : Class := { plain "[B" (some 0) with kind := .array 7 .byte, interfaces := #[3, 4], accessFlags := 1041 }

/-- the primitive int -/
def k9 : Class := { plain "int" none with kind := .primitive 'I', accessFlags := 0x411 }
/-- [I -/
def k10 : Class := { plain "[I" (some 0) with kind := .array 9 .int, interfaces := #[3, 4], accessFlags := 1041 }

def heap : Heap := #[]
def classes : Array Class := #[k0, k1, k2, k3, k4, k5, k6, k7, k8, k9, k10]
def interned : List (Array UInt16 × Addr) := []
def slotsUsed : Nat := 0
def theMethod : MethodId := ⟨1, 1⟩
def args0 : Array Value := #[.int 5, .int 65]
def aboutOver (below : List Frame) : State where
  vm := { classes := classes, interned := interned.toArray }
  heap := heap
  slotsUsed := slotsUsed
  threads := #[{ frames := .invoking theMethod args0 :: below }]
def below0 : List Frame := [.native { method := ⟨0, 0⟩, args := #[] }]
def about1 : State := aboutOver below0
def p0 : Program := .bare "" "" ""
def e0 : Env := launch0.env 0 0 0
theorem w_frames : about1.frames = Frame.invoking theMethod args0 :: below0 := rfl
set_option maxRecDepth 65536 in
theorem w_args : argsFit about1.vm theMethod args0 = true := by decide +kernel
set_option maxRecDepth 65536 in
theorem w_heap : heapFits about1 = true := by decide +kernel
set_option maxRecDepth 65536 in
theorem w_runnable : about1.curStatus? = some .runnable := by decide +kernel
set_option maxRecDepth 65536 in
theorem w_alone : about1.alone = true := by decide +kernel
set_option maxRecDepth 65536 in
theorem w_named : about1.methodNamed? x = some theMethod := by decide +kernel
set_option maxRecDepth 65536 in
theorem w_hears : about1.hears theMethod below0 = true := by decide +kernel
set_option maxRecDepth 65536 in
theorem w_ripe : about1.ripe theMethod args0 below0 = true := by decide +kernel
theorem w_running : about1.status = .running := rfl
set_option maxRecDepth 65536 in
theorem w_room : about1.hasRoom e0.platform room_1 = true :=
  launch0.hasRoom_least _ room_1 (by decide +kernel) (by decide +kernel) (by decide +kernel) (by decide +kernel) (by decide +kernel) (by decide +kernel)
theorem allAtoms_all (ts : List Jvm.Cond) (a : Array Jvm.Value) (st : Jvm.State) : (allAtoms ts).before a st = ts.all (fun c => c.before a st) := by
  induction ts with
  | nil => rfl
  | cons c t ih =>
    show (Jvm.Cond.and c (allAtoms t)).before a st = _
    rw [Jvm.Cond.before_and, ih, List.all_cons]
def words1 : List Jvm.Cond := Jvm.Cond.code x code maxLocals ret :: tables_1
/-- a 'code' word, met by the world's own term for the bytes: nothing is compared byte by byte -/
theorem code_word {y : MethodName} {bytes : ByteArray} {mx : Nat} {rt : Option FieldType} {a : Array Value} {s : State} {m : MethodId} {meth : Method} {c : Code} (h1 : s.methodNamed? y = some m) (h2 : s.vm.method? m = some meth) (h3 : meth.code = some c) (h4 : c.code = bytes)
    (h5 : (c.maxLocals == mx && c.exceptionTable.isEmpty && decide (c.maxStack ≤ mostOperands) && decide (meth.sig.returnType = rt) && !meth.locks && decide (parseMethodDescriptor y.desc = some meth.sig)) = true) : (Jvm.Cond.code y bytes mx rt).before a s = true := by
  simp only [Bool.and_eq_true, beq_iff_eq, Bool.not_eq_true', decide_eq_true_eq] at h5
  obtain ⟨⟨⟨⟨⟨g1, g2⟩, g3⟩, g4⟩, g5⟩, g6⟩ := h5
  simp [Cond.before, Cond.holds, Cond.value, h1, h2, h3, h4, g1, g2, g3, g4, g5, g6]
def isCode : Jvm.Cond → Bool
  | .code _ _ _ _ => true
  | _ => false
theorem all_split {L : List Jvm.Cond} {P : Jvm.Cond → Bool} (h1 : L.all (fun c => isCode c || P c) = true) (h2 : ∀ c ∈ L.filter isCode, P c = true) : L.all P = true := by
  refine List.all_eq_true.mpr fun c hc => ?_
  have h := List.all_eq_true.mp h1 c hc
  rcases Bool.eq_false_or_eq_true (isCode c) with hi | hi
  · exact h2 c (List.mem_filter.mpr ⟨hc, hi⟩)
  · simpa [hi] using h
set_option maxRecDepth 65536 in
theorem w_c0 : (Jvm.Cond.code x code maxLocals ret).before args0 about1 = true := code_word (m := ⟨1, 1⟩) (meth := k1m1) (c := k1c1) (by decide +kernel) rfl rfl rfl (by decide +kernel)
set_option maxRecDepth 65536 in
theorem w_c1 : (Jvm.Cond.code ({ cls := "com/example/mat44/mat44/JedecChecksum", name := "fuses", desc := "([Z)I" } : Jvm.MethodName) prog_26_method_2_code (5 : Nat) (Option.some Jvm.ClassFile.FieldType.int)).before args0 about1 = true := code_word (m := ⟨2, 1⟩) (meth := k2m1) (c := k2c1) (by decide +kernel) rfl rfl rfl (by decide +kernel)
def codes1 : List Jvm.Cond := [Jvm.Cond.code x code maxLocals ret, Jvm.Cond.code ({ cls := "com/example/mat44/mat44/JedecChecksum", name := "fuses", desc := "([Z)I" } : Jvm.MethodName) prog_26_method_2_code (5 : Nat) (Option.some Jvm.ClassFile.FieldType.int)]
set_option maxRecDepth 65536 in
theorem codes_eq : words1.filter isCode = codes1 := rfl
theorem w_codes : ∀ c ∈ words1.filter isCode, c.before args0 about1 = true := by
  rw [codes_eq]
  intro c hc
  simp only [codes1, List.mem_cons, List.not_mem_nil, or_false] at hc
  rcases hc with rfl | rfl
  · exact w_c0
  · exact w_c1
set_option maxRecDepth 65536 in
theorem w_t1 : words1.all (fun c => isCode c || c.before args0 about1) = true := by decide +kernel
theorem w_tables : (allAtoms (Jvm.Cond.code x code maxLocals ret :: tables_1)).before args0 about1 = true := by
  rw [allAtoms_all]
  show words1.all (fun c => c.before args0 about1) = true
  refine all_split ?_ w_codes
  rw [w_t1]
set_option maxRecDepth 65536 in
theorem w_case : (Jvm.Cond.and given_1 narrow_1).before args0 about1 = true := by decide +kernel
theorem w_applies : (headSpec (Jvm.Cond.code x code maxLocals ret :: tables_1) room_1).applies x e0.platform about1 = true :=
  (Spec.applies_iff w_frames).mpr ⟨w_running, w_runnable, w_alone, w_named, w_hears, w_ripe, w_room, w_tables⟩
theorem atStart : AtStart classFile x code maxLocals ret World_1 tables_1 room_1 Calls_1 rest_1 Pre_1 launch0 p0 e0 about1 theMethod args0 below0 :=
  ⟨lists_1, trivial, launch0.admits_env _ _ _, launch0.least_env, fairChoices_fair.cas, fairChoices_fair.clock, w_frames, w_args, w_heap, w_applies, trivial, trivial, w_case⟩
end start1
theorem witness_1 : WitnessClaimed_1 := ⟨start1.p0, start1.e0, start1.about1, start1.theMethod, start1.args0, start1.below0, start1.atStart⟩
end Jvm.Pilot.@@N@@
